import JvmDerived
import JvmDerived.Pilot.@@N@@Statement
import JvmDerived.Pilot.@@N@@Code
set_option linter.unusedVariables false
set_option linter.unusedSimpArgs false
namespace Jvm.OwnWP
open Sem ClassFile Op Lib Jvm.Stand Jvm.Free Jvm.LawKit Jvm.RoadKit
/-- the fixed things of a body's walk -/
abbrev Cx := Program × Launch × Env × Room × State × MethodId × Array Value × List Frame × Method × Code × State × Nat × (Option Value → Heap → Prop) × (Outcome → State → List Loc → Prop)
def Cx.p (k : Cx) : Program := k.1
def Cx.l (k : Cx) : Launch := k.2.1
def Cx.e (k : Cx) : Env := k.2.2.1
def Cx.R (k : Cx) : Room := k.2.2.2.1
def Cx.s (k : Cx) : State := k.2.2.2.2.1
def Cx.m (k : Cx) : MethodId := k.2.2.2.2.2.1
def Cx.args (k : Cx) : Array Value := k.2.2.2.2.2.2.1
def Cx.below (k : Cx) : List Frame := k.2.2.2.2.2.2.2.1
def Cx.meth (k : Cx) : Method := k.2.2.2.2.2.2.2.2.1
def Cx.c (k : Cx) : Code := k.2.2.2.2.2.2.2.2.2.1
def Cx.Z (k : Cx) : State := k.2.2.2.2.2.2.2.2.2.2.1
def Cx.n0 (k : Cx) : Nat := k.2.2.2.2.2.2.2.2.2.2.2.1
def Cx.Q (k : Cx) : Option Value → Heap → Prop := k.2.2.2.2.2.2.2.2.2.2.2.2.1
/-- what the body's end must say of the frame -/
def Cx.Fin (k : Cx) : Outcome → State → List Loc → Prop := k.2.2.2.2.2.2.2.2.2.2.2.2.2
def Cx.St (k : Cx) (T : State) (locs : List Loc) (cells slots : Nat) : Prop := Stand k.p k.l k.e k.R k.s k.m k.args k.below k.meth k.c T locs cells slots
def Cx.Go (k : Cx) (a t : State) : Prop := Steps k.p.tables k.e k.below a t
def Cx.End (k : Cx) (a : State) : Prop := ∃ s₂ o, Steps k.p.tables k.e k.below a s₂ ∧ s₂.status = .running ∧ Ended s₂ k.below o ∧ ∃ v L, o = .returned v ∧ (k.Q v s₂.heap ∧ Fr k.n0 L) ∧ k.Fin o s₂ L
/-- from here the body runs to its end and leaves what Q says -/
def WP (k : Cx) (h : Heap) (cells slots pc : Nat) (ls : List Slot) (st : List Value) : Prop :=
  ∀ (T : State) (locs : List Loc), k.St T locs cells slots → T.heap = h → Fr k.n0 locs → k.End (T.setTop (mkF k.m pc ls.toArray st))
def Ok (k : Cx) (l : Launch) (Z : State) (n0 : Nat) (rm : Room) (bytes : ByteArray) (maxL : Nat) (y : MethodName) (ret : Option FieldType) (Q : Option Value → Heap → Prop) : Prop :=
  k.p.tables.exec = Jvm.exec ∧ Z.Warmed39 k.s.vm ∧ k.R = rm ∧ k.c.code = bytes ∧ k.c.maxLocals = maxL ∧ k.s.vm.findClass y.cls = some k.m.cls ∧ k.meth.sig.returnType = ret ∧ k.meth.locks = false ∧ k.meth.name = y.name ∧ k.l = l ∧ k.Z = Z ∧ k.n0 = n0 ∧ (∀ v h, Q v h → k.Q v h) ∧ ∀ v s₂ L, Q v s₂.heap → FrameEnd k.s (.returned v) s₂ L k.R.cells k.R.slots → k.Fin (.returned v) s₂ L
section Base
variable {k : Cx} {l : Launch} {Z : State} {n0 : Nat} {rm : Room} {bytes : ByteArray} {maxL : Nat} {y : MethodName} {ret : Option FieldType} {Q : Option Value → Heap → Prop}
theorem Ok.hx (K : Ok k l Z n0 rm bytes maxL y ret Q) : k.p.tables.exec = Jvm.exec := K.1
theorem Ok.hZ (K : Ok k l Z n0 rm bytes maxL y ret Q) : Z.Warmed39 k.s.vm := K.2.1
theorem Ok.hR (K : Ok k l Z n0 rm bytes maxL y ret Q) : k.R = rm := K.2.2.1
theorem Ok.hby (K : Ok k l Z n0 rm bytes maxL y ret Q) : k.c.code = bytes := K.2.2.2.1
theorem Ok.hml (K : Ok k l Z n0 rm bytes maxL y ret Q) : k.c.maxLocals = maxL := K.2.2.2.2.1
theorem Ok.hown (K : Ok k l Z n0 rm bytes maxL y ret Q) : k.s.vm.findClass y.cls = some k.m.cls := K.2.2.2.2.2.1
theorem Ok.hret (K : Ok k l Z n0 rm bytes maxL y ret Q) : k.meth.sig.returnType = ret := K.2.2.2.2.2.2.1
theorem Ok.hlk (K : Ok k l Z n0 rm bytes maxL y ret Q) : k.meth.locks = false := K.2.2.2.2.2.2.2.1
theorem Ok.hnm (K : Ok k l Z n0 rm bytes maxL y ret Q) : k.meth.name = y.name := K.2.2.2.2.2.2.2.2.1
theorem Ok.hl (K : Ok k l Z n0 rm bytes maxL y ret Q) : k.l = l := K.2.2.2.2.2.2.2.2.2.1
theorem Ok.hZe (K : Ok k l Z n0 rm bytes maxL y ret Q) : k.Z = Z := K.2.2.2.2.2.2.2.2.2.2.1
theorem Ok.hn0 (K : Ok k l Z n0 rm bytes maxL y ret Q) : k.n0 = n0 := K.2.2.2.2.2.2.2.2.2.2.2.1
theorem Ok.hQ (K : Ok k l Z n0 rm bytes maxL y ret Q) : ∀ v h, Q v h → k.Q v h := K.2.2.2.2.2.2.2.2.2.2.2.2.1
theorem Ok.hfin (K : Ok k l Z n0 rm bytes maxL y ret Q) : ∀ v s₂ L, Q v s₂.heap → FrameEnd k.s (.returned v) s₂ L k.R.cells k.R.slots → k.Fin (.returned v) s₂ L := K.2.2.2.2.2.2.2.2.2.2.2.2.2
theorem Ok.dec (K : Ok k l Z n0 rm bytes maxL y ret Q) {pc : Nat} {r : Except DecodeError (Instr × Nat)} (h : decode bytes pc = r) : decode k.c.code pc = r := hb K.hby h
theorem End.back {a b : State} (st : ∀ t, k.Go b t → k.Go a t) (w : k.End b) : k.End a := by
  obtain ⟨s2, o, h1, r⟩ := w
  exact ⟨s2, o, st _ h1, r⟩
theorem arrGet {ls : List Slot} {i : Nat} {o : Slot} (h : ls[i]? = some o) : ls.toArray[i]? = some o := by simpa using h
variable {h : Heap} {cells slots pc : Nat} {ls : List Slot} {st : List Value}
theorem WP.plain {pc' : Nat} {ls' : List Slot} {st' : List Value} (hs : ∀ T, At T k.m k.c k.below → ∀ t, Steps k.p.tables k.e k.below (T.setTop (mkF k.m pc' ls'.toArray st')) t → Steps k.p.tables k.e k.below (T.setTop (mkF k.m pc ls.toArray st)) t)
    (w : WP k h cells slots pc' ls' st') : WP k h cells slots pc ls st := fun T locs X e N => End.back (fun t q => hs T X.here t q) (w T locs X e N)
theorem WP.mono {cells' slots' : Nat} (hc : cells ≤ cells') (hs : slots ≤ slots') (w : WP k h cells' slots' pc ls st) : WP k h cells slots pc ls st := fun T locs X e N =>
  w T locs { X with same := X.same.mono hc hs } e N
theorem WP.cast {pc' : Nat} {ls' : List Slot} {st' : List Value} {h' : Heap} (w : WP k h' cells slots pc' ls' st') (e1 : h' = h) (e2 : pc' = pc) (e3 : ls' = ls) (e4 : st' = st) : WP k h cells slots pc ls st := by subst e1 e2 e3 e4; exact w
/-- the contract of a body, at given arguments and a given heap -/
def Con (l : Launch) (Z : State) (y : MethodName) (bytes : ByteArray) (maxL : Nat) (ret : Option FieldType) (rm : Room) (n0 : Nat) (as : Array Value) (h0 : Heap) (Q : Option Value → Heap → Prop) : Prop :=
  ∀ ws, MetFree l y (head1 (Jvm.Cond.code y bytes maxL ret :: ws) rm) (fun a U => a = as ∧ Z.Warmed39 U.vm ∧ U.heap = h0) (fun _ _ _ _ _ => True) (fun _ U o U' => ∃ v L, o = .returned v ∧ (Q v U'.heap ∧ Fr n0 L) ∧ FrameEnd U o U' L rm.cells rm.slots)
def R1 (Q : Value → Heap → Prop) : Option Value → Heap → Prop := fun v h => ∃ r, v = some r ∧ Q r h
def R0 (Q : Heap → Prop) : Option Value → Heap → Prop := fun v h => v = none ∧ Q h
theorem Con.of {as : Array Value} {h0 : Heap} (hp : plainFor y = true) (he : ∀ m, entryFrame m as maxL = mkF m 0 ls.toArray [])
    (hwp : ∀ k, Ok k l Z n0 rm bytes maxL y ret Q → WP k h0 0 0 0 ls []) : Con l Z y bytes maxL ret rm n0 as h0 Q := by
  intro ws
  refine MetFree.of_bodySF hp hisR ?_
  intro p e s m args below meth c s₁ Bd hml0 hP hK
  obtain ⟨rfl, hZ, hh⟩ := hP
  have X0 : Stand p l e rm s m args below meth c s₁ [] 0 0 := Stand.of_body Bd
  have e0 : s₁.heap = h0 := by rw [← hh, Bd.state]; rfl
  have w := hwp (p, l, e, rm, s, m, args, below, meth, c, Z, n0, Q, fun o s₂ L => FrameEnd s o s₂ L rm.cells rm.slots) ⟨Bd.exec, hZ, rfl, Bd.bytes, hml0, findClass_of_methodNamed Bd.named, Bd.returns, Bd.notSynchronized, (name_of_methodNamed Bd.named Bd.method).1, rfl, rfl, rfl, fun _ _ q => q, fun _ _ _ _ q => q⟩ s₁ [] X0 e0 (Fr.nil n0)
  obtain ⟨s2, o, h1, h2, h3, h4⟩ := w
  exact ⟨s2, o, castTop (he m) h1, h2, h3, h4⟩
theorem Con.mono {as : Array Value} {h0 : Heap} {Q' : Option Value → Heap → Prop} (C : Con l Z y bytes maxL ret rm n0 as h0 Q) (hq : ∀ v h, Q v h → Q' v h) : Con l Z y bytes maxL ret rm n0 as h0 Q' := by
  intro ws p e ha hc hk s m args below hf happ hP hK
  obtain ⟨n, o, h1, h2, h3, v, L, e1, q, r⟩ := C ws p e ha hc hk s m args below hf happ hP hK
  exact ⟨n, o, h1, h2, h3, v, L, e1, ⟨hq _ _ q.1, q.2⟩, r⟩
end Base
section Plain
variable {k : Cx} {l : Launch} {Z : State} {n0 : Nat} {rm : Room} {bytes : ByteArray} {maxL : Nat} {y : MethodName} {ret : Option FieldType} {Q : Option Value → Heap → Prop} {h : Heap} {cells slots pc : Nat} {ls : List Slot} {st : List Value}

theorem WP.iload (K : Ok k l Z n0 rm bytes maxL y ret Q) {i : Nat} {v : Int32} (pc' : Nat) (hd : decode bytes pc = .ok (.iload i, 2)) (hp : pc + 2 = pc') (hl : ls[i]? = some (.val (.int v))) (w : WP k h cells slots pc' ls (.int v :: st)) : WP k h cells slots pc ls st := by
  subst hp; exact w.plain fun T A t q => XS.iload A K.hx rfl (K.dec hd) (arrGet hl) q
theorem WP.iloadN (K : Ok k l Z n0 rm bytes maxL y ret Q) {i : Fin 4} {v : Int32} (pc' : Nat) (hd : decode bytes pc = .ok (.iload_n i, 1)) (hp : pc + 1 = pc') (hl : ls[i.val]? = some (.val (.int v))) (w : WP k h cells slots pc' ls (.int v :: st)) : WP k h cells slots pc ls st := by
  subst hp; exact w.plain fun T A t q => XS.iloadN A K.hx rfl (K.dec hd) (arrGet hl) q
theorem WP.lload (K : Ok k l Z n0 rm bytes maxL y ret Q) {i : Nat} {v : Int64} (pc' : Nat) (hd : decode bytes pc = .ok (.lload i, 2)) (hp : pc + 2 = pc') (hl : ls[i]? = some (.val (.long v))) (w : WP k h cells slots pc' ls (.long v :: st)) : WP k h cells slots pc ls st := by
  subst hp; exact w.plain fun T A t q => XT.lload A K.hx rfl (K.dec hd) (arrGet hl) q
theorem WP.lloadN (K : Ok k l Z n0 rm bytes maxL y ret Q) {i : Fin 4} {v : Int64} (pc' : Nat) (hd : decode bytes pc = .ok (.lload_n i, 1)) (hp : pc + 1 = pc') (hl : ls[i.val]? = some (.val (.long v))) (w : WP k h cells slots pc' ls (.long v :: st)) : WP k h cells slots pc ls st := by
  subst hp; exact w.plain fun T A t q => XT.lloadN A K.hx rfl (K.dec hd) (arrGet hl) q
theorem WP.aload (K : Ok k l Z n0 rm bytes maxL y ret Q) {i : Nat} {v : Value} (pc' : Nat) (hd : decode bytes pc = .ok (.aload i, 2)) (hp : pc + 2 = pc') (hl : ls[i]? = some (.val (v))) (hv : v.isRef = true) (w : WP k h cells slots pc' ls (v :: st)) : WP k h cells slots pc ls st := by
  subst hp; exact w.plain fun T A t q => XS.aload A K.hx rfl (K.dec hd) (arrGet hl) hv q
theorem WP.aloadN (K : Ok k l Z n0 rm bytes maxL y ret Q) {i : Fin 4} {v : Value} (pc' : Nat) (hd : decode bytes pc = .ok (.aload_n i, 1)) (hp : pc + 1 = pc') (hl : ls[i.val]? = some (.val (v))) (hv : v.isRef = true) (w : WP k h cells slots pc' ls (v :: st)) : WP k h cells slots pc ls st := by
  subst hp; exact w.plain fun T A t q => XS.aloadN A K.hx rfl (K.dec hd) (arrGet hl) hv q
theorem WP.istore (K : Ok k l Z n0 rm bytes maxL y ret Q) {i : Nat} {v : Int32} (pc' : Nat) (ls' : List Slot) (hd : decode bytes pc = .ok (.istore i, 2)) (hp : pc + 2 = pc') (hl : storeLocals ls.toArray i (.int v) = some ls'.toArray) (w : WP k h cells slots pc' ls' st) : WP k h cells slots pc ls (.int v :: st) := by
  subst hp; exact w.plain fun T A t q => XS.istore A K.hx rfl (K.dec hd) rfl hl q
theorem WP.istoreN (K : Ok k l Z n0 rm bytes maxL y ret Q) {i : Fin 4} {v : Int32} (pc' : Nat) (ls' : List Slot) (hd : decode bytes pc = .ok (.istore_n i, 1)) (hp : pc + 1 = pc') (hl : storeLocals ls.toArray i.val (.int v) = some ls'.toArray) (w : WP k h cells slots pc' ls' st) : WP k h cells slots pc ls (.int v :: st) := by
  subst hp; exact w.plain fun T A t q => XS.istoreN A K.hx rfl (K.dec hd) rfl hl q
theorem WP.lstore (K : Ok k l Z n0 rm bytes maxL y ret Q) {i : Nat} {v : Int64} (pc' : Nat) (ls' : List Slot) (hd : decode bytes pc = .ok (.lstore i, 2)) (hp : pc + 2 = pc') (hl : storeLocals ls.toArray i (.long v) = some ls'.toArray) (w : WP k h cells slots pc' ls' st) : WP k h cells slots pc ls (.long v :: st) := by
  subst hp; exact w.plain fun T A t q => XT.lstore A K.hx rfl (K.dec hd) rfl hl q
theorem WP.lstoreN (K : Ok k l Z n0 rm bytes maxL y ret Q) {i : Fin 4} {v : Int64} (pc' : Nat) (ls' : List Slot) (hd : decode bytes pc = .ok (.lstore_n i, 1)) (hp : pc + 1 = pc') (hl : storeLocals ls.toArray i.val (.long v) = some ls'.toArray) (w : WP k h cells slots pc' ls' st) : WP k h cells slots pc ls (.long v :: st) := by
  subst hp; exact w.plain fun T A t q => XT.lstoreN A K.hx rfl (K.dec hd) rfl hl q
theorem WP.astore (K : Ok k l Z n0 rm bytes maxL y ret Q) {i : Nat} {v : Value} (pc' : Nat) (ls' : List Slot) (hd : decode bytes pc = .ok (.astore i, 2)) (hp : pc + 2 = pc') (hv : v.isRef = true) (hl : storeLocals ls.toArray i (v) = some ls'.toArray) (w : WP k h cells slots pc' ls' st) : WP k h cells slots pc ls (v :: st) := by
  subst hp; exact w.plain fun T A t q => XS.astore A K.hx rfl (K.dec hd) rfl hv hl q
theorem WP.astoreN (K : Ok k l Z n0 rm bytes maxL y ret Q) {i : Fin 4} {v : Value} (pc' : Nat) (ls' : List Slot) (hd : decode bytes pc = .ok (.astore_n i, 1)) (hp : pc + 1 = pc') (hv : v.isRef = true) (hl : storeLocals ls.toArray i.val (v) = some ls'.toArray) (w : WP k h cells slots pc' ls' st) : WP k h cells slots pc ls (v :: st) := by
  subst hp; exact w.plain fun T A t q => XS.astoreN A K.hx rfl (K.dec hd) rfl hv hl q
theorem WP.iconst (K : Ok k l Z n0 rm bytes maxL y ret Q) {i : Int} (v : Int32) (pc' : Nat) (hd : decode bytes pc = .ok (.iconst i, 1)) (hp : pc + 1 = pc') (hv : Int32.ofInt i = v) (w : WP k h cells slots pc' ls (.int v :: st)) : WP k h cells slots pc ls st := by
  subst hp; exact w.plain fun T A t q => XT.iconstV A K.hx rfl v (K.dec hd) hv q
theorem WP.bipush (K : Ok k l Z n0 rm bytes maxL y ret Q) {i : Int} (v : Int32) (pc' : Nat) (hd : decode bytes pc = .ok (.bipush i, 2)) (hp : pc + 2 = pc') (hv : (Int8.ofInt i).toInt32 = v) (w : WP k h cells slots pc' ls (.int v :: st)) : WP k h cells slots pc ls st := by
  subst hp; exact w.plain fun T A t q => XT.bipushV A K.hx rfl v (K.dec hd) hv q
theorem WP.sipush (K : Ok k l Z n0 rm bytes maxL y ret Q) {i : Int} (v : Int32) (pc' : Nat) (hd : decode bytes pc = .ok (.sipush i, 3)) (hp : pc + 3 = pc') (hv : (Int16.ofInt i).toInt32 = v) (w : WP k h cells slots pc' ls (.int v :: st)) : WP k h cells slots pc ls st := by
  subst hp; exact w.plain fun T A t q => XT.sipushV A K.hx rfl v (K.dec hd) hv q
theorem WP.lconst (K : Ok k l Z n0 rm bytes maxL y ret Q) {i : Fin 2} (v : Int64) (pc' : Nat) (hd : decode bytes pc = .ok (.lconst i, 1)) (hp : pc + 1 = pc') (hv : Int64.ofNat i = v) (w : WP k h cells slots pc' ls (.long v :: st)) : WP k h cells slots pc ls st := by
  subst hp; exact w.plain fun T A t q => XT.lconstV A K.hx rfl v (K.dec hd) hv q
theorem WP.aconstNull (K : Ok k l Z n0 rm bytes maxL y ret Q) (pc' : Nat) (hd : decode bytes pc = .ok (.aconst_null, 1)) (hp : pc + 1 = pc') (w : WP k h cells slots pc' ls (.null :: st)) : WP k h cells slots pc ls st := by
  subst hp; exact w.plain fun T A t q => XS.aconstNull A K.hx rfl (K.dec hd) q
theorem WP.iadd (K : Ok k l Z n0 rm bytes maxL y ret Q) {x : Int32} {z : Int32} (pc' : Nat) (hd : decode bytes pc = .ok (.iadd, 1)) (hp : pc + 1 = pc') (w : WP k h cells slots pc' ls (.int (x + z) :: st)) : WP k h cells slots pc ls (.int z :: .int x :: st) := by
  subst hp; exact w.plain fun T A t q => XS.iadd A K.hx rfl (K.dec hd) rfl q
theorem WP.isub (K : Ok k l Z n0 rm bytes maxL y ret Q) {x : Int32} {z : Int32} (pc' : Nat) (hd : decode bytes pc = .ok (.isub, 1)) (hp : pc + 1 = pc') (w : WP k h cells slots pc' ls (.int (x - z) :: st)) : WP k h cells slots pc ls (.int z :: .int x :: st) := by
  subst hp; exact w.plain fun T A t q => XS.isub A K.hx rfl (K.dec hd) rfl q
theorem WP.imul (K : Ok k l Z n0 rm bytes maxL y ret Q) {x : Int32} {z : Int32} (pc' : Nat) (hd : decode bytes pc = .ok (.imul, 1)) (hp : pc + 1 = pc') (w : WP k h cells slots pc' ls (.int (x * z) :: st)) : WP k h cells slots pc ls (.int z :: .int x :: st) := by
  subst hp; exact w.plain fun T A t q => XS.imul A K.hx rfl (K.dec hd) rfl q
theorem WP.iand (K : Ok k l Z n0 rm bytes maxL y ret Q) {x : Int32} {z : Int32} (pc' : Nat) (hd : decode bytes pc = .ok (.iand, 1)) (hp : pc + 1 = pc') (w : WP k h cells slots pc' ls (.int (x &&& z) :: st)) : WP k h cells slots pc ls (.int z :: .int x :: st) := by
  subst hp; exact w.plain fun T A t q => XS.iand A K.hx rfl (K.dec hd) rfl q
theorem WP.ior (K : Ok k l Z n0 rm bytes maxL y ret Q) {x : Int32} {z : Int32} (pc' : Nat) (hd : decode bytes pc = .ok (.ior, 1)) (hp : pc + 1 = pc') (w : WP k h cells slots pc' ls (.int (x ||| z) :: st)) : WP k h cells slots pc ls (.int z :: .int x :: st) := by
  subst hp; exact w.plain fun T A t q => XT.ior A K.hx rfl (K.dec hd) rfl q
theorem WP.ixor (K : Ok k l Z n0 rm bytes maxL y ret Q) {x : Int32} {z : Int32} (pc' : Nat) (hd : decode bytes pc = .ok (.ixor, 1)) (hp : pc + 1 = pc') (w : WP k h cells slots pc' ls (.int (x ^^^ z) :: st)) : WP k h cells slots pc ls (.int z :: .int x :: st) := by
  subst hp; exact w.plain fun T A t q => XT.ixor A K.hx rfl (K.dec hd) rfl q
theorem WP.ishl (K : Ok k l Z n0 rm bytes maxL y ret Q) {x : Int32} {z : Int32} (pc' : Nat) (hd : decode bytes pc = .ok (.ishl, 1)) (hp : pc + 1 = pc') (w : WP k h cells slots pc' ls (.int (x <<< (z &&& 31)) :: st)) : WP k h cells slots pc ls (.int z :: .int x :: st) := by
  subst hp; exact w.plain fun T A t q => XT.ishl A K.hx rfl (K.dec hd) rfl q
theorem WP.ishr (K : Ok k l Z n0 rm bytes maxL y ret Q) {x : Int32} {z : Int32} (pc' : Nat) (hd : decode bytes pc = .ok (.ishr, 1)) (hp : pc + 1 = pc') (w : WP k h cells slots pc' ls (.int (x >>> (z &&& 31)) :: st)) : WP k h cells slots pc ls (.int z :: .int x :: st) := by
  subst hp; exact w.plain fun T A t q => XT.ishr A K.hx rfl (K.dec hd) rfl q
theorem WP.iushr (K : Ok k l Z n0 rm bytes maxL y ret Q) {x : Int32} {z : Int32} (pc' : Nat) (hd : decode bytes pc = .ok (.iushr, 1)) (hp : pc + 1 = pc') (w : WP k h cells slots pc' ls (.int (XT.ushr x z) :: st)) : WP k h cells slots pc ls (.int z :: .int x :: st) := by
  subst hp; exact w.plain fun T A t q => XT.iushr A K.hx rfl (K.dec hd) rfl q
theorem WP.ladd (K : Ok k l Z n0 rm bytes maxL y ret Q) {x : Int64} {z : Int64} (pc' : Nat) (hd : decode bytes pc = .ok (.ladd, 1)) (hp : pc + 1 = pc') (w : WP k h cells slots pc' ls (.long (x + z) :: st)) : WP k h cells slots pc ls (.long z :: .long x :: st) := by
  subst hp; exact w.plain fun T A t q => XT.ladd A K.hx rfl (K.dec hd) rfl q
theorem WP.lsub (K : Ok k l Z n0 rm bytes maxL y ret Q) {x : Int64} {z : Int64} (pc' : Nat) (hd : decode bytes pc = .ok (.lsub, 1)) (hp : pc + 1 = pc') (w : WP k h cells slots pc' ls (.long (x - z) :: st)) : WP k h cells slots pc ls (.long z :: .long x :: st) := by
  subst hp; exact w.plain fun T A t q => XT.lsub A K.hx rfl (K.dec hd) rfl q
theorem WP.lmul (K : Ok k l Z n0 rm bytes maxL y ret Q) {x : Int64} {z : Int64} (pc' : Nat) (hd : decode bytes pc = .ok (.lmul, 1)) (hp : pc + 1 = pc') (w : WP k h cells slots pc' ls (.long (x * z) :: st)) : WP k h cells slots pc ls (.long z :: .long x :: st) := by
  subst hp; exact w.plain fun T A t q => XT.lmul A K.hx rfl (K.dec hd) rfl q
theorem WP.land (K : Ok k l Z n0 rm bytes maxL y ret Q) {x : Int64} {z : Int64} (pc' : Nat) (hd : decode bytes pc = .ok (.land, 1)) (hp : pc + 1 = pc') (w : WP k h cells slots pc' ls (.long (x &&& z) :: st)) : WP k h cells slots pc ls (.long z :: .long x :: st) := by
  subst hp; exact w.plain fun T A t q => XT.land A K.hx rfl (K.dec hd) rfl q
theorem WP.lor (K : Ok k l Z n0 rm bytes maxL y ret Q) {x : Int64} {z : Int64} (pc' : Nat) (hd : decode bytes pc = .ok (.lor, 1)) (hp : pc + 1 = pc') (w : WP k h cells slots pc' ls (.long (x ||| z) :: st)) : WP k h cells slots pc ls (.long z :: .long x :: st) := by
  subst hp; exact w.plain fun T A t q => XT.lor A K.hx rfl (K.dec hd) rfl q
theorem WP.lxor (K : Ok k l Z n0 rm bytes maxL y ret Q) {x : Int64} {z : Int64} (pc' : Nat) (hd : decode bytes pc = .ok (.lxor, 1)) (hp : pc + 1 = pc') (w : WP k h cells slots pc' ls (.long (x ^^^ z) :: st)) : WP k h cells slots pc ls (.long z :: .long x :: st) := by
  subst hp; exact w.plain fun T A t q => XT.lxor A K.hx rfl (K.dec hd) rfl q
theorem WP.lshl (K : Ok k l Z n0 rm bytes maxL y ret Q) {x : Int64} {z : Int32} (pc' : Nat) (hd : decode bytes pc = .ok (.lshl, 1)) (hp : pc + 1 = pc') (w : WP k h cells slots pc' ls (.long (x <<< (z.toInt64 &&& 63)) :: st)) : WP k h cells slots pc ls (.int z :: .long x :: st) := by
  subst hp; exact w.plain fun T A t q => XT.lshl A K.hx rfl (K.dec hd) rfl q
theorem WP.lshr (K : Ok k l Z n0 rm bytes maxL y ret Q) {x : Int64} {z : Int32} (pc' : Nat) (hd : decode bytes pc = .ok (.lshr, 1)) (hp : pc + 1 = pc') (w : WP k h cells slots pc' ls (.long (x >>> (z.toInt64 &&& 63)) :: st)) : WP k h cells slots pc ls (.int z :: .long x :: st) := by
  subst hp; exact w.plain fun T A t q => XT.lshr A K.hx rfl (K.dec hd) rfl q
theorem WP.lushr (K : Ok k l Z n0 rm bytes maxL y ret Q) {x : Int64} {z : Int32} (pc' : Nat) (hd : decode bytes pc = .ok (.lushr, 1)) (hp : pc + 1 = pc') (w : WP k h cells slots pc' ls (.long (XT.ushrL x z) :: st)) : WP k h cells slots pc ls (.int z :: .long x :: st) := by
  subst hp; exact w.plain fun T A t q => XT.lushr A K.hx rfl (K.dec hd) rfl q
theorem WP.lcmp (K : Ok k l Z n0 rm bytes maxL y ret Q) {x : Int64} {z : Int64} (pc' : Nat) (hd : decode bytes pc = .ok (.lcmp, 1)) (hp : pc + 1 = pc') (w : WP k h cells slots pc' ls (.int (XT.cmpL x z) :: st)) : WP k h cells slots pc ls (.long z :: .long x :: st) := by
  subst hp; exact w.plain fun T A t q => XT.lcmp A K.hx rfl (K.dec hd) rfl q
theorem WP.idiv (K : Ok k l Z n0 rm bytes maxL y ret Q) {x z : Int32} (pc' : Nat) (hd : decode bytes pc = .ok (.idiv, 1)) (hp : pc + 1 = pc') (hz : z ≠ 0) (w : WP k h cells slots pc' ls (.int (x / z) :: st)) : WP k h cells slots pc ls (.int z :: .int x :: st) := by
  subst hp; exact w.plain fun T A t q => XS.idiv A K.hx rfl (K.dec hd) rfl hz q
theorem WP.irem (K : Ok k l Z n0 rm bytes maxL y ret Q) {x z : Int32} (pc' : Nat) (hd : decode bytes pc = .ok (.irem, 1)) (hp : pc + 1 = pc') (hz : z ≠ 0) (w : WP k h cells slots pc' ls (.int (x % z) :: st)) : WP k h cells slots pc ls (.int z :: .int x :: st) := by
  subst hp; rw [← irem_eq_mod] at w; exact w.plain fun T A t q => XS.irem A K.hx rfl (K.dec hd) rfl hz q
theorem WP.ineg (K : Ok k l Z n0 rm bytes maxL y ret Q) {x : Int32} (pc' : Nat) (hd : decode bytes pc = .ok (.ineg, 1)) (hp : pc + 1 = pc') (w : WP k h cells slots pc' ls (.int (-x) :: st)) : WP k h cells slots pc ls (.int x :: st) := by
  subst hp; exact w.plain fun T A t q => XS.ineg A K.hx rfl (K.dec hd) rfl q
theorem WP.lneg (K : Ok k l Z n0 rm bytes maxL y ret Q) {x : Int64} (pc' : Nat) (hd : decode bytes pc = .ok (.lneg, 1)) (hp : pc + 1 = pc') (w : WP k h cells slots pc' ls (.long (-x) :: st)) : WP k h cells slots pc ls (.long x :: st) := by
  subst hp; exact w.plain fun T A t q => XT.lneg A K.hx rfl (K.dec hd) rfl q
theorem WP.i2l (K : Ok k l Z n0 rm bytes maxL y ret Q) {x : Int32} (pc' : Nat) (hd : decode bytes pc = .ok (.i2l, 1)) (hp : pc + 1 = pc') (w : WP k h cells slots pc' ls (.long x.toInt64 :: st)) : WP k h cells slots pc ls (.int x :: st) := by
  subst hp; exact w.plain fun T A t q => XT.i2l A K.hx rfl (K.dec hd) rfl q
theorem WP.l2i (K : Ok k l Z n0 rm bytes maxL y ret Q) {x : Int64} (pc' : Nat) (hd : decode bytes pc = .ok (.l2i, 1)) (hp : pc + 1 = pc') (w : WP k h cells slots pc' ls (.int x.toInt32 :: st)) : WP k h cells slots pc ls (.long x :: st) := by
  subst hp; exact w.plain fun T A t q => XT.l2i A K.hx rfl (K.dec hd) rfl q
theorem WP.i2b (K : Ok k l Z n0 rm bytes maxL y ret Q) {x : Int32} (pc' : Nat) (hd : decode bytes pc = .ok (.i2b, 1)) (hp : pc + 1 = pc') (w : WP k h cells slots pc' ls (.int x.toInt8.toInt32 :: st)) : WP k h cells slots pc ls (.int x :: st) := by
  subst hp; exact w.plain fun T A t q => XT.i2b A K.hx rfl (K.dec hd) rfl q
theorem WP.i2c (K : Ok k l Z n0 rm bytes maxL y ret Q) {x : Int32} (pc' : Nat) (hd : decode bytes pc = .ok (.i2c, 1)) (hp : pc + 1 = pc') (w : WP k h cells slots pc' ls (.int x.toUInt32.toUInt16.toUInt32.toInt32 :: st)) : WP k h cells slots pc ls (.int x :: st) := by
  subst hp; exact w.plain fun T A t q => XT.i2c A K.hx rfl (K.dec hd) rfl q
theorem WP.i2s (K : Ok k l Z n0 rm bytes maxL y ret Q) {x : Int32} (pc' : Nat) (hd : decode bytes pc = .ok (.i2s, 1)) (hp : pc + 1 = pc') (w : WP k h cells slots pc' ls (.int x.toInt16.toInt32 :: st)) : WP k h cells slots pc ls (.int x :: st) := by
  subst hp; exact w.plain fun T A t q => XT.i2s A K.hx rfl (K.dec hd) rfl q
theorem WP.dup (K : Ok k l Z n0 rm bytes maxL y ret Q) {x : Value} (pc' : Nat) (hd : decode bytes pc = .ok (.dup, 1)) (hp : pc + 1 = pc') (hc : x.category = 1) (w : WP k h cells slots pc' ls (x :: x :: st)) : WP k h cells slots pc ls (x :: st) := by
  subst hp; exact w.plain fun T A t q => XS.dup A K.hx rfl (K.dec hd) rfl hc q
theorem WP.pop (K : Ok k l Z n0 rm bytes maxL y ret Q) {x : Value} (pc' : Nat) (hd : decode bytes pc = .ok (.pop, 1)) (hp : pc + 1 = pc') (hc : x.category = 1) (w : WP k h cells slots pc' ls st) : WP k h cells slots pc ls (x :: st) := by
  subst hp; exact w.plain fun T A t q => XT.pop A K.hx rfl (K.dec hd) rfl hc q
theorem WP.dupX1 (K : Ok k l Z n0 rm bytes maxL y ret Q) {x z : Value} (pc' : Nat) (hd : decode bytes pc = .ok (.dup_x1, 1)) (hp : pc + 1 = pc') (hc : x.category = 1) (hc' : z.category = 1) (w : WP k h cells slots pc' ls (x :: z :: x :: st)) : WP k h cells slots pc ls (x :: z :: st) := by
  subst hp; exact w.plain fun T A t q => XT.dupX1 A K.hx rfl (K.dec hd) rfl hc hc' q
theorem WP.dup2 (K : Ok k l Z n0 rm bytes maxL y ret Q) {x z : Value} (pc' : Nat) (hd : decode bytes pc = .ok (.dup2, 1)) (hp : pc + 1 = pc') (hc : x.category = 1) (hc' : z.category = 1) (w : WP k h cells slots pc' ls (x :: z :: x :: z :: st)) : WP k h cells slots pc ls (x :: z :: st) := by
  subst hp; exact w.plain fun T A t q => XT.dup2 A K.hx rfl (K.dec hd) rfl hc hc' q
theorem WP.dup2L (K : Ok k l Z n0 rm bytes maxL y ret Q) {x : Int64} (pc' : Nat) (hd : decode bytes pc = .ok (.dup2, 1)) (hp : pc + 1 = pc') (w : WP k h cells slots pc' ls (.long x :: .long x :: st)) : WP k h cells slots pc ls (.long x :: st) := by
  subst hp; exact w.plain fun T A t q => XT.dup2L A K.hx rfl (K.dec hd) rfl q
theorem WP.iinc (K : Ok k l Z n0 rm bytes maxL y ret Q) {i : Nat} {cst : Int} {x : Int32} (v : Int32) (pc' : Nat) (ls' : List Slot) (hd : decode bytes pc = .ok (.iinc i cst, 3)) (hp : pc + 3 = pc') (hv : Int32.ofInt cst = v) (hl : ls[i]? = some (.val (.int x))) (hl' : storeLocals ls.toArray i (.int (x + v)) = some ls'.toArray) (w : WP k h cells slots pc' ls' st) : WP k h cells slots pc ls st := by
  subst hp; exact w.plain fun T A t q => XT.iincV A K.hx rfl v (K.dec hd) hv (arrGet hl) hl' q
theorem WP.goto (K : Ok k l Z n0 rm bytes maxL y ret Q) {o : Int} (pc' : Nat) (hd : decode bytes pc = .ok (.goto o, 3)) (hp : (pc : Int) + o = pc') (w : WP k h cells slots pc' ls st) : WP k h cells slots pc ls st :=
  w.plain fun T A t q => XS.goto A K.hx rfl (pc0 := pc) (pc' := pc') rfl (K.dec hd) (by omega) (by omega) q
theorem WP.icmp (K : Ok k l Z n0 rm bytes maxL y ret Q) {cd : ClassFile.Cond} {o : Int} {x z : Int32} (tp fp : Nat) (hd : decode bytes pc = .ok (.if_icmp cd o, 3)) (ht : (pc : Int) + o = tp) (hf : pc + 3 = fp)
    (wt : if_icmp.holds cd x z = true → WP k h cells slots tp ls st) (wf : if_icmp.holds cd x z = false → WP k h cells slots fp ls st) : WP k h cells slots pc ls (.int z :: .int x :: st) := by
  subst hf
  cases hh : if_icmp.holds cd x z
  · exact (wf hh).plain fun T A t q => XS.icmpNo A K.hx rfl (K.dec hd) rfl hh q
  · exact (wt hh).plain fun T A t q => XS.icmpYes A K.hx rfl (pc0 := pc) (pc' := tp) rfl (K.dec hd) rfl hh (by omega) (by omega) q
theorem WP.if0 (K : Ok k l Z n0 rm bytes maxL y ret Q) {cd : ClassFile.Cond} {o : Int} {x : Int32} (tp fp : Nat) (hd : decode bytes pc = .ok (.ifCond cd o, 3)) (ht : (pc : Int) + o = tp) (hf : pc + 3 = fp)
    (wt : ifCond.holds cd x = true → WP k h cells slots tp ls st) (wf : ifCond.holds cd x = false → WP k h cells slots fp ls st) : WP k h cells slots pc ls (.int x :: st) := by
  subst hf
  cases hh : ifCond.holds cd x
  · exact (wf hh).plain fun T A t q => XS.ifNo A K.hx rfl (K.dec hd) rfl hh q
  · exact (wt hh).plain fun T A t q => XS.ifYes A K.hx rfl (pc0 := pc) (pc' := tp) rfl (K.dec hd) rfl hh (by omega) (by omega) q
theorem h_lt {x z : Int32} : if_icmp.holds .lt x z = decide (x.toInt < z.toInt) := by simp [if_icmp.holds, Int32.lt_iff_toInt_lt]
theorem h_ge {x z : Int32} : if_icmp.holds .ge x z = decide (z.toInt ≤ x.toInt) := by simp [if_icmp.holds, Int32.le_iff_toInt_le]
theorem h_gt {x z : Int32} : if_icmp.holds .gt x z = decide (z.toInt < x.toInt) := by simp [if_icmp.holds, Int32.lt_iff_toInt_lt]
theorem h_le {x z : Int32} : if_icmp.holds .le x z = decide (x.toInt ≤ z.toInt) := by simp [if_icmp.holds, Int32.le_iff_toInt_le]
theorem h_eq {x z : Int32} : if_icmp.holds .eq x z = decide (x.toInt = z.toInt) := by
  rw [Bool.eq_iff_iff, decide_eq_true_iff, Int32.toInt_inj]; simp [if_icmp.holds]
theorem h_ne {x z : Int32} : if_icmp.holds .ne x z = decide (x.toInt ≠ z.toInt) := by
  by_cases q : x = z <;> simp [if_icmp.holds, Int32.toInt_inj, q]
theorem WP.icmp_lt (K : Ok k l Z n0 rm bytes maxL y ret Q) {o : Int} {x z : Int32} (tp fp : Nat) (hd : decode bytes pc = .ok (.if_icmp .lt o, 3)) (ht : (pc : Int) + o = tp) (hf : pc + 3 = fp)
    (wt : x.toInt < z.toInt → WP k h cells slots tp ls st) (wf : z.toInt ≤ x.toInt → WP k h cells slots fp ls st) : WP k h cells slots pc ls (.int z :: .int x :: st) :=
  WP.icmp K tp fp hd ht hf (fun q => wt (by rw [h_lt] at q; exact of_decide_eq_true q)) (fun q => wf (by rw [h_lt] at q; have q := of_decide_eq_false q; omega))
theorem WP.if_lt (K : Ok k l Z n0 rm bytes maxL y ret Q) {o : Int} {x : Int32} (tp fp : Nat) (hd : decode bytes pc = .ok (.ifCond .lt o, 3)) (ht : (pc : Int) + o = tp) (hf : pc + 3 = fp)
    (wt : x.toInt < 0 → WP k h cells slots tp ls st) (wf : 0 ≤ x.toInt → WP k h cells slots fp ls st) : WP k h cells slots pc ls (.int x :: st) :=
  WP.if0 K tp fp hd ht hf (fun q => wt (by rw [RoadKit.if0, h_lt] at q; exact of_decide_eq_true q)) (fun q => wf (by rw [RoadKit.if0, h_lt] at q; have q := of_decide_eq_false q; rw [show (0 : Int32).toInt = 0 from rfl] at q; omega))
theorem WP.ifl_lt (K : Ok k l Z n0 rm bytes maxL y ret Q) {o : Int} {x z : Int64} (tp fp : Nat) (hd : decode bytes pc = .ok (.ifCond .lt o, 3)) (ht : (pc : Int) + o = tp) (hf : pc + 3 = fp)
    (wt : x.toInt < z.toInt → WP k h cells slots tp ls st) (wf : z.toInt ≤ x.toInt → WP k h cells slots fp ls st) : WP k h cells slots pc ls (.int (XT.cmpL x z) :: st) := by
  refine WP.if0 K tp fp hd ht hf (fun q => ?_) (fun q => ?_)
  · refine wt ?_
    false_or_by_contra
    rename_i c
    rw [XT.ll_lt_f (by simp only [Int64.lt_iff_toInt_lt, ← Int64.toInt_inj]; omega)] at q; cases q
  · refine wf ?_
    false_or_by_contra
    rename_i c
    rw [XT.ll_lt_t (by simp only [Int64.lt_iff_toInt_lt, ← Int64.toInt_inj]; omega)] at q; cases q
theorem WP.icmp_ge (K : Ok k l Z n0 rm bytes maxL y ret Q) {o : Int} {x z : Int32} (tp fp : Nat) (hd : decode bytes pc = .ok (.if_icmp .ge o, 3)) (ht : (pc : Int) + o = tp) (hf : pc + 3 = fp)
    (wt : z.toInt ≤ x.toInt → WP k h cells slots tp ls st) (wf : x.toInt < z.toInt → WP k h cells slots fp ls st) : WP k h cells slots pc ls (.int z :: .int x :: st) :=
  WP.icmp K tp fp hd ht hf (fun q => wt (by rw [h_ge] at q; exact of_decide_eq_true q)) (fun q => wf (by rw [h_ge] at q; have q := of_decide_eq_false q; omega))
theorem WP.if_ge (K : Ok k l Z n0 rm bytes maxL y ret Q) {o : Int} {x : Int32} (tp fp : Nat) (hd : decode bytes pc = .ok (.ifCond .ge o, 3)) (ht : (pc : Int) + o = tp) (hf : pc + 3 = fp)
    (wt : 0 ≤ x.toInt → WP k h cells slots tp ls st) (wf : x.toInt < 0 → WP k h cells slots fp ls st) : WP k h cells slots pc ls (.int x :: st) :=
  WP.if0 K tp fp hd ht hf (fun q => wt (by rw [RoadKit.if0, h_ge] at q; exact of_decide_eq_true q)) (fun q => wf (by rw [RoadKit.if0, h_ge] at q; have q := of_decide_eq_false q; rw [show (0 : Int32).toInt = 0 from rfl] at q; omega))
theorem WP.ifl_ge (K : Ok k l Z n0 rm bytes maxL y ret Q) {o : Int} {x z : Int64} (tp fp : Nat) (hd : decode bytes pc = .ok (.ifCond .ge o, 3)) (ht : (pc : Int) + o = tp) (hf : pc + 3 = fp)
    (wt : z.toInt ≤ x.toInt → WP k h cells slots tp ls st) (wf : x.toInt < z.toInt → WP k h cells slots fp ls st) : WP k h cells slots pc ls (.int (XT.cmpL x z) :: st) := by
  refine WP.if0 K tp fp hd ht hf (fun q => ?_) (fun q => ?_)
  · refine wt ?_
    false_or_by_contra
    rename_i c
    rw [XT.ll_ge_f (by simp only [Int64.lt_iff_toInt_lt, ← Int64.toInt_inj]; omega)] at q; cases q
  · refine wf ?_
    false_or_by_contra
    rename_i c
    rw [XT.ll_ge_t (by simp only [Int64.lt_iff_toInt_lt, ← Int64.toInt_inj]; omega)] at q; cases q
theorem WP.icmp_gt (K : Ok k l Z n0 rm bytes maxL y ret Q) {o : Int} {x z : Int32} (tp fp : Nat) (hd : decode bytes pc = .ok (.if_icmp .gt o, 3)) (ht : (pc : Int) + o = tp) (hf : pc + 3 = fp)
    (wt : z.toInt < x.toInt → WP k h cells slots tp ls st) (wf : x.toInt ≤ z.toInt → WP k h cells slots fp ls st) : WP k h cells slots pc ls (.int z :: .int x :: st) :=
  WP.icmp K tp fp hd ht hf (fun q => wt (by rw [h_gt] at q; exact of_decide_eq_true q)) (fun q => wf (by rw [h_gt] at q; have q := of_decide_eq_false q; omega))
theorem WP.if_gt (K : Ok k l Z n0 rm bytes maxL y ret Q) {o : Int} {x : Int32} (tp fp : Nat) (hd : decode bytes pc = .ok (.ifCond .gt o, 3)) (ht : (pc : Int) + o = tp) (hf : pc + 3 = fp)
    (wt : 0 < x.toInt → WP k h cells slots tp ls st) (wf : x.toInt ≤ 0 → WP k h cells slots fp ls st) : WP k h cells slots pc ls (.int x :: st) :=
  WP.if0 K tp fp hd ht hf (fun q => wt (by rw [RoadKit.if0, h_gt] at q; exact of_decide_eq_true q)) (fun q => wf (by rw [RoadKit.if0, h_gt] at q; have q := of_decide_eq_false q; rw [show (0 : Int32).toInt = 0 from rfl] at q; omega))
theorem WP.ifl_gt (K : Ok k l Z n0 rm bytes maxL y ret Q) {o : Int} {x z : Int64} (tp fp : Nat) (hd : decode bytes pc = .ok (.ifCond .gt o, 3)) (ht : (pc : Int) + o = tp) (hf : pc + 3 = fp)
    (wt : z.toInt < x.toInt → WP k h cells slots tp ls st) (wf : x.toInt ≤ z.toInt → WP k h cells slots fp ls st) : WP k h cells slots pc ls (.int (XT.cmpL x z) :: st) := by
  refine WP.if0 K tp fp hd ht hf (fun q => ?_) (fun q => ?_)
  · refine wt ?_
    false_or_by_contra
    rename_i c
    rw [XT.ll_gt_f (by simp only [Int64.lt_iff_toInt_lt, ← Int64.toInt_inj]; omega)] at q; cases q
  · refine wf ?_
    false_or_by_contra
    rename_i c
    rw [XT.ll_gt_t (by simp only [Int64.lt_iff_toInt_lt, ← Int64.toInt_inj]; omega)] at q; cases q
theorem WP.icmp_le (K : Ok k l Z n0 rm bytes maxL y ret Q) {o : Int} {x z : Int32} (tp fp : Nat) (hd : decode bytes pc = .ok (.if_icmp .le o, 3)) (ht : (pc : Int) + o = tp) (hf : pc + 3 = fp)
    (wt : x.toInt ≤ z.toInt → WP k h cells slots tp ls st) (wf : z.toInt < x.toInt → WP k h cells slots fp ls st) : WP k h cells slots pc ls (.int z :: .int x :: st) :=
  WP.icmp K tp fp hd ht hf (fun q => wt (by rw [h_le] at q; exact of_decide_eq_true q)) (fun q => wf (by rw [h_le] at q; have q := of_decide_eq_false q; omega))
theorem WP.if_le (K : Ok k l Z n0 rm bytes maxL y ret Q) {o : Int} {x : Int32} (tp fp : Nat) (hd : decode bytes pc = .ok (.ifCond .le o, 3)) (ht : (pc : Int) + o = tp) (hf : pc + 3 = fp)
    (wt : x.toInt ≤ 0 → WP k h cells slots tp ls st) (wf : 0 < x.toInt → WP k h cells slots fp ls st) : WP k h cells slots pc ls (.int x :: st) :=
  WP.if0 K tp fp hd ht hf (fun q => wt (by rw [RoadKit.if0, h_le] at q; exact of_decide_eq_true q)) (fun q => wf (by rw [RoadKit.if0, h_le] at q; have q := of_decide_eq_false q; rw [show (0 : Int32).toInt = 0 from rfl] at q; omega))
theorem WP.ifl_le (K : Ok k l Z n0 rm bytes maxL y ret Q) {o : Int} {x z : Int64} (tp fp : Nat) (hd : decode bytes pc = .ok (.ifCond .le o, 3)) (ht : (pc : Int) + o = tp) (hf : pc + 3 = fp)
    (wt : x.toInt ≤ z.toInt → WP k h cells slots tp ls st) (wf : z.toInt < x.toInt → WP k h cells slots fp ls st) : WP k h cells slots pc ls (.int (XT.cmpL x z) :: st) := by
  refine WP.if0 K tp fp hd ht hf (fun q => ?_) (fun q => ?_)
  · refine wt ?_
    false_or_by_contra
    rename_i c
    rw [XT.ll_le_f (by simp only [Int64.lt_iff_toInt_lt, ← Int64.toInt_inj]; omega)] at q; cases q
  · refine wf ?_
    false_or_by_contra
    rename_i c
    rw [XT.ll_le_t (by simp only [Int64.lt_iff_toInt_lt, ← Int64.toInt_inj]; omega)] at q; cases q
theorem WP.icmp_eq (K : Ok k l Z n0 rm bytes maxL y ret Q) {o : Int} {x z : Int32} (tp fp : Nat) (hd : decode bytes pc = .ok (.if_icmp .eq o, 3)) (ht : (pc : Int) + o = tp) (hf : pc + 3 = fp)
    (wt : x.toInt = z.toInt → WP k h cells slots tp ls st) (wf : x.toInt ≠ z.toInt → WP k h cells slots fp ls st) : WP k h cells slots pc ls (.int z :: .int x :: st) :=
  WP.icmp K tp fp hd ht hf (fun q => wt (by rw [h_eq] at q; exact of_decide_eq_true q)) (fun q => wf (by rw [h_eq] at q; have q := of_decide_eq_false q; omega))
theorem WP.if_eq (K : Ok k l Z n0 rm bytes maxL y ret Q) {o : Int} {x : Int32} (tp fp : Nat) (hd : decode bytes pc = .ok (.ifCond .eq o, 3)) (ht : (pc : Int) + o = tp) (hf : pc + 3 = fp)
    (wt : x.toInt = 0 → WP k h cells slots tp ls st) (wf : x.toInt ≠ 0 → WP k h cells slots fp ls st) : WP k h cells slots pc ls (.int x :: st) :=
  WP.if0 K tp fp hd ht hf (fun q => wt (by rw [RoadKit.if0, h_eq] at q; exact of_decide_eq_true q)) (fun q => wf (by rw [RoadKit.if0, h_eq] at q; have q := of_decide_eq_false q; rw [show (0 : Int32).toInt = 0 from rfl] at q; omega))
theorem WP.ifl_eq (K : Ok k l Z n0 rm bytes maxL y ret Q) {o : Int} {x z : Int64} (tp fp : Nat) (hd : decode bytes pc = .ok (.ifCond .eq o, 3)) (ht : (pc : Int) + o = tp) (hf : pc + 3 = fp)
    (wt : x.toInt = z.toInt → WP k h cells slots tp ls st) (wf : x.toInt ≠ z.toInt → WP k h cells slots fp ls st) : WP k h cells slots pc ls (.int (XT.cmpL x z) :: st) := by
  refine WP.if0 K tp fp hd ht hf (fun q => ?_) (fun q => ?_)
  · refine wt ?_
    false_or_by_contra
    rename_i c
    rw [XT.ll_eq_f (by simp only [Int64.lt_iff_toInt_lt, ← Int64.toInt_inj]; omega)] at q; cases q
  · refine wf ?_
    false_or_by_contra
    rename_i c
    rw [XT.ll_eq_t (by simp only [Int64.lt_iff_toInt_lt, ← Int64.toInt_inj]; omega)] at q; cases q
theorem WP.icmp_ne (K : Ok k l Z n0 rm bytes maxL y ret Q) {o : Int} {x z : Int32} (tp fp : Nat) (hd : decode bytes pc = .ok (.if_icmp .ne o, 3)) (ht : (pc : Int) + o = tp) (hf : pc + 3 = fp)
    (wt : x.toInt ≠ z.toInt → WP k h cells slots tp ls st) (wf : x.toInt = z.toInt → WP k h cells slots fp ls st) : WP k h cells slots pc ls (.int z :: .int x :: st) :=
  WP.icmp K tp fp hd ht hf (fun q => wt (by rw [h_ne] at q; exact of_decide_eq_true q)) (fun q => wf (by rw [h_ne] at q; have q := of_decide_eq_false q; omega))
theorem WP.if_ne (K : Ok k l Z n0 rm bytes maxL y ret Q) {o : Int} {x : Int32} (tp fp : Nat) (hd : decode bytes pc = .ok (.ifCond .ne o, 3)) (ht : (pc : Int) + o = tp) (hf : pc + 3 = fp)
    (wt : x.toInt ≠ 0 → WP k h cells slots tp ls st) (wf : x.toInt = 0 → WP k h cells slots fp ls st) : WP k h cells slots pc ls (.int x :: st) :=
  WP.if0 K tp fp hd ht hf (fun q => wt (by rw [RoadKit.if0, h_ne] at q; exact of_decide_eq_true q)) (fun q => wf (by rw [RoadKit.if0, h_ne] at q; have q := of_decide_eq_false q; rw [show (0 : Int32).toInt = 0 from rfl] at q; omega))
theorem WP.ifl_ne (K : Ok k l Z n0 rm bytes maxL y ret Q) {o : Int} {x z : Int64} (tp fp : Nat) (hd : decode bytes pc = .ok (.ifCond .ne o, 3)) (ht : (pc : Int) + o = tp) (hf : pc + 3 = fp)
    (wt : x.toInt ≠ z.toInt → WP k h cells slots tp ls st) (wf : x.toInt = z.toInt → WP k h cells slots fp ls st) : WP k h cells slots pc ls (.int (XT.cmpL x z) :: st) := by
  refine WP.if0 K tp fp hd ht hf (fun q => ?_) (fun q => ?_)
  · refine wt ?_
    false_or_by_contra
    rename_i c
    rw [XT.ll_ne_f (by simp only [Int64.lt_iff_toInt_lt, ← Int64.toInt_inj]; omega)] at q; cases q
  · refine wf ?_
    false_or_by_contra
    rename_i c
    rw [XT.ll_ne_t (by simp only [Int64.lt_iff_toInt_lt, ← Int64.toInt_inj]; omega)] at q; cases q
theorem WP.ifnull_n (K : Ok k l Z n0 rm bytes maxL y ret Q) {o : Int} (tp : Nat) (hd : decode bytes pc = .ok (.ifnull o, 3)) (ht : (pc : Int) + o = tp) (w : WP k h cells slots tp ls st) : WP k h cells slots pc ls (.null :: st) :=
  w.plain fun T A t q => XS.ifnullYes A K.hx rfl (pc0 := pc) (pc' := tp) rfl (K.dec hd) rfl (by omega) (by omega) q
theorem WP.ifnull_r (K : Ok k l Z n0 rm bytes maxL y ret Q) {o : Int} {b : Addr} (fp : Nat) (hd : decode bytes pc = .ok (.ifnull o, 3)) (hf : pc + 3 = fp) (w : WP k h cells slots fp ls st) : WP k h cells slots pc ls (.ref b :: st) := by
  subst hf; exact w.plain fun T A t q => XS.ifnullNo A K.hx rfl (K.dec hd) rfl q
theorem WP.ifnonnull_r (K : Ok k l Z n0 rm bytes maxL y ret Q) {o : Int} {b : Addr} (tp : Nat) (hd : decode bytes pc = .ok (.ifnonnull o, 3)) (ht : (pc : Int) + o = tp) (w : WP k h cells slots tp ls st) : WP k h cells slots pc ls (.ref b :: st) :=
  w.plain fun T A t q => XT.ifnonnullYes A K.hx rfl (pc0 := pc) (pc' := tp) rfl (K.dec hd) rfl (by omega) (by omega) q
theorem WP.ifnonnull_n (K : Ok k l Z n0 rm bytes maxL y ret Q) {o : Int} (fp : Nat) (hd : decode bytes pc = .ok (.ifnonnull o, 3)) (hf : pc + 3 = fp) (w : WP k h cells slots fp ls st) : WP k h cells slots pc ls (.null :: st) := by
  subst hf; exact w.plain fun T A t q => XT.ifnonnullNo A K.hx rfl (K.dec hd) rfl q
theorem WP.acmp_eq (K : Ok k l Z n0 rm bytes maxL y ret Q) {o : Int} {x z : Value} (tp fp : Nat) (hd : decode bytes pc = .ok (.if_acmp .eq o, 3)) (ht : (pc : Int) + o = tp) (hf : pc + 3 = fp) (hx : x.isRef = true) (hz : z.isRef = true)
    (wt : x = z → WP k h cells slots tp ls st) (wf : x ≠ z → WP k h cells slots fp ls st) : WP k h cells slots pc ls (z :: x :: st) := by
  subst hf
  by_cases c : x = z
  · exact (wt c).plain fun T A t q => XT.acmpYes A K.hx rfl (pc0 := pc) (pc' := tp) rfl (K.dec hd) rfl hx hz (XT.aa_eq_t c) (by omega) (by omega) q
  · exact (wf c).plain fun T A t q => XT.acmpNo A K.hx rfl (K.dec hd) rfl hx hz (XT.aa_eq_f c) q
theorem WP.acmp_ne (K : Ok k l Z n0 rm bytes maxL y ret Q) {o : Int} {x z : Value} (tp fp : Nat) (hd : decode bytes pc = .ok (.if_acmp .ne o, 3)) (ht : (pc : Int) + o = tp) (hf : pc + 3 = fp) (hx : x.isRef = true) (hz : z.isRef = true)
    (wt : x ≠ z → WP k h cells slots tp ls st) (wf : x = z → WP k h cells slots fp ls st) : WP k h cells slots pc ls (z :: x :: st) := by
  subst hf
  by_cases c : x = z
  · exact (wf c).plain fun T A t q => XT.acmpNo A K.hx rfl (K.dec hd) rfl hx hz (XT.aa_ne_f c) q
  · exact (wt c).plain fun T A t q => XT.acmpYes A K.hx rfl (pc0 := pc) (pc' := tp) rfl (K.dec hd) rfl hx hz (XT.aa_ne_t c) (by omega) (by omega) q
theorem WP.tsw (K : Ok k l Z n0 rm bytes maxL y ret Q) {d lo hi : Int} {offs : Array Int} {len : Nat} {i : Int32} (dp : Nat) (hd : decode bytes pc = .ok (.tableswitch d lo hi offs, len)) (hdp : (pc : Int) + d = dp)
    (win : ∀ j o, i.toInt = lo + (j : Nat) → i.toInt ≤ hi → offs[j]? = some o → 0 ≤ (pc : Int) + o ∧ WP k h cells slots ((pc : Int) + o).toNat ls st) (hsz : hi - lo < offs.size) (wout : i.toInt < lo ∨ hi < i.toInt → WP k h cells slots dp ls st) : WP k h cells slots pc ls (.int i :: st) := by
  by_cases c : i.toInt < lo ∨ i.toInt > hi
  · exact (wout c).plain fun T A t q => XS.tswOut A K.hx rfl (pc0 := pc) (pc' := dp) rfl (K.dec hd) rfl c (by omega) (by omega) q
  · have hj : (i.toInt - lo).toNat < offs.size := by omega
    obtain ⟨h0, w⟩ := win (i.toInt - lo).toNat _ (by omega) (by omega) (Array.getElem?_eq_getElem hj)
    exact w.plain fun T A t q => XS.tswIn A K.hx rfl (pc0 := pc) rfl (K.dec hd) rfl c (Array.getElem?_eq_getElem hj) h0 rfl q
theorem WP.ldcI (K : Ok k l Z n0 rm bytes maxL y ret Q) {a0 : Array Value} {i : Nat} {v : Int32} (pc' : Nat) (hw : (Jvm.Cond.constant y.cls i v).before a0 Z = true) (hd : decode bytes pc = .ok (.ldc i, 2)) (hp : pc + 2 = pc') (w : WP k h cells slots pc' ls (.int v :: st)) : WP k h cells slots pc ls st := by
  subst hp; exact fun T locs X e N => End.back (fun t q => Stand.ldcI X K.hx K.hown (mvT K.hZ hw) rfl (K.dec hd) q) (w T locs X e N)
theorem WP.ldcWI (K : Ok k l Z n0 rm bytes maxL y ret Q) {a0 : Array Value} {i : Nat} {v : Int32} (pc' : Nat) (hw : (Jvm.Cond.constant y.cls i v).before a0 Z = true) (hd : decode bytes pc = .ok (.ldc_w i, 3)) (hp : pc + 3 = pc') (w : WP k h cells slots pc' ls (.int v :: st)) : WP k h cells slots pc ls st := by
  subst hp; exact fun T locs X e N => End.back (fun t q => Stand.ldcWI X K.hx K.hown (mvT K.hZ hw) rfl (K.dec hd) q) (w T locs X e N)
theorem WP.ldc2J (K : Ok k l Z n0 rm bytes maxL y ret Q) {a0 : Array Value} {i : Nat} {v : Int64} (pc' : Nat) (hw : (Jvm.Cond.constantLong y.cls i v).before a0 Z = true) (hd : decode bytes pc = .ok (.ldc2_w i, 3)) (hp : pc + 3 = pc') (w : WP k h cells slots pc' ls (.long v :: st)) : WP k h cells slots pc ls st := by
  subst hp; exact fun T locs X e N => End.back (fun t q => Stand.ldc2J X K.hx K.hown (mvT K.hZ hw) rfl (K.dec hd) q) (w T locs X e N)
theorem WP.leave (K : Ok k l Z n0 rm bytes maxL y ret Q) (v : Option Value) (hv : k.meth.sig.returnType = none → v = none) (hq : Q v h) (hc : cells ≤ rm.cells) (hs : slots ≤ rm.slots)
    (st' : ∀ (T : State) (locs : List Loc), k.St T locs cells slots → ∀ fs, (∀ (f : JFrame) (acts : List Action), f.method = k.m → f.locked = none → f.entered = [] → (doReturn k.e (T.setTop f) acts v).1 = T.setFrames fs) → Steps k.p.tables k.e k.below (T.setTop (mkF k.m pc ls.toArray st)) (T.setFrames fs)) : WP k h cells slots pc ls st := by
  intro T locs X e N
  obtain ⟨fs, hr, hrun, hended, hW, hsame⟩ := Stand.leave X (v := v) hv K.hlk
  have hq' : Q v (T.setFrames fs).heap := by show Q v T.heap; rw [e]; exact hq
  refine ⟨_, _, st' T locs X fs hr, hrun, hended, v, locs, rfl, ⟨K.hQ _ _ hq', N⟩, K.hfin v _ locs hq' ⟨⟨_, rfl⟩, hW, hsame.mono (by rw [K.hR]; exact hc) (by rw [K.hR]; exact hs)⟩⟩
theorem WP.retV (K : Ok k l Z n0 rm bytes maxL y ret Q) (hr : ret = none) (hd : decode bytes pc = .ok (.return_, 1)) (hq : Q none h) (hc : cells ≤ rm.cells) (hs : slots ≤ rm.slots) : WP k h cells slots pc ls [] :=
  WP.leave K none (fun _ => rfl) hq hc hs fun T locs X fs hl => Stand.returnOut X K.hx (K.hret.trans hr) (K.dec hd) hl
theorem WP.iret (K : Ok k l Z n0 rm bytes maxL y ret Q) {z : Int32} {t : FieldType} (hr : ret = some t) (ht : t = .int ∨ t = .boolean ∨ t = .byte ∨ t = .char ∨ t = .short) (hn : narrow t (.int z) = .int z) (hd : decode bytes pc = .ok (.ireturn, 1)) (hq : Q (some (.int z)) h) (hc : cells ≤ rm.cells) (hs : slots ≤ rm.slots) : WP k h cells slots pc ls (.int z :: st) :=
  WP.leave K (some (.int z)) (fun q => by rw [K.hret, hr] at q; cases q) hq hc hs fun T locs X fs hl => RoadKit.retOut X K.hx (K.hret.trans hr) hn (Or.inl ⟨rfl, ht, z, rfl⟩) (K.dec hd) hl
theorem WP.lret (K : Ok k l Z n0 rm bytes maxL y ret Q) {z : Int64} (hr : ret = some .long) (hd : decode bytes pc = .ok (.lreturn, 1)) (hq : Q (some (.long z)) h) (hc : cells ≤ rm.cells) (hs : slots ≤ rm.slots) : WP k h cells slots pc ls (.long z :: st) :=
  WP.leave K (some (.long z)) (fun q => by rw [K.hret, hr] at q; cases q) hq hc hs fun T locs X fs hl => RoadKit.retOut X K.hx (K.hret.trans hr) rfl (Or.inr (Or.inl ⟨rfl, rfl, z, rfl⟩)) (K.dec hd) hl
theorem WP.aret (K : Ok k l Z n0 rm bytes maxL y ret Q) {v : Value} {t : FieldType} (hr : ret = some t) (ht : t.isReference = true) (hn : narrow t v = v) (hv : v.isRef = true) (hd : decode bytes pc = .ok (.areturn, 1)) (hq : Q (some v) h) (hc : cells ≤ rm.cells) (hs : slots ≤ rm.slots) : WP k h cells slots pc ls (v :: st) :=
  WP.leave K (some v) (fun q => by rw [K.hret, hr] at q; cases q) hq hc hs fun T locs X fs hl => RoadKit.retOut X K.hx (K.hret.trans hr) hn (Or.inr (Or.inr (Or.inr (Or.inr ⟨rfl, ht, hv⟩)))) (K.dec hd) hl
theorem nar_bit {z : Int32} (q : z = 0 ∨ z = 1) : narrow .boolean (.int z) = .int z := by rcases q with rfl | rfl <;> rfl
end Plain
section HeapSteps
variable {k : Cx} {l : Launch} {Z : State} {n0 : Nat} {rm : Room} {bytes : ByteArray} {maxL : Nat} {y : MethodName} {ret : Option FieldType} {Q : Option Value → Heap → Prop} {h h' : Heap} {cells slots pc : Nat} {ls : List Slot} {st : List Value} {a0 : Array Value} {a b : Addr}
theorem ne_addr {a b : Nat} (h : a ≠ b) : @Ne Addr a b := h
theorem nm0 {a : Nat} (h : (0 : Nat) = 0) : a ∉ ([] : List Addr) := List.not_mem_nil
theorem ks0 {n : Nat} {ws : List Addr} : ∀ x ∈ ([] : List Addr), x ∈ ws ∨ n ≤ x := fun x hx => absurd hx List.not_mem_nil
theorem nm1 {a b : Nat} (h : a ≠ b) : a ∉ ([b] : List Addr) := by intro q; exact h (List.mem_singleton.mp q)
theorem nm2 {a b c : Nat} (h : a ≠ b ∧ a ≠ c) : a ∉ ([b, c] : List Addr) := by
  intro q
  rcases List.mem_cons.mp q with q | q
  · exact h.1 q
  · exact h.2 (List.mem_singleton.mp q)
theorem ks1 {b n : Nat} {ws : List Addr} (h : b ∈ ws ∨ n ≤ b) : ∀ x ∈ ([b] : List Addr), x ∈ ws ∨ n ≤ x := fun x hx => by cases List.mem_singleton.mp hx; exact h
theorem ks2 {b c n : Nat} {ws : List Addr} (h : b ∈ ws ∨ n ≤ b) (h' : c ∈ ws ∨ n ≤ c) : ∀ x ∈ ([b, c] : List Addr), x ∈ ws ∨ n ≤ x := fun x hx => by
  rcases List.mem_cons.mp hx with q | q
  · rw [q]; exact h
  · cases List.mem_singleton.mp q; exact h'
theorem ext_keep (E : Ext h h') (ws : List Addr) : Keep h h' ws := (Keep.refl h ws).ext E
theorem keep_sub {ws ws' : List Addr} (K : Keep h h' ws) (q : ∀ x ∈ ws, x ∈ ws') : Keep h h' ws' := ⟨K.1, fun x c e r => K.2.1 x c e fun z => r (q x z), K.2.2⟩
theorem keep_trans {h'' : Heap} {ws : List Addr} (K : Keep h h' ws) (K' : Keep h' h'' ws) : Keep h h'' ws := K.trans K' fun x hx => Or.inl hx
theorem WP.getfield (K : Ok k l Z n0 rm bytes maxL y ret Q) {i : Nat} {R0 O n d host : String} {v : Value} (pc' : Nat) (hw : (Jvm.Cond.fieldLink y.cls i R0 n d).before a0 Z = true ∨ (Jvm.Cond.fieldLinkNest y.cls i R0 n d host).before a0 Z = true) (via : Via Z R0 O n d) (F : Fld Z h a O n d v) (hd : decode bytes pc = .ok (.getfield i, 3)) (hp : pc + 3 = pc')
    (w : WP k h cells slots pc' ls (v :: st)) : WP k h cells slots pc ls (.ref a :: st) := by
  subst hp
  intro T locs X e N
  obtain ⟨T', X', e', stp⟩ := getF X K.hx K.hZ K.hown hw via e F (g := mkF k.m pc ls.toArray (.ref a :: st)) rfl rfl (K.dec hd)
  exact End.back stp (w T' locs X' e' N)
theorem WP.getstatic (K : Ok k l Z n0 rm bytes maxL y ret Q) {i : Nat} {R0 O n d : String} {v : Value} (pc' : Nat) (hw : (Jvm.Cond.fieldLink y.cls i R0 n d).before a0 Z = true) (via : Via Z R0 O n d) (F : Sta Z h O n d v) (hd : decode bytes pc = .ok (.getstatic i, 3)) (hp : pc + 3 = pc')
    (w : WP k h cells slots pc' ls (v :: st)) : WP k h cells slots pc ls st := by
  subst hp
  intro T locs X e N
  obtain ⟨T', X', e', stp⟩ := getS X K.hx K.hZ K.hown (host := "") hw via e F (g := mkF k.m pc ls.toArray st) rfl (K.dec hd)
  exact End.back stp (w T' locs X' e' N)
theorem WP.putfield (K : Ok k l Z n0 rm bytes maxL y ret Q) {i kk : Nat} {R0 O n d host C : String} {v old : Value} {ty : FieldType} (pc' : Nat) (hw : (Jvm.Cond.fieldLink y.cls i R0 n d).before a0 Z = true ∨ (Jvm.Cond.fieldLinkNest y.cls i R0 n d host).before a0 Z = true) (via : Via Z R0 O n d) (F : Fld Z h a O n d old) (E : Exa Z h a C)
    (L : (Jvm.Cond.lays C O n d).before a0 Z = true ∨ ((Jvm.Cond.laysFinal C O n d).before a0 Z = true ∧ y.cls = O ∧ y.name = "<init>")) (wi : (Jvm.Cond.instantiable C kk).before a0 Z = true)
    (hty : parseFieldDescriptor d = some ty) (hn : narrow ty v = v) (hf : fits ty v = true) (hd : decode bytes pc = .ok (.putfield i, 3)) (hp : pc + 3 = pc') (ha : n0 ≤ a)
    (w : ∀ h', Wr h h' a (RoadKit.slotOf Z O n d) v → WP k h' cells slots pc' ls st) : WP k h cells slots pc ls (v :: .ref a :: st) := by
  subst hp
  intro T locs X e N
  obtain ⟨T', h', X', e', W', stp⟩ := putF X K.hx K.hZ K.hown hw via e F E (L.imp id fun q => ⟨q.1, q.2.1, by rw [K.hnm]; exact q.2.2⟩) wi hty hn hf (g := mkF k.m pc ls.toArray (v :: .ref a :: st)) rfl rfl (K.dec hd)
  exact End.back stp (w h' W' T' _ X' e' (Fr.snoc X' N (by rw [K.hn0]; exact ha)))
theorem WP.new (K : Ok k l Z n0 rm bytes maxL y ret Q) {i n : Nat} {C : String} (pc' cells' slots' : Nat) (h1 : (Jvm.Cond.classLink y.cls i C).before a0 Z = true) (h2 : (Jvm.Cond.instantiable C n).before a0 Z = true) (h3 : (Jvm.Cond.initialized C).before a0 Z = true) (hd : decode bytes pc = .ok (.new i, 3)) (hp : pc + 3 = pc')
    (hc : cells + 1 = cells') (hs : slots + n = slots') (hc' : cells' ≤ rm.cells) (hs' : slots' ≤ rm.slots)
    (w : ∀ h' a, a = h.size → Ext h h' → Exa Z h' a C → (∀ {O nm d : String} {ty : FieldType}, Laid Z a0 C O nm d → parseFieldDescriptor d = some ty → Fld Z h' a O nm d (defaultValue ty)) → WP k h' cells' slots' pc' ls (.ref a :: st)) : WP k h cells slots pc ls st := by
  subst hp hc hs
  intro T locs X e N
  obtain ⟨T', h', X', e', E', A', D', -, stp⟩ := newO X K.hx K.hZ K.hown h1 h2 h3 e (g := mkF k.m pc ls.toArray st) rfl (K.dec hd) (by rw [K.hR]; exact hc') (by rw [K.hR]; exact hs')
  exact End.back stp (w h' _ rfl E' A' D' T' locs X' e' N)
/-- Object.<init> -/
theorem WP.initO (K : Ok k l Z n0 rm bytes maxL y ret Q) {i : Nat} (pc' W : Nat) (h1 : (Jvm.Cond.methodLink y.cls i Lib.objectInit).before a0 Z = true) (h2 : (Jvm.Cond.instanceMethod Lib.objectInit).before a0 Z = true) (h3 : (Jvm.Cond.code Lib.objectInit ⟨#[0xb1]⟩ 1 none).before a0 Z = true) (hd : decode bytes pc = .ok (.invokespecial i, 3)) (hp : pc + 3 = pc')
    (hsz : ls.length = maxL) (hf : 1 ≤ rm.frames) (hW : (st.map fun v => v.category).sum ≤ W) (hl : W + 12 ≤ rm.locals) (w : WP k h cells slots pc' ls st) : WP k h cells slots pc ls (.ref a :: st) := by
  subst hp
  intro T locs X e N
  obtain ⟨T', X', e', stp⟩ := RoadKit.initO X K.hx K.hZ K.hown h1 h2 h3 e (g := mkF k.m pc ls.toArray (.ref a :: st)) rfl (by rw [K.hml]; simpa using hsz) rfl (K.dec hd) (by rw [K.hR]; exact hf) (W := W) (by show 2 * 0 + _ ≤ _; omega) (by rw [K.hR]; exact hl)
  exact End.back stp (w T' locs X' e' N)
/-! arrays -/
def ArV (Z : State) (h : Heap) (a : Addr) (ty : FieldType) (vs : List Value) : Prop := ∃ c : Cell, Arr Z h a c ty ∧ c.slots.toList = vs ∧ vs.length < 2 ^ 31 ∧ ∀ v ∈ vs, fits ty v = true
def ArI (Z : State) (h : Heap) (a : Addr) (xs : List Int32) : Prop := ArV Z h a .int (xs.map Value.int)
def ArJ (Z : State) (h : Heap) (a : Addr) (xs : List Int64) : Prop := ArV Z h a .long (xs.map Value.long)
def ArB (Z : State) (h : Heap) (a : Addr) (xs : List Int8) : Prop := ArV Z h a .byte (xs.map fun x => Value.int x.toInt32)
variable {ty : FieldType} {vs : List Value}
theorem ArV.lt (A : ArV Z h a ty vs) : a < h.size := by obtain ⟨c, A, -⟩ := A; exact A.lt
theorem ArV.keep {ws : List Addr} (A : ArV Z h a ty vs) (K : Keep h h' ws) (q : a ∉ ws) : ArV Z h' a ty vs := by
  obtain ⟨c, A, r⟩ := A
  exact ⟨c, ⟨K.2.1 a c A.1 q, A.2⟩, r⟩
theorem ArV.ext (A : ArV Z h a ty vs) (E : Ext h h') : ArV Z h' a ty vs := by
  obtain ⟨c, A, r⟩ := A
  exact ⟨c, A.ext E, r⟩
theorem ArV.set {i : Nat} {v : Value} (A : ArV Z h a ty vs) (W : Wr h h' a i v) (hf : fits ty v = true) : ArV Z h' a ty (vs.set i v) := by
  obtain ⟨c, A, q1, q2, q3⟩ := A
  refine ⟨c.setSlot i v, A.same W, ?_, by simpa using q2, fun u hu => ?_⟩
  · simp [Cell.setSlot, q1]
  · rcases List.mem_or_eq_of_mem_set hu with z | rfl
    · exact q3 u z
    · exact hf
theorem ArV.other {i : Nat} {v : Value} (A : ArV Z h a ty vs) (W : Wr h h' b i v) (q : a ≠ b) : ArV Z h' a ty vs := by
  obtain ⟨c, A, r⟩ := A
  exact ⟨c, A.other W q, r⟩
theorem ArV.new {cA : ClassId} {n : Int32} {m : Nat} (A : Arr Z h a (newA cA ty n) ty) (hn : n.toInt = (m : Nat)) (hf : fits ty (defaultValue ty) = true) : ArV Z h a ty (List.replicate m (defaultValue ty)) := by
  have e : n.toNatClampNeg = m := by simp only [Int32.toNatClampNeg]; omega
  refine ⟨_, A, ?_, ?_, fun v hv => ?_⟩
  · simp [newA, e]
  · have := n.toInt_lt; simp; omega
  · rw [List.eq_of_mem_replicate hv]; exact hf
theorem idx_ok {j : Int32} {i n : Nat} (hj : j.toInt = (i : Nat)) (hi : i < n) : ¬ (j < 0 ∨ n ≤ j.toNatClampNeg) ∧ j.toNatClampNeg = i := by
  have e : j.toNatClampNeg = i := by simp only [Int32.toNatClampNeg]; omega
  refine ⟨?_, e⟩
  rw [e, Int32.lt_iff_toInt_lt, show (0 : Int32).toInt = 0 from rfl]; omega
theorem size_eq {z : Int32} {n : Nat} (hz : z.toInt = (n : Nat)) : n.toInt32 = z := by
  have e : n = z.toNatClampNeg := by simp only [Int32.toNatClampNeg]; omega
  have := (back32 (n := z) (by rw [Int32.lt_iff_toInt_lt, show (0 : Int32).toInt = 0 from rfl]; omega)).1
  rw [← e] at this; exact this
theorem ArV.parts {i : Nat} {v : Value} (A : ArV Z h a ty vs) (hv : vs[i]? = some v) : ∃ c : Cell, Arr Z h a c ty ∧ i < c.slots.size ∧ c.slots[i]? = some v := by
  obtain ⟨c, A, q1, -⟩ := A
  have : i < vs.length := (List.getElem?_eq_some_iff.mp hv).1
  refine ⟨c, A, ?_, ?_⟩
  · rw [← q1] at this; simpa using this
  · rw [← q1] at hv; simpa using hv
theorem WP.arraylength (K : Ok k l Z n0 rm bytes maxL y ret Q) (z : Int32) (pc' : Nat) (A : ArV Z h a ty vs) (hz : z.toInt = (vs.length : Nat)) (hd : decode bytes pc = .ok (.arraylength, 1)) (hp : pc + 1 = pc') (w : WP k h cells slots pc' ls (.int z :: st)) : WP k h cells slots pc ls (.ref a :: st) := by
  subst hp
  intro T locs X e N
  obtain ⟨c, A, q1, -⟩ := A
  have es : c.slots.size.toInt32 = z := size_eq (by rw [hz, ← q1]; simp)
  refine End.back (fun t q => ?_) (w T locs X e N)
  exact Stand.arraylength X K.hx (cell := c) (by rw [e]; exact A.1) (State.isArrayOf_alike K.hZ.alike A.2.1) (g := mkF k.m pc ls.toArray (.ref a :: st)) rfl rfl (K.dec hd) _ (by rw [es]; exact q)
theorem WP.iaload (K : Ok k l Z n0 rm bytes maxL y ret Q) {xs : List Int32} {j x : Int32} (pc' i : Nat) (A : ArI Z h a xs) (hj : j.toInt = (i : Nat)) (hx : xs[i]? = some x) (hd : decode bytes pc = .ok (.iaload, 1)) (hp : pc + 1 = pc') (w : WP k h cells slots pc' ls (.int x :: st)) : WP k h cells slots pc ls (.int j :: .ref a :: st) := by
  subst hp
  intro T locs X e N
  obtain ⟨c, A, q1, q2⟩ := ArV.parts A (i := i) (v := .int x) (by simp [hx])
  obtain ⟨r1, r2⟩ := idx_ok hj q1
  refine End.back (fun t q => ?_) (w T locs X e N)
  exact Stand.iaload X K.hx (j := j) (v := .int x) (by rw [e]; exact A.1) (State.isArrayOf_alike K.hZ.alike A.2.1) A.2.2 r1 (by rw [r2]; exact q2) (g := mkF k.m pc ls.toArray (.int j :: .ref a :: st)) rfl rfl (K.dec hd) _ q
theorem WP.laload (K : Ok k l Z n0 rm bytes maxL y ret Q) {xs : List Int64} {j : Int32} {x : Int64} (pc' i : Nat) (A : ArJ Z h a xs) (hj : j.toInt = (i : Nat)) (hx : xs[i]? = some x) (hd : decode bytes pc = .ok (.laload, 1)) (hp : pc + 1 = pc') (w : WP k h cells slots pc' ls (.long x :: st)) : WP k h cells slots pc ls (.int j :: .ref a :: st) := by
  subst hp
  intro T locs X e N
  obtain ⟨c, A, q1, q2⟩ := ArV.parts A (i := i) (v := .long x) (by simp [hx])
  obtain ⟨r1, r2⟩ := idx_ok hj q1
  refine End.back (fun t q => ?_) (w T locs X e N)
  exact Stand.laload X K.hx (j := j) (v := .long x) (by rw [e]; exact A.1) (State.isArrayOf_alike K.hZ.alike A.2.1) A.2.2 r1 (by rw [r2]; exact q2) (g := mkF k.m pc ls.toArray (.int j :: .ref a :: st)) rfl rfl (K.dec hd) _ q
theorem WP.baload (K : Ok k l Z n0 rm bytes maxL y ret Q) {xs : List Int8} {j : Int32} {x : Int8} (pc' i : Nat) (A : ArB Z h a xs) (hj : j.toInt = (i : Nat)) (hx : xs[i]? = some x) (hd : decode bytes pc = .ok (.baload, 1)) (hp : pc + 1 = pc') (w : WP k h cells slots pc' ls (.int x.toInt32 :: st)) : WP k h cells slots pc ls (.int j :: .ref a :: st) := by
  subst hp
  intro T locs X e N
  obtain ⟨c, A, q1, q2⟩ := ArV.parts A (i := i) (v := .int x.toInt32) (by simp [hx])
  obtain ⟨r1, r2⟩ := idx_ok hj q1
  refine End.back (fun t q => ?_) (w T locs X e N)
  exact Stand.baloadBytes X K.hx (j := j) (v := .int x.toInt32) (by rw [e]; exact A.1) (State.isArrayOf_alike K.hZ.alike A.2.1) A.2.2 r1 (by rw [r2]; exact q2) (g := mkF k.m pc ls.toArray (.int j :: .ref a :: st)) rfl rfl (K.dec hd) _ q
theorem WP.aaload (K : Ok k l Z n0 rm bytes maxL y ret Q) {j : Int32} {x : Value} (pc' i : Nat) (A : ArV Z h a ty vs) (hty : ty.isReference = true) (hj : j.toInt = (i : Nat)) (hx : vs[i]? = some x) (hd : decode bytes pc = .ok (.aaload, 1)) (hp : pc + 1 = pc') (w : WP k h cells slots pc' ls (x :: st)) : WP k h cells slots pc ls (.int j :: .ref a :: st) := by
  subst hp
  intro T locs X e N
  obtain ⟨c, A, q1, q2⟩ := ArV.parts A (i := i) hx
  obtain ⟨r1, r2⟩ := idx_ok hj q1
  refine End.back (fun t q => ?_) (w T locs X e N)
  exact Stand.aaload X K.hx (j := j) (v := x) (by rw [e]; exact A.1) (State.isArrayOf_alike K.hZ.alike A.2.1) hty A.2.2 r1 (by rw [r2]; exact q2) (g := mkF k.m pc ls.toArray (.int j :: .ref a :: st)) rfl rfl (K.dec hd) _ q
theorem WP.iastore (K : Ok k l Z n0 rm bytes maxL y ret Q) {xs : List Int32} {j x : Int32} (pc' i : Nat) (A : ArI Z h a xs) (hj : j.toInt = (i : Nat)) (hi : i < xs.length) (hd : decode bytes pc = .ok (.iastore, 1)) (hp : pc + 1 = pc') (ha : n0 ≤ a)
    (w : ∀ h', Keep h h' [a] → ArI Z h' a (xs.set i x) → WP k h' cells slots pc' ls st) : WP k h cells slots pc ls (.int x :: .int j :: .ref a :: st) := by
  subst hp
  intro T locs X e N
  have A0 := A
  obtain ⟨c, A', q1, -⟩ := A
  obtain ⟨r1, r2⟩ := idx_ok hj (show i < c.slots.size by have := congrArg List.length q1; simp at this; omega)
  obtain ⟨T', h', X', e', W', stp⟩ := stI X K.hx K.hZ e A' r1 (x := x) (g := mkF k.m pc ls.toArray (.int x :: .int j :: .ref a :: st)) rfl rfl (K.dec hd)
  rw [r2] at W'
  have A2 := ArV.set A0 W' rfl
  rw [← List.map_set] at A2
  exact End.back stp (w h' (Keep.of_wr W') A2 T' _ X' e' (Fr.snoc X' N (by rw [K.hn0]; exact ha)))
theorem WP.lastore (K : Ok k l Z n0 rm bytes maxL y ret Q) {xs : List Int64} {j : Int32} {x : Int64} (pc' i : Nat) (A : ArJ Z h a xs) (hj : j.toInt = (i : Nat)) (hi : i < xs.length) (hd : decode bytes pc = .ok (.lastore, 1)) (hp : pc + 1 = pc') (ha : n0 ≤ a)
    (w : ∀ h', Keep h h' [a] → ArJ Z h' a (xs.set i x) → WP k h' cells slots pc' ls st) : WP k h cells slots pc ls (.long x :: .int j :: .ref a :: st) := by
  subst hp
  intro T locs X e N
  have A0 := A
  obtain ⟨c, A', q1, -⟩ := A
  obtain ⟨r1, r2⟩ := idx_ok hj (show i < c.slots.size by have := congrArg List.length q1; simp at this; omega)
  obtain ⟨T', h', X', e', W', stp⟩ := stJ X K.hx K.hZ e A' r1 (x := x) (g := mkF k.m pc ls.toArray (.long x :: .int j :: .ref a :: st)) rfl rfl (K.dec hd)
  rw [r2] at W'
  have A2 := ArV.set A0 W' rfl
  rw [← List.map_set] at A2
  exact End.back stp (w h' (Keep.of_wr W') A2 T' _ X' e' (Fr.snoc X' N (by rw [K.hn0]; exact ha)))
theorem WP.bastore (K : Ok k l Z n0 rm bytes maxL y ret Q) {xs : List Int8} {j x : Int32} (pc' i : Nat) (A : ArB Z h a xs) (hj : j.toInt = (i : Nat)) (hi : i < xs.length) (hd : decode bytes pc = .ok (.bastore, 1)) (hp : pc + 1 = pc') (ha : n0 ≤ a)
    (w : ∀ h', Keep h h' [a] → ArB Z h' a (xs.set i x.toInt8) → WP k h' cells slots pc' ls st) : WP k h cells slots pc ls (.int x :: .int j :: .ref a :: st) := by
  subst hp
  intro T locs X e N
  have A0 := A
  obtain ⟨c, A', q1, -⟩ := A
  obtain ⟨r1, r2⟩ := idx_ok hj (show i < c.slots.size by have := congrArg List.length q1; simp at this; omega)
  obtain ⟨T', h', X', e', W', stp⟩ := stB X K.hx K.hZ e A' r1 (x := x) (g := mkF k.m pc ls.toArray (.int x :: .int j :: .ref a :: st)) rfl rfl (K.dec hd)
  rw [r2] at W'
  have A2 : ArB Z h' a (xs.set i x.toInt8) := by
    have := ArV.set A0 W' (fits_nar_byte x)
    rw [show Value.int (nar .byte x) = (fun z : Int8 => Value.int z.toInt32) x.toInt8 from rfl, ← List.map_set] at this
    exact this
  exact End.back stp (w h' (Keep.of_wr W') A2 T' _ X' e' (Fr.snoc X' N (by rw [K.hn0]; exact ha)))
theorem WP.newarray (K : Ok k l Z n0 rm bytes maxL y ret Q) {aty : ArrayType} {n : Int32} (pc' m cap cells' slots' : Nat) (hw : (Jvm.Cond.arrayClass (newarray.typeOf aty)).before a0 Z = true) (hd : decode bytes pc = .ok (.newarray aty, 2)) (hp : pc + 2 = pc') (hn : n.toInt = (m : Nat)) (hcap : m ≤ cap) (hb : cap * 8 ≤ 536870912)
    (hc : cells + 1 = cells') (hs : slots + cap = slots') (hc' : cells' ≤ rm.cells) (hs' : slots' ≤ rm.slots)
    (w : ∀ h' a, a = h.size → Ext h h' → ArV Z h' a (newarray.typeOf aty) (List.replicate m (defaultValue (newarray.typeOf aty))) → WP k h' cells' slots' pc' ls (.ref a :: st)) : WP k h cells slots pc ls (.int n :: st) := by
  subst hp hc hs
  intro T locs X e N
  have hn' : ¬ n < 0 := by rw [Int32.lt_iff_toInt_lt, show (0 : Int32).toInt = 0 from rfl]; omega
  obtain ⟨T', h', cA, X', e', E', A', stp⟩ := newP X K.hx K.hZ hw e (g := mkF k.m pc ls.toArray (.int n :: st)) rfl (K.dec hd) rfl hn' (cap := cap) (by simp only [Int32.toNatClampNeg]; omega) hb (by rw [K.hR]; exact hc') (by rw [K.hR]; exact hs')
  exact End.back stp (w h' _ rfl E' (ArV.new A' hn (by cases aty <;> rfl)) T' locs X' e' N)
theorem WP.newarrayE (K : Ok k l Z n0 rm bytes maxL y ret Q) {aty : ArrayType} {n : Int32} {ad : String} (pc' m cap cells' slots' : Nat) (hw : (Jvm.Cond.arrayClass (newarray.typeOf aty)).before a0 Z = true) (hd : decode bytes pc = .ok (.newarray aty, 2)) (hp : pc + 2 = pc') (hn : n.toInt = (m : Nat)) (hcap : m ≤ cap) (hb : cap * 8 ≤ 536870912)
    (hc : cells + 1 = cells') (hs : slots + cap = slots') (hc' : cells' ≤ rm.cells) (hs' : slots' ≤ rm.slots) (had : "[" ++ (newarray.typeOf aty).toString = ad)
    (w : ∀ h' a, a = h.size → Ext h h' → ArV Z h' a (newarray.typeOf aty) (List.replicate m (defaultValue (newarray.typeOf aty))) → Exa Z h' a ad → WP k h' cells' slots' pc' ls (.ref a :: st)) : WP k h cells slots pc ls (.int n :: st) := by
  subst hp hc hs
  intro T locs X e N
  have hn' : ¬ n < 0 := by rw [Int32.lt_iff_toInt_lt, show (0 : Int32).toInt = 0 from rfl]; omega
  obtain ⟨T', h', cA, X', e', E', A', XA, stp⟩ := newPE X K.hx K.hZ hw e (g := mkF k.m pc ls.toArray (.int n :: st)) rfl (K.dec hd) rfl hn' (cap := cap) (by simp only [Int32.toNatClampNeg]; omega) hb (by rw [K.hR]; exact hc') (by rw [K.hR]; exact hs') had
  exact End.back stp (w h' _ rfl E' (ArV.new A' hn (by cases aty <;> rfl)) XA T' locs X' e' N)
/-! arrays of references -/
def ArR (Z : State) (h : Heap) (a : Addr) (ty : FieldType) (C : String) (vs : List Value) : Prop := ∃ c : Cell, Arr Z h a c ty ∧ c.slots.toList = vs ∧ vs.length < 2 ^ 31 ∧ (∀ v ∈ vs, fits ty v = true) ∧ ∃ (kk : Class) (comp : ClassId) (t : FieldType), Z.vm.classes[c.cls]? = some kk ∧ kk.kind = .array comp t ∧ Z.vm.findClass C = some comp
variable {C : String}
theorem ArR.v (A : ArR Z h a ty C vs) : ArV Z h a ty vs := by obtain ⟨c, q1, q2, q3, q4, -⟩ := A; exact ⟨c, q1, q2, q3, q4⟩
theorem ArR.lt (A : ArR Z h a ty C vs) : a < h.size := A.v.lt
theorem ArR.len (A : ArR Z h a ty C vs) : vs.length < 2 ^ 31 := by obtain ⟨c, -, -, q, -⟩ := A; exact q
theorem ArR.keep {ws : List Addr} (A : ArR Z h a ty C vs) (K : Keep h h' ws) (q : a ∉ ws) : ArR Z h' a ty C vs := by
  obtain ⟨c, A, r⟩ := A
  exact ⟨c, ⟨K.2.1 a c A.1 q, A.2⟩, r⟩
theorem ArR.ext (A : ArR Z h a ty C vs) (E : Ext h h') : ArR Z h' a ty C vs := by
  obtain ⟨c, A, r⟩ := A
  exact ⟨c, A.ext E, r⟩
theorem ArR.other {i : Nat} {v : Value} (A : ArR Z h a ty C vs) (W : Wr h h' b i v) (q : a ≠ b) : ArR Z h' a ty C vs := by
  obtain ⟨c, A, r⟩ := A
  exact ⟨c, A.other W q, r⟩
theorem ArR.sto {x : Addr} (A : ArR Z h a ty C vs) (I : Ins Z h x C true) : Sto Z h a (.ref x) := by
  obtain ⟨c, A, -, -, -, kk, comp, t, o1, o2, o3⟩ := A
  obtain ⟨cv, cT, i1, i2, i3⟩ := I
  cases o3.symm.trans i2
  simp only [Bool.and_eq_true, Bool.not_eq_true'] at i3
  obtain ⟨kc, q⟩ := Vm.classAt_of_findClass o3
  obtain ⟨kv, q2⟩ := Vm.classAt_of_assignable i3.2 ⟨kc, q⟩
  exact Or.inr ⟨c, cv, kk, kv, kc, _, _, x, A.1, o1, o2, q, rfl, i1, i3.1, q2, i3.2⟩
theorem WP.aastore (K : Ok k l Z n0 rm bytes maxL y ret Q) {j : Int32} {v : Value} (pc' i : Nat) (A : ArR Z h a ty C vs) (hty : ty.isReference = true) (F : Sto Z h a v) (hf : fits ty v = true) (hj : j.toInt = (i : Nat)) (hi : i < vs.length) (hd : decode bytes pc = .ok (.aastore, 1)) (hp : pc + 1 = pc') (ha : n0 ≤ a)
    (w : ∀ h', Keep h h' [a] → ArR Z h' a ty C (vs.set i v) → WP k h' cells slots pc' ls st) : WP k h cells slots pc ls (v :: .int j :: .ref a :: st) := by
  subst hp
  intro T locs X e N
  obtain ⟨c, A', q1, q2, q3, q4⟩ := A
  obtain ⟨r1, r2⟩ := idx_ok hj (show i < c.slots.size by have := congrArg List.length q1; simp at this; omega)
  obtain ⟨T', h', X', e', W', stp⟩ := stR X K.hx K.hZ e A' r1 hty F (g := mkF k.m pc ls.toArray (v :: .int j :: .ref a :: st)) rfl rfl (K.dec hd)
  rw [r2] at W'
  have A2 : ArR Z h' a ty C (vs.set i v) := by
    refine ⟨c.setSlot i v, A'.same W', by simp [Cell.setSlot, q1], by simpa using q2, fun u hu => ?_, q4⟩
    rcases List.mem_or_eq_of_mem_set hu with z | rfl
    · exact q3 u z
    · exact hf
  exact End.back stp (w h' (Keep.of_wr W') A2 T' _ X' e' (Fr.snoc X' N (by rw [K.hn0]; exact ha)))
theorem new_ref {cA : ClassId} {n : Int32} {m : Nat} (A : Arr Z h a (newA cA ty n) ty) (hr : ty.isReference = true) (hn : n.toInt = (m : Nat)) (O : ∃ (kk : Class) (comp : ClassId) (t : FieldType), Z.vm.classes[cA]? = some kk ∧ kk.kind = .array comp t ∧ Z.vm.findClass C = some comp) : ArR Z h a ty C (List.replicate m .null) := by
  have e : n.toNatClampNeg = m := by simp only [Int32.toNatClampNeg]; omega
  have d : defaultValue ty = .null := by cases ty <;> simp [FieldType.isReference] at hr <;> rfl
  refine ⟨_, A, ?_, ?_, fun v hv => ?_, O⟩
  · simp [newA, e, d]
  · have := n.toInt_lt; simp; omega
  · rw [List.eq_of_mem_replicate hv]; cases ty <;> simp [FieldType.isReference] at hr <;> rfl
theorem WP.anewarrayA (K : Ok k l Z n0 rm bytes maxL y ret Q) {i : Nat} {et : FieldType} {n : Int32} (pc' m cap cells' slots' : Nat) (hC : (FieldType.array et).toString = C) (h1 : (Jvm.Cond.classLink y.cls i C).before a0 Z = true) (h2 : (Jvm.Cond.arrayOver (.array et)).before a0 Z = true) (hd : decode bytes pc = .ok (.anewarray i, 3)) (hp : pc + 3 = pc') (hn : n.toInt = (m : Nat)) (hcap : m ≤ cap) (hb : cap * 8 ≤ 536870912)
    (hc : cells + 1 = cells') (hs : slots + cap = slots') (hc' : cells' ≤ rm.cells) (hs' : slots' ≤ rm.slots)
    (w : ∀ h' a, a = h.size → Ext h h' → ArR Z h' a (.array et) C (List.replicate m .null) → WP k h' cells' slots' pc' ls (.ref a :: st)) : WP k h cells slots pc ls (.int n :: st) := by
  subst hp hc hs
  intro T locs X e N
  have hn' : ¬ n < 0 := by rw [Int32.lt_iff_toInt_lt, show (0 : Int32).toInt = 0 from rfl]; omega
  obtain ⟨T', h', cA, X', e', E', A', -, O, stp⟩ := newRA X K.hx K.hZ K.hown hC h1 h2 e (g := mkF k.m pc ls.toArray (.int n :: st)) rfl (K.dec hd) rfl hn' (cap := cap) (by simp only [Int32.toNatClampNeg]; omega) hb (by rw [K.hR]; exact hc') (by rw [K.hR]; exact hs') (ad := "[" ++ C) rfl
  obtain ⟨kk, comp, o1, o2, o3⟩ := O
  exact End.back stp (w h' _ rfl E' (new_ref A' rfl hn ⟨kk, comp, _, o1, o2, o3⟩) T' locs X' e' N)
theorem WP.anewarrayO (K : Ok k l Z n0 rm bytes maxL y ret Q) {i : Nat} {n : Int32} (pc' m cap cells' slots' : Nat) (h1 : (Jvm.Cond.classLink y.cls i C).before a0 Z = true) (h2 : (Jvm.Cond.arrayOver (.object C)).before a0 Z = true) (hd : decode bytes pc = .ok (.anewarray i, 3)) (hp : pc + 3 = pc') (hn : n.toInt = (m : Nat)) (hcap : m ≤ cap) (hb : cap * 8 ≤ 536870912)
    (hc : cells + 1 = cells') (hs : slots + cap = slots') (hc' : cells' ≤ rm.cells) (hs' : slots' ≤ rm.slots)
    (w : ∀ h' a, a = h.size → Ext h h' → ArR Z h' a (.object C) C (List.replicate m .null) → WP k h' cells' slots' pc' ls (.ref a :: st)) : WP k h cells slots pc ls (.int n :: st) := by
  subst hp hc hs
  intro T locs X e N
  have hn' : ¬ n < 0 := by rw [Int32.lt_iff_toInt_lt, show (0 : Int32).toInt = 0 from rfl]; omega
  obtain ⟨T', h', cA, X', e', E', A', O, stp⟩ := newR X K.hx K.hZ K.hown h1 h2 e (g := mkF k.m pc ls.toArray (.int n :: st)) rfl (K.dec hd) rfl hn' (cap := cap) (by simp only [Int32.toNatClampNeg]; omega) hb (by rw [K.hR]; exact hc') (by rw [K.hR]; exact hs')
  obtain ⟨kk, comp, o1, o2, o3⟩ := O
  exact End.back stp (w h' _ rfl E' (new_ref A' rfl hn ⟨kk, comp, _, o1, o2, o3⟩) T' locs X' e' N)
theorem ArI.of_new {m : Nat} (A : ArV Z h a (newarray.typeOf .int) (List.replicate m (defaultValue (newarray.typeOf .int)))) : ArI Z h a (List.replicate m 0) := by
  unfold ArI; rw [List.map_replicate]; exact A
theorem ArJ.of_new {m : Nat} (A : ArV Z h a (newarray.typeOf .long) (List.replicate m (defaultValue (newarray.typeOf .long)))) : ArJ Z h a (List.replicate m 0) := by
  unfold ArJ; rw [List.map_replicate]; exact A
theorem ArB.of_new {m : Nat} (A : ArV Z h a (newarray.typeOf .byte) (List.replicate m (defaultValue (newarray.typeOf .byte)))) : ArB Z h a (List.replicate m 0) := by
  unfold ArB; rw [List.map_replicate]; exact A
theorem ArI.len {xs : List Int32} (A : ArI Z h a xs) : xs.length < 2 ^ 31 := by obtain ⟨c, -, -, q, -⟩ := A; simpa using q
theorem ArJ.len {xs : List Int64} (A : ArJ Z h a xs) : xs.length < 2 ^ 31 := by obtain ⟨c, -, -, q, -⟩ := A; simpa using q
theorem ArB.len {xs : List Int8} (A : ArB Z h a xs) : xs.length < 2 ^ 31 := by obtain ⟨c, -, -, q, -⟩ := A; simpa using q
theorem ArI.lt {xs : List Int32} (A : ArI Z h a xs) : a < h.size := ArV.lt A
theorem ArI.keep {xs : List Int32} {ws : List Addr} (A : ArI Z h a xs) (K : Keep h h' ws) (q : a ∉ ws) : ArI Z h' a xs := ArV.keep A K q
theorem ArI.ext {xs : List Int32} (A : ArI Z h a xs) (E : Ext h h') : ArI Z h' a xs := ArV.ext A E
theorem ArI.other {xs : List Int32} {i : Nat} {v : Value} (A : ArI Z h a xs) (W : Wr h h' b i v) (q : a ≠ b) : ArI Z h' a xs := ArV.other A W q
theorem ArJ.lt {xs : List Int64} (A : ArJ Z h a xs) : a < h.size := ArV.lt A
theorem ArJ.keep {xs : List Int64} {ws : List Addr} (A : ArJ Z h a xs) (K : Keep h h' ws) (q : a ∉ ws) : ArJ Z h' a xs := ArV.keep A K q
theorem ArJ.ext {xs : List Int64} (A : ArJ Z h a xs) (E : Ext h h') : ArJ Z h' a xs := ArV.ext A E
theorem ArJ.other {xs : List Int64} {i : Nat} {v : Value} (A : ArJ Z h a xs) (W : Wr h h' b i v) (q : a ≠ b) : ArJ Z h' a xs := ArV.other A W q
theorem ArB.lt {xs : List Int8} (A : ArB Z h a xs) : a < h.size := ArV.lt A
theorem ArB.keep {xs : List Int8} {ws : List Addr} (A : ArB Z h a xs) (K : Keep h h' ws) (q : a ∉ ws) : ArB Z h' a xs := ArV.keep A K q
theorem ArB.ext {xs : List Int8} (A : ArB Z h a xs) (E : Ext h h') : ArB Z h' a xs := ArV.ext A E
theorem ArB.other {xs : List Int8} {i : Nat} {v : Value} (A : ArB Z h a xs) (W : Wr h h' b i v) (q : a ≠ b) : ArB Z h' a xs := ArV.other A W q
/-! calls by contract -/
theorem WP.callS (K : Ok k l Z n0 rm bytes maxL y ret Q) {i maxL' : Nat} {y' : MethodName} {bytes' : ByteArray} {ret' : Option FieldType} {rm' : Room} {as : Array Value} {Q' : Option Value → Heap → Prop} {ps : List FieldType} {rt : Option FieldType} (pc' cells' slots' W : Nat) (argsL rest : List Value)
    (h1 : (Jvm.Cond.methodLink y.cls i y').before a0 Z = true) (h2 : (Jvm.Cond.static y').before a0 Z = true) (h3 : (Jvm.Cond.initialized y'.cls).before a0 Z = true) (h4 : (Jvm.Cond.code y' bytes' maxL' ret').before a0 Z = true)
    (hy : y'.cls ≠ "java/lang/invoke/MethodHandle" ∧ y'.cls ≠ "java/lang/invoke/VarHandle") (hpd : parseMethodDescriptor y'.desc = some ⟨ps, rt⟩) (hlen : argsL.length = ps.length) (has : argsL.toArray = as) (hst : argsL.reverse ++ rest = st)
    (hf : rm'.frames + 1 ≤ rm.frames) (hl : W + (maxL' + 11) + rm'.locals ≤ rm.locals) (hW : (rest.map fun v => v.category).sum ≤ W) (hsz : ls.length = maxL) (hd : decode bytes pc = .ok (.invokestatic i, 3)) (hp : pc + 3 = pc')
    (hc : cells + rm'.cells = cells') (hs : slots + rm'.slots = slots') (hc' : cells' ≤ rm.cells) (hs' : slots' ≤ rm.slots) (C : Con l Z y' bytes' maxL' ret' rm' n0 as h Q')
    (w : ∀ v h', Q' v h' → WP k h' cells' slots' pc' ls (v.toList ++ rest)) : WP k h cells slots pc ls st := by
  subst hp hc hs hst has
  obtain ⟨hx, hZ, rfl, hby, hml, hown, hret, hlk, hnm, rfl, rfl, rfl, hQ0, hfin⟩ := K
  intro T locs X e N
  obtain ⟨v, vm1, ⟨T', L', k', n'⟩, -, X', ⟨Lc, ⟨hQ, hN⟩, l', y'', z'⟩, stp⟩ := Jvm.LawKit.callS X hx hown (mvT hZ h1) (mvT hZ h2) (mvT hZ h3) (mvT hZ h4) hy (backOf (W := W) (Q := fun v h L => Q' v h ∧ Fr k.n0 L) (C []) hZ h4 h3 hf hl) (g := mkF k.m pc ls.toArray (argsL.reverse ++ rest)) rfl (by rw [hml]; simpa using hsz) (lenOf hpd hlen) rfl (by show 2 * 0 + _ ≤ _; omega) (hb hby hd) (fun _ _ => ⟨rfl, e, hc', hs'⟩)
  dsimp only [Pt.U, Pt.locs, Pt.cells, Pt.slots] at X' l' y'' z' stp hQ
  subst l' y'' z'
  exact End.back stp (w v _ hQ T' _ X' rfl (Fr.app N hN))
theorem WP.callI (K : Ok k l Z n0 rm bytes maxL y ret Q) {i maxL' : Nat} {y' : MethodName} {bytes' : ByteArray} {rm' : Room} {as : Array Value} {Q' : Option Value → Heap → Prop} {ps : List FieldType} {rt : Option FieldType} (pc' cells' slots' W : Nat) (argsL rest : List Value)
    (h1 : (Jvm.Cond.methodLink y.cls i y').before a0 Z = true) (h2 : (Jvm.Cond.instanceMethod y').before a0 Z = true) (h3 : (Jvm.Cond.initialized y'.cls).before a0 Z = true) (h4 : (Jvm.Cond.code y' bytes' maxL' none).before a0 Z = true) (hy1 : y'.name = "<init>")
    (hy : y'.cls ≠ "java/lang/invoke/MethodHandle" ∧ y'.cls ≠ "java/lang/invoke/VarHandle") (hpd : parseMethodDescriptor y'.desc = some ⟨ps, rt⟩) (hlen : argsL.length = ps.length) (has : (.ref a :: argsL).toArray = as) (hst : argsL.reverse ++ .ref a :: rest = st)
    (hf : rm'.frames + 1 ≤ rm.frames) (hl : W + (maxL' + 11) + rm'.locals ≤ rm.locals) (hW : (rest.map fun v => v.category).sum ≤ W) (hsz : ls.length = maxL) (hd : decode bytes pc = .ok (.invokespecial i, 3)) (hp : pc + 3 = pc')
    (hc : cells + rm'.cells = cells') (hs : slots + rm'.slots = slots') (hc' : cells' ≤ rm.cells) (hs' : slots' ≤ rm.slots) (C : Con l Z y' bytes' maxL' none rm' n0 as h Q')
    (w : ∀ v h', Q' v h' → WP k h' cells' slots' pc' ls (v.toList ++ rest)) : WP k h cells slots pc ls st := by
  subst hp hc hs hst has
  obtain ⟨hx, hZ, rfl, hby, hml, hown, hret, hlk, hnm, rfl, rfl, rfl, hQ0, hfin⟩ := K
  intro T locs X e N
  obtain ⟨v, vm1, ⟨T', L', k', n'⟩, -, X', ⟨Lc, ⟨hQ, hN⟩, l', y'', z'⟩, stp⟩ := Stand.specialBack X hx hy1 hown (mvT hZ h1) (mvT hZ h2) (mvT hZ h4) hy (backOf (W := W) (Q := fun v h L => Q' v h ∧ Fr k.n0 L) (C []) hZ h4 h3 hf hl) (g := mkF k.m pc ls.toArray (argsL.reverse ++ .ref a :: rest)) rfl (by rw [hml]; simpa using hsz) (Steps.refl _) (a := a) (argsL := argsL) (rest := rest) (lenOf hpd hlen) rfl (by show 2 * 0 + _ ≤ _; omega) (hb hby hd) (fun _ _ => ⟨rfl, e, hc', hs'⟩)
  dsimp only [Pt.U, Pt.locs, Pt.cells, Pt.slots] at X' l' y'' z' stp hQ
  subst l' y'' z'
  exact End.back (fun t q => stp.trans q) (w v _ hQ T' _ X' rfl (Fr.app N hN))
theorem WP.callV (K : Ok k l Z n0 rm bytes maxL y ret Q) {i maxL' : Nat} {y' z : MethodName} {C : String} {bytes' : ByteArray} {ret' : Option FieldType} {rm' : Room} {as : Array Value} {Q' : Option Value → Heap → Prop} {ps : List FieldType} {rt : Option FieldType} (pc' cells' slots' W : Nat) (argsL rest : List Value)
    (h1 : (Jvm.Cond.methodLink y.cls i y').before a0 Z = true) (h2 : (Jvm.Cond.declares y').before a0 Z = true) (hzy : z = y') (h5 : (Jvm.Cond.selects C y' z).before a0 Z = true) (h6 : (Jvm.Cond.instanceMethod z).before a0 Z = true) (h3 : (Jvm.Cond.initialized z.cls).before a0 Z = true) (h4 : (Jvm.Cond.code z bytes' maxL' ret').before a0 Z = true)
    (hy : y'.cls ≠ "java/lang/invoke/MethodHandle" ∧ y'.cls ≠ "java/lang/invoke/VarHandle") (hpd : parseMethodDescriptor y'.desc = some ⟨ps, rt⟩) (hlen : argsL.length = ps.length) (has : (.ref a :: argsL).toArray = as) (hst : argsL.reverse ++ .ref a :: rest = st)
    (hf : rm'.frames + 1 ≤ rm.frames) (hl : W + (maxL' + 11) + rm'.locals ≤ rm.locals) (hW : (rest.map fun v => v.category).sum ≤ W) (hsz : ls.length = maxL) (hd : decode bytes pc = .ok (.invokevirtual i, 3)) (hp : pc + 3 = pc')
    (hc : cells + rm'.cells = cells') (hs : slots + rm'.slots = slots') (hc' : cells' ≤ rm.cells) (hs' : slots' ≤ rm.slots) (E : Exa Z h a C) (Cn : Con l Z z bytes' maxL' ret' rm' n0 as h Q')
    (w : ∀ v h', Q' v h' → WP k h' cells' slots' pc' ls (v.toList ++ rest)) : WP k h cells slots pc ls st := by
  subst hzy hp hc hs hst has
  obtain ⟨hx, hZ, rfl, hby, hml, hown, hret, hlk, hnm, rfl, rfl, rfl, hQ0, hfin⟩ := K
  intro T locs X e N
  obtain ⟨cq, kq, qa, qb, qc⟩ := isOf hZ e E
  obtain ⟨v, vm1, ⟨T', L', k', n'⟩, -, X', ⟨Lc, ⟨hQ, hN⟩, l', y'', z'⟩, stp⟩ := Stand.virtualBack X hx hown (mvT hZ h1) (mvT hZ h2) (notFace_of_selects (args := #[]) (mvT hZ h5)) (mvT hZ h5) (mvT hZ h6) hy (backOf (W := W) (Q := fun v h L => Q' v h ∧ Fr k.n0 L) (Cn []) hZ h4 h3 hf hl) qa qc (g := mkF k.m pc ls.toArray (argsL.reverse ++ .ref a :: rest)) rfl (by rw [hml]; simpa using hsz) (Steps.refl _) (argsL := argsL) (rest := rest) (lenOf hpd hlen) rfl (by show 2 * 0 + _ ≤ _; omega) (hb hby hd) (fun _ _ => ⟨rfl, e, hc', hs'⟩)
  dsimp only [Pt.U, Pt.locs, Pt.cells, Pt.slots] at X' l' y'' z' stp hQ
  subst l' y'' z'
  exact End.back (fun t q => stp.trans q) (w v _ hQ T' _ X' rfl (Fr.app N hN))
theorem r1_next {Q' : Value → Heap → Prop} {cells' slots' pc' : Nat} {rest : List Value} (w : ∀ r h', Q' r h' → WP k h' cells' slots' pc' ls (r :: rest)) : ∀ v h', R1 Q' v h' → WP k h' cells' slots' pc' ls (v.toList ++ rest) := fun v h' q => by
  obtain ⟨r, rfl, q⟩ := q; exact w r h' q
theorem r0_next {Q' : Heap → Prop} {cells' slots' pc' : Nat} {rest : List Value} (w : ∀ h', Q' h' → WP k h' cells' slots' pc' ls rest) : ∀ v h', R0 Q' v h' → WP k h' cells' slots' pc' ls (v.toList ++ rest) := fun v h' q => by
  obtain ⟨rfl, q⟩ := q; exact w h' q
end HeapSteps
end Jvm.OwnWP
namespace Jvm.OwnWP
theorem i32_of {n : Nat} (h : n < 2 ^ 31) : ∃ z : Int32, z.toInt = (n : Nat) := ⟨Int32.ofNat n, Int32.toInt_ofNat_of_lt h⟩
theorem i32_rng (x : Int32) : -2147483648 ≤ x.toInt ∧ x.toInt < 2147483648 := ⟨x.le_toInt, x.toInt_lt⟩
theorem i64_rng (x : Int64) : -9223372036854775808 ≤ x.toInt ∧ x.toInt < 9223372036854775808 := ⟨x.le_toInt, x.toInt_lt⟩
theorem i32_add {x y : Int32} (h1 : -2147483648 ≤ x.toInt + y.toInt) (h2 : x.toInt + y.toInt < 2147483648) : (x + y).toInt = x.toInt + y.toInt := Jvm.Free.XT.add32 ⟨by omega, by omega⟩
theorem i32_sub {x y : Int32} (h1 : -2147483648 ≤ x.toInt - y.toInt) (h2 : x.toInt - y.toInt < 2147483648) : (x - y).toInt = x.toInt - y.toInt := Jvm.Free.XT.sub32 ⟨by omega, by omega⟩
theorem i64_add {x y : Int64} (h1 : -9223372036854775808 ≤ x.toInt + y.toInt) (h2 : x.toInt + y.toInt < 9223372036854775808) : (x + y).toInt = x.toInt + y.toInt := Jvm.Free.XT.add64 ⟨by omega, by omega⟩
theorem i64_sub {x y : Int64} (h1 : -9223372036854775808 ≤ x.toInt - y.toInt) (h2 : x.toInt - y.toInt < 9223372036854775808) : (x - y).toInt = x.toInt - y.toInt := Jvm.Free.XT.sub64 ⟨by omega, by omega⟩
theorem inc32 {x : Int32} {n : Nat} (h : x.toInt = (n : Nat)) (hn : n < 2147483647) : (x + (1 : Int32)).toInt = ((n + 1 : Nat) : Int) := by
  have e1 : (1 : Int32).toInt = 1 := rfl
  rw [i32_add (by omega) (by omega)]; omega
theorem i32_eq {x y : Int32} (h : x.toInt = y.toInt) : x = y := Int32.toInt_inj.mp h
theorem i64_eq {x y : Int64} (h : x.toInt = y.toInt) : x = y := Int64.toInt_inj.mp h
theorem ite01 (P : Prop) [Decidable P] : ∃ t : Int, (if P then (1 : Int) else 0) = t ∧ (P → t = 1) ∧ (¬ P → t = 0) := by
  by_cases h : P
  · exact ⟨1, by simp [h], fun _ => rfl, fun q => absurd h q⟩
  · exact ⟨0, by simp [h], fun q => absurd q h, fun _ => rfl⟩
theorem i32_mul {x y : Int32} (h1 : -2147483648 ≤ x.toInt * y.toInt) (h2 : x.toInt * y.toInt < 2147483648) : (x * y).toInt = x.toInt * y.toInt := Jvm.Free.XT.mul32 ⟨by omega, by omega⟩
theorem st1 {ls : List Slot} {i : Nat} {o : Slot} {v : Value} (h : ls[i]? = some o) (ho : Jvm.RoadKit.One o) (hv : v.category = 1) : storeLocals ls.toArray i v = some (ls.set i (.val v)).toArray := by
  rw [Jvm.Free.XS.store1 (o := o) (by simpa using h) ho hv]; simp
theorem ushr1 {x : Int32} (h : 0 ≤ x.toInt) : (Jvm.Free.XT.ushr x 1).toInt = x.toInt / 2 := by
  have := Jvm.RoadKit.c_iushr x 1 1 rfl (by decide)
  have r := i32_rng x
  unfold Jvm.Free.XT.ushr
  rw [this]; omega
def min32 (x y : Int32) : Int32 := if x.toInt ≤ y.toInt then x else y
def max32 (x y : Int32) : Int32 := if x.toInt ≤ y.toInt then y else x
theorem min32_spec (x y : Int32) : (x.toInt ≤ y.toInt → (min32 x y).toInt = x.toInt) ∧ (y.toInt < x.toInt → (min32 x y).toInt = y.toInt) := by
  unfold min32; split <;> constructor <;> intro <;> first | rfl | omega
theorem max32_spec (x y : Int32) : (x.toInt ≤ y.toInt → (max32 x y).toInt = y.toInt) ∧ (y.toInt < x.toInt → (max32 x y).toInt = x.toInt) := by
  unfold max32; split <;> constructor <;> intro <;> first | rfl | omega
def min64 (x y : Int64) : Int64 := if x.toInt ≤ y.toInt then x else y
def max64 (x y : Int64) : Int64 := if x.toInt ≤ y.toInt then y else x
theorem min64_spec (x y : Int64) : (x.toInt ≤ y.toInt → (min64 x y).toInt = x.toInt) ∧ (y.toInt < x.toInt → (min64 x y).toInt = y.toInt) := by
  unfold min64; split <;> constructor <;> intro <;> first | rfl | omega
theorem max64_spec (x y : Int64) : (x.toInt ≤ y.toInt → (max64 x y).toInt = y.toInt) ∧ (y.toInt < x.toInt → (max64 x y).toInt = x.toInt) := by
  unfold max64; split <;> constructor <;> intro <;> first | rfl | omega
end Jvm.OwnWP
namespace Jvm.OwnWP
open Sem ClassFile Op Lib Jvm.Stand Jvm.Free Jvm.LawKit Jvm.RoadKit
theorem pop2L_step {tb : Tables} [Ours tb] {e : Env} {below : List Frame} {T target : State} {m : MethodId} {c : Code} {g : JFrame} (h : At T m c below) (hx : tb.exec = Jvm.exec) (hg : g.method = m) {x : Int64} {rest : List Value} (hd : decode c.code g.pc = .ok (.pop2, 1)) (hs : g.stack = .long x :: rest)
    (hr : Steps tb e below (T.setTop { g with pc := g.pc + 1, stack := rest }) target) : Steps tb e below (T.setTop g) target := by
  subst hg
  have hc : (Value.long x).category = 2 := rfl
  jvm_step h [h.top, hx, hd, Op.pop2.wp_sem, hs, hc]
  exact hr
section More
variable {k : Cx} {l : Launch} {Z : State} {n0 : Nat} {rm : Room} {bytes : ByteArray} {maxL : Nat} {y : MethodName} {ret : Option FieldType} {Q : Option Value → Heap → Prop} {h h' : Heap} {cells slots pc : Nat} {ls : List Slot} {st : List Value} {a0 : Array Value} {a b : Addr}
theorem WP.callP (K : Ok k l Z n0 rm bytes maxL y ret Q) {i maxL' : Nat} {y' : MethodName} {C : String} {bytes' : ByteArray} {ret' : Option FieldType} {rm' : Room} {as : Array Value} {Q' : Option Value → Heap → Prop} {ps : List FieldType} {rt : Option FieldType} (pc' cells' slots' W : Nat) (argsL rest : List Value)
    (h1 : (Jvm.Cond.methodLink y.cls i y').before a0 Z = true) (h2 : (Jvm.Cond.instanceMethod y').before a0 Z = true) {C0 : String} {u0 u : MethodName} (hu : u.cls = y'.cls) (h5 : (Jvm.Cond.selects C0 u0 u).before a0 Z = true) (h6 : (Jvm.Cond.privateMethod y').before a0 Z = true) (h3 : (Jvm.Cond.initialized y'.cls).before a0 Z = true) (h4 : (Jvm.Cond.code y' bytes' maxL' ret').before a0 Z = true)
    (hy : y'.cls ≠ "java/lang/invoke/MethodHandle" ∧ y'.cls ≠ "java/lang/invoke/VarHandle") (hpd : parseMethodDescriptor y'.desc = some ⟨ps, rt⟩) (hlen : argsL.length = ps.length) (has : (.ref a :: argsL).toArray = as) (hst : argsL.reverse ++ .ref a :: rest = st)
    (hf : rm'.frames + 1 ≤ rm.frames) (hl : W + (maxL' + 11) + rm'.locals ≤ rm.locals) (hW : (rest.map fun v => v.category).sum ≤ W) (hsz : ls.length = maxL) (hd : decode bytes pc = .ok (.invokevirtual i, 3)) (hp : pc + 3 = pc')
    (hc : cells + rm'.cells = cells') (hs : slots + rm'.slots = slots') (hc' : cells' ≤ rm.cells) (hs' : slots' ≤ rm.slots) (E : Exa Z h a C) (Cn : Con l Z y' bytes' maxL' ret' rm' n0 as h Q')
    (w : ∀ v h', Q' v h' → WP k h' cells' slots' pc' ls (v.toList ++ rest)) : WP k h cells slots pc ls st := by
  subst hp hc hs hst has
  obtain ⟨hx, hZ, rfl, hby, hml, hown, hret, hlk, hnm, rfl, rfl, rfl, hQ0, hfin⟩ := K
  intro T locs X e N
  obtain ⟨cq, qc, qo⟩ := E.cell
  have hsel : (Jvm.Cond.selects y'.cls y' y').before k.args k.s = true := by
    obtain ⟨-, -, mm, -, -, q3, -, kP, hkP, hkPi⟩ := Cond.selects_spec (mvT hZ h5 (args := k.args))
    exact Stand.selects_self_of_private (by rw [← hu]; exact findClass_of_methodNamed q3) hkP hkPi (Cond.privateMethod_at (mvP hZ h6 (args := #[]))) (mvT hZ h2) hy
  obtain ⟨v, vm1, ⟨T', L', k', n'⟩, -, X', ⟨Lc, ⟨hQ, hN⟩, l', y'', z'⟩, stp⟩ := Stand.privateBack X hx hown (mvT hZ h1) (mvT hZ h2) hsel (Cond.privateMethod_at (mvP hZ h6 (args := #[]))) (mvT hZ h4) hy (backOf (W := W) (Q := fun v h L => Q' v h ∧ Fr k.n0 L) (Cn []) hZ h4 h3 hf hl) (g := mkF k.m pc ls.toArray (argsL.reverse ++ .ref a :: rest)) rfl (by rw [hml]; simpa using hsz) (Steps.refl _) (a := a) (by rw [e]; exact qc) qo (argsL := argsL) (rest := rest) (lenOf hpd hlen) rfl (by show 2 * 0 + _ ≤ _; omega) (hb hby hd) (fun _ _ => ⟨rfl, e, hc', hs'⟩)
  dsimp only [Pt.U, Pt.locs, Pt.cells, Pt.slots] at X' l' y'' z' stp hQ
  subst l' y'' z'
  exact End.back (fun t q => stp.trans q) (w v _ hQ T' _ X' rfl (Fr.app N hN))
theorem WP.callF (K : Ok k l Z n0 rm bytes maxL y ret Q) {i cnt maxL' : Nat} {y' z : MethodName} {C : String} {bytes' : ByteArray} {ret' : Option FieldType} {rm' : Room} {as : Array Value} {Q' : Option Value → Heap → Prop} {ps : List FieldType} {rt : Option FieldType} (pc' cells' slots' W : Nat) (argsL rest : List Value)
    (h1 : (Jvm.Cond.methodLink y.cls i y').before a0 Z = true) (h2 : (Jvm.Cond.declares y').before a0 Z = true) (h7 : (Jvm.Cond.interfaceMethod y'.cls y'.cls y'.name y'.desc).before a0 Z = true) (hfa : ((Jvm.Cond.interfaceMethod y'.cls y'.cls y'.name y'.desc).onTables && (Jvm.Cond.interfaceMethod y'.cls y'.cls y'.name y'.desc).keepsFace) = true) (h5 : (Jvm.Cond.selects C y' z).before a0 Z = true) (h6 : (Jvm.Cond.instanceMethod z).before a0 Z = true)
    (h8 : (Jvm.Cond.publicMethod z).before a0 Z = true) (h9 : (Jvm.Cond.unhidden C y'.name y'.desc).before a0 Z = true) (h10 : (Jvm.Cond.castable C y'.cls).before a0 Z = true) (h3 : (Jvm.Cond.initialized z.cls).before a0 Z = true) (h4 : (Jvm.Cond.code z bytes' maxL' ret').before a0 Z = true)
    (hy : y'.cls ≠ "java/lang/invoke/MethodHandle" ∧ y'.cls ≠ "java/lang/invoke/VarHandle") (hpd : parseMethodDescriptor y'.desc = some ⟨ps, rt⟩) (hlen : argsL.length = ps.length) (has : (.ref a :: argsL).toArray = as) (hst : argsL.reverse ++ .ref a :: rest = st)
    (hf : rm'.frames + 1 ≤ rm.frames) (hl : W + (maxL' + 11) + rm'.locals ≤ rm.locals) (hW : (rest.map fun v => v.category).sum ≤ W) (hsz : ls.length = maxL) (hd : decode bytes pc = .ok (.invokeinterface i cnt, 5)) (hp : pc + 5 = pc')
    (hc : cells + rm'.cells = cells') (hs : slots + rm'.slots = slots') (hc' : cells' ≤ rm.cells) (hs' : slots' ≤ rm.slots) (E : Exa Z h a C) (Cn : Con l Z z bytes' maxL' ret' rm' n0 as h Q')
    (w : ∀ v h', Q' v h' → WP k h' cells' slots' pc' ls (v.toList ++ rest)) : WP k h cells slots pc ls st := by
  subst hp hc hs hst has
  obtain ⟨hx, hZ, rfl, hby, hml, hown, hret, hlk, hnm, rfl, rfl, rfl, hQ0, hfin⟩ := K
  intro T locs X e N
  obtain ⟨cq, kq, qa, qb, qc⟩ := isOf hZ e E
  obtain ⟨v, vm1, ⟨T', L', k', n'⟩, -, X', ⟨Lc, ⟨hQ, hN⟩, l', y'', z'⟩, stp⟩ := Stand.interfaceBack X hx hown (mvT hZ h1) (mvT hZ h2) (mvT hZ h7 hfa) (mvT hZ h5) (mvT hZ h6) (mvT hZ h8) (mvT hZ h9) (mvT hZ h10) hy (backOf (W := W) (Q := fun v h L => Q' v h ∧ Fr k.n0 L) (Cn []) hZ h4 h3 hf hl) qa qb qc (g := mkF k.m pc ls.toArray (argsL.reverse ++ .ref a :: rest)) rfl (by rw [hml]; simpa using hsz) (Steps.refl _) (argsL := argsL) (rest := rest) (lenOf hpd hlen) rfl (by show 2 * 0 + _ ≤ _; omega) (hb hby hd) (fun _ _ => ⟨rfl, e, hc', hs'⟩)
  dsimp only [Pt.U, Pt.locs, Pt.cells, Pt.slots] at X' l' y'' z' stp hQ
  subst l' y'' z'
  exact End.back (fun t q => stp.trans q) (w v _ hQ T' _ X' rfl (Fr.app N hN))
theorem WP.callSN (K : Ok k l Z n0 rm bytes maxL y ret Q) {i maxL' : Nat} {host : String} {y' : MethodName} {bytes' : ByteArray} {ret' : Option FieldType} {rm' : Room} {as : Array Value} {Q' : Option Value → Heap → Prop} {ps : List FieldType} {rt : Option FieldType} (pc' cells' slots' W : Nat) (argsL rest : List Value)
    (h1 : (Jvm.Cond.methodLinkNest y.cls i y' host).before a0 Z = true) (h2 : (Jvm.Cond.static y').before a0 Z = true) (h3 : (Jvm.Cond.initialized y'.cls).before a0 Z = true) (h4 : (Jvm.Cond.code y' bytes' maxL' ret').before a0 Z = true)
    (hy : y'.cls ≠ "java/lang/invoke/MethodHandle" ∧ y'.cls ≠ "java/lang/invoke/VarHandle") (hpd : parseMethodDescriptor y'.desc = some ⟨ps, rt⟩) (hlen : argsL.length = ps.length) (has : argsL.toArray = as) (hst : argsL.reverse ++ rest = st)
    (hf : rm'.frames + 1 ≤ rm.frames) (hl : W + (maxL' + 11) + rm'.locals ≤ rm.locals) (hW : (rest.map fun v => v.category).sum ≤ W) (hsz : ls.length = maxL) (hd : decode bytes pc = .ok (.invokestatic i, 3)) (hp : pc + 3 = pc')
    (hc : cells + rm'.cells = cells') (hs : slots + rm'.slots = slots') (hc' : cells' ≤ rm.cells) (hs' : slots' ≤ rm.slots) (C : Con l Z y' bytes' maxL' ret' rm' n0 as h Q')
    (w : ∀ v h', Q' v h' → WP k h' cells' slots' pc' ls (v.toList ++ rest)) : WP k h cells slots pc ls st := by
  subst hp hc hs hst has
  obtain ⟨hx, hZ, rfl, hby, hml, hown, hret, hlk, hnm, rfl, rfl, rfl, hQ0, hfin⟩ := K
  intro T locs X e N
  obtain ⟨v, vm1, ⟨T', L', k', n'⟩, -, X', ⟨Lc, ⟨hQ, hN⟩, l', y'', z'⟩, stp⟩ := RoadKit.callSN X hx hown (Cond.methodLinkNest_wide hZ h1 :) (mvT hZ h2) (mvT hZ h3) (mvT hZ h4) hy (backOf (W := W) (Q := fun v h L => Q' v h ∧ Fr k.n0 L) (C []) hZ h4 h3 hf hl) (g := mkF k.m pc ls.toArray (argsL.reverse ++ rest)) rfl (by rw [hml]; simpa using hsz) (lenOf hpd hlen) rfl (by show 2 * 0 + _ ≤ _; omega) (hb hby hd) (fun _ _ => ⟨rfl, e, hc', hs'⟩)
  dsimp only [Pt.U, Pt.locs, Pt.cells, Pt.slots] at X' l' y'' z' stp hQ
  subst l' y'' z'
  exact End.back (fun t q => stp.trans q) (w v _ hQ T' _ X' rfl (Fr.app N hN))
theorem WP.getstaticN (K : Ok k l Z n0 rm bytes maxL y ret Q) {i : Nat} {R0 O n d host : String} {v : Value} (pc' : Nat) (hw : (Jvm.Cond.fieldLinkNest y.cls i R0 n d host).before a0 Z = true) (via : Via Z R0 O n d) (F : Sta Z h O n d v) (hd : decode bytes pc = .ok (.getstatic i, 3)) (hp : pc + 3 = pc')
    (w : WP k h cells slots pc' ls (v :: st)) : WP k h cells slots pc ls st := by
  subst hp
  intro T locs X e N
  obtain ⟨T', X', e', stp⟩ := getS2 X K.hx K.hZ K.hown (Or.inr hw) via e F (g := mkF k.m pc ls.toArray st) rfl (K.dec hd)
  exact End.back stp (w T' locs X' e' N)
theorem WP.pop2L (K : Ok k l Z n0 rm bytes maxL y ret Q) {x : Int64} (pc' : Nat) (hd : decode bytes pc = .ok (.pop2, 1)) (hp : pc + 1 = pc') (w : WP k h cells slots pc' ls st) : WP k h cells slots pc ls (.long x :: st) := by
  subst hp; exact w.plain fun T A t q => pop2L_step A K.hx rfl (K.dec hd) rfl q
/-! System.arraycopy -/
variable {ty : FieldType} {vs : List Value}
theorem ArV.arv (A : ArV Z h a ty vs) (d : Value) : ∃ (kk : ClassId) (z : Int32), Arv Z h a kk ty z vs d ∧ z.toNatClampNeg = vs.length := by
  obtain ⟨c, A, q1, q2, q3⟩ := A
  have hz : (Int32.ofNat vs.length).toInt = (vs.length : Nat) := Int32.toInt_ofNat_of_lt q2
  have e : (Int32.ofNat vs.length).toNatClampNeg = vs.length := by simp only [Int32.toNatClampNeg]; omega
  have es : c.slots.size = vs.length := by rw [← q1]; simp
  have hg : ∀ i, i < c.slots.size → c.slots[i]? = some (vs.getD i d) := fun i hi => by
    rw [List.getD_eq_getElem?_getD, ← q1]; simp [hi]
  refine ⟨c.cls, Int32.ofNat vs.length, ⟨c, A, rfl, by rw [e, es], by rw [Int32.lt_iff_toInt_lt, show (0 : Int32).toInt = 0 from rfl]; omega, hg, fun i hi => ?_⟩, e⟩
  have := hg i hi
  refine q3 _ ?_
  obtain ⟨h1, h2⟩ := Array.getElem?_eq_some_iff.mp this
  rw [← h2, ← q1]; simp
theorem ArV.of_arv {kk : ClassId} {z : Int32} {d : Value} (B : Arv Z h a kk ty z vs d) (hl : z.toNatClampNeg = vs.length) : ArV Z h a ty vs := by
  obtain ⟨c, A, -, S, hz, H, G⟩ := B
  have es : c.slots.size = vs.length := by rw [S, hl]
  have hr := z.toInt_lt
  have e : c.slots.toList = vs := by
    apply List.ext_getElem?
    intro i
    by_cases q : i < vs.length
    · have := H i (by omega)
      rw [List.getD_eq_getElem?_getD, List.getElem?_eq_getElem q] at this
      rw [Array.getElem?_toList, this, List.getElem?_eq_getElem q]; rfl
    · rw [List.getElem?_eq_none (by simpa [es] using q), List.getElem?_eq_none (by omega)]
  refine ⟨c, A, e, by rw [← hl]; simp only [Int32.toNatClampNeg]; omega, fun v hv => ?_⟩
  obtain ⟨i, h1, h2⟩ := List.mem_iff_getElem.mp hv
  have := G i (by omega)
  rw [List.getD_eq_getElem?_getD, List.getElem?_eq_getElem h1] at this
  rw [← h2]; exact this
theorem seg_eq {α : Type} (xs : List α) (d : α) (s n : Nat) (h : s + n ≤ xs.length) : (List.range n).map (fun i => xs.getD (s + i) d) = (xs.drop s).take n := by
  apply List.ext_getElem?
  intro i
  by_cases q : i < n
  · rw [List.getElem?_map, List.getElem?_range q, List.getElem?_take_of_lt q, List.getElem?_drop, List.getElem?_eq_getElem (by omega)]
    simp [List.getD_eq_getElem?_getD, List.getElem?_eq_getElem (show s + i < xs.length by omega)]
  · rw [List.getElem?_eq_none (by simp; omega), List.getElem?_eq_none (by simp; omega)]
theorem WP.acopyV (K : Ok k l Z n0 rm bytes maxL y ret Q) {i : Nat} {xs ys : List Value} {sp dp nn : Int32} (pc' W s d n : Nat) (h1 : (Jvm.Cond.methodLink y.cls i Jvm.Stand.acN).before a0 Z = true) (h2 : (Jvm.Cond.native Jvm.Stand.acN).before a0 Z = true) (h3 : (Jvm.Cond.static Jvm.Stand.acN).before a0 Z = true) (h4 : (Jvm.Cond.initialized "java/lang/System").before a0 Z = true)
    (A : ArV Z h a ty xs) (B : ArV Z h b ty ys) (hty : refKind ty = false ∨ (refKind ty = true ∧ n = 0)) (hs : sp.toInt = (s : Nat)) (hdp : dp.toInt = (d : Nat)) (hn : nn.toInt = (n : Nat)) (hsn : s + n ≤ xs.length) (hdn : d + n ≤ ys.length) (ha : n0 ≤ b) (hsz : ls.length = maxL) (hf : 1 ≤ rm.frames)
    (hW : (st.map fun v => v.category).sum ≤ W) (hlo : W + (nativeFrameWords "java/lang/System" "arraycopy" 5 + 11) ≤ rm.locals) (hd : decode bytes pc = .ok (.invokestatic i, 3)) (hp : pc + 3 = pc')
    (w : ∀ h', Keep h h' [b] → ArV Z h' b ty (ys.take d ++ (xs.drop s).take n ++ ys.drop (d + n)) → WP k h' cells slots pc' ls st) : WP k h cells slots pc ls (.int nn :: .int dp :: .ref b :: .int sp :: .ref a :: st) := by
  subst hp
  obtain ⟨hx, hZ, rfl, hby, hml, hown, hret, hlk, hnm, rfl, rfl, rfl, hQ0, hfin⟩ := K
  intro T locs X e N
  obtain ⟨ka, za, Aa, ea⟩ := A.arv .null
  obtain ⟨kb, zb, Bb, eb⟩ := B.arv .null
  have neg : ∀ {x : Int32} {m : Nat}, x.toInt = (m : Nat) → ¬ x < 0 ∧ x.toNatClampNeg = m := fun {x m} q => ⟨by rw [Int32.lt_iff_toInt_lt, show (0 : Int32).toInt = 0 from rfl]; omega, by simp only [Int32.toNatClampNeg]; omega⟩
  obtain ⟨s1, s2⟩ := neg hs
  obtain ⟨d1, d2⟩ := neg hdp
  obtain ⟨n1, n2⟩ := neg hn
  obtain ⟨T', h', L', X', e', N', K', B', stp⟩ := cpA X hx hZ hown h1 h2 h3 h4 e Aa Bb (us := (xs.drop s).take n) (by rcases hty with q | ⟨q, rfl⟩; exact Or.inl ⟨rfl, q⟩; exact Or.inr ⟨q, q, by simp [StoL]⟩) s1 d1 n1 (by rw [s2, n2, ea]; exact hsn) (by rw [d2, n2, eb]; exact hdn) (by rw [s2, n2]; exact (seg_eq xs .null s n hsn).symm) (by rw [d2, n2]; exact hdn) N ha
    (g := mkF k.m pc ls.toArray (.int nn :: .int dp :: .ref b :: .int sp :: .ref a :: st)) rfl (by rw [hml]; simpa using hsz) rfl (hb hby hd) hf (W := W) (by show 2 * 0 + _ ≤ _; omega) hlo
  rw [d2, n2] at B'
  refine End.back stp (w h' K' (ArV.of_arv B' ?_) T' L' X' e' N')
  rw [eb]; simp only [List.length_append, List.length_take, List.length_drop]; omega
theorem WP.acopyB (K : Ok k l Z n0 rm bytes maxL y ret Q) {i : Nat} {xs ys : List Int8} {sp dp nn : Int32} (pc' W s d n : Nat) (h1 : (Jvm.Cond.methodLink y.cls i Jvm.Stand.acN).before a0 Z = true) (h2 : (Jvm.Cond.native Jvm.Stand.acN).before a0 Z = true) (h3 : (Jvm.Cond.static Jvm.Stand.acN).before a0 Z = true) (h4 : (Jvm.Cond.initialized "java/lang/System").before a0 Z = true)
    (A : ArB Z h a xs) (B : ArB Z h b ys) (hs : sp.toInt = (s : Nat)) (hdp : dp.toInt = (d : Nat)) (hn : nn.toInt = (n : Nat)) (hsn : s + n ≤ xs.length) (hdn : d + n ≤ ys.length) (ha : n0 ≤ b) (hsz : ls.length = maxL) (hf : 1 ≤ rm.frames)
    (hW : (st.map fun v => v.category).sum ≤ W) (hlo : W + (nativeFrameWords "java/lang/System" "arraycopy" 5 + 11) ≤ rm.locals) (hd : decode bytes pc = .ok (.invokestatic i, 3)) (hp : pc + 3 = pc')
    (w : ∀ h', Keep h h' [b] → ArB Z h' b (ys.take d ++ (xs.drop s).take n ++ ys.drop (d + n)) → WP k h' cells slots pc' ls st) : WP k h cells slots pc ls (.int nn :: .int dp :: .ref b :: .int sp :: .ref a :: st) :=
  WP.acopyV K pc' W s d n h1 h2 h3 h4 A B (Or.inl rfl) hs hdp hn (by simpa using hsn) (by simpa using hdn) ha hsz hf hW hlo hd hp fun h' K' B' => w h' K' (by unfold ArB; rw [List.map_append, List.map_append, List.map_take, List.map_take, List.map_drop, List.map_drop]; exact B')
end More
end Jvm.OwnWP

namespace Jvm.Pilot.@@N@@
open Jvm Jvm.ClassFile Sem Op Lib Jvm.Free Jvm.Stand Jvm.LawKit Jvm.RoadKit Bundle Jvm.OwnWP Jvm.Pilot.@@N@@.Jvm.D
def enc (g : Nat) : List Int8 := if g < 128 then [Int8.ofNat g] else Int8.ofNat (g % 128 + 128) :: enc (g / 128)
termination_by g
decreasing_by omega
theorem enc_small {g : Nat} (h : g < 128) : enc g = [Int8.ofNat g] := by rw [enc, if_pos h]
theorem enc_big {g : Nat} (h : ¬ g < 128) : enc g = Int8.ofNat (g % 128 + 128) :: enc (g / 128) := by rw [enc, if_neg h]
def el (g : Nat) : Nat := (enc g).length
theorem el_pos (g : Nat) : 1 ≤ el g := by
  unfold el
  by_cases h : g < 128
  · rw [enc_small h]; exact Nat.le_refl _
  · rw [enc_big h, List.length_cons]; omega
theorem el_big {g : Nat} (h : ¬ g < 128) : el g = el (g / 128) + 1 := by unfold el; rw [enc_big h, List.length_cons]
theorem el_small {g : Nat} (h : g < 128) : el g = 1 := by unfold el; rw [enc_small h]; rfl
theorem el_spec : ∀ (k g : Nat), 128 ^ k ≤ g → g < 128 ^ (k + 1) → el g = k + 1 := by
  intro k
  induction k with
  | zero => intro g h1 h2; exact el_small (by simpa using h2)
  | succ k ih =>
    intro g h1 h2
    have e1 : 128 ^ (k + 1) = 128 ^ k * 128 := Nat.pow_succ ..
    have e2 : 128 ^ (k + 1 + 1) = 128 ^ (k + 1) * 128 := Nat.pow_succ ..
    have p : 1 ≤ 128 ^ k := Nat.pow_pos (by decide)
    rw [el_big (by omega), ih (g / 128) (by omega) (by omega)]
theorem el_le : ∀ (k g : Nat), g < 128 ^ k → 1 ≤ k → el g ≤ k := by
  intro k
  induction k with
  | zero => intro g h h1; omega
  | succ k ih =>
    intro g h h1
    by_cases c : g < 128
    · rw [el_small c]; omega
    · have e1 : 128 ^ (k + 1) = 128 ^ k * 128 := Nat.pow_succ ..
      rw [el_big c]
      have k1 : 1 ≤ k := by
        rcases Nat.eq_zero_or_pos k with rfl | q
        · omega
        · exact q
      have := ih (g / 128) (by omega) k1
      omega
theorem el_lt (g : Nat) : g < 128 ^ el g := by
  induction g using Nat.strongRecOn with
  | ind g ih =>
    by_cases c : g < 128
    · rw [el_small c]; omega
    · rw [el_big c, Nat.pow_succ]
      have := ih (g / 128) (by omega)
      omega
theorem el_add (a b : Nat) : el (a + b) ≤ el a + el b := by
  have h1 := el_lt a
  have h2 := el_lt b
  have p1 := el_pos a
  have p2 := el_pos b
  refine el_le _ _ ?_ (by omega)
  rw [Nat.pow_add]
  have q1 : 128 ≤ 128 ^ el a := by
    have := Nat.pow_le_pow_right (n := 128) (by decide) p1
    simpa using this
  have q2 : 128 ≤ 128 ^ el b := by
    have := Nat.pow_le_pow_right (n := 128) (by decide) p2
    simpa using this
  generalize 128 ^ el a = A at *
  generalize 128 ^ el b = B at *
  have m1 : 128 * B ≤ A * B := Nat.mul_le_mul_right _ q1
  have m2 : A * 128 ≤ A * B := Nat.mul_le_mul_left _ q2
  omega
def encs (gs : List Nat) : List Int8 := gs.flatMap enc
theorem encs_nil : encs [] = [] := rfl
theorem encs_cons (g : Nat) (gs : List Nat) : encs (g :: gs) = enc g ++ encs gs := rfl
theorem encs_app (a b : List Nat) : encs (a ++ b) = encs a ++ encs b := by unfold encs; rw [List.flatMap_append]
theorem encs_len (gs : List Nat) (g : Nat) : (encs (g :: gs)).length = el g + (encs gs).length := by rw [encs_cons, List.length_append]; rfl
theorem encs_ge (gs : List Nat) : gs.length ≤ (encs gs).length := by
  induction gs with
  | nil => exact Nat.le_refl _
  | cons a gs ih => rw [encs_len, List.length_cons]; have := el_pos a; omega
theorem encs_one (g : Nat) : encs [g] = enc g := by rw [encs_cons, encs_nil, List.append_nil]
def enc0 (N : Nat) : List Int8 := if N = 0 then [] else enc N
def el0 (N : Nat) : Nat := (enc0 N).length
theorem el0_zero : el0 0 = 0 := rfl
theorem enc0_zero : enc0 0 = [] := rfl
theorem enc0_pos {N : Nat} (h : 1 ≤ N) : enc0 N = enc N := if_neg (by omega)
theorem el0_pos {N : Nat} (h : 1 ≤ N) : el0 N = el N := by unfold el0 el; rw [enc0_pos h]
/-! the bytes -/
theorem v_nat {v : Int64} {g : Nat} (hv : v.toInt = (g : Nat)) : v.toBitVec.toNat = g ∧ g < 9223372036854775808 := by
  have h1 := v.toInt_lt
  have e : v.toInt = v.toBitVec.toInt := rfl
  rw [BitVec.toInt_eq_toNat_cond] at e
  have h2 := v.toBitVec.isLt
  split at e <;> constructor <;> omega
theorem v_int {v : Int64} {g : Nat} (hv : v.toBitVec.toNat = g) (hg : g < 9223372036854775808) : v.toInt = (g : Nat) := by
  have e : v.toInt = v.toBitVec.toInt := rfl
  rw [e, BitVec.toInt_eq_toNat_cond, hv, if_pos (by omega)]
theorem w_nat (v : Int32) : (v.toBitVec.toNat < 2147483648 → v.toInt = (v.toBitVec.toNat : Nat)) ∧ (2147483648 ≤ v.toBitVec.toNat → v.toInt = (v.toBitVec.toNat : Nat) - 4294967296) ∧ v.toBitVec.toNat < 4294967296 := by
  have e : v.toInt = v.toBitVec.toInt := rfl
  rw [BitVec.toInt_eq_toNat_cond] at e
  have h2 := v.toBitVec.isLt
  split at e <;> refine ⟨?_, ?_, ?_⟩ <;> omega
theorem or128 : ∀ x, x < 256 → x ||| 128 = x % 128 + 128 := by decide +kernel
theorem or128g (g : Nat) : (g ||| 128) % 256 = g % 128 + 128 := by
  rw [show 256 = 2 ^ 8 from rfl, Nat.or_mod_two_pow, show 128 % 2 ^ 8 = 128 from rfl, or128 (g % 2 ^ 8) (by omega)]
  omega
theorem b8 : ∀ n, n < 256 → (Int8.ofNat n).toInt = if n < 128 then (n : Int) else (n : Int) - 256 := by decide +kernel
theorem b_and : ∀ n, n < 256 → ((Int8.ofNat n).toInt32 &&& (127 : Int32)).toInt = ((n % 128 : Nat) : Int) := by decide +kernel
theorem b_to (x : Int32) (n : Nat) (hn : n < 256) (h : (x.toInt - (n : Int)) % 256 = 0) : (x.toInt8.toInt32).toInt8 = Int8.ofNat n := by
  have c := c_i2b x
  have e1 : x.toInt8.toInt32.toInt8 = x.toInt8 := Int8.toInt8_toInt32 _
  have e2 : x.toInt8.toInt32.toInt = x.toInt8.toInt := Int8.toInt_toInt32 _
  rw [e1]
  apply Int8.toInt_inj.mp
  have := b8 n hn
  rw [this]
  split <;> omega
theorem by_big {v : Int64} {g : Nat} (hv : v.toInt = (g : Nat)) : (((v ||| (128 : Int64)).toInt32.toInt8.toInt32).toInt8 : Int8) = Int8.ofNat (g % 128 + 128) := by
  obtain ⟨h1, h2⟩ := v_nat hv
  have e : (v ||| (128 : Int64)).toBitVec.toNat = g ||| 128 := by rw [Int64.toBitVec_or, BitVec.toNat_or, h1]; rfl
  have lt : g ||| 128 < 9223372036854775808 := Nat.or_lt_two_pow (n := 63) (by omega) (by omega)
  have e2 := v_int e lt
  have e3 := c_l2i (v ||| (128 : Int64))
  have e4 := or128g g
  exact b_to _ _ (by omega) (by omega)
theorem by_small {v : Int64} {g : Nat} (hv : v.toInt = (g : Nat)) (hg : g < 128) : ((v.toInt32.toInt8.toInt32).toInt8 : Int8) = Int8.ofNat g := by
  have e3 := c_l2i v
  exact b_to _ _ (by omega) (by omega)
theorem ushrL_eq (x : Int64) (q : Int32) : XT.ushrL x q = (x.toUInt64 >>> (q &&& 0x3f).toInt64.toUInt64).toInt64 := by
  unfold XT.ushrL
  rw [show (q &&& 0x3f).toInt64 = q.toInt64 &&& 63 from by rw [Int32.toInt64_and]; rfl]
  rfl
theorem ushrLK {x : Int64} {n : Nat} {q : Int32} (k : Nat) (hk : q.toBitVec.toNat % 64 = k) (h0 : 0 < k) (hx : x.toInt = (n : Nat)) : (XT.ushrL x q).toInt = ((n / 2 ^ k : Nat) : Int) := by
  have := c_lushr x q k hk h0
  have r := i64_rng x
  rw [ushrL_eq, this, hx, show ((n : Nat) : Int) % 18446744073709551616 = ((n : Nat) : Int) by omega]
  norm_cast
theorem ushrL_le {x : Int64} {n : Nat} (q : Int32) (hx : x.toInt = (n : Nat)) : ∃ m : Nat, (XT.ushrL x q).toInt = (m : Nat) ∧ m ≤ n := by
  rcases Nat.eq_zero_or_pos (q.toBitVec.toNat % 64) with h | h
  · refine ⟨n, ?_, Nat.le_refl _⟩
    have e : XT.ushrL x q = x := by
      unfold XT.ushrL
      have : q.toInt64.toUInt64 &&& Int64.toUInt64 63 = 0 := by
        apply UInt64.toBitVec_inj.mp
        apply BitVec.eq_of_toNat_eq
        show ((q.toInt64.toUInt64 &&& Int64.toUInt64 63).toBitVec).toNat = 0
        rw [UInt64.toBitVec_and, BitVec.toNat_and, show (Int64.toUInt64 63).toBitVec.toNat = 2 ^ 6 - 1 from rfl, Nat.and_two_pow_sub_one_eq_mod]
        have e1 : q.toInt64.toUInt64.toBitVec.toNat % 2 ^ 6 = q.toBitVec.toNat % 64 := by
          show (q.toBitVec.signExtend 64).toNat % 64 = _
          rw [BitVec.toNat_signExtend]
          split <;> simp only [BitVec.toNat_setWidth] <;> omega
        omega
      rw [this]
      apply Int64.toBitVec_inj.mp
      show (x.toUInt64 >>> (0 : UInt64)).toBitVec = x.toBitVec
      rw [UInt64.shiftRight_zero]; rfl
    rw [e]; exact hx
  · exact ⟨n / 2 ^ (q.toBitVec.toNat % 64), ushrLK _ rfl h hx, Nat.div_le_self _ _⟩
theorem shl_eq (x : Int64) (q : Int32) : x <<< (q.toInt64 &&& 63) = x <<< (q &&& 0x3f).toInt64 := by
  rw [show (q &&& 0x3f).toInt64 = q.toInt64 &&& 63 from by rw [Int32.toInt64_and]; rfl]
theorem lor_shl {acc : Int64} {x sh : Int32} {an m i : Nat} (hacc : acc.toInt = (an : Nat)) (hx : x.toInt = (m : Nat)) (hs : sh.toInt = ((7 * i : Nat) : Int)) (hi : i ≤ 8) (han : an < 2 ^ (7 * i)) (hb : an + m * 2 ^ (7 * i) < 9223372036854775808) :
    (acc ||| (x.toInt64 <<< (sh.toInt64 &&& 63))).toInt = ((an + m * 2 ^ (7 * i) : Nat) : Int) := by
  have hq : sh.toBitVec.toNat % 64 = 7 * i := by have := w_nat sh; omega
  have e1 := c_lshl x.toInt64 sh (7 * i) hq
  have e2 := c_i2l x
  have ex : x.toInt64.toInt * ((2 ^ (7 * i) : Nat) : Int) = ((m * 2 ^ (7 * i) : Nat) : Int) := by rw [e2, hx]; norm_cast
  rw [ex, ← shl_eq] at e1
  have r1 := i64_rng (x.toInt64 <<< (sh.toInt64 &&& 63))
  have e3 : (x.toInt64 <<< (sh.toInt64 &&& 63)).toInt = ((m * 2 ^ (7 * i) : Nat) : Int) := by
    generalize m * 2 ^ (7 * i) = M at *
    generalize (x.toInt64 <<< (sh.toInt64 &&& 63)).toInt = T at *
    omega
  have e4 := c_orL' acc (x.toInt64 <<< (sh.toInt64 &&& 63)) (7 * i) (by omega) _ rfl (by rw [e3]; norm_cast; exact Nat.mul_mod_left _ _) (by omega) (by rw [hacc]; exact_mod_cast han)
  have r2 := i64_rng (acc ||| (x.toInt64 <<< (sh.toInt64 &&& 63)))
  rw [e3] at e4
  generalize m * 2 ^ (7 * i) = M at *
  omega
theorem nlz_lo {s n k : Nat} (h1 : 2 ^ s ≤ n) (h : n < 2 ^ k) : s < k := (Nat.pow_lt_pow_iff_right (a := 2) (by decide)).mp (Nat.lt_of_le_of_lt h1 h)
theorem nlz_hi {s n k : Nat} (h2 : n < 2 ^ (s + 1)) (h : 2 ^ k ≤ n) : k ≤ s := by have := (Nat.pow_lt_pow_iff_right (a := 2) (by decide)).mp (Nat.lt_of_le_of_lt h h2); omega
theorem nlz_div {s n k : Nat} (h : k ≤ s) (h1 : 2 ^ s ≤ n) (h2 : n < 2 ^ (s + 1)) : 2 ^ (s - k) ≤ n / 2 ^ k ∧ n / 2 ^ k < 2 ^ (s - k + 1) := by
  have e1 : 2 ^ s = 2 ^ (s - k) * 2 ^ k := by rw [← Nat.pow_add]; congr 1; omega
  have e2 : 2 ^ (s + 1) = 2 ^ k * 2 ^ (s - k + 1) := by rw [← Nat.pow_add]; congr 1; omega
  rw [e1] at h1; rw [e2] at h2
  exact ⟨(Nat.le_div_iff_mul_le (Nat.pow_pos (by decide))).mpr h1, Nat.div_lt_of_lt_mul h2⟩
theorem nlz_c {x y t : Int} {s k : Nat} (ha : x = y - (k : Nat)) (hc : y = 31 - t + (s : Nat)) (hk : k ≤ s) : x = 31 - t + ((s - k : Nat) : Int) := by omega
theorem nlz_end {s n : Nat} (h1 : 2 ^ s ≤ n) (h2 : n < 2 ^ (s + 1)) (h : s < 2) : n / 2 ^ 1 = s := by
  match s, h with
  | 0, _ => have h1 : 1 ≤ n := h1; have h2 : n < 2 := h2; show n / 2 = 0; omega
  | 1, _ => have h1 : 2 ≤ n := h1; have h2 : n < 4 := h2; show n / 2 = 1; omega
theorem ushrK {x q : Int32} {n : Nat} (k : Nat) (hk : q.toBitVec.toNat % 32 = k) (h0 : 0 < k) (hx : x.toInt = (n : Nat)) : (XT.ushr x q).toInt = ((n / 2 ^ k : Nat) : Int) := by
  have := c_iushr x q k hk h0
  have r := i32_rng x
  unfold XT.ushr
  rw [this, hx, show ((n : Nat) : Int) % 4294967296 = ((n : Nat) : Int) by omega]
  norm_cast
theorem nl_lo {v : Int64} {g : Nat} (hv : v.toInt = (g : Nat)) : v.toInt32.toBitVec.toNat = g % 4294967296 := by
  have e := c_l2i v
  have := w_nat v.toInt32
  omega
theorem nl_hi {v : Int64} {g : Nat} (hv : v.toInt = (g : Nat)) : (XT.ushrL v (32 : Int32)).toInt32.toBitVec.toNat = g / 4294967296 := by
  have e1 := ushrLK (x := v) (q := (32 : Int32)) 32 rfl (by decide) hv
  have h := v_nat hv
  rw [nl_lo e1]
  show g / 2 ^ 32 % 4294967296 = g / 4294967296
  have : (2 : Nat) ^ 32 = 4294967296 := rfl
  omega
theorem el_log {G t : Nat} (h1 : 2 ^ t ≤ G) (h2 : G < 2 ^ (t + 1)) : el G = t / 7 + 1 := by
  refine el_spec (t / 7) G (Nat.le_trans ?_ h1) (Nat.lt_of_lt_of_le h2 ?_)
  · rw [show 128 = 2 ^ 7 from rfl, ← Nat.pow_mul]; exact Nat.pow_le_pow_right (by decide) (by omega)
  · rw [show 128 = 2 ^ 7 from rfl, ← Nat.pow_mul]; exact Nat.pow_le_pow_right (by decide) (by omega)
theorem el_le9 {G : Nat} (h : G < 9223372036854775808) : el G ≤ 9 := el_le 9 G (by have : 128 ^ 9 = 9223372036854775808 := rfl; omega) (by decide)
theorem set_mid {α : Type} (U W Y : List α) (w x : α) : (U ++ w :: W ++ Y).set U.length x = U ++ x :: W ++ Y := by
  simp [List.set_append]
theorem get_mid {α : Type} (U W : List α) (w : α) : (U ++ w :: W)[U.length]? = some w := by simp
/-! the copies of a splice -/
theorem seg_X {α : Type} (P X L Y Q : List α) : ((P ++ (X ++ L ++ Y) ++ Q).drop P.length).take X.length = X := by simp [List.append_assoc]
theorem seg_Y {α : Type} (P X L Y Q : List α) : ((P ++ (X ++ L ++ Y) ++ Q).drop (P.length + X.length + L.length)).take Y.length = Y := by
  rw [show P ++ (X ++ L ++ Y) ++ Q = (P ++ X ++ L) ++ (Y ++ Q) by simp, show P.length + X.length + L.length = (P ++ X ++ L).length by simp; omega, List.drop_left]
  simp
theorem cp_fin {α : Type} (A B Y : List α) (w : Nat) (h : A.length + w + Y.length ≤ A.length + B.length) : ∃ V R : List α, V.length = w ∧ A.length + w + Y.length + R.length = A.length + B.length ∧ (A ++ B).take (A.length + w) ++ Y ++ (A ++ B).drop (A.length + w + Y.length) = A ++ V ++ (Y ++ R) := by
  refine ⟨B.take w, B.drop (w + Y.length), by rw [List.length_take]; omega, by rw [List.length_drop]; omega, ?_⟩
  rw [show A.length + w + Y.length = A.length + (w + Y.length) by omega, List.take_length_add_append, List.drop_length_add_append]
  simp
theorem cp_1 {α : Type} (X B : List α) : B.take 0 ++ X ++ B.drop (0 + X.length) = X ++ B.drop X.length := by simp
theorem cp_c {α : Type} (P X L Y Q : List α) : ((X ++ (P ++ (X ++ L ++ Y) ++ Q).drop X.length).drop (P.length + X.length + L.length)).take Y.length = Y := by
  rw [show P.length + X.length + L.length = X.length + (P.length + L.length) by omega, List.drop_length_add_append, List.drop_drop, show X.length + (P.length + L.length) = P.length + X.length + L.length by omega]
  exact seg_Y P X L Y Q
theorem sp_len {α : Type} (X W : List α) (h : X.length ≤ W.length) : (X ++ W.drop X.length).length = W.length := by rw [List.length_append, List.length_drop]; omega
/-! what a run holds -/
def fnd (I : Int) : Nat → List Nat → Option Nat
  | _, [] => none
  | F, c :: gs => if I = ((F + c : Nat) : Int) then some 0 else (fnd I (F + c) gs).map (· + el c)
def InT (I : Int) : Nat → List Nat → Prop
  | _, [] => False
  | F, c :: gs => I = ((F + c : Nat) : Int) ∨ InT I (F + c) gs
def InR (I : Int) (F : Nat) (gs : List Nat) : Prop := I = (F : Nat) ∨ InT I F gs
theorem fnd_none {I : Int} : ∀ (gs : List Nat) (F : Nat), fnd I F gs = none ↔ ¬ InT I F gs := by
  intro gs
  induction gs with
  | nil => intro F; simp [fnd, InT]
  | cons c gs ih =>
    intro F
    simp only [fnd, InT]
    split
    · rename_i h; simp [h]
    · rename_i h
      rw [Option.map_eq_none_iff, ih]
      exact ⟨fun q r => r.elim h q, fun q r => q (Or.inr r)⟩
theorem InT_gt {I : Int} : ∀ (gs : List Nat) (F : Nat), (∀ x ∈ gs, 1 ≤ x) → InT I F gs → (F : Int) < I := by
  intro gs
  induction gs with
  | nil => intro F _ h; exact h.elim
  | cons c gs ih =>
    intro F hp h
    have hc := hp c (List.mem_cons_self ..)
    rcases h with h | h
    · omega
    · have := ih (F + c) (fun x hx => hp x (List.mem_cons_of_mem _ hx)) h; omega
theorem InT_le {I : Int} : ∀ (gs : List Nat) (F : Nat), InT I F gs → I ≤ ((F + gs.sum : Nat) : Int) := by
  intro gs
  induction gs with
  | nil => intro F h; exact h.elim
  | cons c gs ih =>
    intro F h
    rw [List.sum_cons]
    rcases h with h | h
    · omega
    · have := ih (F + c) h; omega
theorem fnd_at {I : Int} : ∀ (as : List Nat) (F c : Nat) (bs : List Nat), (∀ x ∈ as, 1 ≤ x) → 1 ≤ c → I = ((F + as.sum + c : Nat) : Int) → fnd I F (as ++ c :: bs) = some (encs as).length := by
  intro as
  induction as with
  | nil => intro F c bs _ _ h; simp only [List.nil_append, fnd]; rw [if_pos (by rw [h]; simp)]; rfl
  | cons a as ih =>
    intro F c bs hp hc h
    have ha := hp a (List.mem_cons_self ..)
    rw [List.sum_cons] at h
    simp only [List.cons_append, fnd]
    rw [if_neg (by omega), ih (F + a) c bs (fun x hx => hp x (List.mem_cons_of_mem _ hx)) hc (by omega), encs_len]
    simp only [Option.map_some]; congr 1; omega
theorem InT_mid {I : Int} : ∀ (as : List Nat) (F c : Nat) (bs : List Nat), (∀ x ∈ as ++ c :: bs, 1 ≤ x) → ((F + as.sum : Nat) : Int) < I → I < ((F + as.sum + c : Nat) : Int) → ¬ InT I F (as ++ c :: bs) := by
  intro as
  induction as with
  | nil =>
    intro F c bs hp h1 h2 h
    rcases h with h | h
    · simp at h1 h2; omega
    · have := InT_gt bs (F + c) (fun x hx => hp x (List.mem_cons_of_mem _ hx)) h
      simp at h1 h2; omega
  | cons a as ih =>
    intro F c bs hp h1 h2 h
    rw [List.sum_cons] at h1 h2
    rcases h with h | h
    · omega
    · exact ih (F + a) c bs (fun x hx => hp x (List.mem_cons_of_mem _ hx)) (by omega) (by omega) h
def RB (Z : State) (h : Heap) (n0 : Nat) (r g : Nat) (f la : Int64) (P M Q : List Int8) : Prop :=
  ∃ st en : Int32, Exa Z h r "com/example/highwater/highwater/MessageIndex$Run" ∧ Fld Z h r "com/example/highwater/highwater/MessageIndex$Run" "first" "J" (.long f) ∧ Fld Z h r "com/example/highwater/highwater/MessageIndex$Run" "last" "J" (.long la) ∧ Fld Z h r "com/example/highwater/highwater/MessageIndex$Run" "gaps" "[B" (.ref g) ∧ Fld Z h r "com/example/highwater/highwater/MessageIndex$Run" "start" "I" (.int st) ∧ Fld Z h r "com/example/highwater/highwater/MessageIndex$Run" "end" "I" (.int en) ∧ ArB Z h g (P ++ M ++ Q) ∧ st.toInt = (P.length : Nat) ∧ en.toInt = ((P.length + M.length : Nat) : Int) ∧ (n0 ≤ g ∨ P.length + M.length + Q.length = 0) ∧ n0 ≤ r ∧ r ≠ g ∧ P.length + M.length + Q.length ≤ 54
def RI (Z : State) (h : Heap) (n0 : Nat) (r g : Nat) (F : Nat) (gs : List Nat) : Prop :=
  ∃ (f la : Int64) (P Q : List Int8), RB Z h n0 r g f la P (encs gs) Q ∧ f.toInt = (F : Nat) ∧ la.toInt = ((F + gs.sum : Nat) : Int) ∧ ∀ x ∈ gs, 1 ≤ x
def MI (Z : State) (h : Heap) (n0 : Nat) (m : Nat) (F : Nat) (gs : List Nat) : Prop :=
  ∃ (ra r g : Nat) (sz : Int32), Exa Z h m "com/example/highwater/highwater/MessageIndex" ∧ Fld Z h m "com/example/highwater/highwater/MessageIndex" "runs" "[Lcom/example/highwater/highwater/MessageIndex$Run;" (.ref ra) ∧ Fld Z h m "com/example/highwater/highwater/MessageIndex" "head" "I" (.int (0 : Int32)) ∧ Fld Z h m "com/example/highwater/highwater/MessageIndex" "count" "I" (.int (1 : Int32)) ∧ Fld Z h m "com/example/highwater/highwater/MessageIndex" "size" "I" (.int sz) ∧ ArR Z h ra (.object "com/example/highwater/highwater/MessageIndex$Run") "com/example/highwater/highwater/MessageIndex$Run" [.ref r, .null] ∧ RI Z h n0 r g F gs ∧ sz.toInt = ((gs.length + 1 : Nat) : Int) ∧ n0 ≤ m ∧ n0 ≤ ra ∧ n0 ≤ h.size ∧ m ≠ ra ∧ m ≠ r ∧ m ≠ g ∧ ra ≠ r ∧ ra ≠ g
def MF (Z : State) (h : Heap) (n0 : Nat) (m : Nat) : Prop :=
  ∃ ra : Nat, Exa Z h m "com/example/highwater/highwater/MessageIndex" ∧ Fld Z h m "com/example/highwater/highwater/MessageIndex" "runs" "[Lcom/example/highwater/highwater/MessageIndex$Run;" (.ref ra) ∧ Fld Z h m "com/example/highwater/highwater/MessageIndex" "head" "I" (.int (0 : Int32)) ∧ Fld Z h m "com/example/highwater/highwater/MessageIndex" "count" "I" (.int (0 : Int32)) ∧ Fld Z h m "com/example/highwater/highwater/MessageIndex" "size" "I" (.int (0 : Int32)) ∧ ArR Z h ra (.object "com/example/highwater/highwater/MessageIndex$Run") "com/example/highwater/highwater/MessageIndex$Run" [.null, .null] ∧ n0 ≤ m ∧ n0 ≤ ra ∧ n0 ≤ h.size ∧ m ≠ ra
def ME (Z : State) (h : Heap) (m : Nat) : Prop := Exa Z h m "com/example/highwater/highwater/MessageIndex" ∧ Fld Z h m "com/example/highwater/highwater/MessageIndex" "size" "I" (.int (0 : Int32))
theorem RB.ex {Z : State} {h : Heap} {n0 : Nat} {r g : Nat} {f la : Int64} {P M Q : List Int8} (H : RB Z h n0 r g f la P M Q) : Exa Z h r "com/example/highwater/highwater/MessageIndex$Run" := by obtain ⟨st, en, E, -⟩ := H; exact E
theorem RI.ex {Z : State} {h : Heap} {n0 : Nat} {r g : Nat} {F : Nat} {gs : List Nat} (H : RI Z h n0 r g F gs) : Exa Z h r "com/example/highwater/highwater/MessageIndex$Run" := by obtain ⟨f, la, P, Q, H, -⟩ := H; exact H.ex
theorem RI.gp {Z : State} {h : Heap} {n0 : Nat} {r g : Nat} {F : Nat} {gs : List Nat} (H : RI Z h n0 r g F gs) : ∀ x ∈ gs, 1 ≤ x := by obtain ⟨f, la, P, Q, -, -, -, q⟩ := H; exact q
theorem RI.ff {Z : State} {h : Heap} {n0 : Nat} {r g : Nat} {F : Nat} {gs : List Nat} (H : RI Z h n0 r g F gs) : ∃ f : Int64, Fld Z h r "com/example/highwater/highwater/MessageIndex$Run" "first" "J" (.long f) ∧ f.toInt = (F : Nat) := by obtain ⟨f, la, P, Q, ⟨st, en, -, q, -⟩, e, -⟩ := H; exact ⟨f, q, e⟩
theorem RI.fl {Z : State} {h : Heap} {n0 : Nat} {r g : Nat} {F : Nat} {gs : List Nat} (H : RI Z h n0 r g F gs) : ∃ la : Int64, Fld Z h r "com/example/highwater/highwater/MessageIndex$Run" "last" "J" (.long la) ∧ la.toInt = ((F + gs.sum : Nat) : Int) := by obtain ⟨f, la, P, Q, ⟨st, en, -, -, q, -⟩, -, e, -⟩ := H; exact ⟨la, q, e⟩
theorem MI.ex {Z : State} {h : Heap} {n0 : Nat} {m : Nat} {F : Nat} {gs : List Nat} (H : MI Z h n0 m F gs) : Exa Z h m "com/example/highwater/highwater/MessageIndex" := by obtain ⟨ra, r, g, sz, E, -⟩ := H; exact E
theorem MF.ex {Z : State} {h : Heap} {n0 : Nat} {m : Nat} (H : MF Z h n0 m) : Exa Z h m "com/example/highwater/highwater/MessageIndex" := by obtain ⟨ra, E, -⟩ := H; exact E
theorem MF.me {Z : State} {h : Heap} {n0 : Nat} {m : Nat} (H : MF Z h n0 m) : ME Z h m := by obtain ⟨ra, E, -, -, -, S, -⟩ := H; exact ⟨E, S⟩
theorem RI.keep {Z : State} {h h' : Heap} {n0 : Nat} {r g : Nat} {F : Nat} {gs : List Nat} {ws : List Nat} (H : RI Z h n0 r g F gs) (K : Keep h h' ws) (q : r ∉ ws ∧ g ∉ ws) : RI Z h' n0 r g F gs := by
  obtain ⟨q1, q2⟩ := q
  obtain ⟨f, la, P, Q, ⟨st, en, a1, a2, a3, a4, a5, a6, a7, a8⟩, b⟩ := H
  exact ⟨f, la, P, Q, ⟨st, en, a1.keep K, a2.keep K q1, a3.keep K q1, a4.keep K q1, a5.keep K q1, a6.keep K q1, a7.keep K q2, a8⟩, b⟩
theorem RI.rg {Z : State} {h : Heap} {n0 : Nat} {r g : Nat} {F : Nat} {gs : List Nat} (H : RI Z h n0 r g F gs) : r < h.size ∧ g < h.size ∧ r ≠ g ∧ n0 ≤ r := by
  obtain ⟨f, la, P, Q, ⟨st, en, a1, a2, a3, a4, a5, a6, a7, a8, a9, a10, a11, a12, a13⟩, b⟩ := H
  exact ⟨a2.lt, a7.lt, a12, a11⟩
theorem ArR.re {Z : State} {h h' : Heap} {a : Nat} {ty : FieldType} {C : String} {vs vs' : List Value} {ws : List Nat} (A : ArR Z h a ty C vs) (K : Keep h h' ws) (B : ArV Z h' a ty vs') : ArR Z h' a ty C vs' := by
  obtain ⟨c, A, -, -, -, kk, comp, t, o1, o2, o3⟩ := A
  obtain ⟨c', B, q1, q2, q3⟩ := B
  obtain ⟨c2, e2, e3, -⟩ := K.2.2 a c A.1
  obtain rfl : c' = c2 := Option.some.inj (B.1.symm.trans e2)
  exact ⟨_, B, q1, q2, q3, kk, comp, t, by rw [e3]; exact o1, o2, o3⟩
theorem own_emptyB {s : State} {args : Array Value} {t : Term} {no : Nat} {c : Cell} (ev : t.eval args s none [] s = some (.ref no)) (A : Arr s s.heap no c .byte) (n3 : (Cond.eq (.length t) (.int (0 : Int32))).value args s none s [] = some true) : ArB s s.heap no [] := by
  have ha : s.arrayAt? no = some c := Jvm.RoadKit.Arr.fin (Vm.Alike.refl _) A
  have hz : c.slots.size = 0 := by
    by_cases hl : c.slots.size < 2 ^ 31
    · have e := len_f (first := s) (o := none) (idx := []) ev ha hl
      have e2 : (Term.int (0 : Int32)).eval args s none [] s = some (.int 0) := rfl
      simp only [Cond.value, e, e2] at n3
      have := congrArg Int32.toInt (of_decide_eq_true (Option.some.inj n3))
      rw [show c.slots.size.toInt32.toInt = (c.slots.size : Nat) from Int32.toInt_ofNat_of_lt hl] at this
      have z : (0 : Int32).toInt = 0 := rfl
      omega
    · simp [Cond.value, Term.eval, ev, ha, hl] at n3
  exact ⟨c, A, by simpa using hz, by decide, fun v hv => by cases hv⟩
theorem own_b13_0 : decode jdk_29_method_65_code 0 = .ok (.iload_n 0, 1) := by decide +kernel
theorem own_b13_1 : decode jdk_29_method_65_code 1 = .ok (.iload_n 1, 1) := by decide +kernel
theorem own_b13_2 : decode jdk_29_method_65_code 2 = .ok (.if_icmp .lt 7, 3) := by decide +kernel
theorem own_b13_5 : decode jdk_29_method_65_code 5 = .ok (.iload_n 0, 1) := by decide +kernel
theorem own_b13_6 : decode jdk_29_method_65_code 6 = .ok (.goto 4, 3) := by decide +kernel
theorem own_b13_9 : decode jdk_29_method_65_code 9 = .ok (.iload_n 1, 1) := by decide +kernel
theorem own_b13_10 : decode jdk_29_method_65_code 10 = .ok (.ireturn, 1) := by decide +kernel
theorem own_pf_b13 : plainFor (⟨"java/lang/Math", "max", "(II)I"⟩ : MethodName) = true := by first | exact plainFor_of_name (by first | (simp [plainName, overriddenIn, x]; done) | decide +kernel) | decide +kernel
set_option maxRecDepth 65536 in
set_option maxHeartbeats 40000000 in
theorem own_max (l : Launch) (Z : State) (a0 : Array Value) (hw : ∀ d ∈ tables_1, d.before a0 Z = true) (n0 : Nat) (h : Heap) (x z : Int32) :
    Con l Z (⟨"java/lang/Math", "max", "(II)I"⟩ : MethodName) jdk_29_method_65_code 2 (some .int) ({ frames := 0, cells := 0, slots := 0, locals := 0 } : Room) n0 #[(.int x), (.int z)] h (R1 fun r h' => r = .int (max32 x z) ∧ h = h') := by
  refine Con.of (ls := [.val (.int x), .val (.int z)]) own_pf_b13 (fun m => by first | (simp [entryFrame, mkF, argsToLocals, Value.category]; done) | rfl) fun k K => ?_
  refine WP.iloadN K 1 own_b13_0 rfl rfl ?_
  refine WP.iloadN K 2 own_b13_1 rfl rfl ?_
  refine WP.icmp_lt K 9 5 own_b13_2 (by decide) rfl (fun c2 => ?_) (fun c2 => ?_)
  · skip
    refine WP.iloadN K 10 own_b13_9 rfl rfl ?_
    refine WP.iret K rfl (Or.inl rfl) rfl own_b13_10 ?_ (by decide) (by decide)
    refine ⟨_, rfl, ?_, rfl⟩
    simp only [max32]; congr 1; split <;> first | rfl | exact i32_eq (by omega) | (exfalso; omega)
  · skip
    refine WP.iloadN K 6 own_b13_5 rfl rfl ?_
    refine WP.goto K 10 own_b13_6 (by decide) ?_
    refine WP.iret K rfl (Or.inl rfl) rfl own_b13_10 ?_ (by decide) (by decide)
    refine ⟨_, rfl, ?_, rfl⟩
    simp only [max32]; congr 1; split <;> first | rfl | exact i32_eq (by omega) | (exfalso; omega)
theorem own_b14_0 : decode jdk_29_method_69_code 0 = .ok (.iload_n 0, 1) := by decide +kernel
theorem own_b14_1 : decode jdk_29_method_69_code 1 = .ok (.iload_n 1, 1) := by decide +kernel
theorem own_b14_2 : decode jdk_29_method_69_code 2 = .ok (.if_icmp .gt 7, 3) := by decide +kernel
theorem own_b14_5 : decode jdk_29_method_69_code 5 = .ok (.iload_n 0, 1) := by decide +kernel
theorem own_b14_6 : decode jdk_29_method_69_code 6 = .ok (.goto 4, 3) := by decide +kernel
theorem own_b14_9 : decode jdk_29_method_69_code 9 = .ok (.iload_n 1, 1) := by decide +kernel
theorem own_b14_10 : decode jdk_29_method_69_code 10 = .ok (.ireturn, 1) := by decide +kernel
theorem own_pf_b14 : plainFor (⟨"java/lang/Math", "min", "(II)I"⟩ : MethodName) = true := by first | exact plainFor_of_name (by first | (simp [plainName, overriddenIn, x]; done) | decide +kernel) | decide +kernel
set_option maxRecDepth 65536 in
set_option maxHeartbeats 40000000 in
theorem own_min (l : Launch) (Z : State) (a0 : Array Value) (hw : ∀ d ∈ tables_1, d.before a0 Z = true) (n0 : Nat) (h : Heap) (x z : Int32) :
    Con l Z (⟨"java/lang/Math", "min", "(II)I"⟩ : MethodName) jdk_29_method_69_code 2 (some .int) ({ frames := 0, cells := 0, slots := 0, locals := 0 } : Room) n0 #[(.int x), (.int z)] h (R1 fun r h' => r = .int (min32 x z) ∧ h = h') := by
  refine Con.of (ls := [.val (.int x), .val (.int z)]) own_pf_b14 (fun m => by first | (simp [entryFrame, mkF, argsToLocals, Value.category]; done) | rfl) fun k K => ?_
  refine WP.iloadN K 1 own_b14_0 rfl rfl ?_
  refine WP.iloadN K 2 own_b14_1 rfl rfl ?_
  refine WP.icmp_gt K 9 5 own_b14_2 (by decide) rfl (fun c2 => ?_) (fun c2 => ?_)
  · skip
    refine WP.iloadN K 10 own_b14_9 rfl rfl ?_
    refine WP.iret K rfl (Or.inl rfl) rfl own_b14_10 ?_ (by decide) (by decide)
    refine ⟨_, rfl, ?_, rfl⟩
    simp only [min32]; congr 1; split <;> first | rfl | exact i32_eq (by omega) | (exfalso; omega)
  · skip
    refine WP.iloadN K 6 own_b14_5 rfl rfl ?_
    refine WP.goto K 10 own_b14_6 (by decide) ?_
    refine WP.iret K rfl (Or.inl rfl) rfl own_b14_10 ?_ (by decide) (by decide)
    refine ⟨_, rfl, ?_, rfl⟩
    simp only [min32]; congr 1; split <;> first | rfl | exact i32_eq (by omega) | (exfalso; omega)
theorem own_b12_0 : decode jdk_33_method_47_code 0 = .ok (.iload_n 0, 1) := by decide +kernel
theorem own_b12_1 : decode jdk_33_method_47_code 1 = .ok (.ifCond .gt 14, 3) := by decide +kernel
theorem own_b12_4 : decode jdk_33_method_47_code 4 = .ok (.iload_n 0, 1) := by decide +kernel
theorem own_b12_5 : decode jdk_33_method_47_code 5 = .ok (.ifCond .ne 8, 3) := by decide +kernel
theorem own_b12_8 : decode jdk_33_method_47_code 8 = .ok (.bipush 32, 2) := by decide +kernel
theorem own_b12_10 : decode jdk_33_method_47_code 10 = .ok (.goto 4, 3) := by decide +kernel
theorem own_b12_13 : decode jdk_33_method_47_code 13 = .ok (.iconst 0, 1) := by decide +kernel
theorem own_b12_14 : decode jdk_33_method_47_code 14 = .ok (.ireturn, 1) := by decide +kernel
theorem own_b12_15 : decode jdk_33_method_47_code 15 = .ok (.bipush 31, 2) := by decide +kernel
theorem own_b12_17 : decode jdk_33_method_47_code 17 = .ok (.istore_n 1, 1) := by decide +kernel
theorem own_b12_18 : decode jdk_33_method_47_code 18 = .ok (.iload_n 0, 1) := by decide +kernel
theorem own_b12_19 : decode jdk_33_method_47_code 19 = .ok (.ldc_w 264, 3) := by decide +kernel
theorem own_b12_22 : decode jdk_33_method_47_code 22 = .ok (.if_icmp .lt 11, 3) := by decide +kernel
theorem own_b12_25 : decode jdk_33_method_47_code 25 = .ok (.iinc 1 (-16), 3) := by decide +kernel
theorem own_b12_28 : decode jdk_33_method_47_code 28 = .ok (.iload_n 0, 1) := by decide +kernel
theorem own_b12_29 : decode jdk_33_method_47_code 29 = .ok (.bipush 16, 2) := by decide +kernel
theorem own_b12_31 : decode jdk_33_method_47_code 31 = .ok (.iushr, 1) := by decide +kernel
theorem own_b12_32 : decode jdk_33_method_47_code 32 = .ok (.istore_n 0, 1) := by decide +kernel
theorem own_b12_33 : decode jdk_33_method_47_code 33 = .ok (.iload_n 0, 1) := by decide +kernel
theorem own_b12_34 : decode jdk_33_method_47_code 34 = .ok (.sipush 256, 3) := by decide +kernel
theorem own_b12_37 : decode jdk_33_method_47_code 37 = .ok (.if_icmp .lt 11, 3) := by decide +kernel
theorem own_b12_40 : decode jdk_33_method_47_code 40 = .ok (.iinc 1 (-8), 3) := by decide +kernel
theorem own_b12_43 : decode jdk_33_method_47_code 43 = .ok (.iload_n 0, 1) := by decide +kernel
theorem own_b12_44 : decode jdk_33_method_47_code 44 = .ok (.bipush 8, 2) := by decide +kernel
theorem own_b12_46 : decode jdk_33_method_47_code 46 = .ok (.iushr, 1) := by decide +kernel
theorem own_b12_47 : decode jdk_33_method_47_code 47 = .ok (.istore_n 0, 1) := by decide +kernel
theorem own_b12_48 : decode jdk_33_method_47_code 48 = .ok (.iload_n 0, 1) := by decide +kernel
theorem own_b12_49 : decode jdk_33_method_47_code 49 = .ok (.bipush 16, 2) := by decide +kernel
theorem own_b12_51 : decode jdk_33_method_47_code 51 = .ok (.if_icmp .lt 10, 3) := by decide +kernel
theorem own_b12_54 : decode jdk_33_method_47_code 54 = .ok (.iinc 1 (-4), 3) := by decide +kernel
theorem own_b12_57 : decode jdk_33_method_47_code 57 = .ok (.iload_n 0, 1) := by decide +kernel
theorem own_b12_58 : decode jdk_33_method_47_code 58 = .ok (.iconst 4, 1) := by decide +kernel
theorem own_b12_59 : decode jdk_33_method_47_code 59 = .ok (.iushr, 1) := by decide +kernel
theorem own_b12_60 : decode jdk_33_method_47_code 60 = .ok (.istore_n 0, 1) := by decide +kernel
theorem own_b12_61 : decode jdk_33_method_47_code 61 = .ok (.iload_n 0, 1) := by decide +kernel
theorem own_b12_62 : decode jdk_33_method_47_code 62 = .ok (.iconst 4, 1) := by decide +kernel
theorem own_b12_63 : decode jdk_33_method_47_code 63 = .ok (.if_icmp .lt 10, 3) := by decide +kernel
theorem own_b12_66 : decode jdk_33_method_47_code 66 = .ok (.iinc 1 (-2), 3) := by decide +kernel
theorem own_b12_69 : decode jdk_33_method_47_code 69 = .ok (.iload_n 0, 1) := by decide +kernel
theorem own_b12_70 : decode jdk_33_method_47_code 70 = .ok (.iconst 2, 1) := by decide +kernel
theorem own_b12_71 : decode jdk_33_method_47_code 71 = .ok (.iushr, 1) := by decide +kernel
theorem own_b12_72 : decode jdk_33_method_47_code 72 = .ok (.istore_n 0, 1) := by decide +kernel
theorem own_b12_73 : decode jdk_33_method_47_code 73 = .ok (.iload_n 1, 1) := by decide +kernel
theorem own_b12_74 : decode jdk_33_method_47_code 74 = .ok (.iload_n 0, 1) := by decide +kernel
theorem own_b12_75 : decode jdk_33_method_47_code 75 = .ok (.iconst 1, 1) := by decide +kernel
theorem own_b12_76 : decode jdk_33_method_47_code 76 = .ok (.iushr, 1) := by decide +kernel
theorem own_b12_77 : decode jdk_33_method_47_code 77 = .ok (.isub, 1) := by decide +kernel
theorem own_b12_78 : decode jdk_33_method_47_code 78 = .ok (.ireturn, 1) := by decide +kernel
theorem own_pf_b12 : plainFor (⟨"java/lang/Integer", "numberOfLeadingZeros", "(I)I"⟩ : MethodName) = true := by first | exact plainFor_of_name (by first | (simp [plainName, overriddenIn, x]; done) | decide +kernel) | decide +kernel
set_option maxRecDepth 65536 in
set_option maxHeartbeats 40000000 in
theorem own_nlzI (l : Launch) (Z : State) (a0 : Array Value) (hw : ∀ d ∈ tables_1, d.before a0 Z = true) (n0 : Nat) (h : Heap) (v : Int32) (n t : Nat) (hv : v.toBitVec.toNat = n) (h1 : 2 ^ t ≤ n) (h2 : n < 2 ^ (t + 1)) :
    Con l Z (⟨"java/lang/Integer", "numberOfLeadingZeros", "(I)I"⟩ : MethodName) jdk_33_method_47_code 2 (some .int) ({ frames := 0, cells := 0, slots := 0, locals := 0 } : Room) n0 #[(.int v)] h (R1 fun r h' => (∃ z : Int32, r = .int z ∧ z.toInt = 31 - (t : Int)) ∧ h = h') := by
  refine Con.of (ls := [.val (.int v), .unset]) own_pf_b12 (fun m => by first | (simp [entryFrame, mkF, argsToLocals, Value.category]; done) | rfl) fun k K => ?_
  have k_m16 : ((-16) : Int32).toInt = -16 := rfl
  have k_m2 : ((-2) : Int32).toInt = -2 := rfl
  have k_m4 : ((-4) : Int32).toInt = -4 := rfl
  have k_m8 : ((-8) : Int32).toInt = -8 := rfl
  have k_0 : (0 : Int32).toInt = 0 := rfl
  have k_1 : (1 : Int32).toInt = 1 := rfl
  have k_16 : (16 : Int32).toInt = 16 := rfl
  have k_2 : (2 : Int32).toInt = 2 := rfl
  have k_256 : (256 : Int32).toInt = 256 := rfl
  have k_31 : (31 : Int32).toInt = 31 := rfl
  have k_32 : (32 : Int32).toInt = 32 := rfl
  have k_4 : (4 : Int32).toInt = 4 := rfl
  have k_65536 : (65536 : Int32).toInt = 65536 := rfl
  have k_8 : (8 : Int32).toInt = 8 := rfl
  have hw_ := w_nat v
  have hp2 := Nat.pow_pos (n := t) (show 0 < 2 by decide)
  have ht31 : t < 32 := nlz_lo h1 (by have : 2 ^ 32 = 4294967296 := rfl; omega)
  have J73 : ∀ (s n : Nat) (p c : Int32), p.toInt = (n : Nat) → 2 ^ s ≤ n → n < 2 ^ (s + 1) → s < 2 → c.toInt = 31 - (t : Int) + s → WP k h 0 0 73 [.val (.int p), .val (.int c)] [] := by
    intro s n p c hp h1 h2 hs hc
    have hu := ushrK (x := p) (q := (1 : Int32)) 1 rfl (by decide) hp
    rw [nlz_end h1 h2 hs] at hu
    refine WP.iloadN K 74 own_b12_73 rfl rfl ?_
    refine WP.iloadN K 75 own_b12_74 rfl rfl ?_
    refine WP.iconst K (1 : Int32) 76 own_b12_75 rfl rfl ?_
    refine WP.iushr K 77 own_b12_76 rfl ?_
    refine WP.isub K 78 own_b12_77 rfl ?_
    refine WP.iret K rfl (Or.inl rfl) rfl own_b12_78 ?_ (by decide) (by decide)
    exact ⟨_, rfl, ⟨_, rfl, by rw [i32_sub (by omega) (by omega)]; omega⟩, rfl⟩
  have J61 : ∀ (s n : Nat) (p c : Int32), p.toInt = (n : Nat) → 2 ^ s ≤ n → n < 2 ^ (s + 1) → s < 4 → c.toInt = 31 - (t : Int) + s → WP k h 0 0 61 [.val (.int p), .val (.int c)] [] := by
    intro s n p c hp h1 h2 hs hc
    have ek : 2 ^ 2 = 4 := rfl
    refine WP.iloadN K 62 own_b12_61 rfl rfl ?_
    refine WP.iconst K (4 : Int32) 63 own_b12_62 rfl rfl ?_
    refine WP.icmp_lt K 73 66 own_b12_63 (by decide) rfl (fun c63 => ?_) (fun c63 => ?_)
    · skip
      exact J73 s n _ _ hp h1 h2 (nlz_lo h1 (by clear h1 h2; omega)) hc
    · skip
      have hk : 2 ≤ s := nlz_hi h2 (by clear h1 h2; omega)
      have hu := ushrK (x := p) (q := (2 : Int32)) 2 rfl (by decide) hp
      have hd := nlz_div hk h1 h2
      have ha : (c + (-2 : Int32)).toInt = c.toInt - 2 := by
        have e : (-2 : Int32).toInt = -2 := rfl
        rw [i32_add (by omega) (by omega)]; omega
      refine WP.iinc K (-2 : Int32) 69 [.val (.int p), .val (.int (c + (-2 : Int32)))] own_b12_66 rfl rfl rfl rfl ?_
      refine WP.iloadN K 70 own_b12_69 rfl rfl ?_
      refine WP.iconst K (2 : Int32) 71 own_b12_70 rfl rfl ?_
      refine WP.iushr K 72 own_b12_71 rfl ?_
      refine WP.istoreN K 73 [.val (.int (XT.ushr p (2 : Int32))), .val (.int (c + (-2 : Int32)))] own_b12_72 rfl rfl ?_
      exact J73 (s - 2) (n / 2 ^ 2) _ _ hu hd.1 hd.2 (by clear hd hu h1 h2; omega) (nlz_c (k := 2) ha hc hk)
  have J48 : ∀ (s n : Nat) (p c : Int32), p.toInt = (n : Nat) → 2 ^ s ≤ n → n < 2 ^ (s + 1) → s < 8 → c.toInt = 31 - (t : Int) + s → WP k h 0 0 48 [.val (.int p), .val (.int c)] [] := by
    intro s n p c hp h1 h2 hs hc
    have ek : 2 ^ 4 = 16 := rfl
    refine WP.iloadN K 49 own_b12_48 rfl rfl ?_
    refine WP.bipush K (16 : Int32) 51 own_b12_49 rfl rfl ?_
    refine WP.icmp_lt K 61 54 own_b12_51 (by decide) rfl (fun c51 => ?_) (fun c51 => ?_)
    · skip
      exact J61 s n _ _ hp h1 h2 (nlz_lo h1 (by clear h1 h2; omega)) hc
    · skip
      have hk : 4 ≤ s := nlz_hi h2 (by clear h1 h2; omega)
      have hu := ushrK (x := p) (q := (4 : Int32)) 4 rfl (by decide) hp
      have hd := nlz_div hk h1 h2
      have ha : (c + (-4 : Int32)).toInt = c.toInt - 4 := by
        have e : (-4 : Int32).toInt = -4 := rfl
        rw [i32_add (by omega) (by omega)]; omega
      refine WP.iinc K (-4 : Int32) 57 [.val (.int p), .val (.int (c + (-4 : Int32)))] own_b12_54 rfl rfl rfl rfl ?_
      refine WP.iloadN K 58 own_b12_57 rfl rfl ?_
      refine WP.iconst K (4 : Int32) 59 own_b12_58 rfl rfl ?_
      refine WP.iushr K 60 own_b12_59 rfl ?_
      refine WP.istoreN K 61 [.val (.int (XT.ushr p (4 : Int32))), .val (.int (c + (-4 : Int32)))] own_b12_60 rfl rfl ?_
      exact J61 (s - 4) (n / 2 ^ 4) _ _ hu hd.1 hd.2 (by clear hd hu h1 h2; omega) (nlz_c (k := 4) ha hc hk)
  have J33 : ∀ (s n : Nat) (p c : Int32), p.toInt = (n : Nat) → 2 ^ s ≤ n → n < 2 ^ (s + 1) → s < 16 → c.toInt = 31 - (t : Int) + s → WP k h 0 0 33 [.val (.int p), .val (.int c)] [] := by
    intro s n p c hp h1 h2 hs hc
    have ek : 2 ^ 8 = 256 := rfl
    refine WP.iloadN K 34 own_b12_33 rfl rfl ?_
    refine WP.sipush K (256 : Int32) 37 own_b12_34 rfl rfl ?_
    refine WP.icmp_lt K 48 40 own_b12_37 (by decide) rfl (fun c37 => ?_) (fun c37 => ?_)
    · skip
      exact J48 s n _ _ hp h1 h2 (nlz_lo h1 (by clear h1 h2; omega)) hc
    · skip
      have hk : 8 ≤ s := nlz_hi h2 (by clear h1 h2; omega)
      have hu := ushrK (x := p) (q := (8 : Int32)) 8 rfl (by decide) hp
      have hd := nlz_div hk h1 h2
      have ha : (c + (-8 : Int32)).toInt = c.toInt - 8 := by
        have e : (-8 : Int32).toInt = -8 := rfl
        rw [i32_add (by omega) (by omega)]; omega
      refine WP.iinc K (-8 : Int32) 43 [.val (.int p), .val (.int (c + (-8 : Int32)))] own_b12_40 rfl rfl rfl rfl ?_
      refine WP.iloadN K 44 own_b12_43 rfl rfl ?_
      refine WP.bipush K (8 : Int32) 46 own_b12_44 rfl rfl ?_
      refine WP.iushr K 47 own_b12_46 rfl ?_
      refine WP.istoreN K 48 [.val (.int (XT.ushr p (8 : Int32))), .val (.int (c + (-8 : Int32)))] own_b12_47 rfl rfl ?_
      exact J48 (s - 8) (n / 2 ^ 8) _ _ hu hd.1 hd.2 (by clear hd hu h1 h2; omega) (nlz_c (k := 8) ha hc hk)
  have J18 : ∀ (s n : Nat) (p c : Int32), p.toInt = (n : Nat) → 2 ^ s ≤ n → n < 2 ^ (s + 1) → s < 32 → c.toInt = 31 - (t : Int) + s → WP k h 0 0 18 [.val (.int p), .val (.int c)] [] := by
    intro s n p c hp h1 h2 hs hc
    have ek : 2 ^ 16 = 65536 := rfl
    refine WP.iloadN K 19 own_b12_18 rfl rfl ?_
    refine WP.ldcWI K (v := (65536 : Int32)) 22 (hw _ (List.mem_of_getElem? (i := 82) rfl)) own_b12_19 rfl ?_
    refine WP.icmp_lt K 33 25 own_b12_22 (by decide) rfl (fun c22 => ?_) (fun c22 => ?_)
    · skip
      exact J33 s n _ _ hp h1 h2 (nlz_lo h1 (by clear h1 h2; omega)) hc
    · skip
      have hk : 16 ≤ s := nlz_hi h2 (by clear h1 h2; omega)
      have hu := ushrK (x := p) (q := (16 : Int32)) 16 rfl (by decide) hp
      have hd := nlz_div hk h1 h2
      have ha : (c + (-16 : Int32)).toInt = c.toInt - 16 := by
        have e : (-16 : Int32).toInt = -16 := rfl
        rw [i32_add (by omega) (by omega)]; omega
      refine WP.iinc K (-16 : Int32) 28 [.val (.int p), .val (.int (c + (-16 : Int32)))] own_b12_25 rfl rfl rfl rfl ?_
      refine WP.iloadN K 29 own_b12_28 rfl rfl ?_
      refine WP.bipush K (16 : Int32) 31 own_b12_29 rfl rfl ?_
      refine WP.iushr K 32 own_b12_31 rfl ?_
      refine WP.istoreN K 33 [.val (.int (XT.ushr p (16 : Int32))), .val (.int (c + (-16 : Int32)))] own_b12_32 rfl rfl ?_
      exact J33 (s - 16) (n / 2 ^ 16) _ _ hu hd.1 hd.2 (by clear hd hu h1 h2; omega) (nlz_c (k := 16) ha hc hk)
  refine WP.iloadN K 1 own_b12_0 rfl rfl ?_
  refine WP.if_gt K 15 4 own_b12_1 (by decide) rfl (fun c1 => ?_) (fun c1 => ?_)
  · skip
    refine WP.bipush K (31 : Int32) 17 own_b12_15 rfl rfl ?_
    refine WP.istoreN K 18 [.val (.int v), .val (.int (31 : Int32))] own_b12_17 rfl rfl ?_
    have ht := nlz_lo (k := 31) h1 (by have : 2 ^ 31 = 2147483648 := rfl; omega)
    exact J18 t n _ _ (by omega) h1 h2 (by omega) (by omega)
  · skip
    refine WP.iloadN K 5 own_b12_4 rfl rfl ?_
    refine WP.if_ne K 13 8 own_b12_5 (by decide) rfl (fun c5 => ?_) (fun c5 => ?_)
    · skip
      refine WP.iconst K (0 : Int32) 14 own_b12_13 rfl rfl ?_
      refine WP.iret K rfl (Or.inl rfl) rfl own_b12_14 ?_ (by decide) (by decide)
      have e31 : 2 ^ 31 = 2147483648 := rfl
      have e32 : 2 ^ 32 = 4294967296 := rfl
      have q1 := nlz_hi (k := 31) h2 (by omega)
      have q2 := nlz_lo (k := 32) h1 (by omega)
      exact ⟨_, rfl, ⟨_, rfl, by omega⟩, rfl⟩
    · skip
      exfalso; omega
theorem own_b11_0 : decode jdk_35_method_48_code 0 = .ok (.lload_n 0, 1) := by decide +kernel
theorem own_b11_1 : decode jdk_35_method_48_code 1 = .ok (.bipush 32, 2) := by decide +kernel
theorem own_b11_3 : decode jdk_35_method_48_code 3 = .ok (.lushr, 1) := by decide +kernel
theorem own_b11_4 : decode jdk_35_method_48_code 4 = .ok (.l2i, 1) := by decide +kernel
theorem own_b11_5 : decode jdk_35_method_48_code 5 = .ok (.istore_n 2, 1) := by decide +kernel
theorem own_b11_6 : decode jdk_35_method_48_code 6 = .ok (.iload_n 2, 1) := by decide +kernel
theorem own_b11_7 : decode jdk_35_method_48_code 7 = .ok (.ifCond .ne 14, 3) := by decide +kernel
theorem own_b11_10 : decode jdk_35_method_48_code 10 = .ok (.bipush 32, 2) := by decide +kernel
theorem own_b11_12 : decode jdk_35_method_48_code 12 = .ok (.lload_n 0, 1) := by decide +kernel
theorem own_b11_13 : decode jdk_35_method_48_code 13 = .ok (.l2i, 1) := by decide +kernel
theorem own_b11_14 : decode jdk_35_method_48_code 14 = .ok (.invokestatic 308, 3) := by decide +kernel
theorem own_b11_17 : decode jdk_35_method_48_code 17 = .ok (.iadd, 1) := by decide +kernel
theorem own_b11_18 : decode jdk_35_method_48_code 18 = .ok (.goto 7, 3) := by decide +kernel
theorem own_b11_21 : decode jdk_35_method_48_code 21 = .ok (.iload_n 2, 1) := by decide +kernel
theorem own_b11_22 : decode jdk_35_method_48_code 22 = .ok (.invokestatic 308, 3) := by decide +kernel
theorem own_b11_25 : decode jdk_35_method_48_code 25 = .ok (.ireturn, 1) := by decide +kernel
theorem own_pf_b11 : plainFor (⟨"java/lang/Long", "numberOfLeadingZeros", "(J)I"⟩ : MethodName) = true := by first | exact plainFor_of_name (by first | (simp [plainName, overriddenIn, x]; done) | decide +kernel) | decide +kernel
theorem own_pd_0 : parseMethodDescriptor "(I)I" = some ⟨[.int], some .int⟩ := by decide +kernel
set_option maxRecDepth 65536 in
set_option maxHeartbeats 40000000 in
theorem own_nlzL (l : Launch) (Z : State) (a0 : Array Value) (hw : ∀ d ∈ tables_1, d.before a0 Z = true) (n0 : Nat) (h : Heap) (v : Int64) (G t : Nat) (hv : v.toInt = (G : Nat)) (h1 : 2 ^ t ≤ G) (h2 : G < 2 ^ (t + 1)) :
    Con l Z (⟨"java/lang/Long", "numberOfLeadingZeros", "(J)I"⟩ : MethodName) jdk_35_method_48_code 3 (some .int) ({ frames := 1, cells := 0, slots := 0, locals := 14 } : Room) n0 #[(.long v)] h (R1 fun r h' => (∃ z : Int32, r = .int z ∧ z.toInt = 63 - (t : Int)) ∧ h = h') := by
  refine Con.of (ls := [.val (.long v), .second, .unset]) own_pf_b11 (fun m => by first | (simp [entryFrame, mkF, argsToLocals, Value.category]; done) | rfl) fun k K => ?_
  have k_32 : (32 : Int32).toInt = 32 := rfl
  have e1 := nl_hi hv
  have e2 := nl_lo hv
  have e3 := w_nat (XT.ushrL v (32 : Int32)).toInt32
  have e32 : 2 ^ 32 = 4294967296 := rfl
  have hvn := v_nat hv
  refine WP.lloadN K 1 own_b11_0 rfl rfl ?_
  refine WP.bipush K (32 : Int32) 3 own_b11_1 rfl rfl ?_
  refine WP.lushr K 4 own_b11_3 rfl ?_
  refine WP.l2i K 5 own_b11_4 rfl ?_
  refine WP.istoreN K 6 [.val (.long v), .second, .val (.int (XT.ushrL v (32 : Int32)).toInt32)] own_b11_5 rfl rfl ?_
  refine WP.iloadN K 7 own_b11_6 rfl rfl ?_
  refine WP.if_ne K 21 10 own_b11_7 (by decide) rfl (fun c7 => ?_) (fun c7 => ?_)
  · skip
    have hk : 32 ≤ t := nlz_hi h2 (by omega)
    have hd := nlz_div hk h1 h2
    rw [e32] at hd
    refine WP.iloadN K 22 own_b11_21 rfl rfl ?_
    refine WP.callS K 25 0 0 0 [(.int (XT.ushrL v (32 : Int32)).toInt32)] [] (hw _ (List.mem_of_getElem? (i := 78) rfl)) (hw _ (List.mem_of_getElem? (i := 79) rfl)) (hw _ (List.mem_of_getElem? (i := 80) rfl)) (hw _ (List.mem_of_getElem? (i := 81) rfl)) (by decide) own_pd_0 rfl rfl rfl (by decide) (by decide) (Nat.le_of_eq rfl) rfl own_b11_22 rfl rfl rfl (by decide) (by decide) (own_nlzI l Z a0 hw n0 h (XT.ushrL v (32 : Int32)).toInt32 (G / 4294967296) (t - 32) e1 hd.1 hd.2) (r1_next fun r3 h1 q2 => ?_)
    obtain ⟨⟨zi, rfl, hzi⟩, rfl⟩ := q2
    refine WP.iret K rfl (Or.inl rfl) rfl own_b11_25 ?_ (by decide) (by decide)
    exact ⟨_, rfl, ⟨_, rfl, by omega⟩, rfl⟩
  · skip
    have hk : t < 32 := nlz_lo h1 (by omega)
    refine WP.bipush K (32 : Int32) 12 own_b11_10 rfl rfl ?_
    refine WP.lloadN K 13 own_b11_12 rfl rfl ?_
    refine WP.l2i K 14 own_b11_13 rfl ?_
    refine WP.callS K 17 0 0 1 [(.int v.toInt32)] [(.int (32 : Int32))] (hw _ (List.mem_of_getElem? (i := 78) rfl)) (hw _ (List.mem_of_getElem? (i := 79) rfl)) (hw _ (List.mem_of_getElem? (i := 80) rfl)) (hw _ (List.mem_of_getElem? (i := 81) rfl)) (by decide) own_pd_0 rfl rfl rfl (by decide) (by decide) (Nat.le_of_eq rfl) rfl own_b11_14 rfl rfl rfl (by decide) (by decide) (own_nlzI l Z a0 hw n0 h v.toInt32 G t (by omega) h1 h2) (r1_next fun r6 h4 q5 => ?_)
    obtain ⟨⟨zi, rfl, hzi⟩, rfl⟩ := q5
    refine WP.iadd K 18 own_b11_17 rfl ?_
    refine WP.goto K 25 own_b11_18 (by decide) ?_
    refine WP.iret K rfl (Or.inl rfl) rfl own_b11_25 ?_ (by decide) (by decide)
    exact ⟨_, rfl, ⟨_, rfl, by rw [i32_add (by omega) (by omega)]; omega⟩, rfl⟩
theorem own_b10_0 : decode prog_8_method_15_code 0 = .ok (.iconst 1, 1) := by decide +kernel
theorem own_b10_1 : decode prog_8_method_15_code 1 = .ok (.bipush 64, 2) := by decide +kernel
theorem own_b10_3 : decode prog_8_method_15_code 3 = .ok (.lload_n 0, 1) := by decide +kernel
theorem own_b10_4 : decode prog_8_method_15_code 4 = .ok (.invokestatic 107, 3) := by decide +kernel
theorem own_b10_7 : decode prog_8_method_15_code 7 = .ok (.isub, 1) := by decide +kernel
theorem own_b10_8 : decode prog_8_method_15_code 8 = .ok (.bipush 6, 2) := by decide +kernel
theorem own_b10_10 : decode prog_8_method_15_code 10 = .ok (.iadd, 1) := by decide +kernel
theorem own_b10_11 : decode prog_8_method_15_code 11 = .ok (.bipush 7, 2) := by decide +kernel
theorem own_b10_13 : decode prog_8_method_15_code 13 = .ok (.idiv, 1) := by decide +kernel
theorem own_b10_14 : decode prog_8_method_15_code 14 = .ok (.invokestatic 112, 3) := by decide +kernel
theorem own_b10_17 : decode prog_8_method_15_code 17 = .ok (.ireturn, 1) := by decide +kernel
theorem own_pf_b10 : plainFor (⟨"com/example/highwater/highwater/MessageIndex", "gapLength", "(J)I"⟩ : MethodName) = true := by first | exact plainFor_of_name (by first | (simp [plainName, overriddenIn, x]; done) | decide +kernel) | decide +kernel
theorem own_pd_1 : parseMethodDescriptor "(J)I" = some ⟨[.long], some .int⟩ := by decide +kernel
theorem own_pd_2 : parseMethodDescriptor "(II)I" = some ⟨[.int, .int], some .int⟩ := by decide +kernel
set_option maxRecDepth 65536 in
set_option maxHeartbeats 40000000 in
theorem own_gaplen (l : Launch) (Z : State) (a0 : Array Value) (hw : ∀ d ∈ tables_1, d.before a0 Z = true) (n0 : Nat) (h : Heap) (v : Int64) (G : Nat) (hv : v.toInt = (G : Nat)) (hG : 1 ≤ G) :
    Con l Z (⟨"com/example/highwater/highwater/MessageIndex", "gapLength", "(J)I"⟩ : MethodName) prog_8_method_15_code 2 (some .int) ({ frames := 2, cells := 0, slots := 0, locals := 30 } : Room) n0 #[(.long v)] h (R1 fun r h' => (∃ z : Int32, r = .int z ∧ z.toInt = (el G : Nat)) ∧ h = h') := by
  refine Con.of (ls := [.val (.long v), .second]) own_pf_b10 (fun m => by first | (simp [entryFrame, mkF, argsToLocals, Value.category]; done) | rfl) fun k K => ?_
  have k_1 : (1 : Int32).toInt = 1 := rfl
  have k_6 : (6 : Int32).toInt = 6 := rfl
  have k_64 : (64 : Int32).toInt = 64 := rfl
  have k_7 : (7 : Int32).toInt = 7 := rfl
  obtain ⟨t, h1, h2⟩ : ∃ t, 2 ^ t ≤ G ∧ G < 2 ^ (t + 1) := ⟨G.log2, Nat.log2_self_le (by omega), Nat.lt_log2_self⟩
  have hvn := v_nat hv
  have ht : t < 63 := nlz_lo h1 (by have : 2 ^ 63 = 9223372036854775808 := rfl; omega)
  have hel := el_log h1 h2
  refine WP.iconst K (1 : Int32) 1 own_b10_0 rfl rfl ?_
  refine WP.bipush K (64 : Int32) 3 own_b10_1 rfl rfl ?_
  refine WP.lloadN K 4 own_b10_3 rfl rfl ?_
  refine WP.callS K 7 0 0 2 [(.long v)] [(.int (64 : Int32)), (.int (1 : Int32))] (hw _ (List.mem_of_getElem? (i := 74) rfl)) (hw _ (List.mem_of_getElem? (i := 75) rfl)) (hw _ (List.mem_of_getElem? (i := 76) rfl)) (hw _ (List.mem_of_getElem? (i := 77) rfl)) (by decide) own_pd_1 rfl rfl rfl (by decide) (by decide) (Nat.le_of_eq rfl) rfl own_b10_4 rfl rfl rfl (by decide) (by decide) (own_nlzL l Z a0 hw n0 h v G t hv h1 h2) (r1_next fun r3 h1 q2 => ?_)
  obtain ⟨⟨z1, rfl, hz1⟩, rfl⟩ := q2
  refine WP.isub K 8 own_b10_7 rfl ?_
  refine WP.bipush K (6 : Int32) 10 own_b10_8 rfl rfl ?_
  refine WP.iadd K 11 own_b10_10 rfl ?_
  refine WP.bipush K (7 : Int32) 13 own_b10_11 rfl rfl ?_
  refine WP.idiv K 14 own_b10_13 rfl (by decide) ?_
  have a1 : ((64 : Int32) - z1).toInt = 1 + t := by rw [i32_sub (by omega) (by omega)]; omega
  have a2 : (((64 : Int32) - z1) + (6 : Int32)).toInt = 7 + t := by rw [i32_add (by omega) (by omega)]; omega
  have a3 : ((((64 : Int32) - z1) + (6 : Int32)) / (7 : Int32)).toInt = (7 + t) / 7 := by rw [(c_idiv _ (7 : Int32) 7 rfl (by decide)).1 (by omega), a2]
  have a4 := max32_spec (1 : Int32) ((((64 : Int32) - z1) + (6 : Int32)) / (7 : Int32))
  refine WP.callS K 17 0 0 0 [(.int (1 : Int32)), (.int ((((64 : Int32) - z1) + (6 : Int32)) / (7 : Int32)))] [] (hw _ (List.mem_of_getElem? (i := 83) rfl)) (hw _ (List.mem_of_getElem? (i := 84) rfl)) (hw _ (List.mem_of_getElem? (i := 85) rfl)) (hw _ (List.mem_of_getElem? (i := 86) rfl)) (by decide) own_pd_2 rfl rfl rfl (by decide) (by decide) (Nat.le_of_eq rfl) rfl own_b10_14 rfl rfl rfl (by decide) (by decide) (own_max l Z a0 hw n0 h (1 : Int32) ((((64 : Int32) - z1) + (6 : Int32)) / (7 : Int32)) ) (r1_next fun r6 h4 q5 => ?_)
  obtain ⟨rfl, rfl⟩ := q5
  refine WP.iret K rfl (Or.inl rfl) rfl own_b10_17 ?_ (by decide) (by decide)
  exact ⟨_, rfl, ⟨_, rfl, by omega⟩, rfl⟩
theorem own_b15_0 : decode prog_8_method_16_code 0 = .ok (.iload_n 1, 1) := by decide +kernel
theorem own_b15_1 : decode prog_8_method_16_code 1 = .ok (.istore 4, 2) := by decide +kernel
theorem own_b15_3 : decode prog_8_method_16_code 3 = .ok (.lload_n 2, 1) := by decide +kernel
theorem own_b15_4 : decode prog_8_method_16_code 4 = .ok (.lstore 5, 2) := by decide +kernel
theorem own_b15_6 : decode prog_8_method_16_code 6 = .ok (.lload 5, 2) := by decide +kernel
theorem own_b15_8 : decode prog_8_method_16_code 8 = .ok (.ldc2_w 118, 3) := by decide +kernel
theorem own_b15_11 : decode prog_8_method_16_code 11 = .ok (.lcmp, 1) := by decide +kernel
theorem own_b15_12 : decode prog_8_method_16_code 12 = .ok (.ifCond .lt 28, 3) := by decide +kernel
theorem own_b15_15 : decode prog_8_method_16_code 15 = .ok (.aload_n 0, 1) := by decide +kernel
theorem own_b15_16 : decode prog_8_method_16_code 16 = .ok (.iload 4, 2) := by decide +kernel
theorem own_b15_18 : decode prog_8_method_16_code 18 = .ok (.iinc 4 1, 3) := by decide +kernel
theorem own_b15_21 : decode prog_8_method_16_code 21 = .ok (.lload 5, 2) := by decide +kernel
theorem own_b15_23 : decode prog_8_method_16_code 23 = .ok (.ldc2_w 118, 3) := by decide +kernel
theorem own_b15_26 : decode prog_8_method_16_code 26 = .ok (.lor, 1) := by decide +kernel
theorem own_b15_27 : decode prog_8_method_16_code 27 = .ok (.l2i, 1) := by decide +kernel
theorem own_b15_28 : decode prog_8_method_16_code 28 = .ok (.i2b, 1) := by decide +kernel
theorem own_b15_29 : decode prog_8_method_16_code 29 = .ok (.bastore, 1) := by decide +kernel
theorem own_b15_30 : decode prog_8_method_16_code 30 = .ok (.lload 5, 2) := by decide +kernel
theorem own_b15_32 : decode prog_8_method_16_code 32 = .ok (.bipush 7, 2) := by decide +kernel
theorem own_b15_34 : decode prog_8_method_16_code 34 = .ok (.lushr, 1) := by decide +kernel
theorem own_b15_35 : decode prog_8_method_16_code 35 = .ok (.lstore 5, 2) := by decide +kernel
theorem own_b15_37 : decode prog_8_method_16_code 37 = .ok (.goto (-31), 3) := by decide +kernel
theorem own_b15_40 : decode prog_8_method_16_code 40 = .ok (.aload_n 0, 1) := by decide +kernel
theorem own_b15_41 : decode prog_8_method_16_code 41 = .ok (.iload 4, 2) := by decide +kernel
theorem own_b15_43 : decode prog_8_method_16_code 43 = .ok (.iinc 4 1, 3) := by decide +kernel
theorem own_b15_46 : decode prog_8_method_16_code 46 = .ok (.lload 5, 2) := by decide +kernel
theorem own_b15_48 : decode prog_8_method_16_code 48 = .ok (.l2i, 1) := by decide +kernel
theorem own_b15_49 : decode prog_8_method_16_code 49 = .ok (.i2b, 1) := by decide +kernel
theorem own_b15_50 : decode prog_8_method_16_code 50 = .ok (.bastore, 1) := by decide +kernel
theorem own_b15_51 : decode prog_8_method_16_code 51 = .ok (.iload 4, 2) := by decide +kernel
theorem own_b15_53 : decode prog_8_method_16_code 53 = .ok (.ireturn, 1) := by decide +kernel
theorem own_pf_b15 : plainFor (⟨"com/example/highwater/highwater/MessageIndex", "put", "([BIJ)I"⟩ : MethodName) = true := by first | exact plainFor_of_name (by first | (simp [plainName, overriddenIn, x]; done) | decide +kernel) | decide +kernel
set_option maxRecDepth 65536 in
set_option maxHeartbeats 40000000 in
theorem own_put (l : Launch) (Z : State) (a0 : Array Value) (hw : ∀ d ∈ tables_1, d.before a0 Z = true) (n0 : Nat) (h : Heap) (g : Nat) (at_ : Int32) (v : Int64) (X V Y : List Int8) (G : Nat) (A_g : ArB Z h g (X ++ V ++ Y)) (hV : V.length = el G) (ha : at_.toInt = (X.length : Nat)) (hv : v.toInt = (G : Nat)) (hl : X.length + V.length + Y.length ≤ 54) (n0_g : n0 ≤ g) :
    Con l Z (⟨"com/example/highwater/highwater/MessageIndex", "put", "([BIJ)I"⟩ : MethodName) prog_8_method_16_code 7 (some .int) ({ frames := 0, cells := 0, slots := 0, locals := 0 } : Room) n0 #[(.ref g), (.int at_), (.long v)] h (R1 fun r h' => (∃ z : Int32, r = .int z ∧ z.toInt = ((X.length + el G : Nat) : Int)) ∧ ArB Z h' g (X ++ enc G ++ Y) ∧ Keep h h' [g]) := by
  refine Con.of (ls := [.val (.ref g), .val (.int at_), .val (.long v), .second, .unset, .unset, .unset]) own_pf_b15 (fun m => by first | (simp [entryFrame, mkF, argsToLocals, Value.category]; done) | rfl) fun k K => ?_
  have k_1 : (1 : Int32).toInt = 1 := rfl
  have kL_128 : (128 : Int64).toInt = 128 := rfl
  have k_7 : (7 : Int32).toInt = 7 := rfl
  have J6 : ∀ (D : Nat) (hh : Heap) (U W : List Int8) (pos : Int32) (v5 : Int64), Keep h hh [g] → ArB Z hh g (U ++ W ++ Y) → W.length = el D → pos.toInt = (U.length : Nat) → v5.toInt = (D : Nat) → U.length + W.length + Y.length ≤ 54 → U ++ enc D = X ++ enc G → WP k hh 0 0 6 [.val (.ref g), .val (.int at_), .val (.long v), .second, .val (.int pos), .val (.long v5), .second] [] := by
    intro D
    induction D using Nat.strongRecOn with
    | ind D ih =>
      intro hh U W pos v5 Kp A_g hW hpos hv5 hlen hT
      have hp := el_pos D
      obtain ⟨w0, W', rfl⟩ : ∃ w0 W', W = w0 :: W' := by
        cases W with
        | nil => exfalso; simp at hW; omega
        | cons a b => exact ⟨a, b, rfl⟩
      have hTl := congrArg List.length hT
      simp only [List.length_append] at hTl
      have eD : (enc D).length = el D := rfl
      have eG : (enc G).length = el G := rfl
      simp only [List.length_cons] at hW hlen
      have hinc := inc32 hpos (by omega)
      refine WP.lload K 8 own_b15_6 rfl rfl ?_
      refine WP.ldc2J K (v := (128 : Int64)) 11 (hw _ (List.mem_of_getElem? (i := 96) rfl)) own_b15_8 rfl ?_
      refine WP.lcmp K 12 own_b15_11 rfl ?_
      refine WP.ifl_lt K 40 15 own_b15_12 (by decide) rfl (fun c12 => ?_) (fun c12 => ?_)
      · skip
        have hD : D < 128 := by omega
        refine WP.aloadN K 41 own_b15_40 rfl rfl rfl ?_
        refine WP.iload K 43 own_b15_41 rfl rfl ?_
        refine WP.iinc K (1 : Int32) 46 [.val (.ref g), .val (.int at_), .val (.long v), .second, .val (.int (pos + (1 : Int32))), .val (.long v5), .second] own_b15_43 rfl rfl rfl rfl ?_
        refine WP.lload K 48 own_b15_46 rfl rfl ?_
        refine WP.l2i K 49 own_b15_48 rfl ?_
        refine WP.i2b K 50 own_b15_49 rfl ?_
        refine WP.bastore K 51 U.length A_g hpos (by simp) own_b15_50 rfl n0_g (fun h1 K2 A_g => ?_)
        have Kp := Kp.trans K2 (ks1 (by first | (refine Or.inl ?_; simp; done) | (refine Or.inr ?_; omega)))
        rw [set_mid, by_small hv5 hD] at A_g
        refine WP.iload K 53 own_b15_51 rfl rfl ?_
        refine WP.iret K rfl (Or.inl rfl) rfl own_b15_53 ?_ (by decide) (by decide)
        have hs := el_small hD
        refine ⟨_, rfl, ⟨_, rfl, by rw [hinc]; omega⟩, ?_, Kp⟩
        rw [← hT, enc_small hD]
        obtain rfl : W' = [] := List.length_eq_zero_iff.mp (by omega)
        simpa using A_g
      · skip
        have hD : ¬ D < 128 := by omega
        have hsh := ushrLK (x := v5) (q := (7 : Int32)) 7 rfl (by decide) hv5
        rw [show 2 ^ 7 = 128 from rfl] at hsh
        refine WP.aloadN K 16 own_b15_15 rfl rfl rfl ?_
        refine WP.iload K 18 own_b15_16 rfl rfl ?_
        refine WP.iinc K (1 : Int32) 21 [.val (.ref g), .val (.int at_), .val (.long v), .second, .val (.int (pos + (1 : Int32))), .val (.long v5), .second] own_b15_18 rfl rfl rfl rfl ?_
        refine WP.lload K 23 own_b15_21 rfl rfl ?_
        refine WP.ldc2J K (v := (128 : Int64)) 26 (hw _ (List.mem_of_getElem? (i := 96) rfl)) own_b15_23 rfl ?_
        refine WP.lor K 27 own_b15_26 rfl ?_
        refine WP.l2i K 28 own_b15_27 rfl ?_
        refine WP.i2b K 29 own_b15_28 rfl ?_
        refine WP.bastore K 30 U.length A_g hpos (by simp) own_b15_29 rfl n0_g (fun h3 K4 A_g => ?_)
        have Kp := Kp.trans K4 (ks1 (by first | (refine Or.inl ?_; simp; done) | (refine Or.inr ?_; omega)))
        rw [set_mid, by_big hv5] at A_g
        refine WP.lload K 32 own_b15_30 rfl rfl ?_
        refine WP.bipush K (7 : Int32) 34 own_b15_32 rfl rfl ?_
        refine WP.lushr K 35 own_b15_34 rfl ?_
        refine WP.lstore K 37 [.val (.ref g), .val (.int at_), .val (.long v), .second, .val (.int (pos + (1 : Int32))), .val (.long (XT.ushrL v5 (7 : Int32))), .second] own_b15_35 rfl rfl ?_
        refine WP.goto K 6 own_b15_37 (by decide) ?_
        exact ih (D / 128) (by omega) _ (U ++ [Int8.ofNat (D % 128 + 128)]) W' _ _ Kp (by simpa using A_g) (by have := el_big hD; omega) (by rw [hinc, List.length_append]; rfl) hsh (by rw [List.length_append, List.length_singleton]; omega) (by rw [← hT, enc_big hD]; simp)
  refine WP.iloadN K 1 own_b15_0 rfl rfl ?_
  refine WP.istore K 3 [.val (.ref g), .val (.int at_), .val (.long v), .second, .val (.int at_), .unset, .unset] own_b15_1 rfl rfl ?_
  refine WP.lloadN K 4 own_b15_3 rfl rfl ?_
  refine WP.lstore K 6 [.val (.ref g), .val (.int at_), .val (.long v), .second, .val (.int at_), .val (.long v), .second] own_b15_4 rfl rfl ?_
  exact J6 G h X V _ _ (Keep.refl h _) A_g hV ha hv hl rfl
theorem own_b22_0 : decode prog_8_method_13_code 0 = .ok (.lconst 0, 1) := by decide +kernel
theorem own_b22_1 : decode prog_8_method_13_code 1 = .ok (.lstore_n 2, 1) := by decide +kernel
theorem own_b22_2 : decode prog_8_method_13_code 2 = .ok (.iconst 0, 1) := by decide +kernel
theorem own_b22_3 : decode prog_8_method_13_code 3 = .ok (.istore 4, 2) := by decide +kernel
theorem own_b22_5 : decode prog_8_method_13_code 5 = .ok (.aload_n 0, 1) := by decide +kernel
theorem own_b22_6 : decode prog_8_method_13_code 6 = .ok (.iload_n 1, 1) := by decide +kernel
theorem own_b22_7 : decode prog_8_method_13_code 7 = .ok (.iinc 1 1, 3) := by decide +kernel
theorem own_b22_10 : decode prog_8_method_13_code 10 = .ok (.baload, 1) := by decide +kernel
theorem own_b22_11 : decode prog_8_method_13_code 11 = .ok (.istore 5, 2) := by decide +kernel
theorem own_b22_13 : decode prog_8_method_13_code 13 = .ok (.lload_n 2, 1) := by decide +kernel
theorem own_b22_14 : decode prog_8_method_13_code 14 = .ok (.iload 5, 2) := by decide +kernel
theorem own_b22_16 : decode prog_8_method_13_code 16 = .ok (.bipush 127, 2) := by decide +kernel
theorem own_b22_18 : decode prog_8_method_13_code 18 = .ok (.iand, 1) := by decide +kernel
theorem own_b22_19 : decode prog_8_method_13_code 19 = .ok (.i2l, 1) := by decide +kernel
theorem own_b22_20 : decode prog_8_method_13_code 20 = .ok (.iload 4, 2) := by decide +kernel
theorem own_b22_22 : decode prog_8_method_13_code 22 = .ok (.lshl, 1) := by decide +kernel
theorem own_b22_23 : decode prog_8_method_13_code 23 = .ok (.lor, 1) := by decide +kernel
theorem own_b22_24 : decode prog_8_method_13_code 24 = .ok (.lstore_n 2, 1) := by decide +kernel
theorem own_b22_25 : decode prog_8_method_13_code 25 = .ok (.iinc 4 7, 3) := by decide +kernel
theorem own_b22_28 : decode prog_8_method_13_code 28 = .ok (.iload 5, 2) := by decide +kernel
theorem own_b22_30 : decode prog_8_method_13_code 30 = .ok (.ifCond .lt (-25), 3) := by decide +kernel
theorem own_b22_33 : decode prog_8_method_13_code 33 = .ok (.lload_n 2, 1) := by decide +kernel
theorem own_b22_34 : decode prog_8_method_13_code 34 = .ok (.lreturn, 1) := by decide +kernel
theorem own_pf_b22 : plainFor (⟨"com/example/highwater/highwater/MessageIndex", "gap", "([BI)J"⟩ : MethodName) = true := by first | exact plainFor_of_name (by first | (simp [plainName, overriddenIn, x]; done) | decide +kernel) | decide +kernel
set_option maxRecDepth 65536 in
set_option maxHeartbeats 40000000 in
theorem own_gap (l : Launch) (Z : State) (a0 : Array Value) (hw : ∀ d ∈ tables_1, d.before a0 Z = true) (n0 : Nat) (h : Heap) (g : Nat) (at_ : Int32) (X Y : List Int8) (G : Nat) (A_g : ArB Z h g (X ++ enc G ++ Y)) (ha : at_.toInt = (X.length : Nat)) (hl : X.length + el G + Y.length ≤ 54) (hG : G < 9223372036854775808) :
    Con l Z (⟨"com/example/highwater/highwater/MessageIndex", "gap", "([BI)J"⟩ : MethodName) prog_8_method_13_code 6 (some .long) ({ frames := 0, cells := 0, slots := 0, locals := 0 } : Room) n0 #[(.ref g), (.int at_)] h (R1 fun r h' => (∃ z : Int64, r = .long z ∧ z.toInt = (G : Nat)) ∧ h = h') := by
  refine Con.of (ls := [.val (.ref g), .val (.int at_), .unset, .unset, .unset, .unset]) own_pf_b22 (fun m => by first | (simp [entryFrame, mkF, argsToLocals, Value.category]; done) | rfl) fun k K => ?_
  have k_0 : (0 : Int32).toInt = 0 := rfl
  have kL_0 : (0 : Int64).toInt = 0 := rfl
  have k_1 : (1 : Int32).toInt = 1 := rfl
  have k_127 : (127 : Int32).toInt = 127 := rfl
  have k_7 : (7 : Int32).toInt = 7 := rfl
  have J5 : ∀ (D : Nat) (U : List Int8) (pos : Int32) (acc : Int64) (sh : Int32) (i an : Nat) (s5 : Slot), One s5 → X ++ enc G = U ++ enc D → pos.toInt = (U.length : Nat) → acc.toInt = (an : Nat) → sh.toInt = ((7 * i : Nat) : Int) → an < 2 ^ (7 * i) → an + D * 2 ^ (7 * i) = G → (i = 0 ∨ 1 ≤ D) → WP k h 0 0 5 [.val (.ref g), .val (.int pos), .val (.long acc), .second, .val (.int sh), s5] [] := by
    intro D
    induction D using Nat.strongRecOn with
    | ind D ih =>
      intro U pos acc sh i an s5 h_s5 hT hpos hacc hsh han hsum hi
      have hTl := congrArg List.length hT
      simp only [List.length_append] at hTl
      have eD : (enc D).length = el D := rfl
      have eG : (enc G).length = el G := rfl
      have hpw : 1 ≤ 2 ^ (7 * i) := Nat.pow_pos (by decide)
      have hi8 : i ≤ 8 := by
        rcases hi with rfl | hi
        · omega
        · have h1 : 2 ^ (7 * i) ≤ G := by
            have := Nat.mul_le_mul_right (2 ^ (7 * i)) hi
            omega
          have := nlz_lo (s := 7 * i) (k := 63) h1 (by have : 2 ^ 63 = 9223372036854775808 := rfl; omega)
          omega
      have hp := el_pos D
      have hinc := inc32 hpos (by omega)
      have hsh7 : (sh + (7 : Int32)).toInt = ((7 * (i + 1) : Nat) : Int) := by rw [i32_add (by omega) (by omega)]; omega
      by_cases hD : D < 128
      · skip
        have hb := b8 D (by omega)
        have hba := b_and D (by omega)
        have hb2 : (Int8.ofNat D).toInt32.toInt = (Int8.ofNat D).toInt := Int8.toInt_toInt32 _
        rw [if_pos hD] at hb
        rw [Nat.mod_eq_of_lt hD] at hba
        rw [enc_small hD] at hT
        have hor := lor_shl hacc hba hsh hi8 han (by omega)
        have hg : (X ++ enc G ++ Y)[U.length]? = some (Int8.ofNat D) := by rw [hT, List.append_assoc, List.cons_append]; exact get_mid _ _ _
        refine WP.aloadN K 6 own_b22_5 rfl rfl rfl ?_
        refine WP.iloadN K 7 own_b22_6 rfl rfl ?_
        refine WP.iinc K (1 : Int32) 10 [.val (.ref g), .val (.int (pos + (1 : Int32))), .val (.long acc), .second, .val (.int sh), s5] own_b22_7 rfl rfl rfl rfl ?_
        refine WP.baload K 11 U.length A_g hpos hg own_b22_10 rfl ?_
        refine WP.istore K 13 [.val (.ref g), .val (.int (pos + (1 : Int32))), .val (.long acc), .second, .val (.int sh), .val (.int (Int8.ofNat D).toInt32)] own_b22_11 rfl (st1 rfl h_s5 rfl) ?_
        refine WP.lloadN K 14 own_b22_13 rfl rfl ?_
        refine WP.iload K 16 own_b22_14 rfl rfl ?_
        refine WP.bipush K (127 : Int32) 18 own_b22_16 rfl rfl ?_
        refine WP.iand K 19 own_b22_18 rfl ?_
        refine WP.i2l K 20 own_b22_19 rfl ?_
        refine WP.iload K 22 own_b22_20 rfl rfl ?_
        refine WP.lshl K 23 own_b22_22 rfl ?_
        refine WP.lor K 24 own_b22_23 rfl ?_
        refine WP.lstoreN K 25 [.val (.ref g), .val (.int (pos + (1 : Int32))), .val (.long (acc ||| (((((Int8.ofNat D).toInt32) &&& (127 : Int32)).toInt64) <<< (sh.toInt64 &&& 63)))), .second, .val (.int sh), .val (.int (Int8.ofNat D).toInt32)] own_b22_24 rfl rfl ?_
        refine WP.iinc K (7 : Int32) 28 [.val (.ref g), .val (.int (pos + (1 : Int32))), .val (.long (acc ||| (((((Int8.ofNat D).toInt32) &&& (127 : Int32)).toInt64) <<< (sh.toInt64 &&& 63)))), .second, .val (.int (sh + (7 : Int32))), .val (.int (Int8.ofNat D).toInt32)] own_b22_25 rfl rfl rfl rfl ?_
        refine WP.iload K 30 own_b22_28 rfl rfl ?_
        refine WP.if_lt K 5 33 own_b22_30 (by decide) rfl (fun c30 => ?_) (fun c30 => ?_)
        · skip
          exfalso; omega
        · skip
          refine WP.lloadN K 34 own_b22_33 rfl rfl ?_
          refine WP.lret K rfl own_b22_34 ?_ (by decide) (by decide)
          exact ⟨_, rfl, ⟨_, rfl, by rw [hor, hsum]⟩, rfl⟩
      · skip
        have hb := b8 (D % 128 + 128) (by omega)
        have hba := b_and (D % 128 + 128) (by omega)
        have hb2 : (Int8.ofNat (D % 128 + 128)).toInt32.toInt = (Int8.ofNat (D % 128 + 128)).toInt := Int8.toInt_toInt32 _
        rw [if_neg (by omega)] at hb
        rw [show (D % 128 + 128) % 128 = D % 128 by omega] at hba
        rw [enc_big hD] at hT
        have hdm := Nat.div_add_mod D 128
        have e7 : 2 ^ (7 * (i + 1)) = 128 * 2 ^ (7 * i) := by rw [show 7 * (i + 1) = 7 + 7 * i by omega, Nat.pow_add]
        have hs2 : (an + D % 128 * 2 ^ (7 * i)) + D / 128 * 2 ^ (7 * (i + 1)) = G := by
          rw [e7, ← hsum]
          have : D * 2 ^ (7 * i) = (128 * (D / 128) + D % 128) * 2 ^ (7 * i) := by rw [hdm]
          rw [this, Nat.add_mul, ← Nat.mul_assoc, Nat.mul_comm (D / 128) 128]; omega
        have hlt : an + D % 128 * 2 ^ (7 * i) < 2 ^ (7 * (i + 1)) := by
          rw [e7]
          have := Nat.mul_le_mul_right (2 ^ (7 * i)) (show D % 128 ≤ 127 by omega)
          omega
        have hor := lor_shl hacc hba hsh hi8 han (by omega)
        have hg : (X ++ enc G ++ Y)[U.length]? = some (Int8.ofNat (D % 128 + 128)) := by rw [hT, List.append_assoc, List.cons_append]; exact get_mid _ _ _
        refine WP.aloadN K 6 own_b22_5 rfl rfl rfl ?_
        refine WP.iloadN K 7 own_b22_6 rfl rfl ?_
        refine WP.iinc K (1 : Int32) 10 [.val (.ref g), .val (.int (pos + (1 : Int32))), .val (.long acc), .second, .val (.int sh), s5] own_b22_7 rfl rfl rfl rfl ?_
        refine WP.baload K 11 U.length A_g hpos hg own_b22_10 rfl ?_
        refine WP.istore K 13 [.val (.ref g), .val (.int (pos + (1 : Int32))), .val (.long acc), .second, .val (.int sh), .val (.int (Int8.ofNat (D % 128 + 128)).toInt32)] own_b22_11 rfl (st1 rfl h_s5 rfl) ?_
        refine WP.lloadN K 14 own_b22_13 rfl rfl ?_
        refine WP.iload K 16 own_b22_14 rfl rfl ?_
        refine WP.bipush K (127 : Int32) 18 own_b22_16 rfl rfl ?_
        refine WP.iand K 19 own_b22_18 rfl ?_
        refine WP.i2l K 20 own_b22_19 rfl ?_
        refine WP.iload K 22 own_b22_20 rfl rfl ?_
        refine WP.lshl K 23 own_b22_22 rfl ?_
        refine WP.lor K 24 own_b22_23 rfl ?_
        refine WP.lstoreN K 25 [.val (.ref g), .val (.int (pos + (1 : Int32))), .val (.long (acc ||| (((((Int8.ofNat (D % 128 + 128)).toInt32) &&& (127 : Int32)).toInt64) <<< (sh.toInt64 &&& 63)))), .second, .val (.int sh), .val (.int (Int8.ofNat (D % 128 + 128)).toInt32)] own_b22_24 rfl rfl ?_
        refine WP.iinc K (7 : Int32) 28 [.val (.ref g), .val (.int (pos + (1 : Int32))), .val (.long (acc ||| (((((Int8.ofNat (D % 128 + 128)).toInt32) &&& (127 : Int32)).toInt64) <<< (sh.toInt64 &&& 63)))), .second, .val (.int (sh + (7 : Int32))), .val (.int (Int8.ofNat (D % 128 + 128)).toInt32)] own_b22_25 rfl rfl rfl rfl ?_
        refine WP.iload K 30 own_b22_28 rfl rfl ?_
        refine WP.if_lt K 5 33 own_b22_30 (by decide) rfl (fun c30 => ?_) (fun c30 => ?_)
        · skip
          exact ih (D / 128) (by omega) (U ++ [(Int8.ofNat (D % 128 + 128))]) _ _ _ (i + 1) (an + D % 128 * 2 ^ (7 * i)) _ (Or.inr ⟨_, rfl, rfl⟩) (by rw [hT]; simp) (by rw [hinc, List.length_append]; rfl) hor hsh7 hlt hs2 (Or.inr (by omega))
        · skip
          exfalso; omega
  refine WP.lconst K (0 : Int64) 1 own_b22_0 rfl rfl ?_
  refine WP.lstoreN K 2 [.val (.ref g), .val (.int at_), .val (.long (0 : Int64)), .second, .unset, .unset] own_b22_1 rfl rfl ?_
  refine WP.iconst K (0 : Int32) 3 own_b22_2 rfl rfl ?_
  refine WP.istore K 5 [.val (.ref g), .val (.int at_), .val (.long (0 : Int64)), .second, .val (.int (0 : Int32)), .unset] own_b22_3 rfl rfl ?_
  exact J5 G X _ _ _ 0 0 _ (Or.inl rfl) rfl ha rfl rfl (by decide) (by simp) (Or.inl rfl)
theorem own_b23_0 : decode prog_8_method_14_code 0 = .ok (.iconst 1, 1) := by decide +kernel
theorem own_b23_1 : decode prog_8_method_14_code 1 = .ok (.istore_n 2, 1) := by decide +kernel
theorem own_b23_2 : decode prog_8_method_14_code 2 = .ok (.aload_n 0, 1) := by decide +kernel
theorem own_b23_3 : decode prog_8_method_14_code 3 = .ok (.iload_n 1, 1) := by decide +kernel
theorem own_b23_4 : decode prog_8_method_14_code 4 = .ok (.iload_n 2, 1) := by decide +kernel
theorem own_b23_5 : decode prog_8_method_14_code 5 = .ok (.iadd, 1) := by decide +kernel
theorem own_b23_6 : decode prog_8_method_14_code 6 = .ok (.iconst 1, 1) := by decide +kernel
theorem own_b23_7 : decode prog_8_method_14_code 7 = .ok (.isub, 1) := by decide +kernel
theorem own_b23_8 : decode prog_8_method_14_code 8 = .ok (.baload, 1) := by decide +kernel
theorem own_b23_9 : decode prog_8_method_14_code 9 = .ok (.ifCond .ge 9, 3) := by decide +kernel
theorem own_b23_12 : decode prog_8_method_14_code 12 = .ok (.iinc 2 1, 3) := by decide +kernel
theorem own_b23_15 : decode prog_8_method_14_code 15 = .ok (.goto (-13), 3) := by decide +kernel
theorem own_b23_18 : decode prog_8_method_14_code 18 = .ok (.iload_n 2, 1) := by decide +kernel
theorem own_b23_19 : decode prog_8_method_14_code 19 = .ok (.ireturn, 1) := by decide +kernel
theorem own_pf_b23 : plainFor (⟨"com/example/highwater/highwater/MessageIndex", "gapBytes", "([BI)I"⟩ : MethodName) = true := by first | exact plainFor_of_name (by first | (simp [plainName, overriddenIn, x]; done) | decide +kernel) | decide +kernel
set_option maxRecDepth 65536 in
set_option maxHeartbeats 40000000 in
theorem own_gapbytes (l : Launch) (Z : State) (a0 : Array Value) (hw : ∀ d ∈ tables_1, d.before a0 Z = true) (n0 : Nat) (h : Heap) (g : Nat) (at_ : Int32) (X Y : List Int8) (G : Nat) (A_g : ArB Z h g (X ++ enc G ++ Y)) (ha : at_.toInt = (X.length : Nat)) (hl : X.length + el G + Y.length ≤ 54) :
    Con l Z (⟨"com/example/highwater/highwater/MessageIndex", "gapBytes", "([BI)I"⟩ : MethodName) prog_8_method_14_code 3 (some .int) ({ frames := 0, cells := 0, slots := 0, locals := 0 } : Room) n0 #[(.ref g), (.int at_)] h (R1 fun r h' => (∃ z : Int32, r = .int z ∧ z.toInt = (el G : Nat)) ∧ h = h') := by
  refine Con.of (ls := [.val (.ref g), .val (.int at_), .unset]) own_pf_b23 (fun m => by first | (simp [entryFrame, mkF, argsToLocals, Value.category]; done) | rfl) fun k K => ?_
  have k_1 : (1 : Int32).toInt = 1 := rfl
  have J2 : ∀ (D : Nat) (U : List Int8) (len : Int32) (j : Nat), X ++ enc G = U ++ enc D → U.length = X.length + j → len.toInt = ((j + 1 : Nat) : Int) → WP k h 0 0 2 [.val (.ref g), .val (.int at_), .val (.int len)] [] := by
    intro D
    induction D using Nat.strongRecOn with
    | ind D ih =>
      intro U len j hT hU hlen
      have hTl := congrArg List.length hT
      simp only [List.length_append] at hTl
      have eD : (enc D).length = el D := rfl
      have eG : (enc G).length = el G := rfl
      have hp := el_pos D
      have hix : ((at_ + len) - (1 : Int32)).toInt = (U.length : Nat) := by
        have e : (at_ + len).toInt = at_.toInt + len.toInt := i32_add (by omega) (by omega)
        rw [i32_sub (by omega) (by omega)]; omega
      have hinc := inc32 hlen (by omega)
      by_cases hD : D < 128
      · skip
        have hb := b8 D (by omega)
        have hb2 : (Int8.ofNat D).toInt32.toInt = (Int8.ofNat D).toInt := Int8.toInt_toInt32 _
        rw [if_pos hD] at hb
        rw [enc_small hD] at hT
        have es := el_small hD
        have hg : (X ++ enc G ++ Y)[U.length]? = some (Int8.ofNat D) := by rw [hT, List.append_assoc, List.cons_append]; exact get_mid _ _ _
        refine WP.aloadN K 3 own_b23_2 rfl rfl rfl ?_
        refine WP.iloadN K 4 own_b23_3 rfl rfl ?_
        refine WP.iloadN K 5 own_b23_4 rfl rfl ?_
        refine WP.iadd K 6 own_b23_5 rfl ?_
        refine WP.iconst K (1 : Int32) 7 own_b23_6 rfl rfl ?_
        refine WP.isub K 8 own_b23_7 rfl ?_
        refine WP.baload K 9 U.length A_g hix hg own_b23_8 rfl ?_
        refine WP.if_ge K 18 12 own_b23_9 (by decide) rfl (fun c9 => ?_) (fun c9 => ?_)
        · skip
          refine WP.iloadN K 19 own_b23_18 rfl rfl ?_
          refine WP.iret K rfl (Or.inl rfl) rfl own_b23_19 ?_ (by decide) (by decide)
          exact ⟨_, rfl, ⟨_, rfl, by rw [hlen]; omega⟩, rfl⟩
        · skip
          exfalso; omega
      · skip
        have hb := b8 (D % 128 + 128) (by omega)
        have hb2 : (Int8.ofNat (D % 128 + 128)).toInt32.toInt = (Int8.ofNat (D % 128 + 128)).toInt := Int8.toInt_toInt32 _
        rw [if_neg (by omega)] at hb
        rw [enc_big hD] at hT
        have hg : (X ++ enc G ++ Y)[U.length]? = some (Int8.ofNat (D % 128 + 128)) := by rw [hT, List.append_assoc, List.cons_append]; exact get_mid _ _ _
        refine WP.aloadN K 3 own_b23_2 rfl rfl rfl ?_
        refine WP.iloadN K 4 own_b23_3 rfl rfl ?_
        refine WP.iloadN K 5 own_b23_4 rfl rfl ?_
        refine WP.iadd K 6 own_b23_5 rfl ?_
        refine WP.iconst K (1 : Int32) 7 own_b23_6 rfl rfl ?_
        refine WP.isub K 8 own_b23_7 rfl ?_
        refine WP.baload K 9 U.length A_g hix hg own_b23_8 rfl ?_
        refine WP.if_ge K 18 12 own_b23_9 (by decide) rfl (fun c9 => ?_) (fun c9 => ?_)
        · skip
          exfalso; omega
        · skip
          refine WP.iinc K (1 : Int32) 15 [.val (.ref g), .val (.int at_), .val (.int (len + (1 : Int32)))] own_b23_12 rfl rfl rfl rfl ?_
          refine WP.goto K 2 own_b23_15 (by decide) ?_
          exact ih (D / 128) (by omega) (U ++ [(Int8.ofNat (D % 128 + 128))]) _ (j + 1) (by rw [hT]; simp) (by rw [List.length_append, List.length_singleton]; omega) hinc
  refine WP.iconst K (1 : Int32) 1 own_b23_0 rfl rfl ?_
  refine WP.istoreN K 2 [.val (.ref g), .val (.int at_), .val (.int (1 : Int32))] own_b23_1 rfl rfl ?_
  exact J2 G X _ 0 rfl rfl rfl
theorem own_b9_0 : decode prog_9_method_11_code 0 = .ok (.lload_n 3, 1) := by decide +kernel
theorem own_b9_1 : decode prog_9_method_11_code 1 = .ok (.invokestatic 61, 3) := by decide +kernel
theorem own_b9_4 : decode prog_9_method_11_code 4 = .ok (.lload 5, 2) := by decide +kernel
theorem own_b9_6 : decode prog_9_method_11_code 6 = .ok (.lconst 0, 1) := by decide +kernel
theorem own_b9_7 : decode prog_9_method_11_code 7 = .ok (.lcmp, 1) := by decide +kernel
theorem own_b9_8 : decode prog_9_method_11_code 8 = .ok (.ifCond .ne 7, 3) := by decide +kernel
theorem own_b9_11 : decode prog_9_method_11_code 11 = .ok (.iconst 0, 1) := by decide +kernel
theorem own_b9_12 : decode prog_9_method_11_code 12 = .ok (.goto 8, 3) := by decide +kernel
theorem own_b9_15 : decode prog_9_method_11_code 15 = .ok (.lload 5, 2) := by decide +kernel
theorem own_b9_17 : decode prog_9_method_11_code 17 = .ok (.invokestatic 61, 3) := by decide +kernel
theorem own_b9_20 : decode prog_9_method_11_code 20 = .ok (.iadd, 1) := by decide +kernel
theorem own_b9_21 : decode prog_9_method_11_code 21 = .ok (.istore 7, 2) := by decide +kernel
theorem own_b9_23 : decode prog_9_method_11_code 23 = .ok (.aload_n 0, 1) := by decide +kernel
theorem own_b9_24 : decode prog_9_method_11_code 24 = .ok (.getfield 25, 3) := by decide +kernel
theorem own_b9_27 : decode prog_9_method_11_code 27 = .ok (.iload_n 1, 1) := by decide +kernel
theorem own_b9_28 : decode prog_9_method_11_code 28 = .ok (.isub, 1) := by decide +kernel
theorem own_b9_29 : decode prog_9_method_11_code 29 = .ok (.iload_n 2, 1) := by decide +kernel
theorem own_b9_30 : decode prog_9_method_11_code 30 = .ok (.isub, 1) := by decide +kernel
theorem own_b9_31 : decode prog_9_method_11_code 31 = .ok (.istore 8, 2) := by decide +kernel
theorem own_b9_33 : decode prog_9_method_11_code 33 = .ok (.aload_n 0, 1) := by decide +kernel
theorem own_b9_34 : decode prog_9_method_11_code 34 = .ok (.getfield 25, 3) := by decide +kernel
theorem own_b9_37 : decode prog_9_method_11_code 37 = .ok (.iload_n 2, 1) := by decide +kernel
theorem own_b9_38 : decode prog_9_method_11_code 38 = .ok (.isub, 1) := by decide +kernel
theorem own_b9_39 : decode prog_9_method_11_code 39 = .ok (.iload 7, 2) := by decide +kernel
theorem own_b9_41 : decode prog_9_method_11_code 41 = .ok (.iadd, 1) := by decide +kernel
theorem own_b9_42 : decode prog_9_method_11_code 42 = .ok (.aload_n 0, 1) := by decide +kernel
theorem own_b9_43 : decode prog_9_method_11_code 43 = .ok (.getfield 13, 3) := by decide +kernel
theorem own_b9_46 : decode prog_9_method_11_code 46 = .ok (.arraylength, 1) := by decide +kernel
theorem own_b9_47 : decode prog_9_method_11_code 47 = .ok (.if_icmp .le 121, 3) := by decide +kernel
theorem own_b9_50 : decode prog_9_method_11_code 50 = .ok (.aload_n 0, 1) := by decide +kernel
theorem own_b9_51 : decode prog_9_method_11_code 51 = .ok (.getfield 25, 3) := by decide +kernel
theorem own_b9_54 : decode prog_9_method_11_code 54 = .ok (.aload_n 0, 1) := by decide +kernel
theorem own_b9_55 : decode prog_9_method_11_code 55 = .ok (.getfield 29, 3) := by decide +kernel
theorem own_b9_58 : decode prog_9_method_11_code 58 = .ok (.isub, 1) := by decide +kernel
theorem own_b9_59 : decode prog_9_method_11_code 59 = .ok (.iload_n 2, 1) := by decide +kernel
theorem own_b9_60 : decode prog_9_method_11_code 60 = .ok (.isub, 1) := by decide +kernel
theorem own_b9_61 : decode prog_9_method_11_code 61 = .ok (.iload 7, 2) := by decide +kernel
theorem own_b9_63 : decode prog_9_method_11_code 63 = .ok (.iadd, 1) := by decide +kernel
theorem own_b9_64 : decode prog_9_method_11_code 64 = .ok (.istore 9, 2) := by decide +kernel
theorem own_b9_66 : decode prog_9_method_11_code 66 = .ok (.iload 9, 2) := by decide +kernel
theorem own_b9_68 : decode prog_9_method_11_code 68 = .ok (.aload_n 0, 1) := by decide +kernel
theorem own_b9_69 : decode prog_9_method_11_code 69 = .ok (.getfield 13, 3) := by decide +kernel
theorem own_b9_72 : decode prog_9_method_11_code 72 = .ok (.arraylength, 1) := by decide +kernel
theorem own_b9_73 : decode prog_9_method_11_code 73 = .ok (.iconst 2, 1) := by decide +kernel
theorem own_b9_74 : decode prog_9_method_11_code 74 = .ok (.idiv, 1) := by decide +kernel
theorem own_b9_75 : decode prog_9_method_11_code 75 = .ok (.if_icmp .le 23, 3) := by decide +kernel
theorem own_b9_78 : decode prog_9_method_11_code 78 = .ok (.bipush 16, 2) := by decide +kernel
theorem own_b9_80 : decode prog_9_method_11_code 80 = .ok (.iload 9, 2) := by decide +kernel
theorem own_b9_82 : decode prog_9_method_11_code 82 = .ok (.iconst 2, 1) := by decide +kernel
theorem own_b9_83 : decode prog_9_method_11_code 83 = .ok (.imul, 1) := by decide +kernel
theorem own_b9_84 : decode prog_9_method_11_code 84 = .ok (.invokestatic 64, 3) := by decide +kernel
theorem own_b9_87 : decode prog_9_method_11_code 87 = .ok (.sipush 1024, 3) := by decide +kernel
theorem own_b9_90 : decode prog_9_method_11_code 90 = .ok (.invokestatic 70, 3) := by decide +kernel
theorem own_b9_93 : decode prog_9_method_11_code 93 = .ok (.newarray .byte, 2) := by decide +kernel
theorem own_b9_95 : decode prog_9_method_11_code 95 = .ok (.goto 7, 3) := by decide +kernel
theorem own_b9_98 : decode prog_9_method_11_code 98 = .ok (.aload_n 0, 1) := by decide +kernel
theorem own_b9_99 : decode prog_9_method_11_code 99 = .ok (.getfield 13, 3) := by decide +kernel
theorem own_b9_102 : decode prog_9_method_11_code 102 = .ok (.astore 10, 2) := by decide +kernel
theorem own_b9_104 : decode prog_9_method_11_code 104 = .ok (.aload_n 0, 1) := by decide +kernel
theorem own_b9_105 : decode prog_9_method_11_code 105 = .ok (.getfield 13, 3) := by decide +kernel
theorem own_b9_108 : decode prog_9_method_11_code 108 = .ok (.aload_n 0, 1) := by decide +kernel
theorem own_b9_109 : decode prog_9_method_11_code 109 = .ok (.getfield 29, 3) := by decide +kernel
theorem own_b9_112 : decode prog_9_method_11_code 112 = .ok (.aload 10, 2) := by decide +kernel
theorem own_b9_114 : decode prog_9_method_11_code 114 = .ok (.iconst 0, 1) := by decide +kernel
theorem own_b9_115 : decode prog_9_method_11_code 115 = .ok (.iload_n 1, 1) := by decide +kernel
theorem own_b9_116 : decode prog_9_method_11_code 116 = .ok (.aload_n 0, 1) := by decide +kernel
theorem own_b9_117 : decode prog_9_method_11_code 117 = .ok (.getfield 29, 3) := by decide +kernel
theorem own_b9_120 : decode prog_9_method_11_code 120 = .ok (.isub, 1) := by decide +kernel
theorem own_b9_121 : decode prog_9_method_11_code 121 = .ok (.invokestatic 73, 3) := by decide +kernel
theorem own_b9_124 : decode prog_9_method_11_code 124 = .ok (.aload_n 0, 1) := by decide +kernel
theorem own_b9_125 : decode prog_9_method_11_code 125 = .ok (.getfield 13, 3) := by decide +kernel
theorem own_b9_128 : decode prog_9_method_11_code 128 = .ok (.iload_n 1, 1) := by decide +kernel
theorem own_b9_129 : decode prog_9_method_11_code 129 = .ok (.iload_n 2, 1) := by decide +kernel
theorem own_b9_130 : decode prog_9_method_11_code 130 = .ok (.iadd, 1) := by decide +kernel
theorem own_b9_131 : decode prog_9_method_11_code 131 = .ok (.aload 10, 2) := by decide +kernel
theorem own_b9_133 : decode prog_9_method_11_code 133 = .ok (.iload_n 1, 1) := by decide +kernel
theorem own_b9_134 : decode prog_9_method_11_code 134 = .ok (.aload_n 0, 1) := by decide +kernel
theorem own_b9_135 : decode prog_9_method_11_code 135 = .ok (.getfield 29, 3) := by decide +kernel
theorem own_b9_138 : decode prog_9_method_11_code 138 = .ok (.isub, 1) := by decide +kernel
theorem own_b9_139 : decode prog_9_method_11_code 139 = .ok (.iload 7, 2) := by decide +kernel
theorem own_b9_141 : decode prog_9_method_11_code 141 = .ok (.iadd, 1) := by decide +kernel
theorem own_b9_142 : decode prog_9_method_11_code 142 = .ok (.iload 8, 2) := by decide +kernel
theorem own_b9_144 : decode prog_9_method_11_code 144 = .ok (.invokestatic 73, 3) := by decide +kernel
theorem own_b9_147 : decode prog_9_method_11_code 147 = .ok (.iload_n 1, 1) := by decide +kernel
theorem own_b9_148 : decode prog_9_method_11_code 148 = .ok (.aload_n 0, 1) := by decide +kernel
theorem own_b9_149 : decode prog_9_method_11_code 149 = .ok (.getfield 29, 3) := by decide +kernel
theorem own_b9_152 : decode prog_9_method_11_code 152 = .ok (.isub, 1) := by decide +kernel
theorem own_b9_153 : decode prog_9_method_11_code 153 = .ok (.istore_n 1, 1) := by decide +kernel
theorem own_b9_154 : decode prog_9_method_11_code 154 = .ok (.aload_n 0, 1) := by decide +kernel
theorem own_b9_155 : decode prog_9_method_11_code 155 = .ok (.iconst 0, 1) := by decide +kernel
theorem own_b9_156 : decode prog_9_method_11_code 156 = .ok (.putfield 29, 3) := by decide +kernel
theorem own_b9_159 : decode prog_9_method_11_code 159 = .ok (.aload_n 0, 1) := by decide +kernel
theorem own_b9_160 : decode prog_9_method_11_code 160 = .ok (.aload 10, 2) := by decide +kernel
theorem own_b9_162 : decode prog_9_method_11_code 162 = .ok (.putfield 13, 3) := by decide +kernel
theorem own_b9_165 : decode prog_9_method_11_code 165 = .ok (.goto 23, 3) := by decide +kernel
theorem own_b9_168 : decode prog_9_method_11_code 168 = .ok (.aload_n 0, 1) := by decide +kernel
theorem own_b9_169 : decode prog_9_method_11_code 169 = .ok (.getfield 13, 3) := by decide +kernel
theorem own_b9_172 : decode prog_9_method_11_code 172 = .ok (.iload_n 1, 1) := by decide +kernel
theorem own_b9_173 : decode prog_9_method_11_code 173 = .ok (.iload_n 2, 1) := by decide +kernel
theorem own_b9_174 : decode prog_9_method_11_code 174 = .ok (.iadd, 1) := by decide +kernel
theorem own_b9_175 : decode prog_9_method_11_code 175 = .ok (.aload_n 0, 1) := by decide +kernel
theorem own_b9_176 : decode prog_9_method_11_code 176 = .ok (.getfield 13, 3) := by decide +kernel
theorem own_b9_179 : decode prog_9_method_11_code 179 = .ok (.iload_n 1, 1) := by decide +kernel
theorem own_b9_180 : decode prog_9_method_11_code 180 = .ok (.iload 7, 2) := by decide +kernel
theorem own_b9_182 : decode prog_9_method_11_code 182 = .ok (.iadd, 1) := by decide +kernel
theorem own_b9_183 : decode prog_9_method_11_code 183 = .ok (.iload 8, 2) := by decide +kernel
theorem own_b9_185 : decode prog_9_method_11_code 185 = .ok (.invokestatic 73, 3) := by decide +kernel
theorem own_b9_188 : decode prog_9_method_11_code 188 = .ok (.aload_n 0, 1) := by decide +kernel
theorem own_b9_189 : decode prog_9_method_11_code 189 = .ok (.getfield 13, 3) := by decide +kernel
theorem own_b9_192 : decode prog_9_method_11_code 192 = .ok (.iload_n 1, 1) := by decide +kernel
theorem own_b9_193 : decode prog_9_method_11_code 193 = .ok (.lload_n 3, 1) := by decide +kernel
theorem own_b9_194 : decode prog_9_method_11_code 194 = .ok (.invokestatic 79, 3) := by decide +kernel
theorem own_b9_197 : decode prog_9_method_11_code 197 = .ok (.istore 9, 2) := by decide +kernel
theorem own_b9_199 : decode prog_9_method_11_code 199 = .ok (.lload 5, 2) := by decide +kernel
theorem own_b9_201 : decode prog_9_method_11_code 201 = .ok (.lconst 0, 1) := by decide +kernel
theorem own_b9_202 : decode prog_9_method_11_code 202 = .ok (.lcmp, 1) := by decide +kernel
theorem own_b9_203 : decode prog_9_method_11_code 203 = .ok (.ifCond .eq 15, 3) := by decide +kernel
theorem own_b9_206 : decode prog_9_method_11_code 206 = .ok (.aload_n 0, 1) := by decide +kernel
theorem own_b9_207 : decode prog_9_method_11_code 207 = .ok (.getfield 13, 3) := by decide +kernel
theorem own_b9_210 : decode prog_9_method_11_code 210 = .ok (.iload 9, 2) := by decide +kernel
theorem own_b9_212 : decode prog_9_method_11_code 212 = .ok (.lload 5, 2) := by decide +kernel
theorem own_b9_214 : decode prog_9_method_11_code 214 = .ok (.invokestatic 79, 3) := by decide +kernel
theorem own_b9_217 : decode prog_9_method_11_code 217 = .ok (.pop, 1) := by decide +kernel
theorem own_b9_218 : decode prog_9_method_11_code 218 = .ok (.aload_n 0, 1) := by decide +kernel
theorem own_b9_219 : decode prog_9_method_11_code 219 = .ok (.iload_n 1, 1) := by decide +kernel
theorem own_b9_220 : decode prog_9_method_11_code 220 = .ok (.iload 7, 2) := by decide +kernel
theorem own_b9_222 : decode prog_9_method_11_code 222 = .ok (.iadd, 1) := by decide +kernel
theorem own_b9_223 : decode prog_9_method_11_code 223 = .ok (.iload 8, 2) := by decide +kernel
theorem own_b9_225 : decode prog_9_method_11_code 225 = .ok (.iadd, 1) := by decide +kernel
theorem own_b9_226 : decode prog_9_method_11_code 226 = .ok (.putfield 25, 3) := by decide +kernel
theorem own_b9_229 : decode prog_9_method_11_code 229 = .ok (.return_, 1) := by decide +kernel
theorem own_pf_b9 : plainFor (⟨"com/example/highwater/highwater/MessageIndex$Run", "splice", "(IIJJ)V"⟩ : MethodName) = true := by first | exact plainFor_of_name (by first | (simp [plainName, overriddenIn, x]; done) | decide +kernel) | decide +kernel
theorem own_pd_3 : parseMethodDescriptor "([BIJ)I" = some ⟨[(.array .byte), .int, .long], some .int⟩ := by decide +kernel
set_option maxRecDepth 65536 in
set_option maxHeartbeats 40000000 in
theorem own_splice (l : Launch) (Z : State) (a0 : Array Value) (hw : ∀ d ∈ tables_1, d.before a0 Z = true) (n0 : Nat) (h : Heap) (r g : Nat) (at_ len : Int32) (gp nx : Int64) (f la : Int64) (P X L Y Q : List Int8) (G N : Nat) (H : RB Z h n0 r g f la P (X ++ L ++ Y) Q) (ha : at_.toInt = ((P.length + X.length : Nat) : Int)) (hle : len.toInt = (L.length : Nat)) (hgp : gp.toInt = (G : Nat)) (hG : 1 ≤ G) (hnx : nx.toInt = (N : Nat)) (hb : X.length + (el G + el0 N) + Y.length ≤ 27) (Z0 : n0 ≤ h.size) :
    Con l Z (⟨"com/example/highwater/highwater/MessageIndex$Run", "splice", "(IIJJ)V"⟩ : MethodName) prog_9_method_11_code 11 none ({ frames := 3, cells := 1, slots := 54, locals := 44 } : Room) n0 #[(.ref r), (.int at_), (.int len), (.long gp), (.long nx)] h (R0 fun h' => ∃ g' P' Q', RB Z h' n0 r g' f la P' (X ++ (enc G ++ enc0 N) ++ Y) Q' ∧ Keep h h' [r, g] ∧ (g' = g ∨ h.size ≤ g')) := by
  refine Con.of (ls := [.val (.ref r), .val (.int at_), .val (.int len), .val (.long gp), .second, .val (.long nx), .second, .unset, .unset, .unset, .unset]) own_pf_b9 (fun m => by first | (simp [entryFrame, mkF, argsToLocals, Value.category]; done) | rfl) fun k K => ?_
  have k_0 : (0 : Int32).toInt = 0 := rfl
  have kL_0 : (0 : Int64).toInt = 0 := rfl
  have k_1024 : (1024 : Int32).toInt = 1024 := rfl
  have k_16 : (16 : Int32).toInt = 16 := rfl
  have k_2 : (2 : Int32).toInt = 2 := rfl
  obtain ⟨st, en, Ex, Ff, Fl, Fg, Fs, Fe, A_g, hst, hen, hng, n0_r, hrg, hlen⟩ := H
  simp only [List.length_append] at hen hlen hng
  have el1 := el_pos G
  have l_r : @LT.lt Nat _ r h.size := Ff.lt
  have l_g : @LT.lt Nat _ g h.size := A_g.lt
  obtain ⟨lz, hlz⟩ : ∃ z : Int32, z.toInt = ((P.length + (X.length + L.length + Y.length) + Q.length : Nat) : Int) := i32_of (by omega)
  obtain ⟨tl, htl⟩ : ∃ z : Int32, z = (en - at_) - len := ⟨_, rfl⟩
  have htl2 : tl.toInt = (Y.length : Nat) := by
    have e1 : (en - at_).toInt = en.toInt - at_.toInt := i32_sub (by omega) (by omega)
    rw [htl, i32_sub (by omega) (by omega)]; omega
  have Kp := Keep.refl h [r, g]
  have J188 : ∀ (hh : Heap) (gg : Nat) (av sv wr : Int32) (s9 s10 : Slot) (P' V R : List Int8) (cs ss : Nat), One s9 → cs ≤ 1 → ss ≤ 54 → wr.toInt = ((el G + el0 N : Nat) : Int) → Exa Z hh r "com/example/highwater/highwater/MessageIndex$Run" → Fld Z hh r "com/example/highwater/highwater/MessageIndex$Run" "first" "J" (.long f) → Fld Z hh r "com/example/highwater/highwater/MessageIndex$Run" "last" "J" (.long la) → Fld Z hh r "com/example/highwater/highwater/MessageIndex$Run" "gaps" "[B" (.ref gg) → Fld Z hh r "com/example/highwater/highwater/MessageIndex$Run" "start" "I" (.int sv) → Fld Z hh r "com/example/highwater/highwater/MessageIndex$Run" "end" "I" (.int en) → ArB Z hh gg (P' ++ X ++ V ++ (Y ++ R)) → V.length = el G + el0 N → sv.toInt = (P'.length : Nat) → av.toInt = ((P'.length + X.length : Nat) : Int) → P'.length + X.length + V.length + Y.length + R.length ≤ 54 → n0 ≤ gg → r ≠ gg → Keep h hh [r, g] → (gg = g ∨ h.size ≤ gg) → n0 ≤ hh.size →
      WP k hh cs ss 188 [.val (.ref r), .val (.int av), .val (.int len), .val (.long gp), .second, .val (.long nx), .second, .val (.int wr), .val (.int tl), s9, s10] [] := by
    intro hh gg av sv wr s9 s10 P' V R cs ss h_s9 hcs hss hwr Ex Ff Fl Fg Fs Fe A_gg hV hsv hav hle2 n0_gg hrgg Kp hgg Z0
    obtain ⟨V1, V2, rfl, hV1⟩ : ∃ V1 V2, V = V1 ++ V2 ∧ V1.length = el G := ⟨V.take (el G), V.drop (el G), (List.take_append_drop _ _).symm, by rw [List.length_take]; omega⟩
    rw [List.length_append] at hV hle2
    have A_gg : ArB Z hh gg ((P' ++ X) ++ V1 ++ (V2 ++ (Y ++ R))) := by simpa using A_gg
    refine WP.aloadN K 189 own_b9_188 rfl rfl rfl ?_
    refine WP.getfield K (host := "") 192 (Or.inl (hw _ (List.mem_of_getElem? (i := 29) rfl))) Via.refl Fg own_b9_189 rfl ?_
    refine WP.iloadN K 193 own_b9_192 rfl rfl ?_
    refine WP.lloadN K 194 own_b9_193 rfl rfl ?_
    refine WP.callSN K 197 cs ss 0 [(.ref gg), (.int av), (.long gp)] [] (hw _ (List.mem_of_getElem? (i := 93) rfl)) (hw _ (List.mem_of_getElem? (i := 94) rfl)) (hw _ (List.mem_of_getElem? (i := 3) rfl)) (hw _ (List.mem_of_getElem? (i := 95) rfl)) (by decide) own_pd_3 rfl rfl rfl (by decide) (by decide) (Nat.le_of_eq rfl) rfl own_b9_194 rfl rfl rfl (by show _ ≤ 1; omega) (by show _ ≤ 54; omega) (own_put l Z a0 hw n0 hh gg av gp (P' ++ X) V1 (V2 ++ (Y ++ R)) G A_gg hV1 (by rw [List.length_append]; exact hav) hgp (by simp only [List.length_append]; omega) n0_gg) (r1_next fun r3 h1 q2 => ?_)
    obtain ⟨⟨z1, rfl, hz1⟩, A_gg, Kq⟩ := q2
    rw [List.length_append] at hz1
    have Z0 : n0 ≤ (h1).size := Nat.le_trans Z0 Kq.1
    have Kp := Kp.trans Kq (ks1 (by rcases hgg with q | q; exact Or.inl (by rw [q]; simp); exact Or.inr q))
    have Ex := Ex.keep Kq
    have Ff := Ff.keep Kq (nm1 (by omega))
    have Fl := Fl.keep Kq (nm1 (by omega))
    have Fg := Fg.keep Kq (nm1 (by omega))
    have Fs := Fs.keep Kq (nm1 (by omega))
    have Fe := Fe.keep Kq (nm1 (by omega))
    refine WP.istore K 199 [.val (.ref r), .val (.int av), .val (.int len), .val (.long gp), .second, .val (.long nx), .second, .val (.int wr), .val (.int tl), .val (.int z1), s10] own_b9_197 rfl (st1 rfl h_s9 rfl) ?_
    refine WP.lload K 201 own_b9_199 rfl rfl ?_
    refine WP.lconst K (0 : Int64) 202 own_b9_201 rfl rfl ?_
    refine WP.lcmp K 203 own_b9_202 rfl ?_
    refine WP.ifl_eq K 218 206 own_b9_203 (by decide) rfl (fun c203 => ?_) (fun c203 => ?_)
    · skip
      have hN : N = 0 := by omega
      subst hN
      obtain rfl : V2 = [] := List.length_eq_zero_iff.mp (by rw [el0_zero] at hV; omega)
      refine WP.aloadN K 219 own_b9_218 rfl rfl rfl ?_
      refine WP.iloadN K 220 own_b9_219 rfl rfl ?_
      refine WP.iload K 222 own_b9_220 rfl rfl ?_
      refine WP.iadd K 223 own_b9_222 rfl ?_
      refine WP.iload K 225 own_b9_223 rfl rfl ?_
      refine WP.iadd K 226 own_b9_225 rfl ?_
      refine WP.putfield K (host := "") (a := r) 229 (Or.inl (hw _ (List.mem_of_getElem? (i := 58) rfl))) Via.refl Fe Ex (Or.inl (hw _ (List.mem_of_getElem? (i := 59) rfl))) (hw _ (List.mem_of_getElem? (i := 21) rfl)) (ty := .int) (by decide) rfl rfl own_b9_226 rfl n0_r (fun h4 W5 => ?_)
      have Z0 : n0 ≤ (h4).size := by rw [W5.size]; exact Z0
      have Kp := Kp.wr W5 (Or.inl (by simp))
      have Ex := Ex.wr W5
      have Ff := Ff.other W5 (Or.inr (slot_ne (Or.inl (hw _ (List.mem_of_getElem? (i := 32) rfl))) (Or.inl (hw _ (List.mem_of_getElem? (i := 59) rfl))) (by decide) (t := .long) (t' := .int) (by decide) (by decide)))
      have Fl := Fl.other W5 (Or.inr (slot_ne (Or.inl (hw _ (List.mem_of_getElem? (i := 34) rfl))) (Or.inl (hw _ (List.mem_of_getElem? (i := 59) rfl))) (by decide) (t := .long) (t' := .int) (by decide) (by decide)))
      have Fg := Fg.other W5 (Or.inr (slot_ne (Or.inl (hw _ (List.mem_of_getElem? (i := 30) rfl))) (Or.inl (hw _ (List.mem_of_getElem? (i := 59) rfl))) (by decide) (t := (.array .byte)) (t' := .int) (by decide) (by decide)))
      have Fs := Fs.other W5 (Or.inr (slot_ne (Or.inl (hw _ (List.mem_of_getElem? (i := 61) rfl))) (Or.inl (hw _ (List.mem_of_getElem? (i := 59) rfl))) (by decide) (t := .int) (t' := .int) (by decide) (by decide)))
      have Fe := Fe.same W5
      have A_gg := A_gg.other W5 (ne_addr (by omega))
      refine WP.retV K rfl own_b9_229 ?_ (by show _ ≤ 1; omega) (by show _ ≤ 54; omega)
      refine ⟨rfl, gg, P', R, ⟨sv, (av + wr) + tl, Ex, Ff, Fl, Fg, Fs, Fe, ?_, hsv, ?_, Or.inl n0_gg, n0_r, hrgg, ?_⟩, Kp, hgg⟩
      · simpa [enc0_zero] using A_gg
      · have e1 : (av + wr).toInt = av.toInt + wr.toInt := i32_add (by omega) (by omega)
        rw [i32_add (by omega) (by omega)]; simp only [List.length_append]
        have : (enc G).length = el G := rfl
        have : (enc0 0).length = el0 0 := rfl
        omega
      · simp only [List.length_append]
        have : (enc G).length = el G := rfl
        have : (enc0 0).length = el0 0 := rfl
        omega
    · skip
      have hN : 1 ≤ N := by omega
      have heN := el0_pos hN
      refine WP.aloadN K 207 own_b9_206 rfl rfl rfl ?_
      refine WP.getfield K (host := "") 210 (Or.inl (hw _ (List.mem_of_getElem? (i := 29) rfl))) Via.refl Fg own_b9_207 rfl ?_
      refine WP.iload K 212 own_b9_210 rfl rfl ?_
      refine WP.lload K 214 own_b9_212 rfl rfl ?_
      refine WP.callSN K 217 cs ss 0 [(.ref gg), (.int z1), (.long nx)] [] (hw _ (List.mem_of_getElem? (i := 93) rfl)) (hw _ (List.mem_of_getElem? (i := 94) rfl)) (hw _ (List.mem_of_getElem? (i := 3) rfl)) (hw _ (List.mem_of_getElem? (i := 95) rfl)) (by decide) own_pd_3 rfl rfl rfl (by decide) (by decide) (Nat.le_of_eq rfl) rfl own_b9_214 rfl rfl rfl (by show _ ≤ 1; omega) (by show _ ≤ 54; omega) (own_put l Z a0 hw n0 h1 gg z1 nx (P' ++ X ++ enc G) V2 (Y ++ R) N (by simpa using A_gg) (by omega) (by rw [hz1]; simp only [List.length_append]; rfl) hnx (by simp only [List.length_append]; have : (enc G).length = el G := rfl; omega) n0_gg) (r1_next fun r8 h6 q7 => ?_)
      obtain ⟨⟨z2, rfl, hz2⟩, A_gg, Kq2⟩ := q7
      have Z0 : n0 ≤ (h6).size := Nat.le_trans Z0 Kq2.1
      have Kp := Kp.trans Kq2 (ks1 (by rcases hgg with q | q; exact Or.inl (by rw [q]; simp); exact Or.inr q))
      have Ex := Ex.keep Kq2
      have Ff := Ff.keep Kq2 (nm1 (by omega))
      have Fl := Fl.keep Kq2 (nm1 (by omega))
      have Fg := Fg.keep Kq2 (nm1 (by omega))
      have Fs := Fs.keep Kq2 (nm1 (by omega))
      have Fe := Fe.keep Kq2 (nm1 (by omega))
      refine WP.pop K 218 own_b9_217 rfl rfl ?_
      refine WP.aloadN K 219 own_b9_218 rfl rfl rfl ?_
      refine WP.iloadN K 220 own_b9_219 rfl rfl ?_
      refine WP.iload K 222 own_b9_220 rfl rfl ?_
      refine WP.iadd K 223 own_b9_222 rfl ?_
      refine WP.iload K 225 own_b9_223 rfl rfl ?_
      refine WP.iadd K 226 own_b9_225 rfl ?_
      refine WP.putfield K (host := "") (a := r) 229 (Or.inl (hw _ (List.mem_of_getElem? (i := 58) rfl))) Via.refl Fe Ex (Or.inl (hw _ (List.mem_of_getElem? (i := 59) rfl))) (hw _ (List.mem_of_getElem? (i := 21) rfl)) (ty := .int) (by decide) rfl rfl own_b9_226 rfl n0_r (fun h9 W10 => ?_)
      have Z0 : n0 ≤ (h9).size := by rw [W10.size]; exact Z0
      have Kp := Kp.wr W10 (Or.inl (by simp))
      have Ex := Ex.wr W10
      have Ff := Ff.other W10 (Or.inr (slot_ne (Or.inl (hw _ (List.mem_of_getElem? (i := 32) rfl))) (Or.inl (hw _ (List.mem_of_getElem? (i := 59) rfl))) (by decide) (t := .long) (t' := .int) (by decide) (by decide)))
      have Fl := Fl.other W10 (Or.inr (slot_ne (Or.inl (hw _ (List.mem_of_getElem? (i := 34) rfl))) (Or.inl (hw _ (List.mem_of_getElem? (i := 59) rfl))) (by decide) (t := .long) (t' := .int) (by decide) (by decide)))
      have Fg := Fg.other W10 (Or.inr (slot_ne (Or.inl (hw _ (List.mem_of_getElem? (i := 30) rfl))) (Or.inl (hw _ (List.mem_of_getElem? (i := 59) rfl))) (by decide) (t := (.array .byte)) (t' := .int) (by decide) (by decide)))
      have Fs := Fs.other W10 (Or.inr (slot_ne (Or.inl (hw _ (List.mem_of_getElem? (i := 61) rfl))) (Or.inl (hw _ (List.mem_of_getElem? (i := 59) rfl))) (by decide) (t := .int) (t' := .int) (by decide) (by decide)))
      have Fe := Fe.same W10
      have A_gg := A_gg.other W10 (ne_addr (by omega))
      refine WP.retV K rfl own_b9_229 ?_ (by show _ ≤ 1; omega) (by show _ ≤ 54; omega)
      refine ⟨rfl, gg, P', R, ⟨sv, (av + wr) + tl, Ex, Ff, Fl, Fg, Fs, Fe, ?_, hsv, ?_, Or.inl n0_gg, n0_r, hrgg, ?_⟩, Kp, hgg⟩
      · simpa [enc0_pos hN] using A_gg
      · have e1 : (av + wr).toInt = av.toInt + wr.toInt := i32_add (by omega) (by omega)
        rw [i32_add (by omega) (by omega)]; simp only [List.length_append]
        have : (enc G).length = el G := rfl
        have : (enc0 N).length = el0 N := rfl
        omega
      · simp only [List.length_append]
        have : (enc G).length = el G := rfl
        have : (enc0 N).length = el0 N := rfl
        omega
  have J23 : ∀ wr : Int32, wr.toInt = ((el G + el0 N : Nat) : Int) → WP k h 0 0 23 [.val (.ref r), .val (.int at_), .val (.int len), .val (.long gp), .second, .val (.long nx), .second, .val (.int wr), .unset, .unset, .unset] [] := by
    intro wr hwr
    have t1 : (en - len).toInt = en.toInt - len.toInt := i32_sub (by omega) (by omega)
    have t2 : ((en - len) + wr).toInt = ((P.length + X.length + Y.length + (el G + el0 N) : Nat) : Int) := by rw [i32_add (by omega) (by omega)]; omega
    have t3 : (at_ + len).toInt = ((P.length + X.length + L.length : Nat) : Int) := by rw [i32_add (by omega) (by omega)]; omega
    have t4 : (at_ + wr).toInt = ((P.length + X.length + (el G + el0 N) : Nat) : Int) := by rw [i32_add (by omega) (by omega)]; omega
    have t5 : (at_ - st).toInt = (X.length : Nat) := by rw [i32_sub (by omega) (by omega)]; omega
    have t6 : ((at_ - st) + wr).toInt = ((X.length + (el G + el0 N) : Nat) : Int) := by rw [i32_add (by omega) (by omega)]; omega
    have t7 : (en - st).toInt = ((X.length + L.length + Y.length : Nat) : Int) := by rw [i32_sub (by omega) (by omega)]; omega
    have t8 : ((en - st) - len).toInt = ((X.length + Y.length : Nat) : Int) := by rw [i32_sub (by omega) (by omega)]; omega
    obtain ⟨he, ehe⟩ : ∃ z : Int32, z = (((en - st) - len) + wr) := ⟨_, rfl⟩
    have hhe : he.toInt = ((X.length + Y.length + (el G + el0 N) : Nat) : Int) := by rw [ehe, i32_add (by omega) (by omega)]; omega
    have t9 : (he * (2 : Int32)).toInt = he.toInt * 2 := by
      have e2 : (2 : Int32).toInt = 2 := rfl
      rw [i32_mul (by rw [e2]; omega) (by rw [e2]; omega), e2]
    have hlz2 : (lz / (2 : Int32)).toInt = ((P.length + (X.length + L.length + Y.length) + Q.length : Nat) : Int) / 2 := by rw [(c_idiv _ (2 : Int32) 2 rfl (by decide)).1 (by omega), hlz]
    refine WP.aloadN K 24 own_b9_23 rfl rfl rfl ?_
    refine WP.getfield K (host := "") 27 (Or.inl (hw _ (List.mem_of_getElem? (i := 58) rfl))) Via.refl Fe own_b9_24 rfl ?_
    refine WP.iloadN K 28 own_b9_27 rfl rfl ?_
    refine WP.isub K 29 own_b9_28 rfl ?_
    refine WP.iloadN K 30 own_b9_29 rfl rfl ?_
    refine WP.isub K 31 own_b9_30 rfl ?_
    refine WP.istore K 33 [.val (.ref r), .val (.int at_), .val (.int len), .val (.long gp), .second, .val (.long nx), .second, .val (.int wr), .val (.int ((en - at_) - len)), .unset, .unset] own_b9_31 rfl rfl ?_
    rw [← htl]
    refine WP.aloadN K 34 own_b9_33 rfl rfl rfl ?_
    refine WP.getfield K (host := "") 37 (Or.inl (hw _ (List.mem_of_getElem? (i := 58) rfl))) Via.refl Fe own_b9_34 rfl ?_
    refine WP.iloadN K 38 own_b9_37 rfl rfl ?_
    refine WP.isub K 39 own_b9_38 rfl ?_
    refine WP.iload K 41 own_b9_39 rfl rfl ?_
    refine WP.iadd K 42 own_b9_41 rfl ?_
    refine WP.aloadN K 43 own_b9_42 rfl rfl rfl ?_
    refine WP.getfield K (host := "") 46 (Or.inl (hw _ (List.mem_of_getElem? (i := 29) rfl))) Via.refl Fg own_b9_43 rfl ?_
    refine WP.arraylength K lz 47 A_g (by rw [hlz]; simp only [List.length_map, List.length_append]) own_b9_46 rfl ?_
    refine WP.icmp_le K 168 50 own_b9_47 (by decide) rfl (fun c47 => ?_) (fun c47 => ?_)
    · skip
      have n0_g : n0 ≤ g := by
        rcases hng with q | q
        · exact q
        · exfalso; clear hrg; omega
      refine WP.aloadN K 169 own_b9_168 rfl rfl rfl ?_
      refine WP.getfield K (host := "") 172 (Or.inl (hw _ (List.mem_of_getElem? (i := 29) rfl))) Via.refl Fg own_b9_169 rfl ?_
      refine WP.iloadN K 173 own_b9_172 rfl rfl ?_
      refine WP.iloadN K 174 own_b9_173 rfl rfl ?_
      refine WP.iadd K 175 own_b9_174 rfl ?_
      refine WP.aloadN K 176 own_b9_175 rfl rfl rfl ?_
      refine WP.getfield K (host := "") 179 (Or.inl (hw _ (List.mem_of_getElem? (i := 29) rfl))) Via.refl Fg own_b9_176 rfl ?_
      refine WP.iloadN K 180 own_b9_179 rfl rfl ?_
      refine WP.iload K 182 own_b9_180 rfl rfl ?_
      refine WP.iadd K 183 own_b9_182 rfl ?_
      refine WP.iload K 185 own_b9_183 rfl rfl ?_
      refine WP.acopyB K (a := g) (b := g) 188 0 (P.length + X.length + L.length) (P.length + X.length + (el G + el0 N)) Y.length (hw _ (List.mem_of_getElem? (i := 92) rfl)) (hw _ (List.mem_of_getElem? (i := 44) rfl)) (hw _ (List.mem_of_getElem? (i := 42) rfl)) (hw _ (List.mem_of_getElem? (i := 43) rfl)) A_g A_g t3 t4 htl2 (by simp only [List.length_append]; omega) (by simp only [List.length_append]; omega) n0_g rfl (by decide) (Nat.le_of_eq rfl) (by decide) own_b9_185 rfl (fun h11 K12 A_g => ?_)
      have Z0 : n0 ≤ (h11).size := Nat.le_trans Z0 K12.1
      have Kp := Kp.trans K12 (ks1 (by first | (refine Or.inl ?_; simp; done) | (refine Or.inr ?_; omega)))
      have Ex := Ex.keep K12
      have Ff := Ff.keep K12 (nm1 (by omega))
      have Fl := Fl.keep K12 (nm1 (by omega))
      have Fg := Fg.keep K12 (nm1 (by omega))
      have Fs := Fs.keep K12 (nm1 (by omega))
      have Fe := Fe.keep K12 (nm1 (by omega))
      rw [seg_Y] at A_g
      obtain ⟨V, R, hV, hR, eV⟩ := cp_fin (P ++ X) (L ++ Y ++ Q) Y (el G + el0 N) (by simp only [List.length_append]; omega)
      rw [show P ++ (X ++ L ++ Y) ++ Q = (P ++ X) ++ (L ++ Y ++ Q) by simp, show P.length + X.length = (P ++ X).length by simp, eV] at A_g
      simp only [List.length_append] at hR
      exact J188 _ g at_ st wr _ _ P V R 0 0 (Or.inl rfl) (by decide) (by decide) hwr Ex Ff Fl Fg Fs Fe A_g hV hst ha (by omega) n0_g hrg Kp (Or.inl rfl) Z0
    · skip
      refine WP.aloadN K 51 own_b9_50 rfl rfl rfl ?_
      refine WP.getfield K (host := "") 54 (Or.inl (hw _ (List.mem_of_getElem? (i := 58) rfl))) Via.refl Fe own_b9_51 rfl ?_
      refine WP.aloadN K 55 own_b9_54 rfl rfl rfl ?_
      refine WP.getfield K (host := "") 58 (Or.inl (hw _ (List.mem_of_getElem? (i := 60) rfl))) Via.refl Fs own_b9_55 rfl ?_
      refine WP.isub K 59 own_b9_58 rfl ?_
      refine WP.iloadN K 60 own_b9_59 rfl rfl ?_
      refine WP.isub K 61 own_b9_60 rfl ?_
      refine WP.iload K 63 own_b9_61 rfl rfl ?_
      refine WP.iadd K 64 own_b9_63 rfl ?_
      refine WP.istore K 66 [.val (.ref r), .val (.int at_), .val (.int len), .val (.long gp), .second, .val (.long nx), .second, .val (.int wr), .val (.int tl), .val (.int (((en - st) - len) + wr)), .unset] own_b9_64 rfl rfl ?_
      rw [← ehe]
      refine WP.iload K 68 own_b9_66 rfl rfl ?_
      refine WP.aloadN K 69 own_b9_68 rfl rfl rfl ?_
      refine WP.getfield K (host := "") 72 (Or.inl (hw _ (List.mem_of_getElem? (i := 29) rfl))) Via.refl Fg own_b9_69 rfl ?_
      refine WP.arraylength K lz 73 A_g (by rw [hlz]; simp only [List.length_map, List.length_append]) own_b9_72 rfl ?_
      refine WP.iconst K (2 : Int32) 74 own_b9_73 rfl rfl ?_
      refine WP.idiv K 75 own_b9_74 rfl (by decide) ?_
      refine WP.icmp_le K 98 78 own_b9_75 (by decide) rfl (fun c75 => ?_) (fun c75 => ?_)
      · skip
        have hq : X.length + (el G + el0 N) + Y.length ≤ P.length + (X.length + L.length + Y.length) + Q.length := by clear hng hrg; omega
        have n0_g : n0 ≤ g := by
          rcases hng with q | q
          · exact q
          · exfalso; clear hrg; omega
        clear t1 t2 t7 t8 t9 hlz2 hhe c47 c75 hng hlz
        refine WP.aloadN K 99 own_b9_98 rfl rfl rfl ?_
        refine WP.getfield K (host := "") 102 (Or.inl (hw _ (List.mem_of_getElem? (i := 29) rfl))) Via.refl Fg own_b9_99 rfl ?_
        refine WP.astore K 104 [.val (.ref r), .val (.int at_), .val (.int len), .val (.long gp), .second, .val (.long nx), .second, .val (.int wr), .val (.int tl), .val (.int he), .val (.ref g)] own_b9_102 rfl rfl rfl ?_
        refine WP.aloadN K 105 own_b9_104 rfl rfl rfl ?_
        refine WP.getfield K (host := "") 108 (Or.inl (hw _ (List.mem_of_getElem? (i := 29) rfl))) Via.refl Fg own_b9_105 rfl ?_
        refine WP.aloadN K 109 own_b9_108 rfl rfl rfl ?_
        refine WP.getfield K (host := "") 112 (Or.inl (hw _ (List.mem_of_getElem? (i := 60) rfl))) Via.refl Fs own_b9_109 rfl ?_
        refine WP.aload K 114 own_b9_112 rfl rfl rfl ?_
        refine WP.iconst K (0 : Int32) 115 own_b9_114 rfl rfl ?_
        refine WP.iloadN K 116 own_b9_115 rfl rfl ?_
        refine WP.aloadN K 117 own_b9_116 rfl rfl rfl ?_
        refine WP.getfield K (host := "") 120 (Or.inl (hw _ (List.mem_of_getElem? (i := 60) rfl))) Via.refl Fs own_b9_117 rfl ?_
        refine WP.isub K 121 own_b9_120 rfl ?_
        refine WP.acopyB K (a := g) (b := g) 124 0 P.length 0 X.length (hw _ (List.mem_of_getElem? (i := 92) rfl)) (hw _ (List.mem_of_getElem? (i := 44) rfl)) (hw _ (List.mem_of_getElem? (i := 42) rfl)) (hw _ (List.mem_of_getElem? (i := 43) rfl)) A_g A_g hst rfl t5 (by simp only [List.length_append]; omega) (by simp only [List.length_append]; omega) n0_g rfl (by decide) (Nat.le_of_eq rfl) (by decide) own_b9_121 rfl (fun h13 K14 A_g => ?_)
        have Z0 : n0 ≤ (h13).size := Nat.le_trans Z0 K14.1
        have Kp := Kp.trans K14 (ks1 (by first | (refine Or.inl ?_; simp; done) | (refine Or.inr ?_; omega)))
        have Ex := Ex.keep K14
        have Ff := Ff.keep K14 (nm1 (by omega))
        have Fl := Fl.keep K14 (nm1 (by omega))
        have Fg := Fg.keep K14 (nm1 (by omega))
        have Fs := Fs.keep K14 (nm1 (by omega))
        have Fe := Fe.keep K14 (nm1 (by omega))
        rw [seg_X, cp_1] at A_g
        refine WP.aloadN K 125 own_b9_124 rfl rfl rfl ?_
        refine WP.getfield K (host := "") 128 (Or.inl (hw _ (List.mem_of_getElem? (i := 29) rfl))) Via.refl Fg own_b9_125 rfl ?_
        refine WP.iloadN K 129 own_b9_128 rfl rfl ?_
        refine WP.iloadN K 130 own_b9_129 rfl rfl ?_
        refine WP.iadd K 131 own_b9_130 rfl ?_
        refine WP.aload K 133 own_b9_131 rfl rfl rfl ?_
        refine WP.iloadN K 134 own_b9_133 rfl rfl ?_
        refine WP.aloadN K 135 own_b9_134 rfl rfl rfl ?_
        refine WP.getfield K (host := "") 138 (Or.inl (hw _ (List.mem_of_getElem? (i := 60) rfl))) Via.refl Fs own_b9_135 rfl ?_
        refine WP.isub K 139 own_b9_138 rfl ?_
        refine WP.iload K 141 own_b9_139 rfl rfl ?_
        refine WP.iadd K 142 own_b9_141 rfl ?_
        refine WP.iload K 144 own_b9_142 rfl rfl ?_
        refine WP.acopyB K (a := g) (b := g) 147 0 (P.length + X.length + L.length) (X.length + (el G + el0 N)) Y.length (hw _ (List.mem_of_getElem? (i := 92) rfl)) (hw _ (List.mem_of_getElem? (i := 44) rfl)) (hw _ (List.mem_of_getElem? (i := 42) rfl)) (hw _ (List.mem_of_getElem? (i := 43) rfl)) A_g A_g t3 t6 htl2 (by rw [sp_len _ _ (by simp only [List.length_append]; omega)]; simp only [List.length_append]; omega) (by rw [sp_len _ _ (by simp only [List.length_append]; omega)]; simp only [List.length_append]; omega) n0_g rfl (by decide) (Nat.le_of_eq rfl) (by decide) own_b9_144 rfl (fun h15 K16 A_g => ?_)
        have Z0 : n0 ≤ (h15).size := Nat.le_trans Z0 K16.1
        have Kp := Kp.trans K16 (ks1 (by first | (refine Or.inl ?_; simp; done) | (refine Or.inr ?_; omega)))
        have Ex := Ex.keep K16
        have Ff := Ff.keep K16 (nm1 (by omega))
        have Fl := Fl.keep K16 (nm1 (by omega))
        have Fg := Fg.keep K16 (nm1 (by omega))
        have Fs := Fs.keep K16 (nm1 (by omega))
        have Fe := Fe.keep K16 (nm1 (by omega))
        rw [cp_c] at A_g
        obtain ⟨V, R, hV, hR, eV⟩ := cp_fin X ((P ++ (X ++ L ++ Y) ++ Q).drop X.length) Y (el G + el0 N) (by rw [← List.length_append, sp_len _ _ (by simp only [List.length_append]; omega)]; simp only [List.length_append]; omega)
        rw [eV] at A_g
        rw [← List.length_append (as := X), sp_len _ _ (by simp only [List.length_append]; omega)] at hR
        simp only [List.length_append] at hR
        refine WP.iloadN K 148 own_b9_147 rfl rfl ?_
        refine WP.aloadN K 149 own_b9_148 rfl rfl rfl ?_
        refine WP.getfield K (host := "") 152 (Or.inl (hw _ (List.mem_of_getElem? (i := 60) rfl))) Via.refl Fs own_b9_149 rfl ?_
        refine WP.isub K 153 own_b9_152 rfl ?_
        refine WP.istoreN K 154 [.val (.ref r), .val (.int (at_ - st)), .val (.int len), .val (.long gp), .second, .val (.long nx), .second, .val (.int wr), .val (.int tl), .val (.int he), .val (.ref g)] own_b9_153 rfl rfl ?_
        refine WP.aloadN K 155 own_b9_154 rfl rfl rfl ?_
        refine WP.iconst K (0 : Int32) 156 own_b9_155 rfl rfl ?_
        refine WP.putfield K (host := "") (a := r) 159 (Or.inl (hw _ (List.mem_of_getElem? (i := 60) rfl))) Via.refl Fs Ex (Or.inl (hw _ (List.mem_of_getElem? (i := 61) rfl))) (hw _ (List.mem_of_getElem? (i := 21) rfl)) (ty := .int) (by decide) rfl rfl own_b9_156 rfl n0_r (fun h17 W18 => ?_)
        have Z0 : n0 ≤ (h17).size := by rw [W18.size]; exact Z0
        have Kp := Kp.wr W18 (by first | (refine Or.inl ?_; simp; done) | (refine Or.inr ?_; omega))
        have Ex := Ex.wr W18
        have Ff := Ff.other W18 (Or.inr (slot_ne (Or.inl (hw _ (List.mem_of_getElem? (i := 32) rfl))) (Or.inl (hw _ (List.mem_of_getElem? (i := 61) rfl))) (by decide) (t := .long) (t' := .int) (by decide) (by decide)))
        have Fl := Fl.other W18 (Or.inr (slot_ne (Or.inl (hw _ (List.mem_of_getElem? (i := 34) rfl))) (Or.inl (hw _ (List.mem_of_getElem? (i := 61) rfl))) (by decide) (t := .long) (t' := .int) (by decide) (by decide)))
        have Fg := Fg.other W18 (Or.inr (slot_ne (Or.inl (hw _ (List.mem_of_getElem? (i := 30) rfl))) (Or.inl (hw _ (List.mem_of_getElem? (i := 61) rfl))) (by decide) (t := (.array .byte)) (t' := .int) (by decide) (by decide)))
        have Fs := Fs.same W18
        have Fe := Fe.other W18 (Or.inr (slot_ne (Or.inl (hw _ (List.mem_of_getElem? (i := 59) rfl))) (Or.inl (hw _ (List.mem_of_getElem? (i := 61) rfl))) (by decide) (t := .int) (t' := .int) (by decide) (by decide)))
        have A_g := A_g.other W18 (ne_addr (by omega))
        refine WP.aloadN K 160 own_b9_159 rfl rfl rfl ?_
        refine WP.aload K 162 own_b9_160 rfl rfl rfl ?_
        refine WP.putfield K (host := "") (a := r) 165 (Or.inl (hw _ (List.mem_of_getElem? (i := 29) rfl))) Via.refl Fg Ex (Or.inl (hw _ (List.mem_of_getElem? (i := 30) rfl))) (hw _ (List.mem_of_getElem? (i := 21) rfl)) (ty := (.array .byte)) (by decide) rfl rfl own_b9_162 rfl n0_r (fun h19 W20 => ?_)
        have Z0 : n0 ≤ (h19).size := by rw [W20.size]; exact Z0
        have Kp := Kp.wr W20 (by first | (refine Or.inl ?_; simp; done) | (refine Or.inr ?_; omega))
        have Ex := Ex.wr W20
        have Ff := Ff.other W20 (Or.inr (slot_ne (Or.inl (hw _ (List.mem_of_getElem? (i := 32) rfl))) (Or.inl (hw _ (List.mem_of_getElem? (i := 30) rfl))) (by decide) (t := .long) (t' := (.array .byte)) (by decide) (by decide)))
        have Fl := Fl.other W20 (Or.inr (slot_ne (Or.inl (hw _ (List.mem_of_getElem? (i := 34) rfl))) (Or.inl (hw _ (List.mem_of_getElem? (i := 30) rfl))) (by decide) (t := .long) (t' := (.array .byte)) (by decide) (by decide)))
        have Fg := Fg.same W20
        have Fs := Fs.other W20 (Or.inr (slot_ne (Or.inl (hw _ (List.mem_of_getElem? (i := 61) rfl))) (Or.inl (hw _ (List.mem_of_getElem? (i := 30) rfl))) (by decide) (t := .int) (t' := (.array .byte)) (by decide) (by decide)))
        have Fe := Fe.other W20 (Or.inr (slot_ne (Or.inl (hw _ (List.mem_of_getElem? (i := 59) rfl))) (Or.inl (hw _ (List.mem_of_getElem? (i := 30) rfl))) (by decide) (t := .int) (t' := (.array .byte)) (by decide) (by decide)))
        have A_g := A_g.other W20 (ne_addr (by omega))
        refine WP.goto K 188 own_b9_165 (by decide) ?_
        have A_f : ArB Z h19 g ([] ++ X ++ V ++ (Y ++ R)) := by simpa using A_g
        exact J188 _ g _ (0 : Int32) wr _ _ [] V R 0 0 (Or.inr ⟨_, rfl, rfl⟩) (by decide) (by decide) hwr Ex Ff Fl Fg Fs Fe A_f hV rfl (by rw [t5]; simp) (by simp only [List.length_nil]; omega) n0_g hrg Kp (Or.inl rfl) Z0
      · skip
        refine WP.bipush K (16 : Int32) 80 own_b9_78 rfl rfl ?_
        refine WP.iload K 82 own_b9_80 rfl rfl ?_
        refine WP.iconst K (2 : Int32) 83 own_b9_82 rfl rfl ?_
        refine WP.imul K 84 own_b9_83 rfl ?_
        refine WP.callS K 87 0 0 0 [(.int (16 : Int32)), (.int (he * (2 : Int32)))] [] (hw _ (List.mem_of_getElem? (i := 87) rfl)) (hw _ (List.mem_of_getElem? (i := 84) rfl)) (hw _ (List.mem_of_getElem? (i := 85) rfl)) (hw _ (List.mem_of_getElem? (i := 86) rfl)) (by decide) own_pd_2 rfl rfl rfl (by decide) (by decide) (Nat.le_of_eq rfl) rfl own_b9_84 rfl rfl rfl (by decide) (by decide) (own_max l Z a0 hw n0 h (16 : Int32) (he * (2 : Int32)) ) (r1_next fun r23 h21 q22 => ?_)
        obtain ⟨rfl, rfl⟩ := q22
        refine WP.sipush K (1024 : Int32) 90 own_b9_87 rfl rfl ?_
        refine WP.callS K 93 0 0 0 [(.int (max32 (16 : Int32) (he * (2 : Int32)))), (.int (1024 : Int32))] [] (hw _ (List.mem_of_getElem? (i := 88) rfl)) (hw _ (List.mem_of_getElem? (i := 89) rfl)) (hw _ (List.mem_of_getElem? (i := 85) rfl)) (hw _ (List.mem_of_getElem? (i := 90) rfl)) (by decide) own_pd_2 rfl rfl rfl (by decide) (by decide) (Nat.le_of_eq rfl) rfl own_b9_90 rfl rfl rfl (by decide) (by decide) (own_min l Z a0 hw n0 h (max32 (16 : Int32) (he * (2 : Int32))) (1024 : Int32) ) (r1_next fun r26 h24 q25 => ?_)
        obtain ⟨rfl, rfl⟩ := q25
        have m1 := max32_spec (16 : Int32) (he * (2 : Int32))
        have m2 := min32_spec (max32 (16 : Int32) (he * (2 : Int32))) (1024 : Int32)
        obtain ⟨zz, ezz⟩ : ∃ z : Int32, z = (min32 (max32 (16 : Int32) (he * (2 : Int32))) (1024 : Int32)) := ⟨_, rfl⟩
        rw [← ezz] at m2 ⊢
        obtain ⟨mm, hmm⟩ : ∃ n : Nat, zz.toInt = (n : Nat) := ⟨zz.toInt.toNat, by clear hng hrg; omega⟩
        have hq : X.length + (el G + el0 N) + Y.length ≤ mm := by clear hng hrg; omega
        have hm54 : mm ≤ 54 := by clear hng hrg; omega
        clear m1 m2 t1 t2 t7 t8 t9 hlz2 hhe c47 c75 hng hlz
        refine WP.newarray K 95 mm 54 1 54 (hw _ (List.mem_of_getElem? (i := 91) rfl)) own_b9_93 rfl hmm (by omega) (by decide) rfl rfl (by decide) (by decide) (fun h27 to z_to E28 V29 => ?_)
        have l_r_to : @LT.lt Nat _ r to := z_to ▸ Ex.lt
        have l_g_to : @LT.lt Nat _ g to := z_to ▸ A_g.lt
        have n0_to : @LE.le Nat _ n0 to := z_to ▸ Z0
        have Z0 : n0 ≤ (h27).size := Nat.le_trans Z0 E28.1
        have Kp := Kp.ext E28
        have Ex := Ex.ext E28
        have Ff := Ff.ext E28
        have Fl := Fl.ext E28
        have Fg := Fg.ext E28
        have Fs := Fs.ext E28
        have Fe := Fe.ext E28
        have A_g := A_g.ext E28
        have A_to := ArB.of_new V29
        refine WP.goto K 102 own_b9_95 (by decide) ?_
        refine WP.astore K 104 [.val (.ref r), .val (.int at_), .val (.int len), .val (.long gp), .second, .val (.long nx), .second, .val (.int wr), .val (.int tl), .val (.int he), .val (.ref to)] own_b9_102 rfl rfl rfl ?_
        refine WP.aloadN K 105 own_b9_104 rfl rfl rfl ?_
        refine WP.getfield K (host := "") 108 (Or.inl (hw _ (List.mem_of_getElem? (i := 29) rfl))) Via.refl Fg own_b9_105 rfl ?_
        refine WP.aloadN K 109 own_b9_108 rfl rfl rfl ?_
        refine WP.getfield K (host := "") 112 (Or.inl (hw _ (List.mem_of_getElem? (i := 60) rfl))) Via.refl Fs own_b9_109 rfl ?_
        refine WP.aload K 114 own_b9_112 rfl rfl rfl ?_
        refine WP.iconst K (0 : Int32) 115 own_b9_114 rfl rfl ?_
        refine WP.iloadN K 116 own_b9_115 rfl rfl ?_
        refine WP.aloadN K 117 own_b9_116 rfl rfl rfl ?_
        refine WP.getfield K (host := "") 120 (Or.inl (hw _ (List.mem_of_getElem? (i := 60) rfl))) Via.refl Fs own_b9_117 rfl ?_
        refine WP.isub K 121 own_b9_120 rfl ?_
        refine WP.acopyB K (a := g) (b := to) 124 0 P.length 0 X.length (hw _ (List.mem_of_getElem? (i := 92) rfl)) (hw _ (List.mem_of_getElem? (i := 44) rfl)) (hw _ (List.mem_of_getElem? (i := 42) rfl)) (hw _ (List.mem_of_getElem? (i := 43) rfl)) A_g A_to hst rfl t5 (by simp only [List.length_append]; omega) (by simp; omega) n0_to rfl (by decide) (Nat.le_of_eq rfl) (by decide) own_b9_121 rfl (fun h30 K31 A_to => ?_)
        have Z0 : n0 ≤ (h30).size := Nat.le_trans Z0 K31.1
        have Kp := Kp.trans K31 (ks1 (by first | (refine Or.inl ?_; simp; done) | (refine Or.inr ?_; omega)))
        have Ex := Ex.keep K31
        have Ff := Ff.keep K31 (nm1 (by omega))
        have Fl := Fl.keep K31 (nm1 (by omega))
        have Fg := Fg.keep K31 (nm1 (by omega))
        have Fs := Fs.keep K31 (nm1 (by omega))
        have Fe := Fe.keep K31 (nm1 (by omega))
        have A_g := A_g.keep K31 (nm1 (by omega))
        rw [seg_X, cp_1] at A_to
        refine WP.aloadN K 125 own_b9_124 rfl rfl rfl ?_
        refine WP.getfield K (host := "") 128 (Or.inl (hw _ (List.mem_of_getElem? (i := 29) rfl))) Via.refl Fg own_b9_125 rfl ?_
        refine WP.iloadN K 129 own_b9_128 rfl rfl ?_
        refine WP.iloadN K 130 own_b9_129 rfl rfl ?_
        refine WP.iadd K 131 own_b9_130 rfl ?_
        refine WP.aload K 133 own_b9_131 rfl rfl rfl ?_
        refine WP.iloadN K 134 own_b9_133 rfl rfl ?_
        refine WP.aloadN K 135 own_b9_134 rfl rfl rfl ?_
        refine WP.getfield K (host := "") 138 (Or.inl (hw _ (List.mem_of_getElem? (i := 60) rfl))) Via.refl Fs own_b9_135 rfl ?_
        refine WP.isub K 139 own_b9_138 rfl ?_
        refine WP.iload K 141 own_b9_139 rfl rfl ?_
        refine WP.iadd K 142 own_b9_141 rfl ?_
        refine WP.iload K 144 own_b9_142 rfl rfl ?_
        refine WP.acopyB K (a := g) (b := to) 147 0 (P.length + X.length + L.length) (X.length + (el G + el0 N)) Y.length (hw _ (List.mem_of_getElem? (i := 92) rfl)) (hw _ (List.mem_of_getElem? (i := 44) rfl)) (hw _ (List.mem_of_getElem? (i := 42) rfl)) (hw _ (List.mem_of_getElem? (i := 43) rfl)) A_g A_to t3 t6 htl2 (by simp only [List.length_append]; omega) (by rw [sp_len _ _ (by simp only [List.length_replicate]; omega)]; simp only [List.length_replicate]; omega) n0_to rfl (by decide) (Nat.le_of_eq rfl) (by decide) own_b9_144 rfl (fun h32 K33 A_to => ?_)
        have Z0 : n0 ≤ (h32).size := Nat.le_trans Z0 K33.1
        have Kp := Kp.trans K33 (ks1 (by first | (refine Or.inl ?_; simp; done) | (refine Or.inr ?_; omega)))
        have Ex := Ex.keep K33
        have Ff := Ff.keep K33 (nm1 (by omega))
        have Fl := Fl.keep K33 (nm1 (by omega))
        have Fg := Fg.keep K33 (nm1 (by omega))
        have Fs := Fs.keep K33 (nm1 (by omega))
        have Fe := Fe.keep K33 (nm1 (by omega))
        have A_g := A_g.keep K33 (nm1 (by omega))
        rw [seg_Y] at A_to
        obtain ⟨V, R, hV, hR, eV⟩ := cp_fin X ((List.replicate mm (0 : Int8)).drop X.length) Y (el G + el0 N) (by rw [← List.length_append, sp_len _ _ (by simp only [List.length_replicate]; omega)]; simp only [List.length_replicate]; omega)
        rw [eV] at A_to
        rw [← List.length_append (as := X), sp_len _ _ (by simp only [List.length_replicate]; omega)] at hR
        simp only [List.length_replicate] at hR
        refine WP.iloadN K 148 own_b9_147 rfl rfl ?_
        refine WP.aloadN K 149 own_b9_148 rfl rfl rfl ?_
        refine WP.getfield K (host := "") 152 (Or.inl (hw _ (List.mem_of_getElem? (i := 60) rfl))) Via.refl Fs own_b9_149 rfl ?_
        refine WP.isub K 153 own_b9_152 rfl ?_
        refine WP.istoreN K 154 [.val (.ref r), .val (.int (at_ - st)), .val (.int len), .val (.long gp), .second, .val (.long nx), .second, .val (.int wr), .val (.int tl), .val (.int he), .val (.ref to)] own_b9_153 rfl rfl ?_
        refine WP.aloadN K 155 own_b9_154 rfl rfl rfl ?_
        refine WP.iconst K (0 : Int32) 156 own_b9_155 rfl rfl ?_
        refine WP.putfield K (host := "") (a := r) 159 (Or.inl (hw _ (List.mem_of_getElem? (i := 60) rfl))) Via.refl Fs Ex (Or.inl (hw _ (List.mem_of_getElem? (i := 61) rfl))) (hw _ (List.mem_of_getElem? (i := 21) rfl)) (ty := .int) (by decide) rfl rfl own_b9_156 rfl n0_r (fun h34 W35 => ?_)
        have Z0 : n0 ≤ (h34).size := by rw [W35.size]; exact Z0
        have Kp := Kp.wr W35 (by first | (refine Or.inl ?_; simp; done) | (refine Or.inr ?_; omega))
        have Ex := Ex.wr W35
        have Ff := Ff.other W35 (Or.inr (slot_ne (Or.inl (hw _ (List.mem_of_getElem? (i := 32) rfl))) (Or.inl (hw _ (List.mem_of_getElem? (i := 61) rfl))) (by decide) (t := .long) (t' := .int) (by decide) (by decide)))
        have Fl := Fl.other W35 (Or.inr (slot_ne (Or.inl (hw _ (List.mem_of_getElem? (i := 34) rfl))) (Or.inl (hw _ (List.mem_of_getElem? (i := 61) rfl))) (by decide) (t := .long) (t' := .int) (by decide) (by decide)))
        have Fg := Fg.other W35 (Or.inr (slot_ne (Or.inl (hw _ (List.mem_of_getElem? (i := 30) rfl))) (Or.inl (hw _ (List.mem_of_getElem? (i := 61) rfl))) (by decide) (t := (.array .byte)) (t' := .int) (by decide) (by decide)))
        have Fs := Fs.same W35
        have Fe := Fe.other W35 (Or.inr (slot_ne (Or.inl (hw _ (List.mem_of_getElem? (i := 59) rfl))) (Or.inl (hw _ (List.mem_of_getElem? (i := 61) rfl))) (by decide) (t := .int) (t' := .int) (by decide) (by decide)))
        have A_g := A_g.other W35 (ne_addr (by omega))
        have A_to := A_to.other W35 (ne_addr (by omega))
        refine WP.aloadN K 160 own_b9_159 rfl rfl rfl ?_
        refine WP.aload K 162 own_b9_160 rfl rfl rfl ?_
        refine WP.putfield K (host := "") (a := r) 165 (Or.inl (hw _ (List.mem_of_getElem? (i := 29) rfl))) Via.refl Fg Ex (Or.inl (hw _ (List.mem_of_getElem? (i := 30) rfl))) (hw _ (List.mem_of_getElem? (i := 21) rfl)) (ty := (.array .byte)) (by decide) rfl rfl own_b9_162 rfl n0_r (fun h36 W37 => ?_)
        have Z0 : n0 ≤ (h36).size := by rw [W37.size]; exact Z0
        have Kp := Kp.wr W37 (by first | (refine Or.inl ?_; simp; done) | (refine Or.inr ?_; omega))
        have Ex := Ex.wr W37
        have Ff := Ff.other W37 (Or.inr (slot_ne (Or.inl (hw _ (List.mem_of_getElem? (i := 32) rfl))) (Or.inl (hw _ (List.mem_of_getElem? (i := 30) rfl))) (by decide) (t := .long) (t' := (.array .byte)) (by decide) (by decide)))
        have Fl := Fl.other W37 (Or.inr (slot_ne (Or.inl (hw _ (List.mem_of_getElem? (i := 34) rfl))) (Or.inl (hw _ (List.mem_of_getElem? (i := 30) rfl))) (by decide) (t := .long) (t' := (.array .byte)) (by decide) (by decide)))
        have Fg := Fg.same W37
        have Fs := Fs.other W37 (Or.inr (slot_ne (Or.inl (hw _ (List.mem_of_getElem? (i := 61) rfl))) (Or.inl (hw _ (List.mem_of_getElem? (i := 30) rfl))) (by decide) (t := .int) (t' := (.array .byte)) (by decide) (by decide)))
        have Fe := Fe.other W37 (Or.inr (slot_ne (Or.inl (hw _ (List.mem_of_getElem? (i := 59) rfl))) (Or.inl (hw _ (List.mem_of_getElem? (i := 30) rfl))) (by decide) (t := .int) (t' := (.array .byte)) (by decide) (by decide)))
        have A_g := A_g.other W37 (ne_addr (by omega))
        have A_to := A_to.other W37 (ne_addr (by omega))
        refine WP.goto K 188 own_b9_165 (by decide) ?_
        have A_f : ArB Z h36 to ([] ++ X ++ V ++ (Y ++ R)) := by simpa using A_to
        exact J188 _ to _ (0 : Int32) wr _ _ [] V R 1 54 (Or.inr ⟨_, rfl, rfl⟩) (by decide) (by decide) hwr Ex Ff Fl Fg Fs Fe A_f hV rfl (by rw [t5]; simp) (by simp only [List.length_nil]; omega) n0_to (by omega) Kp (Or.inr (by omega)) Z0
  refine WP.lloadN K 1 own_b9_0 rfl rfl ?_
  refine WP.callSN K 4 0 0 0 [(.long gp)] [] (hw _ (List.mem_of_getElem? (i := 71) rfl)) (hw _ (List.mem_of_getElem? (i := 72) rfl)) (hw _ (List.mem_of_getElem? (i := 3) rfl)) (hw _ (List.mem_of_getElem? (i := 73) rfl)) (by decide) own_pd_1 rfl rfl rfl (by decide) (by decide) (Nat.le_of_eq rfl) rfl own_b9_1 rfl rfl rfl (by decide) (by decide) (own_gaplen l Z a0 hw n0 h gp G hgp hG) (r1_next fun r40 h38 q39 => ?_)
  obtain ⟨⟨z1, rfl, hz1⟩, rfl⟩ := q39
  refine WP.lload K 6 own_b9_4 rfl rfl ?_
  refine WP.lconst K (0 : Int64) 7 own_b9_6 rfl rfl ?_
  refine WP.lcmp K 8 own_b9_7 rfl ?_
  refine WP.ifl_ne K 15 11 own_b9_8 (by decide) rfl (fun c8 => ?_) (fun c8 => ?_)
  · skip
    have hN : 1 ≤ N := by omega
    have hel := el0_pos hN
    refine WP.lload K 17 own_b9_15 rfl rfl ?_
    refine WP.callSN K 20 0 0 1 [(.long nx)] [(.int z1)] (hw _ (List.mem_of_getElem? (i := 71) rfl)) (hw _ (List.mem_of_getElem? (i := 72) rfl)) (hw _ (List.mem_of_getElem? (i := 3) rfl)) (hw _ (List.mem_of_getElem? (i := 73) rfl)) (by decide) own_pd_1 rfl rfl rfl (by decide) (by decide) (Nat.le_of_eq rfl) rfl own_b9_17 rfl rfl rfl (by decide) (by decide) (own_gaplen l Z a0 hw n0 h nx N hnx hN) (r1_next fun r43 h41 q42 => ?_)
    obtain ⟨⟨z2, rfl, hz2⟩, rfl⟩ := q42
    refine WP.iadd K 21 own_b9_20 rfl ?_
    refine WP.istore K 23 [.val (.ref r), .val (.int at_), .val (.int len), .val (.long gp), .second, .val (.long nx), .second, .val (.int (z1 + z2)), .unset, .unset, .unset] own_b9_21 rfl rfl ?_
    exact J23 _ (by rw [i32_add (by omega) (by omega)]; omega)
  · skip
    have hel : el0 N = 0 := by rw [show N = 0 by omega]; rfl
    refine WP.iconst K (0 : Int32) 12 own_b9_11 rfl rfl ?_
    refine WP.goto K 20 own_b9_12 (by decide) ?_
    refine WP.iadd K 21 own_b9_20 rfl ?_
    refine WP.istore K 23 [.val (.ref r), .val (.int at_), .val (.int len), .val (.long gp), .second, .val (.long nx), .second, .val (.int (z1 + (0 : Int32))), .unset, .unset, .unset] own_b9_21 rfl rfl ?_
    exact J23 _ (by rw [i32_add (by omega) (by omega)]; omega)
theorem own_b7_0 : decode prog_9_method_2_code 0 = .ok (.aload_n 0, 1) := by decide +kernel
theorem own_b7_1 : decode prog_9_method_2_code 1 = .ok (.getfield 25, 3) := by decide +kernel
theorem own_b7_4 : decode prog_9_method_2_code 4 = .ok (.aload_n 0, 1) := by decide +kernel
theorem own_b7_5 : decode prog_9_method_2_code 5 = .ok (.getfield 29, 3) := by decide +kernel
theorem own_b7_8 : decode prog_9_method_2_code 8 = .ok (.isub, 1) := by decide +kernel
theorem own_b7_9 : decode prog_9_method_2_code 9 = .ok (.sipush 1015, 3) := by decide +kernel
theorem own_b7_12 : decode prog_9_method_2_code 12 = .ok (.if_icmp .gt 7, 3) := by decide +kernel
theorem own_b7_15 : decode prog_9_method_2_code 15 = .ok (.iconst 1, 1) := by decide +kernel
theorem own_b7_16 : decode prog_9_method_2_code 16 = .ok (.goto 4, 3) := by decide +kernel
theorem own_b7_19 : decode prog_9_method_2_code 19 = .ok (.iconst 0, 1) := by decide +kernel
theorem own_b7_20 : decode prog_9_method_2_code 20 = .ok (.ireturn, 1) := by decide +kernel
theorem own_pf_b7 : plainFor (⟨"com/example/highwater/highwater/MessageIndex$Run", "hasRoom", "()Z"⟩ : MethodName) = true := by first | exact plainFor_of_name (by first | (simp [plainName, overriddenIn, x]; done) | decide +kernel) | decide +kernel
set_option maxRecDepth 65536 in
set_option maxHeartbeats 40000000 in
theorem own_hasroom (l : Launch) (Z : State) (a0 : Array Value) (hw : ∀ d ∈ tables_1, d.before a0 Z = true) (n0 : Nat) (h : Heap) (r g : Nat) (F : Nat) (gs : List Nat) (H : RI Z h n0 r g F gs) :
    Con l Z (⟨"com/example/highwater/highwater/MessageIndex$Run", "hasRoom", "()Z"⟩ : MethodName) prog_9_method_2_code 1 (some .boolean) ({ frames := 0, cells := 0, slots := 0, locals := 0 } : Room) n0 #[(.ref r)] h (R1 fun r h' => r = .int 1 ∧ h = h') := by
  refine Con.of (ls := [.val (.ref r)]) own_pf_b7 (fun m => by first | (simp [entryFrame, mkF, argsToLocals, Value.category]; done) | rfl) fun k K => ?_
  have k_0 : (0 : Int32).toInt = 0 := rfl
  have k_1 : (1 : Int32).toInt = 1 := rfl
  have k_1015 : (1015 : Int32).toInt = 1015 := rfl
  obtain ⟨f, la, P, Q, HB, hf, hla, hgp_⟩ := H
  have HB0 := HB
  obtain ⟨st, en, Ex, Ff, Fl, Fg, Fs, Fe, A_g, hst, hen, hng, n0_r, hrg, hlen⟩ := HB
  have l_r : @LT.lt Nat _ r h.size := Ff.lt
  have l_g : @LT.lt Nat _ g h.size := A_g.lt
  have e1 : (en - st).toInt = en.toInt - st.toInt := i32_sub (by omega) (by omega)
  refine WP.aloadN K 1 own_b7_0 rfl rfl rfl ?_
  refine WP.getfield K (host := "") 4 (Or.inl (hw _ (List.mem_of_getElem? (i := 58) rfl))) Via.refl Fe own_b7_1 rfl ?_
  refine WP.aloadN K 5 own_b7_4 rfl rfl rfl ?_
  refine WP.getfield K (host := "") 8 (Or.inl (hw _ (List.mem_of_getElem? (i := 60) rfl))) Via.refl Fs own_b7_5 rfl ?_
  refine WP.isub K 9 own_b7_8 rfl ?_
  refine WP.sipush K (1015 : Int32) 12 own_b7_9 rfl rfl ?_
  refine WP.icmp_gt K 19 15 own_b7_12 (by decide) rfl (fun c12 => ?_) (fun c12 => ?_)
  · skip
    exfalso; omega
  · skip
    refine WP.iconst K (1 : Int32) 16 own_b7_15 rfl rfl ?_
    refine WP.goto K 20 own_b7_16 (by decide) ?_
    refine WP.iret K rfl (Or.inr (Or.inl rfl)) rfl own_b7_20 ?_ (by decide) (by decide)
    exact ⟨_, rfl, rfl, rfl⟩
theorem own_b8_0 : decode prog_9_method_3_code 0 = .ok (.aload_n 0, 1) := by decide +kernel
theorem own_b8_1 : decode prog_9_method_3_code 1 = .ok (.aload_n 0, 1) := by decide +kernel
theorem own_b8_2 : decode prog_9_method_3_code 2 = .ok (.getfield 25, 3) := by decide +kernel
theorem own_b8_5 : decode prog_9_method_3_code 5 = .ok (.iconst 0, 1) := by decide +kernel
theorem own_b8_6 : decode prog_9_method_3_code 6 = .ok (.lload_n 1, 1) := by decide +kernel
theorem own_b8_7 : decode prog_9_method_3_code 7 = .ok (.aload_n 0, 1) := by decide +kernel
theorem own_b8_8 : decode prog_9_method_3_code 8 = .ok (.getfield 22, 3) := by decide +kernel
theorem own_b8_11 : decode prog_9_method_3_code 11 = .ok (.lsub, 1) := by decide +kernel
theorem own_b8_12 : decode prog_9_method_3_code 12 = .ok (.lconst 0, 1) := by decide +kernel
theorem own_b8_13 : decode prog_9_method_3_code 13 = .ok (.invokevirtual 32, 3) := by decide +kernel
theorem own_b8_16 : decode prog_9_method_3_code 16 = .ok (.aload_n 0, 1) := by decide +kernel
theorem own_b8_17 : decode prog_9_method_3_code 17 = .ok (.lload_n 1, 1) := by decide +kernel
theorem own_b8_18 : decode prog_9_method_3_code 18 = .ok (.putfield 22, 3) := by decide +kernel
theorem own_b8_21 : decode prog_9_method_3_code 21 = .ok (.return_, 1) := by decide +kernel
theorem own_pf_b8 : plainFor (⟨"com/example/highwater/highwater/MessageIndex$Run", "append", "(J)V"⟩ : MethodName) = true := by first | exact plainFor_of_name (by first | (simp [plainName, overriddenIn, x]; done) | decide +kernel) | decide +kernel
theorem own_pd_4 : parseMethodDescriptor "(IIJJ)V" = some ⟨[.int, .int, .long, .long], none⟩ := by decide +kernel
set_option maxRecDepth 65536 in
set_option maxHeartbeats 40000000 in
theorem own_append (l : Launch) (Z : State) (a0 : Array Value) (hw : ∀ d ∈ tables_1, d.before a0 Z = true) (n0 : Nat) (h : Heap) (r g : Nat) (F : Nat) (gs : List Nat) (H : RI Z h n0 r g F gs) (id : Int64) (d : Nat) (hid : id.toInt = ((F + gs.sum + d : Nat) : Int)) (hd : 1 ≤ d) (hb : (encs gs).length + el d ≤ 27) (Z0 : n0 ≤ h.size) :
    Con l Z (⟨"com/example/highwater/highwater/MessageIndex$Run", "append", "(J)V"⟩ : MethodName) prog_9_method_3_code 3 none ({ frames := 4, cells := 1, slots := 54, locals := 66 } : Room) n0 #[(.ref r), (.long id)] h (R0 fun h' => ∃ g', RI Z h' n0 r g' F (gs ++ [d]) ∧ Keep h h' [r, g] ∧ (g' = g ∨ h.size ≤ g')) := by
  refine Con.of (ls := [.val (.ref r), .val (.long id), .second]) own_pf_b8 (fun m => by first | (simp [entryFrame, mkF, argsToLocals, Value.category]; done) | rfl) fun k K => ?_
  have k_0 : (0 : Int32).toInt = 0 := rfl
  have kL_0 : (0 : Int64).toInt = 0 := rfl
  obtain ⟨f, la, P, Q, HB, hf, hla, hgp_⟩ := H
  have HB0 := HB
  obtain ⟨st, en, Ex, Ff, Fl, Fg, Fs, Fe, A_g, hst, hen, hng, n0_r, hrg, hlen⟩ := HB
  have l_r : @LT.lt Nat _ r h.size := Ff.lt
  have l_g : @LT.lt Nat _ g h.size := A_g.lt
  have l1 := i64_rng id
  have l2 := i64_rng f
  have e1 : (id - la).toInt = (d : Nat) := by rw [i64_sub (by omega) (by omega)]; omega
  refine WP.aloadN K 1 own_b8_0 rfl rfl rfl ?_
  refine WP.aloadN K 2 own_b8_1 rfl rfl rfl ?_
  refine WP.getfield K (host := "") 5 (Or.inl (hw _ (List.mem_of_getElem? (i := 58) rfl))) Via.refl Fe own_b8_2 rfl ?_
  refine WP.iconst K (0 : Int32) 6 own_b8_5 rfl rfl ?_
  refine WP.lloadN K 7 own_b8_6 rfl rfl ?_
  refine WP.aloadN K 8 own_b8_7 rfl rfl rfl ?_
  refine WP.getfield K (host := "") 11 (Or.inl (hw _ (List.mem_of_getElem? (i := 33) rfl))) Via.refl Fl own_b8_8 rfl ?_
  refine WP.lsub K 12 own_b8_11 rfl ?_
  refine WP.lconst K (0 : Int64) 13 own_b8_12 rfl rfl ?_
  refine WP.callP K (a := r) (C := "com/example/highwater/highwater/MessageIndex$Run") 16 1 54 0 [(.int en), (.int (0 : Int32)), (.long (id - la)), (.long (0 : Int64))] [] (hw _ (List.mem_of_getElem? (i := 67) rfl)) (hw _ (List.mem_of_getElem? (i := 68) rfl)) (u := (⟨"com/example/highwater/highwater/MessageIndex$Run", "hasRoom", "()Z"⟩ : MethodName)) rfl (hw _ (List.mem_of_getElem? (i := 56) rfl)) (hw _ (List.mem_of_getElem? (i := 69) rfl)) (hw _ (List.mem_of_getElem? (i := 22) rfl)) (hw _ (List.mem_of_getElem? (i := 70) rfl)) (by decide) own_pd_4 rfl rfl rfl (by decide) (by decide) (Nat.le_of_eq rfl) rfl own_b8_13 rfl rfl rfl (by decide) (by decide) Ex (own_splice l Z a0 hw n0 h r g en (0 : Int32) (id - la) (0 : Int64) f la P (encs gs) [] [] Q d 0 (by simpa using HB0) hen rfl e1 hd rfl (by rw [el0_zero]; simp only [List.length_nil]; omega) Z0) (r0_next fun h1 q2 => ?_)
  obtain ⟨g2, P2, Q2, HB2, Kq, hg2⟩ := q2
  obtain ⟨st2, en2, Ex, Ff, Fl, Fg, Fs, Fe, A_g2, hst2, hen2, hng2, n0_r, hrg2, hlen2⟩ := HB2
  refine WP.aloadN K 17 own_b8_16 rfl rfl rfl ?_
  refine WP.lloadN K 18 own_b8_17 rfl rfl ?_
  refine WP.putfield K (host := "") (a := r) 21 (Or.inl (hw _ (List.mem_of_getElem? (i := 33) rfl))) Via.refl Fl Ex (Or.inl (hw _ (List.mem_of_getElem? (i := 34) rfl))) (hw _ (List.mem_of_getElem? (i := 21) rfl)) (ty := .long) (by decide) rfl rfl own_b8_18 rfl n0_r (fun h4 W5 => ?_)
  have Ex := Ex.wr W5
  have Ff := Ff.other W5 (Or.inr (slot_ne (Or.inl (hw _ (List.mem_of_getElem? (i := 32) rfl))) (Or.inl (hw _ (List.mem_of_getElem? (i := 34) rfl))) (by decide) (t := .long) (t' := .long) (by decide) (by decide)))
  have Fl := Fl.same W5
  have Fg := Fg.other W5 (Or.inr (slot_ne (Or.inl (hw _ (List.mem_of_getElem? (i := 30) rfl))) (Or.inl (hw _ (List.mem_of_getElem? (i := 34) rfl))) (by decide) (t := (.array .byte)) (t' := .long) (by decide) (by decide)))
  have Fs := Fs.other W5 (Or.inr (slot_ne (Or.inl (hw _ (List.mem_of_getElem? (i := 61) rfl))) (Or.inl (hw _ (List.mem_of_getElem? (i := 34) rfl))) (by decide) (t := .int) (t' := .long) (by decide) (by decide)))
  have Fe := Fe.other W5 (Or.inr (slot_ne (Or.inl (hw _ (List.mem_of_getElem? (i := 59) rfl))) (Or.inl (hw _ (List.mem_of_getElem? (i := 34) rfl))) (by decide) (t := .int) (t' := .long) (by decide) (by decide)))
  have A_g2 := A_g2.other W5 (ne_addr (by omega))
  have Kq := Kq.wr W5 (Or.inl (by simp))
  refine WP.retV K rfl own_b8_21 ?_ (by decide) (by decide)
  have eE : encs (gs ++ [d]) = encs gs ++ (enc d ++ enc0 0) ++ [] := by rw [encs_app, encs_one, enc0_zero, List.append_nil, List.append_nil]
  rw [← eE] at A_g2 hen2 hlen2 hng2
  refine ⟨rfl, g2, ⟨f, id, P2, Q2, ⟨st2, en2, Ex, Ff, Fl, Fg, Fs, Fe, ?_, hst2, ?_, hng2, n0_r, hrg2, ?_⟩, hf, ?_, ?_⟩, Kq, hg2⟩
  · exact A_g2
  · exact hen2
  · exact hlen2
  · rw [List.sum_append, List.sum_singleton, hid]; congr 1; omega
  · intro x hx
    simp only [List.mem_append, List.mem_cons, List.not_mem_nil, or_false] at hx
    rcases hx with hx | hx
    · exact hgp_ x hx
    · omega
theorem own_b27_0 : decode prog_9_method_4_code 0 = .ok (.aload_n 0, 1) := by decide +kernel
theorem own_b27_1 : decode prog_9_method_4_code 1 = .ok (.aload_n 0, 1) := by decide +kernel
theorem own_b27_2 : decode prog_9_method_4_code 2 = .ok (.getfield 29, 3) := by decide +kernel
theorem own_b27_5 : decode prog_9_method_4_code 5 = .ok (.iconst 0, 1) := by decide +kernel
theorem own_b27_6 : decode prog_9_method_4_code 6 = .ok (.aload_n 0, 1) := by decide +kernel
theorem own_b27_7 : decode prog_9_method_4_code 7 = .ok (.getfield 18, 3) := by decide +kernel
theorem own_b27_10 : decode prog_9_method_4_code 10 = .ok (.lload_n 1, 1) := by decide +kernel
theorem own_b27_11 : decode prog_9_method_4_code 11 = .ok (.lsub, 1) := by decide +kernel
theorem own_b27_12 : decode prog_9_method_4_code 12 = .ok (.lconst 0, 1) := by decide +kernel
theorem own_b27_13 : decode prog_9_method_4_code 13 = .ok (.invokevirtual 32, 3) := by decide +kernel
theorem own_b27_16 : decode prog_9_method_4_code 16 = .ok (.aload_n 0, 1) := by decide +kernel
theorem own_b27_17 : decode prog_9_method_4_code 17 = .ok (.lload_n 1, 1) := by decide +kernel
theorem own_b27_18 : decode prog_9_method_4_code 18 = .ok (.putfield 18, 3) := by decide +kernel
theorem own_b27_21 : decode prog_9_method_4_code 21 = .ok (.return_, 1) := by decide +kernel
theorem own_pf_b27 : plainFor (⟨"com/example/highwater/highwater/MessageIndex$Run", "prepend", "(J)V"⟩ : MethodName) = true := by first | exact plainFor_of_name (by first | (simp [plainName, overriddenIn, x]; done) | decide +kernel) | decide +kernel
set_option maxRecDepth 65536 in
set_option maxHeartbeats 40000000 in
theorem own_prepend (l : Launch) (Z : State) (a0 : Array Value) (hw : ∀ d ∈ tables_1, d.before a0 Z = true) (n0 : Nat) (h : Heap) (r g : Nat) (F : Nat) (gs : List Nat) (H : RI Z h n0 r g F gs) (id : Int64) (d F2 : Nat) (hid : id.toInt + d = (F : Int)) (hF2 : id.toInt = (F2 : Nat)) (hd : 1 ≤ d) (hb : (encs gs).length + el d ≤ 27) (Z0 : n0 ≤ h.size) :
    Con l Z (⟨"com/example/highwater/highwater/MessageIndex$Run", "prepend", "(J)V"⟩ : MethodName) prog_9_method_4_code 3 none ({ frames := 4, cells := 1, slots := 54, locals := 66 } : Room) n0 #[(.ref r), (.long id)] h (R0 fun h' => ∃ g', RI Z h' n0 r g' F2 (d :: gs) ∧ Keep h h' [r, g] ∧ (g' = g ∨ h.size ≤ g')) := by
  refine Con.of (ls := [.val (.ref r), .val (.long id), .second]) own_pf_b27 (fun m => by first | (simp [entryFrame, mkF, argsToLocals, Value.category]; done) | rfl) fun k K => ?_
  have k_0 : (0 : Int32).toInt = 0 := rfl
  have kL_0 : (0 : Int64).toInt = 0 := rfl
  obtain ⟨f, la, P, Q, HB, hf, hla, hgp_⟩ := H
  have HB0 := HB
  obtain ⟨st, en, Ex, Ff, Fl, Fg, Fs, Fe, A_g, hst, hen, hng, n0_r, hrg, hlen⟩ := HB
  have l_r : @LT.lt Nat _ r h.size := Ff.lt
  have l_g : @LT.lt Nat _ g h.size := A_g.lt
  have l1 := i64_rng id
  have l2 := i64_rng f
  have e1 : (f - id).toInt = (d : Nat) := by rw [i64_sub (by omega) (by omega)]; omega
  refine WP.aloadN K 1 own_b27_0 rfl rfl rfl ?_
  refine WP.aloadN K 2 own_b27_1 rfl rfl rfl ?_
  refine WP.getfield K (host := "") 5 (Or.inl (hw _ (List.mem_of_getElem? (i := 60) rfl))) Via.refl Fs own_b27_2 rfl ?_
  refine WP.iconst K (0 : Int32) 6 own_b27_5 rfl rfl ?_
  refine WP.aloadN K 7 own_b27_6 rfl rfl rfl ?_
  refine WP.getfield K (host := "") 10 (Or.inl (hw _ (List.mem_of_getElem? (i := 31) rfl))) Via.refl Ff own_b27_7 rfl ?_
  refine WP.lloadN K 11 own_b27_10 rfl rfl ?_
  refine WP.lsub K 12 own_b27_11 rfl ?_
  refine WP.lconst K (0 : Int64) 13 own_b27_12 rfl rfl ?_
  refine WP.callP K (a := r) (C := "com/example/highwater/highwater/MessageIndex$Run") 16 1 54 0 [(.int st), (.int (0 : Int32)), (.long (f - id)), (.long (0 : Int64))] [] (hw _ (List.mem_of_getElem? (i := 67) rfl)) (hw _ (List.mem_of_getElem? (i := 68) rfl)) (u := (⟨"com/example/highwater/highwater/MessageIndex$Run", "hasRoom", "()Z"⟩ : MethodName)) rfl (hw _ (List.mem_of_getElem? (i := 56) rfl)) (hw _ (List.mem_of_getElem? (i := 69) rfl)) (hw _ (List.mem_of_getElem? (i := 22) rfl)) (hw _ (List.mem_of_getElem? (i := 70) rfl)) (by decide) own_pd_4 rfl rfl rfl (by decide) (by decide) (Nat.le_of_eq rfl) rfl own_b27_13 rfl rfl rfl (by decide) (by decide) Ex (own_splice l Z a0 hw n0 h r g st (0 : Int32) (f - id) (0 : Int64) f la P [] [] (encs gs) Q d 0 (by simpa using HB0) (by simpa using hst) rfl e1 hd rfl (by rw [el0_zero]; simp only [List.length_nil]; omega) Z0) (r0_next fun h1 q2 => ?_)
  obtain ⟨g2, P2, Q2, HB2, Kq, hg2⟩ := q2
  obtain ⟨st2, en2, Ex, Ff, Fl, Fg, Fs, Fe, A_g2, hst2, hen2, hng2, n0_r, hrg2, hlen2⟩ := HB2
  refine WP.aloadN K 17 own_b27_16 rfl rfl rfl ?_
  refine WP.lloadN K 18 own_b27_17 rfl rfl ?_
  refine WP.putfield K (host := "") (a := r) 21 (Or.inl (hw _ (List.mem_of_getElem? (i := 31) rfl))) Via.refl Ff Ex (Or.inl (hw _ (List.mem_of_getElem? (i := 32) rfl))) (hw _ (List.mem_of_getElem? (i := 21) rfl)) (ty := .long) (by decide) rfl rfl own_b27_18 rfl n0_r (fun h4 W5 => ?_)
  have Ex := Ex.wr W5
  have Ff := Ff.same W5
  have Fl := Fl.other W5 (Or.inr (slot_ne (Or.inl (hw _ (List.mem_of_getElem? (i := 34) rfl))) (Or.inl (hw _ (List.mem_of_getElem? (i := 32) rfl))) (by decide) (t := .long) (t' := .long) (by decide) (by decide)))
  have Fg := Fg.other W5 (Or.inr (slot_ne (Or.inl (hw _ (List.mem_of_getElem? (i := 30) rfl))) (Or.inl (hw _ (List.mem_of_getElem? (i := 32) rfl))) (by decide) (t := (.array .byte)) (t' := .long) (by decide) (by decide)))
  have Fs := Fs.other W5 (Or.inr (slot_ne (Or.inl (hw _ (List.mem_of_getElem? (i := 61) rfl))) (Or.inl (hw _ (List.mem_of_getElem? (i := 32) rfl))) (by decide) (t := .int) (t' := .long) (by decide) (by decide)))
  have Fe := Fe.other W5 (Or.inr (slot_ne (Or.inl (hw _ (List.mem_of_getElem? (i := 59) rfl))) (Or.inl (hw _ (List.mem_of_getElem? (i := 32) rfl))) (by decide) (t := .int) (t' := .long) (by decide) (by decide)))
  have A_g2 := A_g2.other W5 (ne_addr (by omega))
  have Kq := Kq.wr W5 (Or.inl (by simp))
  refine WP.retV K rfl own_b27_21 ?_ (by decide) (by decide)
  have eE : encs (d :: gs) = [] ++ (enc d ++ enc0 0) ++ encs gs := by rw [encs_cons, enc0_zero, List.append_nil, List.nil_append]
  rw [← eE] at A_g2 hen2 hlen2 hng2
  refine ⟨rfl, g2, ⟨id, la, P2, Q2, ⟨st2, en2, Ex, Ff, Fl, Fg, Fs, Fe, ?_, hst2, ?_, hng2, n0_r, hrg2, ?_⟩, hF2, ?_, ?_⟩, Kq, hg2⟩
  · exact A_g2
  · exact hen2
  · exact hlen2
  · rw [List.sum_cons, hla]; omega
  · intro x hx
    simp only [List.mem_append, List.mem_cons, List.not_mem_nil, or_false] at hx
    rcases hx with hx | hx
    · omega
    · exact hgp_ x hx
theorem own_b28_0 : decode prog_9_method_5_code 0 = .ok (.aload_n 0, 1) := by decide +kernel
theorem own_b28_1 : decode prog_9_method_5_code 1 = .ok (.getfield 18, 3) := by decide +kernel
theorem own_b28_4 : decode prog_9_method_5_code 4 = .ok (.lstore_n 3, 1) := by decide +kernel
theorem own_b28_5 : decode prog_9_method_5_code 5 = .ok (.aload_n 0, 1) := by decide +kernel
theorem own_b28_6 : decode prog_9_method_5_code 6 = .ok (.getfield 29, 3) := by decide +kernel
theorem own_b28_9 : decode prog_9_method_5_code 9 = .ok (.istore 5, 2) := by decide +kernel
theorem own_b28_11 : decode prog_9_method_5_code 11 = .ok (.lload_n 3, 1) := by decide +kernel
theorem own_b28_12 : decode prog_9_method_5_code 12 = .ok (.aload_n 0, 1) := by decide +kernel
theorem own_b28_13 : decode prog_9_method_5_code 13 = .ok (.getfield 13, 3) := by decide +kernel
theorem own_b28_16 : decode prog_9_method_5_code 16 = .ok (.iload 5, 2) := by decide +kernel
theorem own_b28_18 : decode prog_9_method_5_code 18 = .ok (.invokestatic 36, 3) := by decide +kernel
theorem own_b28_21 : decode prog_9_method_5_code 21 = .ok (.ladd, 1) := by decide +kernel
theorem own_b28_22 : decode prog_9_method_5_code 22 = .ok (.lstore 6, 2) := by decide +kernel
theorem own_b28_24 : decode prog_9_method_5_code 24 = .ok (.lload 6, 2) := by decide +kernel
theorem own_b28_26 : decode prog_9_method_5_code 26 = .ok (.lload_n 1, 1) := by decide +kernel
theorem own_b28_27 : decode prog_9_method_5_code 27 = .ok (.lcmp, 1) := by decide +kernel
theorem own_b28_28 : decode prog_9_method_5_code 28 = .ok (.ifCond .le 26, 3) := by decide +kernel
theorem own_b28_31 : decode prog_9_method_5_code 31 = .ok (.aload_n 0, 1) := by decide +kernel
theorem own_b28_32 : decode prog_9_method_5_code 32 = .ok (.iload 5, 2) := by decide +kernel
theorem own_b28_34 : decode prog_9_method_5_code 34 = .ok (.aload_n 0, 1) := by decide +kernel
theorem own_b28_35 : decode prog_9_method_5_code 35 = .ok (.getfield 13, 3) := by decide +kernel
theorem own_b28_38 : decode prog_9_method_5_code 38 = .ok (.iload 5, 2) := by decide +kernel
theorem own_b28_40 : decode prog_9_method_5_code 40 = .ok (.invokestatic 40, 3) := by decide +kernel
theorem own_b28_43 : decode prog_9_method_5_code 43 = .ok (.lload_n 1, 1) := by decide +kernel
theorem own_b28_44 : decode prog_9_method_5_code 44 = .ok (.lload_n 3, 1) := by decide +kernel
theorem own_b28_45 : decode prog_9_method_5_code 45 = .ok (.lsub, 1) := by decide +kernel
theorem own_b28_46 : decode prog_9_method_5_code 46 = .ok (.lload 6, 2) := by decide +kernel
theorem own_b28_48 : decode prog_9_method_5_code 48 = .ok (.lload_n 1, 1) := by decide +kernel
theorem own_b28_49 : decode prog_9_method_5_code 49 = .ok (.lsub, 1) := by decide +kernel
theorem own_b28_50 : decode prog_9_method_5_code 50 = .ok (.invokevirtual 32, 3) := by decide +kernel
theorem own_b28_53 : decode prog_9_method_5_code 53 = .ok (.return_, 1) := by decide +kernel
theorem own_b28_54 : decode prog_9_method_5_code 54 = .ok (.lload 6, 2) := by decide +kernel
theorem own_b28_56 : decode prog_9_method_5_code 56 = .ok (.lstore_n 3, 1) := by decide +kernel
theorem own_b28_57 : decode prog_9_method_5_code 57 = .ok (.iload 5, 2) := by decide +kernel
theorem own_b28_59 : decode prog_9_method_5_code 59 = .ok (.aload_n 0, 1) := by decide +kernel
theorem own_b28_60 : decode prog_9_method_5_code 60 = .ok (.getfield 13, 3) := by decide +kernel
theorem own_b28_63 : decode prog_9_method_5_code 63 = .ok (.iload 5, 2) := by decide +kernel
theorem own_b28_65 : decode prog_9_method_5_code 65 = .ok (.invokestatic 40, 3) := by decide +kernel
theorem own_b28_68 : decode prog_9_method_5_code 68 = .ok (.iadd, 1) := by decide +kernel
theorem own_b28_69 : decode prog_9_method_5_code 69 = .ok (.istore 5, 2) := by decide +kernel
theorem own_b28_71 : decode prog_9_method_5_code 71 = .ok (.goto (-60), 3) := by decide +kernel
theorem own_pf_b28 : plainFor (⟨"com/example/highwater/highwater/MessageIndex$Run", "insert", "(J)V"⟩ : MethodName) = true := by first | exact plainFor_of_name (by first | (simp [plainName, overriddenIn, x]; done) | decide +kernel) | decide +kernel
theorem own_pd_5 : parseMethodDescriptor "([BI)J" = some ⟨[(.array .byte), .int], some .long⟩ := by decide +kernel
theorem own_pd_6 : parseMethodDescriptor "([BI)I" = some ⟨[(.array .byte), .int], some .int⟩ := by decide +kernel
set_option maxRecDepth 65536 in
set_option maxHeartbeats 40000000 in
theorem own_insertR (l : Launch) (Z : State) (a0 : Array Value) (hw : ∀ d ∈ tables_1, d.before a0 Z = true) (n0 : Nat) (h : Heap) (r g : Nat) (F : Nat) (as : List Nat) (x y : Nat) (bs : List Nat) (H : RI Z h n0 r g F (as ++ (x + y) :: bs)) (id : Int64) (hid : id.toInt = ((F + as.sum + x : Nat) : Int)) (hx : 1 ≤ x) (hy : 1 ≤ y) (hb : (encs as).length + (el x + el y) + (encs bs).length ≤ 27) (Z0 : n0 ≤ h.size) :
    Con l Z (⟨"com/example/highwater/highwater/MessageIndex$Run", "insert", "(J)V"⟩ : MethodName) prog_9_method_5_code 8 none ({ frames := 4, cells := 1, slots := 54, locals := 66 } : Room) n0 #[(.ref r), (.long id)] h (R0 fun h' => ∃ g', RI Z h' n0 r g' F (as ++ x :: y :: bs) ∧ Keep h h' [r, g] ∧ (g' = g ∨ h.size ≤ g')) := by
  refine Con.of (ls := [.val (.ref r), .val (.long id), .second, .unset, .unset, .unset, .unset, .unset]) own_pf_b28 (fun m => by first | (simp [entryFrame, mkF, argsToLocals, Value.category]; done) | rfl) fun k K => ?_
  obtain ⟨f, la, P, Q, HB, hf, hla, hgp_⟩ := H
  have HB0 := HB
  obtain ⟨st, en, Ex, Ff, Fl, Fg, Fs, Fe, A_g, hst, hen, hng, n0_r, hrg, hlen⟩ := HB
  have l_r : @LT.lt Nat _ r h.size := Ff.lt
  have l_g : @LT.lt Nat _ g h.size := A_g.lt
  have hsum : (as ++ (x + y) :: bs).sum = as.sum + (x + y) + bs.sum := by simp only [List.sum_append, List.sum_cons]; omega
  have l1 := i64_rng la
  have J11 : ∀ (as1 as0 : List Nat) (pv : Int64) (pos : Int32) (s6 s7 : Slot), ((s6 = .unset ∧ s7 = .unset) ∨ ∃ v : Int64, s6 = .val (.long v) ∧ s7 = .second) → as0 ++ as1 = as → pv.toInt = ((F + as0.sum : Nat) : Int) → pos.toInt = ((P.length + (encs as0).length : Nat) : Int) → WP k h 0 0 11 [.val (.ref r), .val (.long id), .second, .val (.long pv), .second, .val (.int pos), s6, s7] [] := by
    intro as1
    induction as1 with
    | nil =>
      intro as0 pv pos s6 s7 hsh hT hpv hpos
      rw [List.append_nil] at hT
      subst hT
      obtain ⟨cc, ecc⟩ : ∃ cc, cc = x + y := ⟨_, rfl⟩
      rw [← ecc] at A_g hen hlen hng hsum hla
      have eS : P ++ encs (as0 ++ cc :: bs) ++ Q = (P ++ encs as0) ++ enc cc ++ (encs bs ++ Q) := by rw [encs_app, encs_cons]; simp only [List.append_assoc]
      have eL : (encs (as0 ++ cc :: bs)).length = (encs as0).length + el cc + (encs bs).length := by rw [encs_app, encs_cons, List.length_append, List.length_append, ← Nat.add_assoc]; rfl
      rw [eL] at hen hlen hng
      rw [eS] at A_g
      rcases hsh with ⟨rfl, rfl⟩ | ⟨v6, rfl, rfl⟩
      · skip
        refine WP.lloadN K 12 own_b28_11 rfl rfl ?_
        refine WP.aloadN K 13 own_b28_12 rfl rfl rfl ?_
        refine WP.getfield K (host := "") 16 (Or.inl (hw _ (List.mem_of_getElem? (i := 29) rfl))) Via.refl Fg own_b28_13 rfl ?_
        refine WP.iload K 18 own_b28_16 rfl rfl ?_
        refine WP.callSN K 21 0 0 2 [(.ref g), (.int pos)] [(.long pv)] (hw _ (List.mem_of_getElem? (i := 126) rfl)) (hw _ (List.mem_of_getElem? (i := 127) rfl)) (hw _ (List.mem_of_getElem? (i := 3) rfl)) (hw _ (List.mem_of_getElem? (i := 128) rfl)) (by decide) own_pd_5 rfl rfl rfl (by decide) (by decide) (Nat.le_of_eq rfl) rfl own_b28_18 rfl rfl rfl (by decide) (by decide) (own_gap l Z a0 hw n0 h g pos (P ++ encs as0) (encs bs ++ Q) cc A_g (by rw [List.length_append]; exact hpos) (by simp only [List.length_append]; omega) (by omega)) (r1_next fun r3 h1 q2 => ?_)
        obtain ⟨⟨zg, rfl, hzg⟩, rfl⟩ := q2
        have hnx : (pv + zg).toInt = ((F + as0.sum + cc : Nat) : Int) := by rw [i64_add (by omega) (by omega)]; omega
        refine WP.ladd K 22 own_b28_21 rfl ?_
        refine WP.lstore K 24 [.val (.ref r), .val (.long id), .second, .val (.long pv), .second, .val (.int pos), .val (.long (pv + zg)), .second] own_b28_22 rfl rfl ?_
        refine WP.lload K 26 own_b28_24 rfl rfl ?_
        refine WP.lloadN K 27 own_b28_26 rfl rfl ?_
        refine WP.lcmp K 28 own_b28_27 rfl ?_
        refine WP.ifl_le K 54 31 own_b28_28 (by decide) rfl (fun c28 => ?_) (fun c28 => ?_)
        · skip
          exfalso; omega
        · skip
          have e1 : (id - pv).toInt = (x : Nat) := by rw [i64_sub (by omega) (by omega)]; omega
          have e2 : ((pv + zg) - id).toInt = (y : Nat) := by rw [i64_sub (by omega) (by omega)]; omega
          refine WP.aloadN K 32 own_b28_31 rfl rfl rfl ?_
          refine WP.iload K 34 own_b28_32 rfl rfl ?_
          refine WP.aloadN K 35 own_b28_34 rfl rfl rfl ?_
          refine WP.getfield K (host := "") 38 (Or.inl (hw _ (List.mem_of_getElem? (i := 29) rfl))) Via.refl Fg own_b28_35 rfl ?_
          refine WP.iload K 40 own_b28_38 rfl rfl ?_
          refine WP.callSN K 43 0 0 2 [(.ref g), (.int pos)] [(.int pos), (.ref r)] (hw _ (List.mem_of_getElem? (i := 129) rfl)) (hw _ (List.mem_of_getElem? (i := 130) rfl)) (hw _ (List.mem_of_getElem? (i := 3) rfl)) (hw _ (List.mem_of_getElem? (i := 131) rfl)) (by decide) own_pd_6 rfl rfl rfl (by decide) (by decide) (Nat.le_of_eq rfl) rfl own_b28_40 rfl rfl rfl (by decide) (by decide) (own_gapbytes l Z a0 hw n0 h g pos (P ++ encs as0) (encs bs ++ Q) cc A_g (by rw [List.length_append]; exact hpos) (by simp only [List.length_append]; omega)) (r1_next fun r6 h4 q5 => ?_)
          obtain ⟨⟨zb, rfl, hzb⟩, rfl⟩ := q5
          refine WP.lloadN K 44 own_b28_43 rfl rfl ?_
          refine WP.lloadN K 45 own_b28_44 rfl rfl ?_
          refine WP.lsub K 46 own_b28_45 rfl ?_
          refine WP.lload K 48 own_b28_46 rfl rfl ?_
          refine WP.lloadN K 49 own_b28_48 rfl rfl ?_
          refine WP.lsub K 50 own_b28_49 rfl ?_
          refine WP.callP K (a := r) (C := "com/example/highwater/highwater/MessageIndex$Run") 53 1 54 0 [(.int pos), (.int zb), (.long (id - pv)), (.long ((pv + zg) - id))] [] (hw _ (List.mem_of_getElem? (i := 67) rfl)) (hw _ (List.mem_of_getElem? (i := 68) rfl)) (u := (⟨"com/example/highwater/highwater/MessageIndex$Run", "hasRoom", "()Z"⟩ : MethodName)) rfl (hw _ (List.mem_of_getElem? (i := 56) rfl)) (hw _ (List.mem_of_getElem? (i := 69) rfl)) (hw _ (List.mem_of_getElem? (i := 22) rfl)) (hw _ (List.mem_of_getElem? (i := 70) rfl)) (by decide) own_pd_4 rfl rfl rfl (by decide) (by decide) (Nat.le_of_eq rfl) rfl own_b28_50 rfl rfl rfl (by decide) (by decide) Ex (own_splice l Z a0 hw n0 h r g pos zb (id - pv) ((pv + zg) - id) f la P (encs as0) (enc cc) (encs bs) Q x y (by rw [ecc]; have := HB0; rw [encs_app, encs_cons, ← List.append_assoc] at this; exact this) hpos hzb e1 hx e2 (by rw [el0_pos hy]; exact hb) Z0) (r0_next fun h7 q8 => ?_)
          obtain ⟨g2, P2, Q2, HB2, Kq, hg2⟩ := q8
          obtain ⟨st2, en2, Ex, Ff, Fl, Fg, Fs, Fe, A_g2, hst2, hen2, hng2, n0_r, hrg2, hlen2⟩ := HB2
          refine WP.retV K rfl own_b28_53 ?_ (by decide) (by decide)
          have eE : encs (as0 ++ x :: y :: bs) = encs as0 ++ (enc x ++ enc0 y) ++ encs bs := by rw [encs_app, encs_cons, encs_cons, enc0_pos hy]; simp only [List.append_assoc]
          rw [← eE] at A_g2 hen2 hlen2 hng2
          refine ⟨rfl, g2, ⟨f, la, P2, Q2, ⟨st2, en2, Ex, Ff, Fl, Fg, Fs, Fe, A_g2, hst2, hen2, hng2, n0_r, hrg2, hlen2⟩, hf, ?_, ?_⟩, Kq, hg2⟩
          · rw [hla, List.sum_append, List.sum_cons, List.sum_append, List.sum_cons, List.sum_cons]; congr 1; omega
          · intro u hu
            simp only [List.mem_append, List.mem_cons] at hu
            rcases hu with hu | rfl | rfl | hu
            · exact hgp_ u (by simp [hu])
            · exact hx
            · exact hy
            · exact hgp_ u (by simp [hu])
      · skip
        refine WP.lloadN K 12 own_b28_11 rfl rfl ?_
        refine WP.aloadN K 13 own_b28_12 rfl rfl rfl ?_
        refine WP.getfield K (host := "") 16 (Or.inl (hw _ (List.mem_of_getElem? (i := 29) rfl))) Via.refl Fg own_b28_13 rfl ?_
        refine WP.iload K 18 own_b28_16 rfl rfl ?_
        refine WP.callSN K 21 0 0 2 [(.ref g), (.int pos)] [(.long pv)] (hw _ (List.mem_of_getElem? (i := 126) rfl)) (hw _ (List.mem_of_getElem? (i := 127) rfl)) (hw _ (List.mem_of_getElem? (i := 3) rfl)) (hw _ (List.mem_of_getElem? (i := 128) rfl)) (by decide) own_pd_5 rfl rfl rfl (by decide) (by decide) (Nat.le_of_eq rfl) rfl own_b28_18 rfl rfl rfl (by decide) (by decide) (own_gap l Z a0 hw n0 h g pos (P ++ encs as0) (encs bs ++ Q) cc A_g (by rw [List.length_append]; exact hpos) (by simp only [List.length_append]; omega) (by omega)) (r1_next fun r12 h10 q11 => ?_)
        obtain ⟨⟨zg, rfl, hzg⟩, rfl⟩ := q11
        have hnx : (pv + zg).toInt = ((F + as0.sum + cc : Nat) : Int) := by rw [i64_add (by omega) (by omega)]; omega
        refine WP.ladd K 22 own_b28_21 rfl ?_
        refine WP.lstore K 24 [.val (.ref r), .val (.long id), .second, .val (.long pv), .second, .val (.int pos), .val (.long (pv + zg)), .second] own_b28_22 rfl rfl ?_
        refine WP.lload K 26 own_b28_24 rfl rfl ?_
        refine WP.lloadN K 27 own_b28_26 rfl rfl ?_
        refine WP.lcmp K 28 own_b28_27 rfl ?_
        refine WP.ifl_le K 54 31 own_b28_28 (by decide) rfl (fun c28 => ?_) (fun c28 => ?_)
        · skip
          exfalso; omega
        · skip
          have e1 : (id - pv).toInt = (x : Nat) := by rw [i64_sub (by omega) (by omega)]; omega
          have e2 : ((pv + zg) - id).toInt = (y : Nat) := by rw [i64_sub (by omega) (by omega)]; omega
          refine WP.aloadN K 32 own_b28_31 rfl rfl rfl ?_
          refine WP.iload K 34 own_b28_32 rfl rfl ?_
          refine WP.aloadN K 35 own_b28_34 rfl rfl rfl ?_
          refine WP.getfield K (host := "") 38 (Or.inl (hw _ (List.mem_of_getElem? (i := 29) rfl))) Via.refl Fg own_b28_35 rfl ?_
          refine WP.iload K 40 own_b28_38 rfl rfl ?_
          refine WP.callSN K 43 0 0 2 [(.ref g), (.int pos)] [(.int pos), (.ref r)] (hw _ (List.mem_of_getElem? (i := 129) rfl)) (hw _ (List.mem_of_getElem? (i := 130) rfl)) (hw _ (List.mem_of_getElem? (i := 3) rfl)) (hw _ (List.mem_of_getElem? (i := 131) rfl)) (by decide) own_pd_6 rfl rfl rfl (by decide) (by decide) (Nat.le_of_eq rfl) rfl own_b28_40 rfl rfl rfl (by decide) (by decide) (own_gapbytes l Z a0 hw n0 h g pos (P ++ encs as0) (encs bs ++ Q) cc A_g (by rw [List.length_append]; exact hpos) (by simp only [List.length_append]; omega)) (r1_next fun r15 h13 q14 => ?_)
          obtain ⟨⟨zb, rfl, hzb⟩, rfl⟩ := q14
          refine WP.lloadN K 44 own_b28_43 rfl rfl ?_
          refine WP.lloadN K 45 own_b28_44 rfl rfl ?_
          refine WP.lsub K 46 own_b28_45 rfl ?_
          refine WP.lload K 48 own_b28_46 rfl rfl ?_
          refine WP.lloadN K 49 own_b28_48 rfl rfl ?_
          refine WP.lsub K 50 own_b28_49 rfl ?_
          refine WP.callP K (a := r) (C := "com/example/highwater/highwater/MessageIndex$Run") 53 1 54 0 [(.int pos), (.int zb), (.long (id - pv)), (.long ((pv + zg) - id))] [] (hw _ (List.mem_of_getElem? (i := 67) rfl)) (hw _ (List.mem_of_getElem? (i := 68) rfl)) (u := (⟨"com/example/highwater/highwater/MessageIndex$Run", "hasRoom", "()Z"⟩ : MethodName)) rfl (hw _ (List.mem_of_getElem? (i := 56) rfl)) (hw _ (List.mem_of_getElem? (i := 69) rfl)) (hw _ (List.mem_of_getElem? (i := 22) rfl)) (hw _ (List.mem_of_getElem? (i := 70) rfl)) (by decide) own_pd_4 rfl rfl rfl (by decide) (by decide) (Nat.le_of_eq rfl) rfl own_b28_50 rfl rfl rfl (by decide) (by decide) Ex (own_splice l Z a0 hw n0 h r g pos zb (id - pv) ((pv + zg) - id) f la P (encs as0) (enc cc) (encs bs) Q x y (by rw [ecc]; have := HB0; rw [encs_app, encs_cons, ← List.append_assoc] at this; exact this) hpos hzb e1 hx e2 (by rw [el0_pos hy]; exact hb) Z0) (r0_next fun h16 q17 => ?_)
          obtain ⟨g2, P2, Q2, HB2, Kq, hg2⟩ := q17
          obtain ⟨st2, en2, Ex, Ff, Fl, Fg, Fs, Fe, A_g2, hst2, hen2, hng2, n0_r, hrg2, hlen2⟩ := HB2
          refine WP.retV K rfl own_b28_53 ?_ (by decide) (by decide)
          have eE : encs (as0 ++ x :: y :: bs) = encs as0 ++ (enc x ++ enc0 y) ++ encs bs := by rw [encs_app, encs_cons, encs_cons, enc0_pos hy]; simp only [List.append_assoc]
          rw [← eE] at A_g2 hen2 hlen2 hng2
          refine ⟨rfl, g2, ⟨f, la, P2, Q2, ⟨st2, en2, Ex, Ff, Fl, Fg, Fs, Fe, A_g2, hst2, hen2, hng2, n0_r, hrg2, hlen2⟩, hf, ?_, ?_⟩, Kq, hg2⟩
          · rw [hla, List.sum_append, List.sum_cons, List.sum_append, List.sum_cons, List.sum_cons]; congr 1; omega
          · intro u hu
            simp only [List.mem_append, List.mem_cons] at hu
            rcases hu with hu | rfl | rfl | hu
            · exact hgp_ u (by simp [hu])
            · exact hx
            · exact hy
            · exact hgp_ u (by simp [hu])
    | cons a as1 ih =>
      intro as0 pv pos s6 s7 hsh hT hpv hpos
      subst hT
      rw [show as0 ++ a :: as1 ++ (x + y) :: bs = as0 ++ a :: (as1 ++ (x + y) :: bs) by simp] at A_g hen hlen hng hsum hla
      have hs1 : (as0 ++ a :: as1).sum = as0.sum + a + as1.sum := by rw [List.sum_append, List.sum_cons, Nat.add_assoc]
      have ha1 := hgp_ a (by simp)
      have eS : P ++ encs (as0 ++ a :: (as1 ++ (x + y) :: bs)) ++ Q = (P ++ encs as0) ++ enc a ++ (encs (as1 ++ (x + y) :: bs) ++ Q) := by rw [encs_app, encs_cons]; simp only [List.append_assoc]
      have eL : (encs (as0 ++ a :: (as1 ++ (x + y) :: bs))).length = (encs as0).length + el a + (encs (as1 ++ (x + y) :: bs)).length := by rw [encs_app, encs_cons, List.length_append, List.length_append, ← Nat.add_assoc]; rfl
      have hs0 : (as0 ++ [a]).sum = as0.sum + a := by rw [List.sum_append, List.sum_singleton]
      have hl0 : (encs (as0 ++ [a])).length = (encs as0).length + el a := by rw [encs_app, encs_one, List.length_append]; rfl
      rw [eL] at hen hlen hng
      rw [eS] at A_g
      rcases hsh with ⟨rfl, rfl⟩ | ⟨v6, rfl, rfl⟩
      · skip
        refine WP.lloadN K 12 own_b28_11 rfl rfl ?_
        refine WP.aloadN K 13 own_b28_12 rfl rfl rfl ?_
        refine WP.getfield K (host := "") 16 (Or.inl (hw _ (List.mem_of_getElem? (i := 29) rfl))) Via.refl Fg own_b28_13 rfl ?_
        refine WP.iload K 18 own_b28_16 rfl rfl ?_
        refine WP.callSN K 21 0 0 2 [(.ref g), (.int pos)] [(.long pv)] (hw _ (List.mem_of_getElem? (i := 126) rfl)) (hw _ (List.mem_of_getElem? (i := 127) rfl)) (hw _ (List.mem_of_getElem? (i := 3) rfl)) (hw _ (List.mem_of_getElem? (i := 128) rfl)) (by decide) own_pd_5 rfl rfl rfl (by decide) (by decide) (Nat.le_of_eq rfl) rfl own_b28_18 rfl rfl rfl (by decide) (by decide) (own_gap l Z a0 hw n0 h g pos (P ++ encs as0) (encs (as1 ++ (x + y) :: bs) ++ Q) a A_g (by rw [List.length_append]; exact hpos) (by simp only [List.length_append]; omega) (by omega)) (r1_next fun r21 h19 q20 => ?_)
        obtain ⟨⟨zg, rfl, hzg⟩, rfl⟩ := q20
        have hnx : (pv + zg).toInt = ((F + as0.sum + a : Nat) : Int) := by rw [i64_add (by omega) (by omega)]; omega
        refine WP.ladd K 22 own_b28_21 rfl ?_
        refine WP.lstore K 24 [.val (.ref r), .val (.long id), .second, .val (.long pv), .second, .val (.int pos), .val (.long (pv + zg)), .second] own_b28_22 rfl rfl ?_
        refine WP.lload K 26 own_b28_24 rfl rfl ?_
        refine WP.lloadN K 27 own_b28_26 rfl rfl ?_
        refine WP.lcmp K 28 own_b28_27 rfl ?_
        refine WP.ifl_le K 54 31 own_b28_28 (by decide) rfl (fun c28 => ?_) (fun c28 => ?_)
        · skip
          refine WP.lload K 56 own_b28_54 rfl rfl ?_
          refine WP.lstoreN K 57 [.val (.ref r), .val (.long id), .second, .val (.long (pv + zg)), .second, .val (.int pos), .val (.long (pv + zg)), .second] own_b28_56 rfl rfl ?_
          refine WP.iload K 59 own_b28_57 rfl rfl ?_
          refine WP.aloadN K 60 own_b28_59 rfl rfl rfl ?_
          refine WP.getfield K (host := "") 63 (Or.inl (hw _ (List.mem_of_getElem? (i := 29) rfl))) Via.refl Fg own_b28_60 rfl ?_
          refine WP.iload K 65 own_b28_63 rfl rfl ?_
          refine WP.callSN K 68 0 0 1 [(.ref g), (.int pos)] [(.int pos)] (hw _ (List.mem_of_getElem? (i := 129) rfl)) (hw _ (List.mem_of_getElem? (i := 130) rfl)) (hw _ (List.mem_of_getElem? (i := 3) rfl)) (hw _ (List.mem_of_getElem? (i := 131) rfl)) (by decide) own_pd_6 rfl rfl rfl (by decide) (by decide) (Nat.le_of_eq rfl) rfl own_b28_65 rfl rfl rfl (by decide) (by decide) (own_gapbytes l Z a0 hw n0 h g pos (P ++ encs as0) (encs (as1 ++ (x + y) :: bs) ++ Q) a A_g (by rw [List.length_append]; exact hpos) (by simp only [List.length_append]; omega)) (r1_next fun r24 h22 q23 => ?_)
          obtain ⟨⟨zb, rfl, hzb⟩, rfl⟩ := q23
          refine WP.iadd K 69 own_b28_68 rfl ?_
          refine WP.istore K 71 [.val (.ref r), .val (.long id), .second, .val (.long (pv + zg)), .second, .val (.int (pos + zb)), .val (.long (pv + zg)), .second] own_b28_69 rfl rfl ?_
          refine WP.goto K 11 own_b28_71 (by decide) ?_
          exact ih (as0 ++ [a]) _ _ _ _ (Or.inr ⟨_, rfl, rfl⟩) (by simp) (by rw [hnx, hs0]; congr 1; omega) (by rw [i32_add (by omega) (by omega), hl0]; omega)
        · skip
          exfalso; omega
      · skip
        refine WP.lloadN K 12 own_b28_11 rfl rfl ?_
        refine WP.aloadN K 13 own_b28_12 rfl rfl rfl ?_
        refine WP.getfield K (host := "") 16 (Or.inl (hw _ (List.mem_of_getElem? (i := 29) rfl))) Via.refl Fg own_b28_13 rfl ?_
        refine WP.iload K 18 own_b28_16 rfl rfl ?_
        refine WP.callSN K 21 0 0 2 [(.ref g), (.int pos)] [(.long pv)] (hw _ (List.mem_of_getElem? (i := 126) rfl)) (hw _ (List.mem_of_getElem? (i := 127) rfl)) (hw _ (List.mem_of_getElem? (i := 3) rfl)) (hw _ (List.mem_of_getElem? (i := 128) rfl)) (by decide) own_pd_5 rfl rfl rfl (by decide) (by decide) (Nat.le_of_eq rfl) rfl own_b28_18 rfl rfl rfl (by decide) (by decide) (own_gap l Z a0 hw n0 h g pos (P ++ encs as0) (encs (as1 ++ (x + y) :: bs) ++ Q) a A_g (by rw [List.length_append]; exact hpos) (by simp only [List.length_append]; omega) (by omega)) (r1_next fun r27 h25 q26 => ?_)
        obtain ⟨⟨zg, rfl, hzg⟩, rfl⟩ := q26
        have hnx : (pv + zg).toInt = ((F + as0.sum + a : Nat) : Int) := by rw [i64_add (by omega) (by omega)]; omega
        refine WP.ladd K 22 own_b28_21 rfl ?_
        refine WP.lstore K 24 [.val (.ref r), .val (.long id), .second, .val (.long pv), .second, .val (.int pos), .val (.long (pv + zg)), .second] own_b28_22 rfl rfl ?_
        refine WP.lload K 26 own_b28_24 rfl rfl ?_
        refine WP.lloadN K 27 own_b28_26 rfl rfl ?_
        refine WP.lcmp K 28 own_b28_27 rfl ?_
        refine WP.ifl_le K 54 31 own_b28_28 (by decide) rfl (fun c28 => ?_) (fun c28 => ?_)
        · skip
          refine WP.lload K 56 own_b28_54 rfl rfl ?_
          refine WP.lstoreN K 57 [.val (.ref r), .val (.long id), .second, .val (.long (pv + zg)), .second, .val (.int pos), .val (.long (pv + zg)), .second] own_b28_56 rfl rfl ?_
          refine WP.iload K 59 own_b28_57 rfl rfl ?_
          refine WP.aloadN K 60 own_b28_59 rfl rfl rfl ?_
          refine WP.getfield K (host := "") 63 (Or.inl (hw _ (List.mem_of_getElem? (i := 29) rfl))) Via.refl Fg own_b28_60 rfl ?_
          refine WP.iload K 65 own_b28_63 rfl rfl ?_
          refine WP.callSN K 68 0 0 1 [(.ref g), (.int pos)] [(.int pos)] (hw _ (List.mem_of_getElem? (i := 129) rfl)) (hw _ (List.mem_of_getElem? (i := 130) rfl)) (hw _ (List.mem_of_getElem? (i := 3) rfl)) (hw _ (List.mem_of_getElem? (i := 131) rfl)) (by decide) own_pd_6 rfl rfl rfl (by decide) (by decide) (Nat.le_of_eq rfl) rfl own_b28_65 rfl rfl rfl (by decide) (by decide) (own_gapbytes l Z a0 hw n0 h g pos (P ++ encs as0) (encs (as1 ++ (x + y) :: bs) ++ Q) a A_g (by rw [List.length_append]; exact hpos) (by simp only [List.length_append]; omega)) (r1_next fun r30 h28 q29 => ?_)
          obtain ⟨⟨zb, rfl, hzb⟩, rfl⟩ := q29
          refine WP.iadd K 69 own_b28_68 rfl ?_
          refine WP.istore K 71 [.val (.ref r), .val (.long id), .second, .val (.long (pv + zg)), .second, .val (.int (pos + zb)), .val (.long (pv + zg)), .second] own_b28_69 rfl rfl ?_
          refine WP.goto K 11 own_b28_71 (by decide) ?_
          exact ih (as0 ++ [a]) _ _ _ _ (Or.inr ⟨_, rfl, rfl⟩) (by simp) (by rw [hnx, hs0]; congr 1; omega) (by rw [i32_add (by omega) (by omega), hl0]; omega)
        · skip
          exfalso; omega
  refine WP.aloadN K 1 own_b28_0 rfl rfl rfl ?_
  refine WP.getfield K (host := "") 4 (Or.inl (hw _ (List.mem_of_getElem? (i := 31) rfl))) Via.refl Ff own_b28_1 rfl ?_
  refine WP.lstoreN K 5 [.val (.ref r), .val (.long id), .second, .val (.long f), .second, .unset, .unset, .unset] own_b28_4 rfl rfl ?_
  refine WP.aloadN K 6 own_b28_5 rfl rfl rfl ?_
  refine WP.getfield K (host := "") 9 (Or.inl (hw _ (List.mem_of_getElem? (i := 60) rfl))) Via.refl Fs own_b28_6 rfl ?_
  refine WP.istore K 11 [.val (.ref r), .val (.long id), .second, .val (.long f), .second, .val (.int st), .unset, .unset] own_b28_9 rfl rfl ?_
  exact J11 as [] _ _ _ _ (Or.inl ⟨rfl, rfl⟩) rfl (by simpa using hf) (by simpa [encs_nil] using hst)
theorem own_b25_0 : decode prog_9_method_7_code 0 = .ok (.aload_n 0, 1) := by decide +kernel
theorem own_b25_1 : decode prog_9_method_7_code 1 = .ok (.getfield 18, 3) := by decide +kernel
theorem own_b25_4 : decode prog_9_method_7_code 4 = .ok (.lstore_n 3, 1) := by decide +kernel
theorem own_b25_5 : decode prog_9_method_7_code 5 = .ok (.aload_n 0, 1) := by decide +kernel
theorem own_b25_6 : decode prog_9_method_7_code 6 = .ok (.getfield 29, 3) := by decide +kernel
theorem own_b25_9 : decode prog_9_method_7_code 9 = .ok (.istore 5, 2) := by decide +kernel
theorem own_b25_11 : decode prog_9_method_7_code 11 = .ok (.iload 5, 2) := by decide +kernel
theorem own_b25_13 : decode prog_9_method_7_code 13 = .ok (.aload_n 0, 1) := by decide +kernel
theorem own_b25_14 : decode prog_9_method_7_code 14 = .ok (.getfield 25, 3) := by decide +kernel
theorem own_b25_17 : decode prog_9_method_7_code 17 = .ok (.if_icmp .ge 47, 3) := by decide +kernel
theorem own_b25_20 : decode prog_9_method_7_code 20 = .ok (.lload_n 3, 1) := by decide +kernel
theorem own_b25_21 : decode prog_9_method_7_code 21 = .ok (.lload_n 1, 1) := by decide +kernel
theorem own_b25_22 : decode prog_9_method_7_code 22 = .ok (.lcmp, 1) := by decide +kernel
theorem own_b25_23 : decode prog_9_method_7_code 23 = .ok (.ifCond .ge 41, 3) := by decide +kernel
theorem own_b25_26 : decode prog_9_method_7_code 26 = .ok (.lload_n 3, 1) := by decide +kernel
theorem own_b25_27 : decode prog_9_method_7_code 27 = .ok (.aload_n 0, 1) := by decide +kernel
theorem own_b25_28 : decode prog_9_method_7_code 28 = .ok (.getfield 13, 3) := by decide +kernel
theorem own_b25_31 : decode prog_9_method_7_code 31 = .ok (.iload 5, 2) := by decide +kernel
theorem own_b25_33 : decode prog_9_method_7_code 33 = .ok (.invokestatic 36, 3) := by decide +kernel
theorem own_b25_36 : decode prog_9_method_7_code 36 = .ok (.ladd, 1) := by decide +kernel
theorem own_b25_37 : decode prog_9_method_7_code 37 = .ok (.lstore_n 3, 1) := by decide +kernel
theorem own_b25_38 : decode prog_9_method_7_code 38 = .ok (.lload_n 3, 1) := by decide +kernel
theorem own_b25_39 : decode prog_9_method_7_code 39 = .ok (.lload_n 1, 1) := by decide +kernel
theorem own_b25_40 : decode prog_9_method_7_code 40 = .ok (.lcmp, 1) := by decide +kernel
theorem own_b25_41 : decode prog_9_method_7_code 41 = .ok (.ifCond .ne 6, 3) := by decide +kernel
theorem own_b25_44 : decode prog_9_method_7_code 44 = .ok (.iload 5, 2) := by decide +kernel
theorem own_b25_46 : decode prog_9_method_7_code 46 = .ok (.ireturn, 1) := by decide +kernel
theorem own_b25_47 : decode prog_9_method_7_code 47 = .ok (.iload 5, 2) := by decide +kernel
theorem own_b25_49 : decode prog_9_method_7_code 49 = .ok (.aload_n 0, 1) := by decide +kernel
theorem own_b25_50 : decode prog_9_method_7_code 50 = .ok (.getfield 13, 3) := by decide +kernel
theorem own_b25_53 : decode prog_9_method_7_code 53 = .ok (.iload 5, 2) := by decide +kernel
theorem own_b25_55 : decode prog_9_method_7_code 55 = .ok (.invokestatic 40, 3) := by decide +kernel
theorem own_b25_58 : decode prog_9_method_7_code 58 = .ok (.iadd, 1) := by decide +kernel
theorem own_b25_59 : decode prog_9_method_7_code 59 = .ok (.istore 5, 2) := by decide +kernel
theorem own_b25_61 : decode prog_9_method_7_code 61 = .ok (.goto (-50), 3) := by decide +kernel
theorem own_b25_64 : decode prog_9_method_7_code 64 = .ok (.iconst (-1), 1) := by decide +kernel
theorem own_b25_65 : decode prog_9_method_7_code 65 = .ok (.ireturn, 1) := by decide +kernel
theorem own_pf_b25 : plainFor (⟨"com/example/highwater/highwater/MessageIndex$Run", "find", "(J)I"⟩ : MethodName) = true := by first | exact plainFor_of_name (by first | (simp [plainName, overriddenIn, x]; done) | decide +kernel) | decide +kernel
set_option maxRecDepth 65536 in
set_option maxHeartbeats 40000000 in
theorem own_find (l : Launch) (Z : State) (a0 : Array Value) (hw : ∀ d ∈ tables_1, d.before a0 Z = true) (n0 : Nat) (h : Heap) (r g : Nat) (F : Nat) (gs : List Nat) (f la : Int64) (P Q : List Int8) (HB : RB Z h n0 r g f la P (encs gs) Q) (hf : f.toInt = (F : Nat)) (hla : la.toInt = ((F + gs.sum : Nat) : Int)) (hgp_ : ∀ x ∈ gs, 1 ≤ x) (id : Int64) :
    Con l Z (⟨"com/example/highwater/highwater/MessageIndex$Run", "find", "(J)I"⟩ : MethodName) prog_9_method_7_code 6 (some .int) ({ frames := 1, cells := 0, slots := 0, locals := 20 } : Room) n0 #[(.ref r), (.long id)] h (R1 fun r h' => (∃ z : Int32, r = .int z ∧ ((∃ n, fnd id.toInt F gs = some n ∧ z.toInt = ((P.length + n : Nat) : Int)) ∨ (fnd id.toInt F gs = none ∧ z = -1))) ∧ h = h') := by
  refine Con.of (ls := [.val (.ref r), .val (.long id), .second, .unset, .unset, .unset]) own_pf_b25 (fun m => by first | (simp [entryFrame, mkF, argsToLocals, Value.category]; done) | rfl) fun k K => ?_
  have k_m1 : ((-1) : Int32).toInt = -1 := rfl
  obtain ⟨st, en, Ex, Ff, Fl, Fg, Fs, Fe, A_g, hst, hen, hng, n0_r, hrg, hlen⟩ := HB
  have l1 := i64_rng la
  have J11 : ∀ (gs1 gs0 : List Nat) (av : Int64) (pos : Int32), gs0 ++ gs1 = gs → av.toInt = ((F + gs0.sum : Nat) : Int) → pos.toInt = ((P.length + (encs gs0).length : Nat) : Int) → fnd id.toInt F gs = (fnd id.toInt (F + gs0.sum) gs1).map (· + (encs gs0).length) → WP k h 0 0 11 [.val (.ref r), .val (.long id), .second, .val (.long av), .second, .val (.int pos)] [] := by
    intro gs1
    induction gs1 with
    | nil =>
      intro gs0 av pos hT hav hpos hfd
      rw [List.append_nil] at hT
      subst hT
      refine WP.iload K 13 own_b25_11 rfl rfl ?_
      refine WP.aloadN K 14 own_b25_13 rfl rfl rfl ?_
      refine WP.getfield K (host := "") 17 (Or.inl (hw _ (List.mem_of_getElem? (i := 58) rfl))) Via.refl Fe own_b25_14 rfl ?_
      refine WP.icmp_ge K 64 20 own_b25_17 (by decide) rfl (fun c17 => ?_) (fun c17 => ?_)
      · skip
        refine WP.iconst K ((-1) : Int32) 65 own_b25_64 rfl rfl ?_
        refine WP.iret K rfl (Or.inl rfl) rfl own_b25_65 ?_ (by decide) (by decide)
        exact ⟨_, rfl, ⟨_, rfl, Or.inr ⟨hfd, rfl⟩⟩, rfl⟩
      · skip
        exfalso; omega
    | cons a gs1 ih =>
      intro gs0 av pos hT hav hpos hfd
      subst hT
      have ha1 := hgp_ a (by simp)
      have hpp := el_pos a
      have hfd0 := hfd
      simp only [fnd] at hfd
      have hsum : (gs0 ++ a :: gs1).sum = gs0.sum + a + gs1.sum := by rw [List.sum_append, List.sum_cons, Nat.add_assoc]
      have eS : P ++ encs (gs0 ++ a :: gs1) ++ Q = (P ++ encs gs0) ++ enc a ++ (encs gs1 ++ Q) := by rw [encs_app, encs_cons]; simp only [List.append_assoc]
      have eL : (encs (gs0 ++ a :: gs1)).length = (encs gs0).length + el a + (encs gs1).length := by rw [encs_app, encs_cons, List.length_append, List.length_append, ← Nat.add_assoc]; rfl
      rw [eL] at hen hlen hng
      rw [eS] at A_g
      have hs0 : (gs0 ++ [a]).sum = gs0.sum + a := by rw [List.sum_append, List.sum_singleton]
      have hl0 : (encs (gs0 ++ [a])).length = (encs gs0).length + el a := by rw [encs_app, encs_one, List.length_append]; rfl
      refine WP.iload K 13 own_b25_11 rfl rfl ?_
      refine WP.aloadN K 14 own_b25_13 rfl rfl rfl ?_
      refine WP.getfield K (host := "") 17 (Or.inl (hw _ (List.mem_of_getElem? (i := 58) rfl))) Via.refl Fe own_b25_14 rfl ?_
      refine WP.icmp_ge K 64 20 own_b25_17 (by decide) rfl (fun c17 => ?_) (fun c17 => ?_)
      · skip
        exfalso; omega
      · skip
        refine WP.lloadN K 21 own_b25_20 rfl rfl ?_
        refine WP.lloadN K 22 own_b25_21 rfl rfl ?_
        refine WP.lcmp K 23 own_b25_22 rfl ?_
        refine WP.ifl_ge K 64 26 own_b25_23 (by decide) rfl (fun c23 => ?_) (fun c23 => ?_)
        · skip
          have hno : fnd id.toInt (F + gs0.sum) (a :: gs1) = none := by
            rw [fnd_none]
            intro q
            have := InT_gt _ _ (fun x hx => hgp_ x (List.mem_append_right _ hx)) q
            omega
          rw [hno] at hfd0
          refine WP.iconst K ((-1) : Int32) 65 own_b25_64 rfl rfl ?_
          refine WP.iret K rfl (Or.inl rfl) rfl own_b25_65 ?_ (by decide) (by decide)
          exact ⟨_, rfl, ⟨_, rfl, Or.inr ⟨hfd0, rfl⟩⟩, rfl⟩
        · skip
          refine WP.lloadN K 27 own_b25_26 rfl rfl ?_
          refine WP.aloadN K 28 own_b25_27 rfl rfl rfl ?_
          refine WP.getfield K (host := "") 31 (Or.inl (hw _ (List.mem_of_getElem? (i := 29) rfl))) Via.refl Fg own_b25_28 rfl ?_
          refine WP.iload K 33 own_b25_31 rfl rfl ?_
          refine WP.callSN K 36 0 0 2 [(.ref g), (.int pos)] [(.long av)] (hw _ (List.mem_of_getElem? (i := 126) rfl)) (hw _ (List.mem_of_getElem? (i := 127) rfl)) (hw _ (List.mem_of_getElem? (i := 3) rfl)) (hw _ (List.mem_of_getElem? (i := 128) rfl)) (by decide) own_pd_5 rfl rfl rfl (by decide) (by decide) (Nat.le_of_eq rfl) rfl own_b25_33 rfl rfl rfl (by decide) (by decide) (own_gap l Z a0 hw n0 h g pos (P ++ encs gs0) (encs gs1 ++ Q) a A_g (by rw [List.length_append]; exact hpos) (by simp only [List.length_append]; omega) (by omega)) (r1_next fun r3 h1 q2 => ?_)
          obtain ⟨⟨zg, rfl, hzg⟩, rfl⟩ := q2
          have hnx : (av + zg).toInt = ((F + gs0.sum + a : Nat) : Int) := by rw [i64_add (by omega) (by omega)]; omega
          refine WP.ladd K 37 own_b25_36 rfl ?_
          refine WP.lstoreN K 38 [.val (.ref r), .val (.long id), .second, .val (.long (av + zg)), .second, .val (.int pos)] own_b25_37 rfl rfl ?_
          refine WP.lloadN K 39 own_b25_38 rfl rfl ?_
          refine WP.lloadN K 40 own_b25_39 rfl rfl ?_
          refine WP.lcmp K 41 own_b25_40 rfl ?_
          refine WP.ifl_ne K 47 44 own_b25_41 (by decide) rfl (fun c41 => ?_) (fun c41 => ?_)
          · skip
            rw [if_neg (by omega)] at hfd
            refine WP.iload K 49 own_b25_47 rfl rfl ?_
            refine WP.aloadN K 50 own_b25_49 rfl rfl rfl ?_
            refine WP.getfield K (host := "") 53 (Or.inl (hw _ (List.mem_of_getElem? (i := 29) rfl))) Via.refl Fg own_b25_50 rfl ?_
            refine WP.iload K 55 own_b25_53 rfl rfl ?_
            refine WP.callSN K 58 0 0 1 [(.ref g), (.int pos)] [(.int pos)] (hw _ (List.mem_of_getElem? (i := 129) rfl)) (hw _ (List.mem_of_getElem? (i := 130) rfl)) (hw _ (List.mem_of_getElem? (i := 3) rfl)) (hw _ (List.mem_of_getElem? (i := 131) rfl)) (by decide) own_pd_6 rfl rfl rfl (by decide) (by decide) (Nat.le_of_eq rfl) rfl own_b25_55 rfl rfl rfl (by decide) (by decide) (own_gapbytes l Z a0 hw n0 h g pos (P ++ encs gs0) (encs gs1 ++ Q) a A_g (by rw [List.length_append]; exact hpos) (by simp only [List.length_append]; omega)) (r1_next fun r6 h4 q5 => ?_)
            obtain ⟨⟨zb, rfl, hzb⟩, rfl⟩ := q5
            refine WP.iadd K 59 own_b25_58 rfl ?_
            refine WP.istore K 61 [.val (.ref r), .val (.long id), .second, .val (.long (av + zg)), .second, .val (.int (pos + zb))] own_b25_59 rfl rfl ?_
            refine WP.goto K 11 own_b25_61 (by decide) ?_
            refine ih (gs0 ++ [a]) _ _ (by simp) (by rw [hnx, hs0]; congr 1; omega) (by rw [i32_add (by omega) (by omega), hl0]; omega) ?_
            rw [hs0, hl0, hfd, ← Nat.add_assoc]
            cases fnd id.toInt (F + gs0.sum + a) gs1 with
            | none => rfl
            | some n => simp only [Option.map_some]; congr 1; omega
          · skip
            rw [if_pos (by omega)] at hfd
            refine WP.iload K 46 own_b25_44 rfl rfl ?_
            refine WP.iret K rfl (Or.inl rfl) rfl own_b25_46 ?_ (by decide) (by decide)
            exact ⟨_, rfl, ⟨_, rfl, Or.inl ⟨(encs gs0).length, by rw [hfd]; simp, hpos⟩⟩, rfl⟩
  refine WP.aloadN K 1 own_b25_0 rfl rfl rfl ?_
  refine WP.getfield K (host := "") 4 (Or.inl (hw _ (List.mem_of_getElem? (i := 31) rfl))) Via.refl Ff own_b25_1 rfl ?_
  refine WP.lstoreN K 5 [.val (.ref r), .val (.long id), .second, .val (.long f), .second, .unset] own_b25_4 rfl rfl ?_
  refine WP.aloadN K 6 own_b25_5 rfl rfl rfl ?_
  refine WP.getfield K (host := "") 9 (Or.inl (hw _ (List.mem_of_getElem? (i := 60) rfl))) Via.refl Fs own_b25_6 rfl ?_
  refine WP.istore K 11 [.val (.ref r), .val (.long id), .second, .val (.long f), .second, .val (.int st)] own_b25_9 rfl rfl ?_
  exact J11 gs [] _ _ rfl (by simpa using hf) (by simpa [encs_nil] using hst) (by cases e : fnd id.toInt F gs <;> simp [encs_nil, e])
theorem own_b19_0 : decode prog_9_method_6_code 0 = .ok (.lload_n 1, 1) := by decide +kernel
theorem own_b19_1 : decode prog_9_method_6_code 1 = .ok (.aload_n 0, 1) := by decide +kernel
theorem own_b19_2 : decode prog_9_method_6_code 2 = .ok (.getfield 18, 3) := by decide +kernel
theorem own_b19_5 : decode prog_9_method_6_code 5 = .ok (.lcmp, 1) := by decide +kernel
theorem own_b19_6 : decode prog_9_method_6_code 6 = .ok (.ifCond .eq 11, 3) := by decide +kernel
theorem own_b19_9 : decode prog_9_method_6_code 9 = .ok (.aload_n 0, 1) := by decide +kernel
theorem own_b19_10 : decode prog_9_method_6_code 10 = .ok (.lload_n 1, 1) := by decide +kernel
theorem own_b19_11 : decode prog_9_method_6_code 11 = .ok (.invokevirtual 44, 3) := by decide +kernel
theorem own_b19_14 : decode prog_9_method_6_code 14 = .ok (.ifCond .lt 7, 3) := by decide +kernel
theorem own_b19_17 : decode prog_9_method_6_code 17 = .ok (.iconst 1, 1) := by decide +kernel
theorem own_b19_18 : decode prog_9_method_6_code 18 = .ok (.goto 4, 3) := by decide +kernel
theorem own_b19_21 : decode prog_9_method_6_code 21 = .ok (.iconst 0, 1) := by decide +kernel
theorem own_b19_22 : decode prog_9_method_6_code 22 = .ok (.ireturn, 1) := by decide +kernel
theorem own_pf_b19 : plainFor (⟨"com/example/highwater/highwater/MessageIndex$Run", "holds", "(J)Z"⟩ : MethodName) = true := by first | exact plainFor_of_name (by first | (simp [plainName, overriddenIn, x]; done) | decide +kernel) | decide +kernel
set_option maxRecDepth 65536 in
set_option maxHeartbeats 40000000 in
theorem own_holds (l : Launch) (Z : State) (a0 : Array Value) (hw : ∀ d ∈ tables_1, d.before a0 Z = true) (n0 : Nat) (h : Heap) (r g : Nat) (F : Nat) (gs : List Nat) (H : RI Z h n0 r g F gs) (id : Int64) :
    Con l Z (⟨"com/example/highwater/highwater/MessageIndex$Run", "holds", "(J)Z"⟩ : MethodName) prog_9_method_6_code 3 (some .boolean) ({ frames := 2, cells := 0, slots := 0, locals := 37 } : Room) n0 #[(.ref r), (.long id)] h (R1 fun r h' => ((r = .int 1 ∧ InR id.toInt F gs) ∨ (r = .int 0 ∧ ¬ InR id.toInt F gs)) ∧ h = h') := by
  refine Con.of (ls := [.val (.ref r), .val (.long id), .second]) own_pf_b19 (fun m => by first | (simp [entryFrame, mkF, argsToLocals, Value.category]; done) | rfl) fun k K => ?_
  have k_0 : (0 : Int32).toInt = 0 := rfl
  have k_1 : (1 : Int32).toInt = 1 := rfl
  obtain ⟨f, la, P, Q, HB, hf, hla, hgp_⟩ := H
  have HB0 := HB
  obtain ⟨st, en, Ex, Ff, Fl, Fg, Fs, Fe, A_g, hst, hen, hng, n0_r, hrg, hlen⟩ := HB
  have l_r : @LT.lt Nat _ r h.size := Ff.lt
  have l_g : @LT.lt Nat _ g h.size := A_g.lt
  refine WP.lloadN K 1 own_b19_0 rfl rfl ?_
  refine WP.aloadN K 2 own_b19_1 rfl rfl rfl ?_
  refine WP.getfield K (host := "") 5 (Or.inl (hw _ (List.mem_of_getElem? (i := 31) rfl))) Via.refl Ff own_b19_2 rfl ?_
  refine WP.lcmp K 6 own_b19_5 rfl ?_
  refine WP.ifl_eq K 17 9 own_b19_6 (by decide) rfl (fun c6 => ?_) (fun c6 => ?_)
  · skip
    have hI : InR id.toInt F gs := Or.inl (by omega)
    refine WP.iconst K (1 : Int32) 18 own_b19_17 rfl rfl ?_
    refine WP.goto K 22 own_b19_18 (by decide) ?_
    refine WP.iret K rfl (Or.inr (Or.inl rfl)) rfl own_b19_22 ?_ (by decide) (by decide)
    exact ⟨_, rfl, Or.inl ⟨rfl, hI⟩, rfl⟩
  · skip
    refine WP.aloadN K 10 own_b19_9 rfl rfl rfl ?_
    refine WP.lloadN K 11 own_b19_10 rfl rfl ?_
    refine WP.callP K (a := r) (C := "com/example/highwater/highwater/MessageIndex$Run") 14 0 0 0 [(.long id)] [] (hw _ (List.mem_of_getElem? (i := 137) rfl)) (hw _ (List.mem_of_getElem? (i := 138) rfl)) (u := (⟨"com/example/highwater/highwater/MessageIndex$Run", "hasRoom", "()Z"⟩ : MethodName)) rfl (hw _ (List.mem_of_getElem? (i := 56) rfl)) (hw _ (List.mem_of_getElem? (i := 139) rfl)) (hw _ (List.mem_of_getElem? (i := 22) rfl)) (hw _ (List.mem_of_getElem? (i := 140) rfl)) (by decide) own_pd_1 rfl rfl rfl (by decide) (by decide) (Nat.le_of_eq rfl) rfl own_b19_11 rfl rfl rfl (by decide) (by decide) Ex (own_find l Z a0 hw n0 h r g F gs f la P Q HB0 hf hla hgp_ id) (r1_next fun r3 h1 q2 => ?_)
    obtain ⟨⟨zf, rfl, hzf⟩, rfl⟩ := q2
    refine WP.if_lt K 21 17 own_b19_14 (by decide) rfl (fun c14 => ?_) (fun c14 => ?_)
    · skip
      have hI : ¬ InR id.toInt F gs := by
        rintro (q | q)
        · omega
        · rcases hzf with ⟨n, q1, q2⟩ | ⟨q1, -⟩
          · omega
          · exact (fnd_none _ _).mp q1 q
      refine WP.iconst K (0 : Int32) 22 own_b19_21 rfl rfl ?_
      refine WP.iret K rfl (Or.inr (Or.inl rfl)) rfl own_b19_22 ?_ (by decide) (by decide)
      exact ⟨_, rfl, Or.inr ⟨rfl, hI⟩, rfl⟩
    · skip
      have hI : InR id.toInt F gs := by
        refine Or.inr (Classical.byContradiction fun q => ?_)
        have := (fnd_none gs F).mpr q
        rcases hzf with ⟨n, q1, q2⟩ | ⟨-, rfl⟩
        · rw [this] at q1; cases q1
        · exact absurd c14 (by decide)
      refine WP.iconst K (1 : Int32) 18 own_b19_17 rfl rfl ?_
      refine WP.goto K 22 own_b19_18 (by decide) ?_
      refine WP.iret K rfl (Or.inr (Or.inl rfl)) rfl own_b19_22 ?_ (by decide) (by decide)
      exact ⟨_, rfl, Or.inl ⟨rfl, hI⟩, rfl⟩
theorem own_b21_0 : decode prog_9_method_8_code 0 = .ok (.aload_n 0, 1) := by decide +kernel
theorem own_b21_1 : decode prog_9_method_8_code 1 = .ok (.getfield 29, 3) := by decide +kernel
theorem own_b21_4 : decode prog_9_method_8_code 4 = .ok (.aload_n 0, 1) := by decide +kernel
theorem own_b21_5 : decode prog_9_method_8_code 5 = .ok (.getfield 25, 3) := by decide +kernel
theorem own_b21_8 : decode prog_9_method_8_code 8 = .ok (.if_icmp .ne 5, 3) := by decide +kernel
theorem own_b21_11 : decode prog_9_method_8_code 11 = .ok (.iconst 0, 1) := by decide +kernel
theorem own_b21_12 : decode prog_9_method_8_code 12 = .ok (.ireturn, 1) := by decide +kernel
theorem own_b21_13 : decode prog_9_method_8_code 13 = .ok (.aload_n 0, 1) := by decide +kernel
theorem own_b21_14 : decode prog_9_method_8_code 14 = .ok (.dup, 1) := by decide +kernel
theorem own_b21_15 : decode prog_9_method_8_code 15 = .ok (.getfield 18, 3) := by decide +kernel
theorem own_b21_18 : decode prog_9_method_8_code 18 = .ok (.aload_n 0, 1) := by decide +kernel
theorem own_b21_19 : decode prog_9_method_8_code 19 = .ok (.getfield 13, 3) := by decide +kernel
theorem own_b21_22 : decode prog_9_method_8_code 22 = .ok (.aload_n 0, 1) := by decide +kernel
theorem own_b21_23 : decode prog_9_method_8_code 23 = .ok (.getfield 29, 3) := by decide +kernel
theorem own_b21_26 : decode prog_9_method_8_code 26 = .ok (.invokestatic 36, 3) := by decide +kernel
theorem own_b21_29 : decode prog_9_method_8_code 29 = .ok (.ladd, 1) := by decide +kernel
theorem own_b21_30 : decode prog_9_method_8_code 30 = .ok (.putfield 18, 3) := by decide +kernel
theorem own_b21_33 : decode prog_9_method_8_code 33 = .ok (.aload_n 0, 1) := by decide +kernel
theorem own_b21_34 : decode prog_9_method_8_code 34 = .ok (.dup, 1) := by decide +kernel
theorem own_b21_35 : decode prog_9_method_8_code 35 = .ok (.getfield 29, 3) := by decide +kernel
theorem own_b21_38 : decode prog_9_method_8_code 38 = .ok (.aload_n 0, 1) := by decide +kernel
theorem own_b21_39 : decode prog_9_method_8_code 39 = .ok (.getfield 13, 3) := by decide +kernel
theorem own_b21_42 : decode prog_9_method_8_code 42 = .ok (.aload_n 0, 1) := by decide +kernel
theorem own_b21_43 : decode prog_9_method_8_code 43 = .ok (.getfield 29, 3) := by decide +kernel
theorem own_b21_46 : decode prog_9_method_8_code 46 = .ok (.invokestatic 40, 3) := by decide +kernel
theorem own_b21_49 : decode prog_9_method_8_code 49 = .ok (.iadd, 1) := by decide +kernel
theorem own_b21_50 : decode prog_9_method_8_code 50 = .ok (.putfield 29, 3) := by decide +kernel
theorem own_b21_53 : decode prog_9_method_8_code 53 = .ok (.iconst 1, 1) := by decide +kernel
theorem own_b21_54 : decode prog_9_method_8_code 54 = .ok (.ireturn, 1) := by decide +kernel
theorem own_pf_b21 : plainFor (⟨"com/example/highwater/highwater/MessageIndex$Run", "dropFirst", "()Z"⟩ : MethodName) = true := by first | exact plainFor_of_name (by first | (simp [plainName, overriddenIn, x]; done) | decide +kernel) | decide +kernel
set_option maxRecDepth 65536 in
set_option maxHeartbeats 40000000 in
theorem own_dropnil (l : Launch) (Z : State) (a0 : Array Value) (hw : ∀ d ∈ tables_1, d.before a0 Z = true) (n0 : Nat) (h : Heap) (r g : Nat) (F : Nat) (H : RI Z h n0 r g F []) :
    Con l Z (⟨"com/example/highwater/highwater/MessageIndex$Run", "dropFirst", "()Z"⟩ : MethodName) prog_9_method_8_code 1 (some .boolean) ({ frames := 1, cells := 0, slots := 0, locals := 20 } : Room) n0 #[(.ref r)] h (R1 fun r h' => r = .int 0 ∧ h = h') := by
  refine Con.of (ls := [.val (.ref r)]) own_pf_b21 (fun m => by first | (simp [entryFrame, mkF, argsToLocals, Value.category]; done) | rfl) fun k K => ?_
  have k_0 : (0 : Int32).toInt = 0 := rfl
  have k_1 : (1 : Int32).toInt = 1 := rfl
  obtain ⟨f, la, P, Q, HB, hf, hla, hgp_⟩ := H
  have HB0 := HB
  obtain ⟨st, en, Ex, Ff, Fl, Fg, Fs, Fe, A_g, hst, hen, hng, n0_r, hrg, hlen⟩ := HB
  have l_r : @LT.lt Nat _ r h.size := Ff.lt
  have l_g : @LT.lt Nat _ g h.size := A_g.lt
  rw [encs_nil, List.length_nil] at hen
  refine WP.aloadN K 1 own_b21_0 rfl rfl rfl ?_
  refine WP.getfield K (host := "") 4 (Or.inl (hw _ (List.mem_of_getElem? (i := 60) rfl))) Via.refl Fs own_b21_1 rfl ?_
  refine WP.aloadN K 5 own_b21_4 rfl rfl rfl ?_
  refine WP.getfield K (host := "") 8 (Or.inl (hw _ (List.mem_of_getElem? (i := 58) rfl))) Via.refl Fe own_b21_5 rfl ?_
  refine WP.icmp_ne K 13 11 own_b21_8 (by decide) rfl (fun c8 => ?_) (fun c8 => ?_)
  · skip
    exfalso; omega
  · skip
    refine WP.iconst K (0 : Int32) 12 own_b21_11 rfl rfl ?_
    refine WP.iret K rfl (Or.inr (Or.inl rfl)) rfl own_b21_12 ?_ (by decide) (by decide)
    exact ⟨_, rfl, rfl, rfl⟩
set_option maxRecDepth 65536 in
set_option maxHeartbeats 40000000 in
theorem own_dropcons (l : Launch) (Z : State) (a0 : Array Value) (hw : ∀ d ∈ tables_1, d.before a0 Z = true) (n0 : Nat) (h : Heap) (r g : Nat) (F e : Nat) (gs : List Nat) (H : RI Z h n0 r g F (e :: gs)) :
    Con l Z (⟨"com/example/highwater/highwater/MessageIndex$Run", "dropFirst", "()Z"⟩ : MethodName) prog_9_method_8_code 1 (some .boolean) ({ frames := 1, cells := 0, slots := 0, locals := 20 } : Room) n0 #[(.ref r)] h (R1 fun v h' => v = .int 1 ∧ RI Z h' n0 r g (F + e) gs ∧ Keep h h' [r, g]) := by
  refine Con.of (ls := [.val (.ref r)]) own_pf_b21 (fun m => by first | (simp [entryFrame, mkF, argsToLocals, Value.category]; done) | rfl) fun k K => ?_
  have k_0 : (0 : Int32).toInt = 0 := rfl
  have k_1 : (1 : Int32).toInt = 1 := rfl
  obtain ⟨f, la, P, Q, HB, hf, hla, hgp_⟩ := H
  have HB0 := HB
  obtain ⟨st, en, Ex, Ff, Fl, Fg, Fs, Fe, A_g, hst, hen, hng, n0_r, hrg, hlen⟩ := HB
  have l_r : @LT.lt Nat _ r h.size := Ff.lt
  have l_g : @LT.lt Nat _ g h.size := A_g.lt
  have Kp := Keep.refl h [r, g]
  rw [encs_len] at hen hlen hng
  have hpe := el_pos e
  rw [List.sum_cons] at hla
  have l1 := i64_rng la
  have he1 := hgp_ e (by simp)
  have A_g : ArB Z h g (P ++ enc e ++ (encs gs ++ Q)) := by simpa [encs_cons] using A_g
  refine WP.aloadN K 1 own_b21_0 rfl rfl rfl ?_
  refine WP.getfield K (host := "") 4 (Or.inl (hw _ (List.mem_of_getElem? (i := 60) rfl))) Via.refl Fs own_b21_1 rfl ?_
  refine WP.aloadN K 5 own_b21_4 rfl rfl rfl ?_
  refine WP.getfield K (host := "") 8 (Or.inl (hw _ (List.mem_of_getElem? (i := 58) rfl))) Via.refl Fe own_b21_5 rfl ?_
  refine WP.icmp_ne K 13 11 own_b21_8 (by decide) rfl (fun c8 => ?_) (fun c8 => ?_)
  · skip
    refine WP.aloadN K 14 own_b21_13 rfl rfl rfl ?_
    refine WP.dup K 15 own_b21_14 rfl rfl ?_
    refine WP.getfield K (host := "") 18 (Or.inl (hw _ (List.mem_of_getElem? (i := 31) rfl))) Via.refl Ff own_b21_15 rfl ?_
    refine WP.aloadN K 19 own_b21_18 rfl rfl rfl ?_
    refine WP.getfield K (host := "") 22 (Or.inl (hw _ (List.mem_of_getElem? (i := 29) rfl))) Via.refl Fg own_b21_19 rfl ?_
    refine WP.aloadN K 23 own_b21_22 rfl rfl rfl ?_
    refine WP.getfield K (host := "") 26 (Or.inl (hw _ (List.mem_of_getElem? (i := 60) rfl))) Via.refl Fs own_b21_23 rfl ?_
    refine WP.callSN K 29 0 0 3 [(.ref g), (.int st)] [(.long f), (.ref r)] (hw _ (List.mem_of_getElem? (i := 126) rfl)) (hw _ (List.mem_of_getElem? (i := 127) rfl)) (hw _ (List.mem_of_getElem? (i := 3) rfl)) (hw _ (List.mem_of_getElem? (i := 128) rfl)) (by decide) own_pd_5 rfl rfl rfl (by decide) (by decide) (Nat.le_of_eq rfl) rfl own_b21_26 rfl rfl rfl (by decide) (by decide) (own_gap l Z a0 hw n0 h g st P (encs gs ++ Q) e A_g hst (by simp only [List.length_append]; omega) (by omega)) (r1_next fun r3 h1 q2 => ?_)
    obtain ⟨⟨zg, rfl, hzg⟩, rfl⟩ := q2
    have hnf : (f + zg).toInt = ((F + e : Nat) : Int) := by rw [i64_add (by omega) (by omega)]; omega
    refine WP.ladd K 30 own_b21_29 rfl ?_
    refine WP.putfield K (host := "") (a := r) 33 (Or.inl (hw _ (List.mem_of_getElem? (i := 31) rfl))) Via.refl Ff Ex (Or.inl (hw _ (List.mem_of_getElem? (i := 32) rfl))) (hw _ (List.mem_of_getElem? (i := 21) rfl)) (ty := .long) (by decide) rfl rfl own_b21_30 rfl n0_r (fun h4 W5 => ?_)
    have Ex := Ex.wr W5
    have Ff := Ff.same W5
    have Fl := Fl.other W5 (Or.inr (slot_ne (Or.inl (hw _ (List.mem_of_getElem? (i := 34) rfl))) (Or.inl (hw _ (List.mem_of_getElem? (i := 32) rfl))) (by decide) (t := .long) (t' := .long) (by decide) (by decide)))
    have Fg := Fg.other W5 (Or.inr (slot_ne (Or.inl (hw _ (List.mem_of_getElem? (i := 30) rfl))) (Or.inl (hw _ (List.mem_of_getElem? (i := 32) rfl))) (by decide) (t := (.array .byte)) (t' := .long) (by decide) (by decide)))
    have Fs := Fs.other W5 (Or.inr (slot_ne (Or.inl (hw _ (List.mem_of_getElem? (i := 61) rfl))) (Or.inl (hw _ (List.mem_of_getElem? (i := 32) rfl))) (by decide) (t := .int) (t' := .long) (by decide) (by decide)))
    have Fe := Fe.other W5 (Or.inr (slot_ne (Or.inl (hw _ (List.mem_of_getElem? (i := 59) rfl))) (Or.inl (hw _ (List.mem_of_getElem? (i := 32) rfl))) (by decide) (t := .int) (t' := .long) (by decide) (by decide)))
    have A_g := A_g.other W5 (ne_addr (by omega))
    have Kp := Kp.wr W5 (Or.inl (by simp))
    refine WP.aloadN K 34 own_b21_33 rfl rfl rfl ?_
    refine WP.dup K 35 own_b21_34 rfl rfl ?_
    refine WP.getfield K (host := "") 38 (Or.inl (hw _ (List.mem_of_getElem? (i := 60) rfl))) Via.refl Fs own_b21_35 rfl ?_
    refine WP.aloadN K 39 own_b21_38 rfl rfl rfl ?_
    refine WP.getfield K (host := "") 42 (Or.inl (hw _ (List.mem_of_getElem? (i := 29) rfl))) Via.refl Fg own_b21_39 rfl ?_
    refine WP.aloadN K 43 own_b21_42 rfl rfl rfl ?_
    refine WP.getfield K (host := "") 46 (Or.inl (hw _ (List.mem_of_getElem? (i := 60) rfl))) Via.refl Fs own_b21_43 rfl ?_
    refine WP.callSN K 49 0 0 2 [(.ref g), (.int st)] [(.int st), (.ref r)] (hw _ (List.mem_of_getElem? (i := 129) rfl)) (hw _ (List.mem_of_getElem? (i := 130) rfl)) (hw _ (List.mem_of_getElem? (i := 3) rfl)) (hw _ (List.mem_of_getElem? (i := 131) rfl)) (by decide) own_pd_6 rfl rfl rfl (by decide) (by decide) (Nat.le_of_eq rfl) rfl own_b21_46 rfl rfl rfl (by decide) (by decide) (own_gapbytes l Z a0 hw n0 h4 g st P (encs gs ++ Q) e A_g hst (by simp only [List.length_append]; omega)) (r1_next fun r8 h6 q7 => ?_)
    obtain ⟨⟨zb, rfl, hzb⟩, rfl⟩ := q7
    refine WP.iadd K 50 own_b21_49 rfl ?_
    refine WP.putfield K (host := "") (a := r) 53 (Or.inl (hw _ (List.mem_of_getElem? (i := 60) rfl))) Via.refl Fs Ex (Or.inl (hw _ (List.mem_of_getElem? (i := 61) rfl))) (hw _ (List.mem_of_getElem? (i := 21) rfl)) (ty := .int) (by decide) rfl rfl own_b21_50 rfl n0_r (fun h9 W10 => ?_)
    have Ex := Ex.wr W10
    have Ff := Ff.other W10 (Or.inr (slot_ne (Or.inl (hw _ (List.mem_of_getElem? (i := 32) rfl))) (Or.inl (hw _ (List.mem_of_getElem? (i := 61) rfl))) (by decide) (t := .long) (t' := .int) (by decide) (by decide)))
    have Fl := Fl.other W10 (Or.inr (slot_ne (Or.inl (hw _ (List.mem_of_getElem? (i := 34) rfl))) (Or.inl (hw _ (List.mem_of_getElem? (i := 61) rfl))) (by decide) (t := .long) (t' := .int) (by decide) (by decide)))
    have Fg := Fg.other W10 (Or.inr (slot_ne (Or.inl (hw _ (List.mem_of_getElem? (i := 30) rfl))) (Or.inl (hw _ (List.mem_of_getElem? (i := 61) rfl))) (by decide) (t := (.array .byte)) (t' := .int) (by decide) (by decide)))
    have Fs := Fs.same W10
    have Fe := Fe.other W10 (Or.inr (slot_ne (Or.inl (hw _ (List.mem_of_getElem? (i := 59) rfl))) (Or.inl (hw _ (List.mem_of_getElem? (i := 61) rfl))) (by decide) (t := .int) (t' := .int) (by decide) (by decide)))
    have A_g := A_g.other W10 (ne_addr (by omega))
    have Kp := Kp.wr W10 (Or.inl (by simp))
    refine WP.iconst K (1 : Int32) 54 own_b21_53 rfl rfl ?_
    refine WP.iret K rfl (Or.inr (Or.inl rfl)) rfl own_b21_54 ?_ (by decide) (by decide)
    refine ⟨_, rfl, rfl, ⟨_, la, P ++ enc e, Q, ⟨_, en, Ex, Ff, Fl, Fg, Fs, Fe, by simpa using A_g, ?_, ?_, ?_, n0_r, hrg, ?_⟩, hnf, ?_, fun x hx => hgp_ x (List.mem_cons_of_mem _ hx)⟩, Kp⟩
    · rw [i32_add (by omega) (by omega), List.length_append]
      have : (enc e).length = el e := rfl
      omega
    · rw [hen, List.length_append]
      have : (enc e).length = el e := rfl
      omega
    · rw [List.length_append]
      have : (enc e).length = el e := rfl
      omega
    · rw [List.length_append]
      have : (enc e).length = el e := rfl
      omega
    · rw [hla]; congr 1; omega
  · skip
    exfalso; omega
theorem own_b20_0 : decode prog_9_method_9_code 0 = .ok (.lload_n 1, 1) := by decide +kernel
theorem own_b20_1 : decode prog_9_method_9_code 1 = .ok (.aload_n 0, 1) := by decide +kernel
theorem own_b20_2 : decode prog_9_method_9_code 2 = .ok (.getfield 18, 3) := by decide +kernel
theorem own_b20_5 : decode prog_9_method_9_code 5 = .ok (.lcmp, 1) := by decide +kernel
theorem own_b20_6 : decode prog_9_method_9_code 6 = .ok (.ifCond .ne 8, 3) := by decide +kernel
theorem own_b20_9 : decode prog_9_method_9_code 9 = .ok (.aload_n 0, 1) := by decide +kernel
theorem own_b20_10 : decode prog_9_method_9_code 10 = .ok (.invokevirtual 48, 3) := by decide +kernel
theorem own_b20_13 : decode prog_9_method_9_code 13 = .ok (.ireturn, 1) := by decide +kernel
theorem own_b20_14 : decode prog_9_method_9_code 14 = .ok (.aload_n 0, 1) := by decide +kernel
theorem own_b20_15 : decode prog_9_method_9_code 15 = .ok (.lload_n 1, 1) := by decide +kernel
theorem own_b20_16 : decode prog_9_method_9_code 16 = .ok (.invokevirtual 44, 3) := by decide +kernel
theorem own_b20_19 : decode prog_9_method_9_code 19 = .ok (.istore_n 3, 1) := by decide +kernel
theorem own_b20_20 : decode prog_9_method_9_code 20 = .ok (.aload_n 0, 1) := by decide +kernel
theorem own_b20_21 : decode prog_9_method_9_code 21 = .ok (.getfield 13, 3) := by decide +kernel
theorem own_b20_24 : decode prog_9_method_9_code 24 = .ok (.iload_n 3, 1) := by decide +kernel
theorem own_b20_25 : decode prog_9_method_9_code 25 = .ok (.invokestatic 40, 3) := by decide +kernel
theorem own_b20_28 : decode prog_9_method_9_code 28 = .ok (.istore 4, 2) := by decide +kernel
theorem own_b20_30 : decode prog_9_method_9_code 30 = .ok (.iload_n 3, 1) := by decide +kernel
theorem own_b20_31 : decode prog_9_method_9_code 31 = .ok (.iload 4, 2) := by decide +kernel
theorem own_b20_33 : decode prog_9_method_9_code 33 = .ok (.iadd, 1) := by decide +kernel
theorem own_b20_34 : decode prog_9_method_9_code 34 = .ok (.aload_n 0, 1) := by decide +kernel
theorem own_b20_35 : decode prog_9_method_9_code 35 = .ok (.getfield 25, 3) := by decide +kernel
theorem own_b20_38 : decode prog_9_method_9_code 38 = .ok (.if_icmp .ne 28, 3) := by decide +kernel
theorem own_b20_41 : decode prog_9_method_9_code 41 = .ok (.aload_n 0, 1) := by decide +kernel
theorem own_b20_42 : decode prog_9_method_9_code 42 = .ok (.dup, 1) := by decide +kernel
theorem own_b20_43 : decode prog_9_method_9_code 43 = .ok (.getfield 22, 3) := by decide +kernel
theorem own_b20_46 : decode prog_9_method_9_code 46 = .ok (.aload_n 0, 1) := by decide +kernel
theorem own_b20_47 : decode prog_9_method_9_code 47 = .ok (.getfield 13, 3) := by decide +kernel
theorem own_b20_50 : decode prog_9_method_9_code 50 = .ok (.iload_n 3, 1) := by decide +kernel
theorem own_b20_51 : decode prog_9_method_9_code 51 = .ok (.invokestatic 36, 3) := by decide +kernel
theorem own_b20_54 : decode prog_9_method_9_code 54 = .ok (.lsub, 1) := by decide +kernel
theorem own_b20_55 : decode prog_9_method_9_code 55 = .ok (.putfield 22, 3) := by decide +kernel
theorem own_b20_58 : decode prog_9_method_9_code 58 = .ok (.aload_n 0, 1) := by decide +kernel
theorem own_b20_59 : decode prog_9_method_9_code 59 = .ok (.iload_n 3, 1) := by decide +kernel
theorem own_b20_60 : decode prog_9_method_9_code 60 = .ok (.putfield 25, 3) := by decide +kernel
theorem own_b20_63 : decode prog_9_method_9_code 63 = .ok (.goto 47, 3) := by decide +kernel
theorem own_b20_66 : decode prog_9_method_9_code 66 = .ok (.aload_n 0, 1) := by decide +kernel
theorem own_b20_67 : decode prog_9_method_9_code 67 = .ok (.getfield 13, 3) := by decide +kernel
theorem own_b20_70 : decode prog_9_method_9_code 70 = .ok (.iload_n 3, 1) := by decide +kernel
theorem own_b20_71 : decode prog_9_method_9_code 71 = .ok (.iload 4, 2) := by decide +kernel
theorem own_b20_73 : decode prog_9_method_9_code 73 = .ok (.iadd, 1) := by decide +kernel
theorem own_b20_74 : decode prog_9_method_9_code 74 = .ok (.invokestatic 40, 3) := by decide +kernel
theorem own_b20_77 : decode prog_9_method_9_code 77 = .ok (.istore 5, 2) := by decide +kernel
theorem own_b20_79 : decode prog_9_method_9_code 79 = .ok (.aload_n 0, 1) := by decide +kernel
theorem own_b20_80 : decode prog_9_method_9_code 80 = .ok (.iload_n 3, 1) := by decide +kernel
theorem own_b20_81 : decode prog_9_method_9_code 81 = .ok (.iload 4, 2) := by decide +kernel
theorem own_b20_83 : decode prog_9_method_9_code 83 = .ok (.iload 5, 2) := by decide +kernel
theorem own_b20_85 : decode prog_9_method_9_code 85 = .ok (.iadd, 1) := by decide +kernel
theorem own_b20_86 : decode prog_9_method_9_code 86 = .ok (.aload_n 0, 1) := by decide +kernel
theorem own_b20_87 : decode prog_9_method_9_code 87 = .ok (.getfield 13, 3) := by decide +kernel
theorem own_b20_90 : decode prog_9_method_9_code 90 = .ok (.iload_n 3, 1) := by decide +kernel
theorem own_b20_91 : decode prog_9_method_9_code 91 = .ok (.invokestatic 36, 3) := by decide +kernel
theorem own_b20_94 : decode prog_9_method_9_code 94 = .ok (.aload_n 0, 1) := by decide +kernel
theorem own_b20_95 : decode prog_9_method_9_code 95 = .ok (.getfield 13, 3) := by decide +kernel
theorem own_b20_98 : decode prog_9_method_9_code 98 = .ok (.iload_n 3, 1) := by decide +kernel
theorem own_b20_99 : decode prog_9_method_9_code 99 = .ok (.iload 4, 2) := by decide +kernel
theorem own_b20_101 : decode prog_9_method_9_code 101 = .ok (.iadd, 1) := by decide +kernel
theorem own_b20_102 : decode prog_9_method_9_code 102 = .ok (.invokestatic 36, 3) := by decide +kernel
theorem own_b20_105 : decode prog_9_method_9_code 105 = .ok (.ladd, 1) := by decide +kernel
theorem own_b20_106 : decode prog_9_method_9_code 106 = .ok (.lconst 0, 1) := by decide +kernel
theorem own_b20_107 : decode prog_9_method_9_code 107 = .ok (.invokevirtual 32, 3) := by decide +kernel
theorem own_b20_110 : decode prog_9_method_9_code 110 = .ok (.iconst 1, 1) := by decide +kernel
theorem own_b20_111 : decode prog_9_method_9_code 111 = .ok (.ireturn, 1) := by decide +kernel
theorem own_pf_b20 : plainFor (⟨"com/example/highwater/highwater/MessageIndex$Run", "remove", "(J)Z"⟩ : MethodName) = true := by first | exact plainFor_of_name (by first | (simp [plainName, overriddenIn, x]; done) | decide +kernel) | decide +kernel
theorem own_pd_7 : parseMethodDescriptor "()Z" = some ⟨[], some .boolean⟩ := by decide +kernel
set_option maxRecDepth 65536 in
set_option maxHeartbeats 40000000 in
theorem own_removeF (l : Launch) (Z : State) (a0 : Array Value) (hw : ∀ d ∈ tables_1, d.before a0 Z = true) (n0 : Nat) (h : Heap) (r g : Nat) (F e : Nat) (gs : List Nat) (H : RI Z h n0 r g F (e :: gs)) (id : Int64) (hid : id.toInt = (F : Nat)) :
    Con l Z (⟨"com/example/highwater/highwater/MessageIndex$Run", "remove", "(J)Z"⟩ : MethodName) prog_9_method_9_code 6 (some .boolean) ({ frames := 4, cells := 1, slots := 54, locals := 66 } : Room) n0 #[(.ref r), (.long id)] h (R1 fun v h' => v = .int 1 ∧ ∃ g', RI Z h' n0 r g' (F + e) gs ∧ Keep h h' [r, g] ∧ (g' = g ∨ h.size ≤ g')) := by
  refine Con.of (ls := [.val (.ref r), .val (.long id), .second, .unset, .unset, .unset]) own_pf_b20 (fun m => by first | (simp [entryFrame, mkF, argsToLocals, Value.category]; done) | rfl) fun k K => ?_
  have kL_0 : (0 : Int64).toInt = 0 := rfl
  have k_1 : (1 : Int32).toInt = 1 := rfl
  have H0 := H
  obtain ⟨f, la, P, Q, HB, hf, hla, hgp_⟩ := H
  have HB0 := HB
  obtain ⟨st, en, Ex, Ff, Fl, Fg, Fs, Fe, A_g, hst, hen, hng, n0_r, hrg, hlen⟩ := HB
  have l_r : @LT.lt Nat _ r h.size := Ff.lt
  have l_g : @LT.lt Nat _ g h.size := A_g.lt
  refine WP.lloadN K 1 own_b20_0 rfl rfl ?_
  refine WP.aloadN K 2 own_b20_1 rfl rfl rfl ?_
  refine WP.getfield K (host := "") 5 (Or.inl (hw _ (List.mem_of_getElem? (i := 31) rfl))) Via.refl Ff own_b20_2 rfl ?_
  refine WP.lcmp K 6 own_b20_5 rfl ?_
  refine WP.ifl_ne K 14 9 own_b20_6 (by decide) rfl (fun c6 => ?_) (fun c6 => ?_)
  · skip
    exfalso; omega
  · skip
    refine WP.aloadN K 10 own_b20_9 rfl rfl rfl ?_
    refine WP.callV K (a := r) (C := "com/example/highwater/highwater/MessageIndex$Run") 13 0 0 0 [] [] (hw _ (List.mem_of_getElem? (i := 121) rfl)) (hw _ (List.mem_of_getElem? (i := 122) rfl)) rfl (hw _ (List.mem_of_getElem? (i := 124) rfl)) (hw _ (List.mem_of_getElem? (i := 123) rfl)) (hw _ (List.mem_of_getElem? (i := 22) rfl)) (hw _ (List.mem_of_getElem? (i := 125) rfl)) (by decide) own_pd_7 rfl rfl rfl (by decide) (by decide) (Nat.le_of_eq rfl) rfl own_b20_10 rfl rfl rfl (by decide) (by decide) Ex (own_dropcons l Z a0 hw n0 h r g F e gs H0) (r1_next fun r3 h1 q2 => ?_)
    obtain ⟨rfl, H2, Kq⟩ := q2
    refine WP.iret K rfl (Or.inr (Or.inl rfl)) rfl own_b20_13 ?_ (by decide) (by decide)
    exact ⟨_, rfl, rfl, g, H2, Kq, Or.inl rfl⟩
set_option maxRecDepth 65536 in
set_option maxHeartbeats 40000000 in
theorem own_removeL (l : Launch) (Z : State) (a0 : Array Value) (hw : ∀ d ∈ tables_1, d.before a0 Z = true) (n0 : Nat) (h : Heap) (r g : Nat) (F : Nat) (as : List Nat) (cc : Nat) (H : RI Z h n0 r g F (as ++ cc :: [])) (id : Int64) (hid : id.toInt = ((F + as.sum + cc : Nat) : Int)) (hb : (encs (as ++ cc :: [])).length ≤ 27) (Z0 : n0 ≤ h.size) :
    Con l Z (⟨"com/example/highwater/highwater/MessageIndex$Run", "remove", "(J)Z"⟩ : MethodName) prog_9_method_9_code 6 (some .boolean) ({ frames := 4, cells := 1, slots := 54, locals := 66 } : Room) n0 #[(.ref r), (.long id)] h (R1 fun v h' => v = .int 1 ∧ ∃ g', RI Z h' n0 r g' F as ∧ Keep h h' [r, g] ∧ (g' = g ∨ h.size ≤ g')) := by
  refine Con.of (ls := [.val (.ref r), .val (.long id), .second, .unset, .unset, .unset]) own_pf_b20 (fun m => by first | (simp [entryFrame, mkF, argsToLocals, Value.category]; done) | rfl) fun k K => ?_
  have kL_0 : (0 : Int64).toInt = 0 := rfl
  have k_1 : (1 : Int32).toInt = 1 := rfl
  obtain ⟨f, la, P, Q, HB, hf, hla, hgp_⟩ := H
  have HB0 := HB
  obtain ⟨st, en, Ex, Ff, Fl, Fg, Fs, Fe, A_g, hst, hen, hng, n0_r, hrg, hlen⟩ := HB
  have l_r : @LT.lt Nat _ r h.size := Ff.lt
  have l_g : @LT.lt Nat _ g h.size := A_g.lt
  have hc1 := hgp_ cc (by simp)
  have hpc := el_pos cc
  have l1 := i64_rng la
  have hfa := fnd_at as F cc ([]) (fun x hx => hgp_ x (by simp [hx])) hc1 hid
  have eS : P ++ encs (as ++ cc :: ([])) ++ Q = (P ++ encs as) ++ enc cc ++ (encs ([]) ++ Q) := by rw [encs_app, encs_cons]; simp only [List.append_assoc]
  have eL : (encs (as ++ cc :: ([]))).length = (encs as).length + el cc + (encs ([])).length := by rw [encs_app, encs_cons, List.length_append, List.length_append, ← Nat.add_assoc]; rfl
  rw [eL] at hen hlen hng hb
  rw [eS] at A_g
  rw [encs_nil, List.length_nil] at hen hlen hng
  have hsum : (as ++ [cc]).sum = as.sum + cc := by rw [List.sum_append, List.sum_singleton]
  have Kp := Keep.refl h [r, g]
  refine WP.lloadN K 1 own_b20_0 rfl rfl ?_
  refine WP.aloadN K 2 own_b20_1 rfl rfl rfl ?_
  refine WP.getfield K (host := "") 5 (Or.inl (hw _ (List.mem_of_getElem? (i := 31) rfl))) Via.refl Ff own_b20_2 rfl ?_
  refine WP.lcmp K 6 own_b20_5 rfl ?_
  refine WP.ifl_ne K 14 9 own_b20_6 (by decide) rfl (fun c6 => ?_) (fun c6 => ?_)
  · skip
    refine WP.aloadN K 15 own_b20_14 rfl rfl rfl ?_
    refine WP.lloadN K 16 own_b20_15 rfl rfl ?_
    refine WP.callP K (a := r) (C := "com/example/highwater/highwater/MessageIndex$Run") 19 0 0 0 [(.long id)] [] (hw _ (List.mem_of_getElem? (i := 137) rfl)) (hw _ (List.mem_of_getElem? (i := 138) rfl)) (u := (⟨"com/example/highwater/highwater/MessageIndex$Run", "hasRoom", "()Z"⟩ : MethodName)) rfl (hw _ (List.mem_of_getElem? (i := 56) rfl)) (hw _ (List.mem_of_getElem? (i := 139) rfl)) (hw _ (List.mem_of_getElem? (i := 22) rfl)) (hw _ (List.mem_of_getElem? (i := 140) rfl)) (by decide) own_pd_1 rfl rfl rfl (by decide) (by decide) (Nat.le_of_eq rfl) rfl own_b20_16 rfl rfl rfl (by decide) (by decide) Ex (own_find l Z a0 hw n0 h r g F (as ++ cc :: []) f la P Q HB0 hf hla hgp_ id) (r1_next fun r3 h1 q2 => ?_)
    obtain ⟨⟨zf, rfl, hzf⟩, rfl⟩ := q2
    have hzf : zf.toInt = ((P.length + (encs as).length : Nat) : Int) := by
      rcases hzf with ⟨n, q1, q2⟩ | ⟨q1, -⟩
      · rw [hfa] at q1; cases q1; exact q2
      · rw [hfa] at q1; cases q1
    refine WP.istoreN K 20 [.val (.ref r), .val (.long id), .second, .val (.int zf), .unset, .unset] own_b20_19 rfl rfl ?_
    refine WP.aloadN K 21 own_b20_20 rfl rfl rfl ?_
    refine WP.getfield K (host := "") 24 (Or.inl (hw _ (List.mem_of_getElem? (i := 29) rfl))) Via.refl Fg own_b20_21 rfl ?_
    refine WP.iloadN K 25 own_b20_24 rfl rfl ?_
    refine WP.callSN K 28 0 0 0 [(.ref g), (.int zf)] [] (hw _ (List.mem_of_getElem? (i := 129) rfl)) (hw _ (List.mem_of_getElem? (i := 130) rfl)) (hw _ (List.mem_of_getElem? (i := 3) rfl)) (hw _ (List.mem_of_getElem? (i := 131) rfl)) (by decide) own_pd_6 rfl rfl rfl (by decide) (by decide) (Nat.le_of_eq rfl) rfl own_b20_25 rfl rfl rfl (by decide) (by decide) (own_gapbytes l Z a0 hw n0 h g zf (P ++ encs as) (encs [] ++ Q) cc A_g (by rw [List.length_append]; exact hzf) (by simp only [List.length_append, encs_nil, List.length_nil]; omega)) (r1_next fun r6 h4 q5 => ?_)
    obtain ⟨⟨zb, rfl, hzb⟩, rfl⟩ := q5
    have hfb : (zf + zb).toInt = ((P.length + (encs as).length + el cc : Nat) : Int) := by rw [i32_add (by omega) (by omega)]; omega
    refine WP.istore K 30 [.val (.ref r), .val (.long id), .second, .val (.int zf), .val (.int zb), .unset] own_b20_28 rfl rfl ?_
    refine WP.iloadN K 31 own_b20_30 rfl rfl ?_
    refine WP.iload K 33 own_b20_31 rfl rfl ?_
    refine WP.iadd K 34 own_b20_33 rfl ?_
    refine WP.aloadN K 35 own_b20_34 rfl rfl rfl ?_
    refine WP.getfield K (host := "") 38 (Or.inl (hw _ (List.mem_of_getElem? (i := 58) rfl))) Via.refl Fe own_b20_35 rfl ?_
    refine WP.icmp_ne K 66 41 own_b20_38 (by decide) rfl (fun c38 => ?_) (fun c38 => ?_)
    · skip
      exfalso; omega
    · skip
      refine WP.aloadN K 42 own_b20_41 rfl rfl rfl ?_
      refine WP.dup K 43 own_b20_42 rfl rfl ?_
      refine WP.getfield K (host := "") 46 (Or.inl (hw _ (List.mem_of_getElem? (i := 33) rfl))) Via.refl Fl own_b20_43 rfl ?_
      refine WP.aloadN K 47 own_b20_46 rfl rfl rfl ?_
      refine WP.getfield K (host := "") 50 (Or.inl (hw _ (List.mem_of_getElem? (i := 29) rfl))) Via.refl Fg own_b20_47 rfl ?_
      refine WP.iloadN K 51 own_b20_50 rfl rfl ?_
      refine WP.callSN K 54 0 0 3 [(.ref g), (.int zf)] [(.long la), (.ref r)] (hw _ (List.mem_of_getElem? (i := 126) rfl)) (hw _ (List.mem_of_getElem? (i := 127) rfl)) (hw _ (List.mem_of_getElem? (i := 3) rfl)) (hw _ (List.mem_of_getElem? (i := 128) rfl)) (by decide) own_pd_5 rfl rfl rfl (by decide) (by decide) (Nat.le_of_eq rfl) rfl own_b20_51 rfl rfl rfl (by decide) (by decide) (own_gap l Z a0 hw n0 h g zf (P ++ encs as) (encs [] ++ Q) cc A_g (by rw [List.length_append]; exact hzf) (by simp only [List.length_append, encs_nil, List.length_nil]; omega) (by omega)) (r1_next fun r9 h7 q8 => ?_)
      obtain ⟨⟨zg, rfl, hzg⟩, rfl⟩ := q8
      refine WP.lsub K 55 own_b20_54 rfl ?_
      refine WP.putfield K (host := "") (a := r) 58 (Or.inl (hw _ (List.mem_of_getElem? (i := 33) rfl))) Via.refl Fl Ex (Or.inl (hw _ (List.mem_of_getElem? (i := 34) rfl))) (hw _ (List.mem_of_getElem? (i := 21) rfl)) (ty := .long) (by decide) rfl rfl own_b20_55 rfl n0_r (fun h10 W11 => ?_)
      have Ex := Ex.wr W11
      have Ff := Ff.other W11 (Or.inr (slot_ne (Or.inl (hw _ (List.mem_of_getElem? (i := 32) rfl))) (Or.inl (hw _ (List.mem_of_getElem? (i := 34) rfl))) (by decide) (t := .long) (t' := .long) (by decide) (by decide)))
      have Fl := Fl.same W11
      have Fg := Fg.other W11 (Or.inr (slot_ne (Or.inl (hw _ (List.mem_of_getElem? (i := 30) rfl))) (Or.inl (hw _ (List.mem_of_getElem? (i := 34) rfl))) (by decide) (t := (.array .byte)) (t' := .long) (by decide) (by decide)))
      have Fs := Fs.other W11 (Or.inr (slot_ne (Or.inl (hw _ (List.mem_of_getElem? (i := 61) rfl))) (Or.inl (hw _ (List.mem_of_getElem? (i := 34) rfl))) (by decide) (t := .int) (t' := .long) (by decide) (by decide)))
      have Fe := Fe.other W11 (Or.inr (slot_ne (Or.inl (hw _ (List.mem_of_getElem? (i := 59) rfl))) (Or.inl (hw _ (List.mem_of_getElem? (i := 34) rfl))) (by decide) (t := .int) (t' := .long) (by decide) (by decide)))
      have A_g := A_g.other W11 (ne_addr (by omega))
      have Kp := Kp.wr W11 (Or.inl (by simp))
      refine WP.aloadN K 59 own_b20_58 rfl rfl rfl ?_
      refine WP.iloadN K 60 own_b20_59 rfl rfl ?_
      refine WP.putfield K (host := "") (a := r) 63 (Or.inl (hw _ (List.mem_of_getElem? (i := 58) rfl))) Via.refl Fe Ex (Or.inl (hw _ (List.mem_of_getElem? (i := 59) rfl))) (hw _ (List.mem_of_getElem? (i := 21) rfl)) (ty := .int) (by decide) rfl rfl own_b20_60 rfl n0_r (fun h12 W13 => ?_)
      have Ex := Ex.wr W13
      have Ff := Ff.other W13 (Or.inr (slot_ne (Or.inl (hw _ (List.mem_of_getElem? (i := 32) rfl))) (Or.inl (hw _ (List.mem_of_getElem? (i := 59) rfl))) (by decide) (t := .long) (t' := .int) (by decide) (by decide)))
      have Fl := Fl.other W13 (Or.inr (slot_ne (Or.inl (hw _ (List.mem_of_getElem? (i := 34) rfl))) (Or.inl (hw _ (List.mem_of_getElem? (i := 59) rfl))) (by decide) (t := .long) (t' := .int) (by decide) (by decide)))
      have Fg := Fg.other W13 (Or.inr (slot_ne (Or.inl (hw _ (List.mem_of_getElem? (i := 30) rfl))) (Or.inl (hw _ (List.mem_of_getElem? (i := 59) rfl))) (by decide) (t := (.array .byte)) (t' := .int) (by decide) (by decide)))
      have Fs := Fs.other W13 (Or.inr (slot_ne (Or.inl (hw _ (List.mem_of_getElem? (i := 61) rfl))) (Or.inl (hw _ (List.mem_of_getElem? (i := 59) rfl))) (by decide) (t := .int) (t' := .int) (by decide) (by decide)))
      have Fe := Fe.same W13
      have A_g := A_g.other W13 (ne_addr (by omega))
      have Kp := Kp.wr W13 (Or.inl (by simp))
      refine WP.goto K 110 own_b20_63 (by decide) ?_
      refine WP.iconst K (1 : Int32) 111 own_b20_110 rfl rfl ?_
      refine WP.iret K rfl (Or.inr (Or.inl rfl)) rfl own_b20_111 ?_ (by decide) (by decide)
      refine ⟨_, rfl, rfl, g, ⟨f, la - zg, P, enc cc ++ Q, ⟨st, zf, Ex, Ff, Fl, Fg, Fs, Fe, ?_, hst, hzf, ?_, n0_r, hrg, ?_⟩, hf, ?_, fun x hx => hgp_ x (by simp [hx])⟩, Kp, Or.inl rfl⟩
      · simpa [encs_nil] using A_g
      · rw [List.length_append]
        have : (enc cc).length = el cc := rfl
        omega
      · rw [List.length_append]
        have : (enc cc).length = el cc := rfl
        omega
      · rw [i64_sub (by omega) (by omega)]; omega
  · skip
    exfalso; omega
set_option maxRecDepth 65536 in
set_option maxHeartbeats 40000000 in
theorem own_removeM (l : Launch) (Z : State) (a0 : Array Value) (hw : ∀ d ∈ tables_1, d.before a0 Z = true) (n0 : Nat) (h : Heap) (r g : Nat) (F : Nat) (as : List Nat) (cc e : Nat) (bs : List Nat) (H : RI Z h n0 r g F (as ++ cc :: e :: bs)) (id : Int64) (hid : id.toInt = ((F + as.sum + cc : Nat) : Int)) (hb : (encs (as ++ cc :: e :: bs)).length ≤ 27) (Z0 : n0 ≤ h.size) :
    Con l Z (⟨"com/example/highwater/highwater/MessageIndex$Run", "remove", "(J)Z"⟩ : MethodName) prog_9_method_9_code 6 (some .boolean) ({ frames := 4, cells := 1, slots := 54, locals := 66 } : Room) n0 #[(.ref r), (.long id)] h (R1 fun v h' => v = .int 1 ∧ ∃ g', RI Z h' n0 r g' F (as ++ (cc + e) :: bs) ∧ Keep h h' [r, g] ∧ (g' = g ∨ h.size ≤ g')) := by
  refine Con.of (ls := [.val (.ref r), .val (.long id), .second, .unset, .unset, .unset]) own_pf_b20 (fun m => by first | (simp [entryFrame, mkF, argsToLocals, Value.category]; done) | rfl) fun k K => ?_
  have kL_0 : (0 : Int64).toInt = 0 := rfl
  have k_1 : (1 : Int32).toInt = 1 := rfl
  obtain ⟨f, la, P, Q, HB, hf, hla, hgp_⟩ := H
  have HB0 := HB
  obtain ⟨st, en, Ex, Ff, Fl, Fg, Fs, Fe, A_g, hst, hen, hng, n0_r, hrg, hlen⟩ := HB
  have l_r : @LT.lt Nat _ r h.size := Ff.lt
  have l_g : @LT.lt Nat _ g h.size := A_g.lt
  have hc1 := hgp_ cc (by simp)
  have hpc := el_pos cc
  have l1 := i64_rng la
  have hfa := fnd_at as F cc (e :: bs) (fun x hx => hgp_ x (by simp [hx])) hc1 hid
  have eS : P ++ encs (as ++ cc :: (e :: bs)) ++ Q = (P ++ encs as) ++ enc cc ++ (encs (e :: bs) ++ Q) := by rw [encs_app, encs_cons]; simp only [List.append_assoc]
  have eL : (encs (as ++ cc :: (e :: bs))).length = (encs as).length + el cc + (encs (e :: bs)).length := by rw [encs_app, encs_cons, List.length_append, List.length_append, ← Nat.add_assoc]; rfl
  rw [eL] at hen hlen hng hb
  rw [eS] at A_g
  have he1 := hgp_ e (by simp)
  have hpe := el_pos e
  rw [encs_len] at hen hlen hng hb
  have hsum : (as ++ cc :: e :: bs).sum = as.sum + (cc + (e + bs.sum)) := by rw [List.sum_append, List.sum_cons, List.sum_cons]
  have eS2 : (P ++ encs as) ++ enc cc ++ (encs (e :: bs) ++ Q) = (P ++ encs as ++ enc cc) ++ enc e ++ (encs bs ++ Q) := by rw [encs_cons]; simp only [List.append_assoc]
  have A_g2_ := A_g
  rw [eS2] at A_g2_
  have Kp := Keep.refl h [r, g]
  refine WP.lloadN K 1 own_b20_0 rfl rfl ?_
  refine WP.aloadN K 2 own_b20_1 rfl rfl rfl ?_
  refine WP.getfield K (host := "") 5 (Or.inl (hw _ (List.mem_of_getElem? (i := 31) rfl))) Via.refl Ff own_b20_2 rfl ?_
  refine WP.lcmp K 6 own_b20_5 rfl ?_
  refine WP.ifl_ne K 14 9 own_b20_6 (by decide) rfl (fun c6 => ?_) (fun c6 => ?_)
  · skip
    refine WP.aloadN K 15 own_b20_14 rfl rfl rfl ?_
    refine WP.lloadN K 16 own_b20_15 rfl rfl ?_
    refine WP.callP K (a := r) (C := "com/example/highwater/highwater/MessageIndex$Run") 19 0 0 0 [(.long id)] [] (hw _ (List.mem_of_getElem? (i := 137) rfl)) (hw _ (List.mem_of_getElem? (i := 138) rfl)) (u := (⟨"com/example/highwater/highwater/MessageIndex$Run", "hasRoom", "()Z"⟩ : MethodName)) rfl (hw _ (List.mem_of_getElem? (i := 56) rfl)) (hw _ (List.mem_of_getElem? (i := 139) rfl)) (hw _ (List.mem_of_getElem? (i := 22) rfl)) (hw _ (List.mem_of_getElem? (i := 140) rfl)) (by decide) own_pd_1 rfl rfl rfl (by decide) (by decide) (Nat.le_of_eq rfl) rfl own_b20_16 rfl rfl rfl (by decide) (by decide) Ex (own_find l Z a0 hw n0 h r g F (as ++ cc :: e :: bs) f la P Q HB0 hf hla hgp_ id) (r1_next fun r3 h1 q2 => ?_)
    obtain ⟨⟨zf, rfl, hzf⟩, rfl⟩ := q2
    have hzf : zf.toInt = ((P.length + (encs as).length : Nat) : Int) := by
      rcases hzf with ⟨n, q1, q2⟩ | ⟨q1, -⟩
      · rw [hfa] at q1; cases q1; exact q2
      · rw [hfa] at q1; cases q1
    refine WP.istoreN K 20 [.val (.ref r), .val (.long id), .second, .val (.int zf), .unset, .unset] own_b20_19 rfl rfl ?_
    refine WP.aloadN K 21 own_b20_20 rfl rfl rfl ?_
    refine WP.getfield K (host := "") 24 (Or.inl (hw _ (List.mem_of_getElem? (i := 29) rfl))) Via.refl Fg own_b20_21 rfl ?_
    refine WP.iloadN K 25 own_b20_24 rfl rfl ?_
    refine WP.callSN K 28 0 0 0 [(.ref g), (.int zf)] [] (hw _ (List.mem_of_getElem? (i := 129) rfl)) (hw _ (List.mem_of_getElem? (i := 130) rfl)) (hw _ (List.mem_of_getElem? (i := 3) rfl)) (hw _ (List.mem_of_getElem? (i := 131) rfl)) (by decide) own_pd_6 rfl rfl rfl (by decide) (by decide) (Nat.le_of_eq rfl) rfl own_b20_25 rfl rfl rfl (by decide) (by decide) (own_gapbytes l Z a0 hw n0 h g zf (P ++ encs as) (encs (e :: bs) ++ Q) cc A_g (by rw [List.length_append]; exact hzf) (by simp only [List.length_append, encs_len]; omega)) (r1_next fun r6 h4 q5 => ?_)
    obtain ⟨⟨zb, rfl, hzb⟩, rfl⟩ := q5
    have hfb : (zf + zb).toInt = ((P.length + (encs as).length + el cc : Nat) : Int) := by rw [i32_add (by omega) (by omega)]; omega
    refine WP.istore K 30 [.val (.ref r), .val (.long id), .second, .val (.int zf), .val (.int zb), .unset] own_b20_28 rfl rfl ?_
    refine WP.iloadN K 31 own_b20_30 rfl rfl ?_
    refine WP.iload K 33 own_b20_31 rfl rfl ?_
    refine WP.iadd K 34 own_b20_33 rfl ?_
    refine WP.aloadN K 35 own_b20_34 rfl rfl rfl ?_
    refine WP.getfield K (host := "") 38 (Or.inl (hw _ (List.mem_of_getElem? (i := 58) rfl))) Via.refl Fe own_b20_35 rfl ?_
    refine WP.icmp_ne K 66 41 own_b20_38 (by decide) rfl (fun c38 => ?_) (fun c38 => ?_)
    · skip
      refine WP.aloadN K 67 own_b20_66 rfl rfl rfl ?_
      refine WP.getfield K (host := "") 70 (Or.inl (hw _ (List.mem_of_getElem? (i := 29) rfl))) Via.refl Fg own_b20_67 rfl ?_
      refine WP.iloadN K 71 own_b20_70 rfl rfl ?_
      refine WP.iload K 73 own_b20_71 rfl rfl ?_
      refine WP.iadd K 74 own_b20_73 rfl ?_
      refine WP.callSN K 77 0 0 0 [(.ref g), (.int (zf + zb))] [] (hw _ (List.mem_of_getElem? (i := 129) rfl)) (hw _ (List.mem_of_getElem? (i := 130) rfl)) (hw _ (List.mem_of_getElem? (i := 3) rfl)) (hw _ (List.mem_of_getElem? (i := 131) rfl)) (by decide) own_pd_6 rfl rfl rfl (by decide) (by decide) (Nat.le_of_eq rfl) rfl own_b20_74 rfl rfl rfl (by decide) (by decide) (own_gapbytes l Z a0 hw n0 h g (zf + zb) (P ++ encs as ++ enc cc) (encs bs ++ Q) e A_g2_ (by rw [hfb, List.length_append, List.length_append]; rfl) (by simp only [List.length_append]; have : (enc cc).length = el cc := rfl; omega)) (r1_next fun r9 h7 q8 => ?_)
      obtain ⟨⟨ze, rfl, hze⟩, rfl⟩ := q8
      refine WP.istore K 79 [.val (.ref r), .val (.long id), .second, .val (.int zf), .val (.int zb), .val (.int ze)] own_b20_77 rfl rfl ?_
      refine WP.aloadN K 80 own_b20_79 rfl rfl rfl ?_
      refine WP.iloadN K 81 own_b20_80 rfl rfl ?_
      refine WP.iload K 83 own_b20_81 rfl rfl ?_
      refine WP.iload K 85 own_b20_83 rfl rfl ?_
      refine WP.iadd K 86 own_b20_85 rfl ?_
      refine WP.aloadN K 87 own_b20_86 rfl rfl rfl ?_
      refine WP.getfield K (host := "") 90 (Or.inl (hw _ (List.mem_of_getElem? (i := 29) rfl))) Via.refl Fg own_b20_87 rfl ?_
      refine WP.iloadN K 91 own_b20_90 rfl rfl ?_
      refine WP.callSN K 94 0 0 3 [(.ref g), (.int zf)] [(.int (zb + ze)), (.int zf), (.ref r)] (hw _ (List.mem_of_getElem? (i := 126) rfl)) (hw _ (List.mem_of_getElem? (i := 127) rfl)) (hw _ (List.mem_of_getElem? (i := 3) rfl)) (hw _ (List.mem_of_getElem? (i := 128) rfl)) (by decide) own_pd_5 rfl rfl rfl (by decide) (by decide) (Nat.le_of_eq rfl) rfl own_b20_91 rfl rfl rfl (by decide) (by decide) (own_gap l Z a0 hw n0 h g zf (P ++ encs as) (encs (e :: bs) ++ Q) cc A_g (by rw [List.length_append]; exact hzf) (by simp only [List.length_append, encs_len]; omega) (by omega)) (r1_next fun r12 h10 q11 => ?_)
      obtain ⟨⟨zg, rfl, hzg⟩, rfl⟩ := q11
      refine WP.aloadN K 95 own_b20_94 rfl rfl rfl ?_
      refine WP.getfield K (host := "") 98 (Or.inl (hw _ (List.mem_of_getElem? (i := 29) rfl))) Via.refl Fg own_b20_95 rfl ?_
      refine WP.iloadN K 99 own_b20_98 rfl rfl ?_
      refine WP.iload K 101 own_b20_99 rfl rfl ?_
      refine WP.iadd K 102 own_b20_101 rfl ?_
      refine WP.callSN K 105 0 0 5 [(.ref g), (.int (zf + zb))] [(.long zg), (.int (zb + ze)), (.int zf), (.ref r)] (hw _ (List.mem_of_getElem? (i := 126) rfl)) (hw _ (List.mem_of_getElem? (i := 127) rfl)) (hw _ (List.mem_of_getElem? (i := 3) rfl)) (hw _ (List.mem_of_getElem? (i := 128) rfl)) (by decide) own_pd_5 rfl rfl rfl (by decide) (by decide) (Nat.le_of_eq rfl) rfl own_b20_102 rfl rfl rfl (by decide) (by decide) (own_gap l Z a0 hw n0 h g (zf + zb) (P ++ encs as ++ enc cc) (encs bs ++ Q) e A_g2_ (by rw [hfb, List.length_append, List.length_append]; rfl) (by simp only [List.length_append]; have : (enc cc).length = el cc := rfl; omega) (by omega)) (r1_next fun r15 h13 q14 => ?_)
      obtain ⟨⟨zh, rfl, hzh⟩, rfl⟩ := q14
      refine WP.ladd K 106 own_b20_105 rfl ?_
      refine WP.lconst K (0 : Int64) 107 own_b20_106 rfl rfl ?_
      have e1 : (zg + zh).toInt = ((cc + e : Nat) : Int) := by rw [i64_add (by omega) (by omega)]; omega
      have e2 : (zb + ze).toInt = ((enc cc ++ enc e).length : Nat) := by
        rw [i32_add (by omega) (by omega), List.length_append]
        have : (enc cc).length = el cc := rfl
        have : (enc e).length = el e := rfl
        omega
      have hadd := el_add cc e
      refine WP.callP K (a := r) (C := "com/example/highwater/highwater/MessageIndex$Run") 110 1 54 0 [(.int zf), (.int (zb + ze)), (.long (zg + zh)), (.long (0 : Int64))] [] (hw _ (List.mem_of_getElem? (i := 67) rfl)) (hw _ (List.mem_of_getElem? (i := 68) rfl)) (u := (⟨"com/example/highwater/highwater/MessageIndex$Run", "hasRoom", "()Z"⟩ : MethodName)) rfl (hw _ (List.mem_of_getElem? (i := 56) rfl)) (hw _ (List.mem_of_getElem? (i := 69) rfl)) (hw _ (List.mem_of_getElem? (i := 22) rfl)) (hw _ (List.mem_of_getElem? (i := 70) rfl)) (by decide) own_pd_4 rfl rfl rfl (by decide) (by decide) (Nat.le_of_eq rfl) rfl own_b20_107 rfl rfl rfl (by decide) (by decide) Ex (own_splice l Z a0 hw n0 h r g zf (zb + ze) (zg + zh) (0 : Int64) f la P (encs as) (enc cc ++ enc e) (encs bs) Q (cc + e) 0 (by have := HB0; rw [encs_app, encs_cons, encs_cons] at this; simpa using this) hzf e2 e1 (by omega) rfl (by rw [el0_zero]; omega) Z0) (r0_next fun h16 q17 => ?_)
      obtain ⟨g2, P2, Q2, HB2, Kq, hg2⟩ := q17
      obtain ⟨st2, en2, Ex, Ff, Fl, Fg, Fs, Fe, A_g2, hst2, hen2, hng2, n0_r, hrg2, hlen2⟩ := HB2
      refine WP.iconst K (1 : Int32) 111 own_b20_110 rfl rfl ?_
      refine WP.iret K rfl (Or.inr (Or.inl rfl)) rfl own_b20_111 ?_ (by decide) (by decide)
      have eE : encs (as ++ (cc + e) :: bs) = encs as ++ (enc (cc + e) ++ enc0 0) ++ encs bs := by rw [encs_app, encs_cons, enc0_zero, List.append_nil]; simp only [List.append_assoc]
      rw [← eE] at A_g2 hen2 hlen2 hng2
      refine ⟨_, rfl, rfl, g2, ⟨f, la, P2, Q2, ⟨st2, en2, Ex, Ff, Fl, Fg, Fs, Fe, A_g2, hst2, hen2, hng2, n0_r, hrg2, hlen2⟩, hf, ?_, ?_⟩, Kq, hg2⟩
      · rw [hla, hsum, List.sum_append, List.sum_cons]; congr 1; omega
      · intro u hu
        simp only [List.mem_append, List.mem_cons] at hu
        rcases hu with hu | rfl | hu
        · exact hgp_ u (by simp [hu])
        · omega
        · exact hgp_ u (by simp [hu])
    · skip
      exfalso; omega
  · skip
    exfalso; omega
theorem own_b1_0 : decode prog_8_method_1_code 0 = .ok (.aload_n 0, 1) := by decide +kernel
theorem own_b1_1 : decode prog_8_method_1_code 1 = .ok (.invokespecial 1, 3) := by decide +kernel
theorem own_b1_4 : decode prog_8_method_1_code 4 = .ok (.aload_n 0, 1) := by decide +kernel
theorem own_b1_5 : decode prog_8_method_1_code 5 = .ok (.iconst 2, 1) := by decide +kernel
theorem own_b1_6 : decode prog_8_method_1_code 6 = .ok (.anewarray 7, 3) := by decide +kernel
theorem own_b1_9 : decode prog_8_method_1_code 9 = .ok (.putfield 9, 3) := by decide +kernel
theorem own_b1_12 : decode prog_8_method_1_code 12 = .ok (.return_, 1) := by decide +kernel
theorem own_pf_b1 : plainFor (⟨"com/example/highwater/highwater/MessageIndex", "<init>", "()V"⟩ : MethodName) = true := by first | exact plainFor_of_name (by first | (simp [plainName, overriddenIn, x]; done) | decide +kernel) | decide +kernel
set_option maxRecDepth 65536 in
set_option maxHeartbeats 40000000 in
theorem own_mctor (l : Launch) (Z : State) (a0 : Array Value) (hw : ∀ d ∈ tables_1, d.before a0 Z = true) (n0 : Nat) (h : Heap) (m no : Nat) (Em : Exa Z h m "com/example/highwater/highwater/MessageIndex") (v0 : Value) (Fr : Fld Z h m "com/example/highwater/highwater/MessageIndex" "runs" "[Lcom/example/highwater/highwater/MessageIndex$Run;" v0) (Fh : Fld Z h m "com/example/highwater/highwater/MessageIndex" "head" "I" (.int (0 : Int32))) (Fc : Fld Z h m "com/example/highwater/highwater/MessageIndex" "count" "I" (.int (0 : Int32))) (Fz : Fld Z h m "com/example/highwater/highwater/MessageIndex" "size" "I" (.int (0 : Int32))) (n0_m : n0 ≤ m) (Z0 : n0 ≤ h.size) (SN : Sta Z h "com/example/highwater/highwater/MessageIndex" "NO_GAPS" "[B" (.ref no)) (A_no : ArB Z h no []) (hno : no < m) :
    Con l Z (⟨"com/example/highwater/highwater/MessageIndex", "<init>", "()V"⟩ : MethodName) prog_8_method_1_code 1 none ({ frames := 1, cells := 1, slots := 2, locals := 12 } : Room) n0 #[(.ref m)] h (R0 fun h' => MF Z h' n0 m ∧ Sta Z h' "com/example/highwater/highwater/MessageIndex" "NO_GAPS" "[B" (.ref no) ∧ ArB Z h' no []) := by
  refine Con.of (ls := [.val (.ref m)]) own_pf_b1 (fun m => by first | (simp [entryFrame, mkF, argsToLocals, Value.category]; done) | rfl) fun k K => ?_
  have k_2 : (2 : Int32).toInt = 2 := rfl
  refine WP.aloadN K 1 own_b1_0 rfl rfl rfl ?_
  refine WP.initO K 4 0 (hw _ (List.mem_of_getElem? (i := 7) rfl)) (hw _ (List.mem_of_getElem? (i := 8) rfl)) (hw _ (List.mem_of_getElem? (i := 9) rfl)) own_b1_1 rfl rfl (by decide) (Nat.le_of_eq rfl) (by decide) ?_
  refine WP.aloadN K 5 own_b1_4 rfl rfl rfl ?_
  refine WP.iconst K (2 : Int32) 6 own_b1_5 rfl rfl ?_
  refine WP.anewarrayO K 9 2 2 1 2 (C := "com/example/highwater/highwater/MessageIndex$Run") (hw _ (List.mem_of_getElem? (i := 10) rfl)) (hw _ (List.mem_of_getElem? (i := 11) rfl)) own_b1_6 rfl rfl (Nat.le_refl _) (by decide) rfl rfl (by decide) (by decide) (fun h1 ra z_ra E2 R_ra => ?_)
  have l_m_ra : @LT.lt Nat _ m ra := z_ra ▸ Em.lt
  have l_no_ra : @LT.lt Nat _ no ra := z_ra ▸ A_no.lt
  have n0_ra : @LE.le Nat _ n0 ra := z_ra ▸ Z0
  have Z0 : n0 ≤ (h1).size := Nat.le_trans Z0 E2.1
  have Em := Em.ext E2
  have Fr := Fr.ext E2
  have Fh := Fh.ext E2
  have Fc := Fc.ext E2
  have Fz := Fz.ext E2
  have SN := SN.ext E2
  have A_no := A_no.ext E2
  have R_ra : ArR Z h1 ra (.object "com/example/highwater/highwater/MessageIndex$Run") "com/example/highwater/highwater/MessageIndex$Run" [.null, .null] := R_ra
  refine WP.putfield K (host := "") (a := m) 12 (Or.inl (hw _ (List.mem_of_getElem? (i := 12) rfl))) Via.refl Fr Em (Or.inl (hw _ (List.mem_of_getElem? (i := 13) rfl))) (hw _ (List.mem_of_getElem? (i := 2) rfl)) (ty := (.array (.object "com/example/highwater/highwater/MessageIndex$Run"))) (by decide) rfl rfl own_b1_9 rfl n0_m (fun h3 W4 => ?_)
  have Z0 : n0 ≤ (h3).size := by rw [W4.size]; exact Z0
  have Em := Em.wr W4
  have Fr := Fr.same W4
  have Fh := Fh.other W4 (Or.inr (slot_ne (Or.inl (hw _ (List.mem_of_getElem? (i := 40) rfl))) (Or.inl (hw _ (List.mem_of_getElem? (i := 13) rfl))) (by decide) (t := .int) (t' := (.array (.object "com/example/highwater/highwater/MessageIndex$Run"))) (by decide) (by decide)))
  have Fc := Fc.other W4 (Or.inr (slot_ne (Or.inl (hw _ (List.mem_of_getElem? (i := 20) rfl))) (Or.inl (hw _ (List.mem_of_getElem? (i := 13) rfl))) (by decide) (t := .int) (t' := (.array (.object "com/example/highwater/highwater/MessageIndex$Run"))) (by decide) (by decide)))
  have Fz := Fz.other W4 (Or.inr (slot_ne (Or.inl (hw _ (List.mem_of_getElem? (i := 47) rfl))) (Or.inl (hw _ (List.mem_of_getElem? (i := 13) rfl))) (by decide) (t := .int) (t' := (.array (.object "com/example/highwater/highwater/MessageIndex$Run"))) (by decide) (by decide)))
  have SN := SN.wr W4
  have A_no := A_no.other W4 (ne_addr (by omega))
  have R_ra := R_ra.other W4 (ne_addr (by omega))
  refine WP.retV K rfl own_b1_12 ?_ (by decide) (by decide)
  exact ⟨rfl, ⟨ra, Em, Fr, Fh, Fc, Fz, R_ra, n0_m, n0_ra, Z0, by omega⟩, SN, A_no⟩
theorem own_b4_0 : decode prog_9_method_1_code 0 = .ok (.aload_n 0, 1) := by decide +kernel
theorem own_b4_1 : decode prog_9_method_1_code 1 = .ok (.invokespecial 3, 3) := by decide +kernel
theorem own_b4_4 : decode prog_9_method_1_code 4 = .ok (.aload_n 0, 1) := by decide +kernel
theorem own_b4_5 : decode prog_9_method_1_code 5 = .ok (.getstatic 9, 3) := by decide +kernel
theorem own_b4_8 : decode prog_9_method_1_code 8 = .ok (.putfield 13, 3) := by decide +kernel
theorem own_b4_11 : decode prog_9_method_1_code 11 = .ok (.aload_n 0, 1) := by decide +kernel
theorem own_b4_12 : decode prog_9_method_1_code 12 = .ok (.lload_n 1, 1) := by decide +kernel
theorem own_b4_13 : decode prog_9_method_1_code 13 = .ok (.putfield 18, 3) := by decide +kernel
theorem own_b4_16 : decode prog_9_method_1_code 16 = .ok (.aload_n 0, 1) := by decide +kernel
theorem own_b4_17 : decode prog_9_method_1_code 17 = .ok (.lload_n 1, 1) := by decide +kernel
theorem own_b4_18 : decode prog_9_method_1_code 18 = .ok (.putfield 22, 3) := by decide +kernel
theorem own_b4_21 : decode prog_9_method_1_code 21 = .ok (.return_, 1) := by decide +kernel
theorem own_pf_b4 : plainFor (⟨"com/example/highwater/highwater/MessageIndex$Run", "<init>", "(J)V"⟩ : MethodName) = true := by first | exact plainFor_of_name (by first | (simp [plainName, overriddenIn, x]; done) | decide +kernel) | decide +kernel
set_option maxRecDepth 65536 in
set_option maxHeartbeats 40000000 in
theorem own_rctor (l : Launch) (Z : State) (a0 : Array Value) (hw : ∀ d ∈ tables_1, d.before a0 Z = true) (n0 : Nat) (h : Heap) (r no : Nat) (id : Int64) (F : Nat) (hid : id.toInt = (F : Nat)) (Ex : Exa Z h r "com/example/highwater/highwater/MessageIndex$Run") (v1 v2 v3 : Value) (Ff : Fld Z h r "com/example/highwater/highwater/MessageIndex$Run" "first" "J" v1) (Fl : Fld Z h r "com/example/highwater/highwater/MessageIndex$Run" "last" "J" v2) (Fg : Fld Z h r "com/example/highwater/highwater/MessageIndex$Run" "gaps" "[B" v3) (Fs : Fld Z h r "com/example/highwater/highwater/MessageIndex$Run" "start" "I" (.int (0 : Int32))) (Fe : Fld Z h r "com/example/highwater/highwater/MessageIndex$Run" "end" "I" (.int (0 : Int32))) (n0_r : n0 ≤ r) (SN : Sta Z h "com/example/highwater/highwater/MessageIndex" "NO_GAPS" "[B" (.ref no)) (A_no : ArB Z h no []) (hno : no < r) :
    Con l Z (⟨"com/example/highwater/highwater/MessageIndex$Run", "<init>", "(J)V"⟩ : MethodName) prog_9_method_1_code 3 none ({ frames := 1, cells := 0, slots := 0, locals := 12 } : Room) n0 #[(.ref r), (.long id)] h (R0 fun h' => RI Z h' n0 r no F [] ∧ Keep h h' [r]) := by
  refine Con.of (ls := [.val (.ref r), .val (.long id), .second]) own_pf_b4 (fun m => by first | (simp [entryFrame, mkF, argsToLocals, Value.category]; done) | rfl) fun k K => ?_
  have Kp := Keep.refl h [r]
  refine WP.aloadN K 1 own_b4_0 rfl rfl rfl ?_
  refine WP.initO K 4 0 (hw _ (List.mem_of_getElem? (i := 26) rfl)) (hw _ (List.mem_of_getElem? (i := 8) rfl)) (hw _ (List.mem_of_getElem? (i := 9) rfl)) own_b4_1 rfl rfl (by decide) (Nat.le_of_eq rfl) (by decide) ?_
  refine WP.aloadN K 5 own_b4_4 rfl rfl rfl ?_
  refine WP.getstaticN K 8 (hw _ (List.mem_of_getElem? (i := 27) rfl)) Via.refl SN own_b4_5 rfl ?_
  refine WP.putfield K (host := "") (a := r) 11 (Or.inl (hw _ (List.mem_of_getElem? (i := 29) rfl))) Via.refl Fg Ex (Or.inl (hw _ (List.mem_of_getElem? (i := 30) rfl))) (hw _ (List.mem_of_getElem? (i := 21) rfl)) (ty := (.array .byte)) (by decide) rfl rfl own_b4_8 rfl n0_r (fun h1 W2 => ?_)
  have Kp := Kp.wr W2 (Or.inl (by simp))
  have Ex := Ex.wr W2
  have Ff := Ff.other W2 (Or.inr (slot_ne (Or.inl (hw _ (List.mem_of_getElem? (i := 32) rfl))) (Or.inl (hw _ (List.mem_of_getElem? (i := 30) rfl))) (by decide) (t := .long) (t' := (.array .byte)) (by decide) (by decide)))
  have Fl := Fl.other W2 (Or.inr (slot_ne (Or.inl (hw _ (List.mem_of_getElem? (i := 34) rfl))) (Or.inl (hw _ (List.mem_of_getElem? (i := 30) rfl))) (by decide) (t := .long) (t' := (.array .byte)) (by decide) (by decide)))
  have Fg := Fg.same W2
  have Fs := Fs.other W2 (Or.inr (slot_ne (Or.inl (hw _ (List.mem_of_getElem? (i := 61) rfl))) (Or.inl (hw _ (List.mem_of_getElem? (i := 30) rfl))) (by decide) (t := .int) (t' := (.array .byte)) (by decide) (by decide)))
  have Fe := Fe.other W2 (Or.inr (slot_ne (Or.inl (hw _ (List.mem_of_getElem? (i := 59) rfl))) (Or.inl (hw _ (List.mem_of_getElem? (i := 30) rfl))) (by decide) (t := .int) (t' := (.array .byte)) (by decide) (by decide)))
  have SN := SN.wr W2
  have A_no := A_no.other W2 (ne_addr (by omega))
  refine WP.aloadN K 12 own_b4_11 rfl rfl rfl ?_
  refine WP.lloadN K 13 own_b4_12 rfl rfl ?_
  refine WP.putfield K (host := "") (a := r) 16 (Or.inl (hw _ (List.mem_of_getElem? (i := 31) rfl))) Via.refl Ff Ex (Or.inl (hw _ (List.mem_of_getElem? (i := 32) rfl))) (hw _ (List.mem_of_getElem? (i := 21) rfl)) (ty := .long) (by decide) rfl rfl own_b4_13 rfl n0_r (fun h3 W4 => ?_)
  have Kp := Kp.wr W4 (Or.inl (by simp))
  have Ex := Ex.wr W4
  have Ff := Ff.same W4
  have Fl := Fl.other W4 (Or.inr (slot_ne (Or.inl (hw _ (List.mem_of_getElem? (i := 34) rfl))) (Or.inl (hw _ (List.mem_of_getElem? (i := 32) rfl))) (by decide) (t := .long) (t' := .long) (by decide) (by decide)))
  have Fg := Fg.other W4 (Or.inr (slot_ne (Or.inl (hw _ (List.mem_of_getElem? (i := 30) rfl))) (Or.inl (hw _ (List.mem_of_getElem? (i := 32) rfl))) (by decide) (t := (.array .byte)) (t' := .long) (by decide) (by decide)))
  have Fs := Fs.other W4 (Or.inr (slot_ne (Or.inl (hw _ (List.mem_of_getElem? (i := 61) rfl))) (Or.inl (hw _ (List.mem_of_getElem? (i := 32) rfl))) (by decide) (t := .int) (t' := .long) (by decide) (by decide)))
  have Fe := Fe.other W4 (Or.inr (slot_ne (Or.inl (hw _ (List.mem_of_getElem? (i := 59) rfl))) (Or.inl (hw _ (List.mem_of_getElem? (i := 32) rfl))) (by decide) (t := .int) (t' := .long) (by decide) (by decide)))
  have SN := SN.wr W4
  have A_no := A_no.other W4 (ne_addr (by omega))
  refine WP.aloadN K 17 own_b4_16 rfl rfl rfl ?_
  refine WP.lloadN K 18 own_b4_17 rfl rfl ?_
  refine WP.putfield K (host := "") (a := r) 21 (Or.inl (hw _ (List.mem_of_getElem? (i := 33) rfl))) Via.refl Fl Ex (Or.inl (hw _ (List.mem_of_getElem? (i := 34) rfl))) (hw _ (List.mem_of_getElem? (i := 21) rfl)) (ty := .long) (by decide) rfl rfl own_b4_18 rfl n0_r (fun h5 W6 => ?_)
  have Kp := Kp.wr W6 (Or.inl (by simp))
  have Ex := Ex.wr W6
  have Ff := Ff.other W6 (Or.inr (slot_ne (Or.inl (hw _ (List.mem_of_getElem? (i := 32) rfl))) (Or.inl (hw _ (List.mem_of_getElem? (i := 34) rfl))) (by decide) (t := .long) (t' := .long) (by decide) (by decide)))
  have Fl := Fl.same W6
  have Fg := Fg.other W6 (Or.inr (slot_ne (Or.inl (hw _ (List.mem_of_getElem? (i := 30) rfl))) (Or.inl (hw _ (List.mem_of_getElem? (i := 34) rfl))) (by decide) (t := (.array .byte)) (t' := .long) (by decide) (by decide)))
  have Fs := Fs.other W6 (Or.inr (slot_ne (Or.inl (hw _ (List.mem_of_getElem? (i := 61) rfl))) (Or.inl (hw _ (List.mem_of_getElem? (i := 34) rfl))) (by decide) (t := .int) (t' := .long) (by decide) (by decide)))
  have Fe := Fe.other W6 (Or.inr (slot_ne (Or.inl (hw _ (List.mem_of_getElem? (i := 59) rfl))) (Or.inl (hw _ (List.mem_of_getElem? (i := 34) rfl))) (by decide) (t := .int) (t' := .long) (by decide) (by decide)))
  have SN := SN.wr W6
  have A_no := A_no.other W6 (ne_addr (by omega))
  refine WP.retV K rfl own_b4_21 ?_ (by decide) (by decide)
  exact ⟨rfl, ⟨id, id, [], [], ⟨(0 : Int32), (0 : Int32), Ex, Ff, Fl, Fg, Fs, Fe, A_no, rfl, rfl, Or.inr rfl, n0_r, by omega, by decide⟩, hid, by simpa using hid, fun x hx => by cases hx⟩, Kp⟩
theorem own_b5_0 : decode prog_8_method_11_code 0 = .ok (.aload_n 0, 1) := by decide +kernel
theorem own_b5_1 : decode prog_8_method_11_code 1 = .ok (.getfield 87, 3) := by decide +kernel
theorem own_b5_4 : decode prog_8_method_11_code 4 = .ok (.aload_n 0, 1) := by decide +kernel
theorem own_b5_5 : decode prog_8_method_11_code 5 = .ok (.getfield 19, 3) := by decide +kernel
theorem own_b5_8 : decode prog_8_method_11_code 8 = .ok (.iadd, 1) := by decide +kernel
theorem own_b5_9 : decode prog_8_method_11_code 9 = .ok (.aload_n 0, 1) := by decide +kernel
theorem own_b5_10 : decode prog_8_method_11_code 10 = .ok (.getfield 9, 3) := by decide +kernel
theorem own_b5_13 : decode prog_8_method_11_code 13 = .ok (.arraylength, 1) := by decide +kernel
theorem own_b5_14 : decode prog_8_method_11_code 14 = .ok (.if_icmp .ne 92, 3) := by decide +kernel
theorem own_b5_17 : decode prog_8_method_11_code 17 = .ok (.aload_n 0, 1) := by decide +kernel
theorem own_b5_18 : decode prog_8_method_11_code 18 = .ok (.getfield 87, 3) := by decide +kernel
theorem own_b5_21 : decode prog_8_method_11_code 21 = .ok (.aload_n 0, 1) := by decide +kernel
theorem own_b5_22 : decode prog_8_method_11_code 22 = .ok (.getfield 9, 3) := by decide +kernel
theorem own_b5_25 : decode prog_8_method_11_code 25 = .ok (.arraylength, 1) := by decide +kernel
theorem own_b5_26 : decode prog_8_method_11_code 26 = .ok (.iconst 2, 1) := by decide +kernel
theorem own_b5_27 : decode prog_8_method_11_code 27 = .ok (.idiv, 1) := by decide +kernel
theorem own_b5_28 : decode prog_8_method_11_code 28 = .ok (.if_icmp .lt 43, 3) := by decide +kernel
theorem own_b5_31 : decode prog_8_method_11_code 31 = .ok (.aload_n 0, 1) := by decide +kernel
theorem own_b5_32 : decode prog_8_method_11_code 32 = .ok (.getfield 9, 3) := by decide +kernel
theorem own_b5_35 : decode prog_8_method_11_code 35 = .ok (.aload_n 0, 1) := by decide +kernel
theorem own_b5_36 : decode prog_8_method_11_code 36 = .ok (.getfield 87, 3) := by decide +kernel
theorem own_b5_39 : decode prog_8_method_11_code 39 = .ok (.aload_n 0, 1) := by decide +kernel
theorem own_b5_40 : decode prog_8_method_11_code 40 = .ok (.getfield 9, 3) := by decide +kernel
theorem own_b5_43 : decode prog_8_method_11_code 43 = .ok (.iconst 0, 1) := by decide +kernel
theorem own_b5_44 : decode prog_8_method_11_code 44 = .ok (.aload_n 0, 1) := by decide +kernel
theorem own_b5_45 : decode prog_8_method_11_code 45 = .ok (.getfield 19, 3) := by decide +kernel
theorem own_b5_48 : decode prog_8_method_11_code 48 = .ok (.invokestatic 90, 3) := by decide +kernel
theorem own_b5_51 : decode prog_8_method_11_code 51 = .ok (.aload_n 0, 1) := by decide +kernel
theorem own_b5_52 : decode prog_8_method_11_code 52 = .ok (.getfield 9, 3) := by decide +kernel
theorem own_b5_55 : decode prog_8_method_11_code 55 = .ok (.aload_n 0, 1) := by decide +kernel
theorem own_b5_56 : decode prog_8_method_11_code 56 = .ok (.getfield 19, 3) := by decide +kernel
theorem own_b5_59 : decode prog_8_method_11_code 59 = .ok (.aload_n 0, 1) := by decide +kernel
theorem own_b5_60 : decode prog_8_method_11_code 60 = .ok (.getfield 9, 3) := by decide +kernel
theorem own_b5_63 : decode prog_8_method_11_code 63 = .ok (.arraylength, 1) := by decide +kernel
theorem own_b5_64 : decode prog_8_method_11_code 64 = .ok (.aconst_null, 1) := by decide +kernel
theorem own_b5_65 : decode prog_8_method_11_code 65 = .ok (.invokestatic 96, 3) := by decide +kernel
theorem own_b5_68 : decode prog_8_method_11_code 68 = .ok (.goto 33, 3) := by decide +kernel
theorem own_b5_71 : decode prog_8_method_11_code 71 = .ok (.aload_n 0, 1) := by decide +kernel
theorem own_b5_72 : decode prog_8_method_11_code 72 = .ok (.aload_n 0, 1) := by decide +kernel
theorem own_b5_73 : decode prog_8_method_11_code 73 = .ok (.getfield 9, 3) := by decide +kernel
theorem own_b5_76 : decode prog_8_method_11_code 76 = .ok (.aload_n 0, 1) := by decide +kernel
theorem own_b5_77 : decode prog_8_method_11_code 77 = .ok (.getfield 87, 3) := by decide +kernel
theorem own_b5_80 : decode prog_8_method_11_code 80 = .ok (.aload_n 0, 1) := by decide +kernel
theorem own_b5_81 : decode prog_8_method_11_code 81 = .ok (.getfield 87, 3) := by decide +kernel
theorem own_b5_84 : decode prog_8_method_11_code 84 = .ok (.aload_n 0, 1) := by decide +kernel
theorem own_b5_85 : decode prog_8_method_11_code 85 = .ok (.getfield 9, 3) := by decide +kernel
theorem own_b5_88 : decode prog_8_method_11_code 88 = .ok (.arraylength, 1) := by decide +kernel
theorem own_b5_89 : decode prog_8_method_11_code 89 = .ok (.iconst 2, 1) := by decide +kernel
theorem own_b5_90 : decode prog_8_method_11_code 90 = .ok (.imul, 1) := by decide +kernel
theorem own_b5_91 : decode prog_8_method_11_code 91 = .ok (.iadd, 1) := by decide +kernel
theorem own_b5_92 : decode prog_8_method_11_code 92 = .ok (.invokestatic 102, 3) := by decide +kernel
theorem own_b5_95 : decode prog_8_method_11_code 95 = .ok (.checkcast 106, 3) := by decide +kernel
theorem own_b5_98 : decode prog_8_method_11_code 98 = .ok (.putfield 9, 3) := by decide +kernel
theorem own_b5_101 : decode prog_8_method_11_code 101 = .ok (.aload_n 0, 1) := by decide +kernel
theorem own_b5_102 : decode prog_8_method_11_code 102 = .ok (.iconst 0, 1) := by decide +kernel
theorem own_b5_103 : decode prog_8_method_11_code 103 = .ok (.putfield 87, 3) := by decide +kernel
theorem own_b5_106 : decode prog_8_method_11_code 106 = .ok (.aload_n 0, 1) := by decide +kernel
theorem own_b5_107 : decode prog_8_method_11_code 107 = .ok (.getfield 9, 3) := by decide +kernel
theorem own_b5_110 : decode prog_8_method_11_code 110 = .ok (.aload_n 0, 1) := by decide +kernel
theorem own_b5_111 : decode prog_8_method_11_code 111 = .ok (.getfield 87, 3) := by decide +kernel
theorem own_b5_114 : decode prog_8_method_11_code 114 = .ok (.iload_n 1, 1) := by decide +kernel
theorem own_b5_115 : decode prog_8_method_11_code 115 = .ok (.iadd, 1) := by decide +kernel
theorem own_b5_116 : decode prog_8_method_11_code 116 = .ok (.aload_n 0, 1) := by decide +kernel
theorem own_b5_117 : decode prog_8_method_11_code 117 = .ok (.getfield 9, 3) := by decide +kernel
theorem own_b5_120 : decode prog_8_method_11_code 120 = .ok (.aload_n 0, 1) := by decide +kernel
theorem own_b5_121 : decode prog_8_method_11_code 121 = .ok (.getfield 87, 3) := by decide +kernel
theorem own_b5_124 : decode prog_8_method_11_code 124 = .ok (.iload_n 1, 1) := by decide +kernel
theorem own_b5_125 : decode prog_8_method_11_code 125 = .ok (.iadd, 1) := by decide +kernel
theorem own_b5_126 : decode prog_8_method_11_code 126 = .ok (.iconst 1, 1) := by decide +kernel
theorem own_b5_127 : decode prog_8_method_11_code 127 = .ok (.iadd, 1) := by decide +kernel
theorem own_b5_128 : decode prog_8_method_11_code 128 = .ok (.aload_n 0, 1) := by decide +kernel
theorem own_b5_129 : decode prog_8_method_11_code 129 = .ok (.getfield 19, 3) := by decide +kernel
theorem own_b5_132 : decode prog_8_method_11_code 132 = .ok (.iload_n 1, 1) := by decide +kernel
theorem own_b5_133 : decode prog_8_method_11_code 133 = .ok (.isub, 1) := by decide +kernel
theorem own_b5_134 : decode prog_8_method_11_code 134 = .ok (.invokestatic 90, 3) := by decide +kernel
theorem own_b5_137 : decode prog_8_method_11_code 137 = .ok (.aload_n 0, 1) := by decide +kernel
theorem own_b5_138 : decode prog_8_method_11_code 138 = .ok (.getfield 9, 3) := by decide +kernel
theorem own_b5_141 : decode prog_8_method_11_code 141 = .ok (.aload_n 0, 1) := by decide +kernel
theorem own_b5_142 : decode prog_8_method_11_code 142 = .ok (.getfield 87, 3) := by decide +kernel
theorem own_b5_145 : decode prog_8_method_11_code 145 = .ok (.iload_n 1, 1) := by decide +kernel
theorem own_b5_146 : decode prog_8_method_11_code 146 = .ok (.iadd, 1) := by decide +kernel
theorem own_b5_147 : decode prog_8_method_11_code 147 = .ok (.aload_n 2, 1) := by decide +kernel
theorem own_b5_148 : decode prog_8_method_11_code 148 = .ok (.aastore, 1) := by decide +kernel
theorem own_b5_149 : decode prog_8_method_11_code 149 = .ok (.aload_n 0, 1) := by decide +kernel
theorem own_b5_150 : decode prog_8_method_11_code 150 = .ok (.dup, 1) := by decide +kernel
theorem own_b5_151 : decode prog_8_method_11_code 151 = .ok (.getfield 19, 3) := by decide +kernel
theorem own_b5_154 : decode prog_8_method_11_code 154 = .ok (.iconst 1, 1) := by decide +kernel
theorem own_b5_155 : decode prog_8_method_11_code 155 = .ok (.iadd, 1) := by decide +kernel
theorem own_b5_156 : decode prog_8_method_11_code 156 = .ok (.putfield 19, 3) := by decide +kernel
theorem own_b5_159 : decode prog_8_method_11_code 159 = .ok (.return_, 1) := by decide +kernel
theorem own_pf_b5 : plainFor (⟨"com/example/highwater/highwater/MessageIndex", "addRun", "(ILcom/example/highwater/highwater/MessageIndex$Run;)V"⟩ : MethodName) = true := by first | exact plainFor_of_name (by first | (simp [plainName, overriddenIn, x]; done) | decide +kernel) | decide +kernel
set_option maxRecDepth 65536 in
set_option maxHeartbeats 40000000 in
theorem own_addrun (l : Launch) (Z : State) (a0 : Array Value) (hw : ∀ d ∈ tables_1, d.before a0 Z = true) (n0 : Nat) (h : Heap) (m ra r : Nat) (sz : Int32) (Em : Exa Z h m "com/example/highwater/highwater/MessageIndex") (Fr : Fld Z h m "com/example/highwater/highwater/MessageIndex" "runs" "[Lcom/example/highwater/highwater/MessageIndex$Run;" (.ref ra)) (Fh : Fld Z h m "com/example/highwater/highwater/MessageIndex" "head" "I" (.int (0 : Int32))) (Fc : Fld Z h m "com/example/highwater/highwater/MessageIndex" "count" "I" (.int (0 : Int32))) (Fz : Fld Z h m "com/example/highwater/highwater/MessageIndex" "size" "I" (.int sz)) (R_ra : ArR Z h ra (.object "com/example/highwater/highwater/MessageIndex$Run") "com/example/highwater/highwater/MessageIndex$Run" [.null, .null]) (Ex : Exa Z h r "com/example/highwater/highwater/MessageIndex$Run") (n0_m : n0 ≤ m) (n0_ra : n0 ≤ ra) (d1 : m ≠ ra) :
    Con l Z (⟨"com/example/highwater/highwater/MessageIndex", "addRun", "(ILcom/example/highwater/highwater/MessageIndex$Run;)V"⟩ : MethodName) prog_8_method_11_code 3 none ({ frames := 1, cells := 0, slots := 0, locals := 22 } : Room) n0 #[(.ref m), (.int (0 : Int32)), (.ref r)] h (R0 fun h' => Exa Z h' m "com/example/highwater/highwater/MessageIndex" ∧ Fld Z h' m "com/example/highwater/highwater/MessageIndex" "runs" "[Lcom/example/highwater/highwater/MessageIndex$Run;" (.ref ra) ∧ Fld Z h' m "com/example/highwater/highwater/MessageIndex" "head" "I" (.int (0 : Int32)) ∧ Fld Z h' m "com/example/highwater/highwater/MessageIndex" "count" "I" (.int (1 : Int32)) ∧ Fld Z h' m "com/example/highwater/highwater/MessageIndex" "size" "I" (.int sz) ∧ ArR Z h' ra (.object "com/example/highwater/highwater/MessageIndex$Run") "com/example/highwater/highwater/MessageIndex$Run" [.ref r, .null] ∧ Keep h h' [m, ra]) := by
  refine Con.of (ls := [.val (.ref m), .val (.int (0 : Int32)), .val (.ref r)]) own_pf_b5 (fun m => by first | (simp [entryFrame, mkF, argsToLocals, Value.category]; done) | rfl) fun k K => ?_
  have k_0 : (0 : Int32).toInt = 0 := rfl
  have k_1 : (1 : Int32).toInt = 1 := rfl
  have k_2 : (2 : Int32).toInt = 2 := rfl
  have Kp := Keep.refl h [m, ra]
  refine WP.aloadN K 1 own_b5_0 rfl rfl rfl ?_
  refine WP.getfield K (host := "") 4 (Or.inl (hw _ (List.mem_of_getElem? (i := 39) rfl))) Via.refl Fh own_b5_1 rfl ?_
  refine WP.aloadN K 5 own_b5_4 rfl rfl rfl ?_
  refine WP.getfield K (host := "") 8 (Or.inl (hw _ (List.mem_of_getElem? (i := 19) rfl))) Via.refl Fc own_b5_5 rfl ?_
  refine WP.iadd K 9 own_b5_8 rfl ?_
  refine WP.aloadN K 10 own_b5_9 rfl rfl rfl ?_
  refine WP.getfield K (host := "") 13 (Or.inl (hw _ (List.mem_of_getElem? (i := 12) rfl))) Via.refl Fr own_b5_10 rfl ?_
  refine WP.arraylength K (2 : Int32) 14 R_ra.v rfl own_b5_13 rfl ?_
  refine WP.icmp_ne K 106 17 own_b5_14 (by decide) rfl (fun c14 => ?_) (fun c14 => ?_)
  · skip
    refine WP.aloadN K 107 own_b5_106 rfl rfl rfl ?_
    refine WP.getfield K (host := "") 110 (Or.inl (hw _ (List.mem_of_getElem? (i := 12) rfl))) Via.refl Fr own_b5_107 rfl ?_
    refine WP.aloadN K 111 own_b5_110 rfl rfl rfl ?_
    refine WP.getfield K (host := "") 114 (Or.inl (hw _ (List.mem_of_getElem? (i := 39) rfl))) Via.refl Fh own_b5_111 rfl ?_
    refine WP.iloadN K 115 own_b5_114 rfl rfl ?_
    refine WP.iadd K 116 own_b5_115 rfl ?_
    refine WP.aloadN K 117 own_b5_116 rfl rfl rfl ?_
    refine WP.getfield K (host := "") 120 (Or.inl (hw _ (List.mem_of_getElem? (i := 12) rfl))) Via.refl Fr own_b5_117 rfl ?_
    refine WP.aloadN K 121 own_b5_120 rfl rfl rfl ?_
    refine WP.getfield K (host := "") 124 (Or.inl (hw _ (List.mem_of_getElem? (i := 39) rfl))) Via.refl Fh own_b5_121 rfl ?_
    refine WP.iloadN K 125 own_b5_124 rfl rfl ?_
    refine WP.iadd K 126 own_b5_125 rfl ?_
    refine WP.iconst K (1 : Int32) 127 own_b5_126 rfl rfl ?_
    refine WP.iadd K 128 own_b5_127 rfl ?_
    refine WP.aloadN K 129 own_b5_128 rfl rfl rfl ?_
    refine WP.getfield K (host := "") 132 (Or.inl (hw _ (List.mem_of_getElem? (i := 19) rfl))) Via.refl Fc own_b5_129 rfl ?_
    refine WP.iloadN K 133 own_b5_132 rfl rfl ?_
    refine WP.isub K 134 own_b5_133 rfl ?_
    refine WP.acopyV K (a := ra) (b := ra) 137 0 0 1 0 (hw _ (List.mem_of_getElem? (i := 41) rfl)) (hw _ (List.mem_of_getElem? (i := 44) rfl)) (hw _ (List.mem_of_getElem? (i := 42) rfl)) (hw _ (List.mem_of_getElem? (i := 43) rfl)) R_ra.v R_ra.v (Or.inr ⟨rfl, rfl⟩) (by decide) (by decide) (by decide) (by decide) (by decide) n0_ra rfl (by decide) (Nat.le_of_eq rfl) (by decide) own_b5_134 rfl (fun h1 K2 B_ra => ?_)
    have R_ra : ArR Z h1 ra (.object "com/example/highwater/highwater/MessageIndex$Run") "com/example/highwater/highwater/MessageIndex$Run" [.null, .null] := ArR.re R_ra K2 B_ra
    have Em := Em.keep K2
    have Fr := Fr.keep K2 (nm1 (by omega))
    have Fh := Fh.keep K2 (nm1 (by omega))
    have Fc := Fc.keep K2 (nm1 (by omega))
    have Fz := Fz.keep K2 (nm1 (by omega))
    have Ex := Ex.keep K2
    have Kp := Kp.trans K2 (ks1 (by first | (refine Or.inl ?_; simp; done) | (refine Or.inr ?_; omega)))
    refine WP.aloadN K 138 own_b5_137 rfl rfl rfl ?_
    refine WP.getfield K (host := "") 141 (Or.inl (hw _ (List.mem_of_getElem? (i := 12) rfl))) Via.refl Fr own_b5_138 rfl ?_
    refine WP.aloadN K 142 own_b5_141 rfl rfl rfl ?_
    refine WP.getfield K (host := "") 145 (Or.inl (hw _ (List.mem_of_getElem? (i := 39) rfl))) Via.refl Fh own_b5_142 rfl ?_
    refine WP.iloadN K 146 own_b5_145 rfl rfl ?_
    refine WP.iadd K 147 own_b5_146 rfl ?_
    refine WP.aloadN K 148 own_b5_147 rfl rfl rfl ?_
    refine WP.aastore K 149 0 R_ra rfl (R_ra.sto (Ins.self Ex)) rfl (by decide) (by decide) own_b5_148 rfl n0_ra (fun h3 K4 R_ra => ?_)
    have Em := Em.keep K4
    have Fr := Fr.keep K4 (nm1 (by omega))
    have Fh := Fh.keep K4 (nm1 (by omega))
    have Fc := Fc.keep K4 (nm1 (by omega))
    have Fz := Fz.keep K4 (nm1 (by omega))
    have Ex := Ex.keep K4
    have Kp := Kp.trans K4 (ks1 (by first | (refine Or.inl ?_; simp; done) | (refine Or.inr ?_; omega)))
    have R_ra : ArR Z h3 ra (.object "com/example/highwater/highwater/MessageIndex$Run") "com/example/highwater/highwater/MessageIndex$Run" [.ref r, .null] := R_ra
    refine WP.aloadN K 150 own_b5_149 rfl rfl rfl ?_
    refine WP.dup K 151 own_b5_150 rfl rfl ?_
    refine WP.getfield K (host := "") 154 (Or.inl (hw _ (List.mem_of_getElem? (i := 19) rfl))) Via.refl Fc own_b5_151 rfl ?_
    refine WP.iconst K (1 : Int32) 155 own_b5_154 rfl rfl ?_
    refine WP.iadd K 156 own_b5_155 rfl ?_
    refine WP.putfield K (host := "") (a := m) 159 (Or.inl (hw _ (List.mem_of_getElem? (i := 19) rfl))) Via.refl Fc Em (Or.inl (hw _ (List.mem_of_getElem? (i := 20) rfl))) (hw _ (List.mem_of_getElem? (i := 2) rfl)) (ty := .int) (by decide) rfl rfl own_b5_156 rfl n0_m (fun h5 W6 => ?_)
    have Em := Em.wr W6
    have Fr := Fr.other W6 (Or.inr (slot_ne (Or.inl (hw _ (List.mem_of_getElem? (i := 13) rfl))) (Or.inl (hw _ (List.mem_of_getElem? (i := 20) rfl))) (by decide) (t := (.array (.object "com/example/highwater/highwater/MessageIndex$Run"))) (t' := .int) (by decide) (by decide)))
    have Fh := Fh.other W6 (Or.inr (slot_ne (Or.inl (hw _ (List.mem_of_getElem? (i := 40) rfl))) (Or.inl (hw _ (List.mem_of_getElem? (i := 20) rfl))) (by decide) (t := .int) (t' := .int) (by decide) (by decide)))
    have Fc := Fc.same W6
    have Fz := Fz.other W6 (Or.inr (slot_ne (Or.inl (hw _ (List.mem_of_getElem? (i := 47) rfl))) (Or.inl (hw _ (List.mem_of_getElem? (i := 20) rfl))) (by decide) (t := .int) (t' := .int) (by decide) (by decide)))
    have R_ra := R_ra.other W6 (ne_addr (by omega))
    have Ex := Ex.wr W6
    have Kp := Kp.wr W6 (Or.inl (by simp))
    refine WP.retV K rfl own_b5_159 ?_ (by decide) (by decide)
    exact ⟨rfl, Em, Fr, Fh, by rw [show (1 : Int32) = (0 : Int32) + (1 : Int32) from rfl]; exact Fc, Fz, R_ra, Kp⟩
  · skip
    exact absurd c14 (by decide)
theorem own_b6_0 : decode prog_8_method_9_code 0 = .ok (.aload_n 0, 1) := by decide +kernel
theorem own_b6_1 : decode prog_8_method_9_code 1 = .ok (.getfield 9, 3) := by decide +kernel
theorem own_b6_4 : decode prog_8_method_9_code 4 = .ok (.aload_n 0, 1) := by decide +kernel
theorem own_b6_5 : decode prog_8_method_9_code 5 = .ok (.getfield 87, 3) := by decide +kernel
theorem own_b6_8 : decode prog_8_method_9_code 8 = .ok (.iload_n 1, 1) := by decide +kernel
theorem own_b6_9 : decode prog_8_method_9_code 9 = .ok (.iadd, 1) := by decide +kernel
theorem own_b6_10 : decode prog_8_method_9_code 10 = .ok (.aaload, 1) := by decide +kernel
theorem own_b6_11 : decode prog_8_method_9_code 11 = .ok (.areturn, 1) := by decide +kernel
theorem own_pf_b6 : plainFor (⟨"com/example/highwater/highwater/MessageIndex", "run", "(I)Lcom/example/highwater/highwater/MessageIndex$Run;"⟩ : MethodName) = true := by first | exact plainFor_of_name (by first | (simp [plainName, overriddenIn, x]; done) | decide +kernel) | decide +kernel
set_option maxRecDepth 65536 in
set_option maxHeartbeats 40000000 in
theorem own_run (l : Launch) (Z : State) (a0 : Array Value) (hw : ∀ d ∈ tables_1, d.before a0 Z = true) (n0 : Nat) (h : Heap) (m ra r : Nat) (i : Int32) (hi : i.toInt = 0) (Fr : Fld Z h m "com/example/highwater/highwater/MessageIndex" "runs" "[Lcom/example/highwater/highwater/MessageIndex$Run;" (.ref ra)) (Fh : Fld Z h m "com/example/highwater/highwater/MessageIndex" "head" "I" (.int (0 : Int32))) (R_ra : ArR Z h ra (.object "com/example/highwater/highwater/MessageIndex$Run") "com/example/highwater/highwater/MessageIndex$Run" [.ref r, .null]) :
    Con l Z (⟨"com/example/highwater/highwater/MessageIndex", "run", "(I)Lcom/example/highwater/highwater/MessageIndex$Run;"⟩ : MethodName) prog_8_method_9_code 2 (some (.object "com/example/highwater/highwater/MessageIndex$Run")) ({ frames := 0, cells := 0, slots := 0, locals := 0 } : Room) n0 #[(.ref m), (.int i)] h (R1 fun v h' => v = .ref r ∧ h = h') := by
  refine Con.of (ls := [.val (.ref m), .val (.int i)]) own_pf_b6 (fun m => by first | (simp [entryFrame, mkF, argsToLocals, Value.category]; done) | rfl) fun k K => ?_
  have k_0 : (0 : Int32).toInt = 0 := rfl
  have e1 : ((0 : Int32) + i).toInt = ((0 : Nat) : Int) := by rw [i32_add (by omega) (by omega)]; omega
  refine WP.aloadN K 1 own_b6_0 rfl rfl rfl ?_
  refine WP.getfield K (host := "") 4 (Or.inl (hw _ (List.mem_of_getElem? (i := 12) rfl))) Via.refl Fr own_b6_1 rfl ?_
  refine WP.aloadN K 5 own_b6_4 rfl rfl rfl ?_
  refine WP.getfield K (host := "") 8 (Or.inl (hw _ (List.mem_of_getElem? (i := 39) rfl))) Via.refl Fh own_b6_5 rfl ?_
  refine WP.iloadN K 9 own_b6_8 rfl rfl ?_
  refine WP.iadd K 10 own_b6_9 rfl ?_
  refine WP.aaload K 11 0 R_ra.v rfl e1 rfl own_b6_10 rfl ?_
  refine WP.aret K rfl rfl rfl rfl own_b6_11 ?_ (by decide) (by decide)
  exact ⟨_, rfl, rfl, rfl⟩
theorem own_b18_0 : decode prog_8_method_10_code 0 = .ok (.iconst 0, 1) := by decide +kernel
theorem own_b18_1 : decode prog_8_method_10_code 1 = .ok (.istore_n 3, 1) := by decide +kernel
theorem own_b18_2 : decode prog_8_method_10_code 2 = .ok (.aload_n 0, 1) := by decide +kernel
theorem own_b18_3 : decode prog_8_method_10_code 3 = .ok (.getfield 19, 3) := by decide +kernel
theorem own_b18_6 : decode prog_8_method_10_code 6 = .ok (.iconst 1, 1) := by decide +kernel
theorem own_b18_7 : decode prog_8_method_10_code 7 = .ok (.isub, 1) := by decide +kernel
theorem own_b18_8 : decode prog_8_method_10_code 8 = .ok (.istore 4, 2) := by decide +kernel
theorem own_b18_10 : decode prog_8_method_10_code 10 = .ok (.iconst (-1), 1) := by decide +kernel
theorem own_b18_11 : decode prog_8_method_10_code 11 = .ok (.istore 5, 2) := by decide +kernel
theorem own_b18_13 : decode prog_8_method_10_code 13 = .ok (.iload_n 3, 1) := by decide +kernel
theorem own_b18_14 : decode prog_8_method_10_code 14 = .ok (.iload 4, 2) := by decide +kernel
theorem own_b18_16 : decode prog_8_method_10_code 16 = .ok (.if_icmp .gt 46, 3) := by decide +kernel
theorem own_b18_19 : decode prog_8_method_10_code 19 = .ok (.iload_n 3, 1) := by decide +kernel
theorem own_b18_20 : decode prog_8_method_10_code 20 = .ok (.iload 4, 2) := by decide +kernel
theorem own_b18_22 : decode prog_8_method_10_code 22 = .ok (.iadd, 1) := by decide +kernel
theorem own_b18_23 : decode prog_8_method_10_code 23 = .ok (.iconst 1, 1) := by decide +kernel
theorem own_b18_24 : decode prog_8_method_10_code 24 = .ok (.iushr, 1) := by decide +kernel
theorem own_b18_25 : decode prog_8_method_10_code 25 = .ok (.istore 6, 2) := by decide +kernel
theorem own_b18_27 : decode prog_8_method_10_code 27 = .ok (.aload_n 0, 1) := by decide +kernel
theorem own_b18_28 : decode prog_8_method_10_code 28 = .ok (.iload 6, 2) := by decide +kernel
theorem own_b18_30 : decode prog_8_method_10_code 30 = .ok (.invokevirtual 22, 3) := by decide +kernel
theorem own_b18_33 : decode prog_8_method_10_code 33 = .ok (.getfield 55, 3) := by decide +kernel
theorem own_b18_36 : decode prog_8_method_10_code 36 = .ok (.lload_n 1, 1) := by decide +kernel
theorem own_b18_37 : decode prog_8_method_10_code 37 = .ok (.lcmp, 1) := by decide +kernel
theorem own_b18_38 : decode prog_8_method_10_code 38 = .ok (.ifCond .gt 15, 3) := by decide +kernel
theorem own_b18_41 : decode prog_8_method_10_code 41 = .ok (.iload 6, 2) := by decide +kernel
theorem own_b18_43 : decode prog_8_method_10_code 43 = .ok (.istore 5, 2) := by decide +kernel
theorem own_b18_45 : decode prog_8_method_10_code 45 = .ok (.iload 6, 2) := by decide +kernel
theorem own_b18_47 : decode prog_8_method_10_code 47 = .ok (.iconst 1, 1) := by decide +kernel
theorem own_b18_48 : decode prog_8_method_10_code 48 = .ok (.iadd, 1) := by decide +kernel
theorem own_b18_49 : decode prog_8_method_10_code 49 = .ok (.istore_n 3, 1) := by decide +kernel
theorem own_b18_50 : decode prog_8_method_10_code 50 = .ok (.goto 9, 3) := by decide +kernel
theorem own_b18_53 : decode prog_8_method_10_code 53 = .ok (.iload 6, 2) := by decide +kernel
theorem own_b18_55 : decode prog_8_method_10_code 55 = .ok (.iconst 1, 1) := by decide +kernel
theorem own_b18_56 : decode prog_8_method_10_code 56 = .ok (.isub, 1) := by decide +kernel
theorem own_b18_57 : decode prog_8_method_10_code 57 = .ok (.istore 4, 2) := by decide +kernel
theorem own_b18_59 : decode prog_8_method_10_code 59 = .ok (.goto (-46), 3) := by decide +kernel
theorem own_b18_62 : decode prog_8_method_10_code 62 = .ok (.iload 5, 2) := by decide +kernel
theorem own_b18_64 : decode prog_8_method_10_code 64 = .ok (.ireturn, 1) := by decide +kernel
theorem own_pf_b18 : plainFor (⟨"com/example/highwater/highwater/MessageIndex", "runFor", "(J)I"⟩ : MethodName) = true := by first | exact plainFor_of_name (by first | (simp [plainName, overriddenIn, x]; done) | decide +kernel) | decide +kernel
theorem own_pd_8 : parseMethodDescriptor "(I)Lcom/example/highwater/highwater/MessageIndex$Run;" = some ⟨[.int], some (.object "com/example/highwater/highwater/MessageIndex$Run")⟩ := by decide +kernel
set_option maxRecDepth 65536 in
set_option maxHeartbeats 40000000 in
theorem own_runfor (l : Launch) (Z : State) (a0 : Array Value) (hw : ∀ d ∈ tables_1, d.before a0 Z = true) (n0 : Nat) (h : Heap) (m : Nat) (F : Nat) (gs : List Nat) (H : MI Z h n0 m F gs) (id : Int64) :
    Con l Z (⟨"com/example/highwater/highwater/MessageIndex", "runFor", "(J)I"⟩ : MethodName) prog_8_method_10_code 7 (some .int) ({ frames := 1, cells := 0, slots := 0, locals := 18 } : Room) n0 #[(.ref m), (.long id)] h (R1 fun v h' => ((v = .int (0 : Int32) ∧ (F : Int) ≤ id.toInt) ∨ (v = .int (-1 : Int32) ∧ id.toInt < F)) ∧ h = h') := by
  refine Con.of (ls := [.val (.ref m), .val (.long id), .second, .unset, .unset, .unset, .unset]) own_pf_b18 (fun m => by first | (simp [entryFrame, mkF, argsToLocals, Value.category]; done) | rfl) fun k K => ?_
  have k_m1 : ((-1) : Int32).toInt = -1 := rfl
  have k_0 : (0 : Int32).toInt = 0 := rfl
  have k_1 : (1 : Int32).toInt = 1 := rfl
  obtain ⟨ra, r, g, sz, Em, Fr, Fh, Fc, Fz, R_ra, HR, hsz, n0_m, n0_ra, Z0, d1, d2, d3, d4, d5⟩ := H
  have l_m : @LT.lt Nat _ m h.size := Fr.lt
  have l_ra : @LT.lt Nat _ ra h.size := R_ra.lt
  obtain ⟨l_r, l_g, d6, n0_r⟩ := HR.rg
  obtain ⟨f, Ff, hf⟩ := HR.ff
  refine WP.iconst K (0 : Int32) 1 own_b18_0 rfl rfl ?_
  refine WP.istoreN K 2 [.val (.ref m), .val (.long id), .second, .val (.int (0 : Int32)), .unset, .unset, .unset] own_b18_1 rfl rfl ?_
  refine WP.aloadN K 3 own_b18_2 rfl rfl rfl ?_
  refine WP.getfield K (host := "") 6 (Or.inl (hw _ (List.mem_of_getElem? (i := 19) rfl))) Via.refl Fc own_b18_3 rfl ?_
  refine WP.iconst K (1 : Int32) 7 own_b18_6 rfl rfl ?_
  refine WP.isub K 8 own_b18_7 rfl ?_
  refine WP.istore K 10 [.val (.ref m), .val (.long id), .second, .val (.int (0 : Int32)), .val (.int ((1 : Int32) - (1 : Int32))), .unset, .unset] own_b18_8 rfl rfl ?_
  refine WP.iconst K ((-1) : Int32) 11 own_b18_10 rfl rfl ?_
  refine WP.istore K 13 [.val (.ref m), .val (.long id), .second, .val (.int (0 : Int32)), .val (.int ((1 : Int32) - (1 : Int32))), .val (.int ((-1) : Int32)), .unset] own_b18_11 rfl rfl ?_
  refine WP.iloadN K 14 own_b18_13 rfl rfl ?_
  refine WP.iload K 16 own_b18_14 rfl rfl ?_
  refine WP.icmp_gt K 62 19 own_b18_16 (by decide) rfl (fun c16 => ?_) (fun c16 => ?_)
  · skip
    exact absurd c16 (by decide)
  · skip
    refine WP.iloadN K 20 own_b18_19 rfl rfl ?_
    refine WP.iload K 22 own_b18_20 rfl rfl ?_
    refine WP.iadd K 23 own_b18_22 rfl ?_
    refine WP.iconst K (1 : Int32) 24 own_b18_23 rfl rfl ?_
    refine WP.iushr K 25 own_b18_24 rfl ?_
    refine WP.istore K 27 [.val (.ref m), .val (.long id), .second, .val (.int (0 : Int32)), .val (.int ((1 : Int32) - (1 : Int32))), .val (.int ((-1) : Int32)), .val (.int (XT.ushr ((0 : Int32) + ((1 : Int32) - (1 : Int32))) (1 : Int32)))] own_b18_25 rfl rfl ?_
    refine WP.aloadN K 28 own_b18_27 rfl rfl rfl ?_
    refine WP.iload K 30 own_b18_28 rfl rfl ?_
    refine WP.callP K (a := m) (C := "com/example/highwater/highwater/MessageIndex") 33 0 0 0 [(.int (XT.ushr ((0 : Int32) + ((1 : Int32) - (1 : Int32))) (1 : Int32)))] [] (hw _ (List.mem_of_getElem? (i := 48) rfl)) (hw _ (List.mem_of_getElem? (i := 49) rfl)) (u := (⟨"com/example/highwater/highwater/MessageIndex", "add", "(J)V"⟩ : MethodName)) rfl (hw _ (List.mem_of_getElem? (i := 17) rfl)) (hw _ (List.mem_of_getElem? (i := 50) rfl)) (hw _ (List.mem_of_getElem? (i := 3) rfl)) (hw _ (List.mem_of_getElem? (i := 51) rfl)) (by decide) own_pd_8 rfl rfl rfl (by decide) (by decide) (Nat.le_of_eq rfl) rfl own_b18_30 rfl rfl rfl (by decide) (by decide) Em (own_run l Z a0 hw n0 h m ra r (XT.ushr ((0 : Int32) + ((1 : Int32) - (1 : Int32))) (1 : Int32)) (by decide) Fr Fh R_ra) (r1_next fun r3 h1 q2 => ?_)
    obtain ⟨rfl, rfl⟩ := q2
    refine WP.getfield K (host := "") 36 (Or.inl (hw _ (List.mem_of_getElem? (i := 110) rfl))) Via.refl Ff own_b18_33 rfl ?_
    refine WP.lloadN K 37 own_b18_36 rfl rfl ?_
    refine WP.lcmp K 38 own_b18_37 rfl ?_
    refine WP.ifl_gt K 53 41 own_b18_38 (by decide) rfl (fun c38 => ?_) (fun c38 => ?_)
    · skip
      refine WP.iload K 55 own_b18_53 rfl rfl ?_
      refine WP.iconst K (1 : Int32) 56 own_b18_55 rfl rfl ?_
      refine WP.isub K 57 own_b18_56 rfl ?_
      refine WP.istore K 59 [.val (.ref m), .val (.long id), .second, .val (.int (0 : Int32)), .val (.int ((XT.ushr ((0 : Int32) + ((1 : Int32) - (1 : Int32))) (1 : Int32)) - (1 : Int32))), .val (.int ((-1) : Int32)), .val (.int (XT.ushr ((0 : Int32) + ((1 : Int32) - (1 : Int32))) (1 : Int32)))] own_b18_57 rfl rfl ?_
      refine WP.goto K 13 own_b18_59 (by decide) ?_
      refine WP.iloadN K 14 own_b18_13 rfl rfl ?_
      refine WP.iload K 16 own_b18_14 rfl rfl ?_
      refine WP.icmp_gt K 62 19 own_b18_16 (by decide) rfl (fun c16 => ?_) (fun c16 => ?_)
      · skip
        refine WP.iload K 64 own_b18_62 rfl rfl ?_
        refine WP.iret K rfl (Or.inl rfl) rfl own_b18_64 ?_ (by decide) (by decide)
        exact ⟨_, rfl, Or.inr ⟨rfl, by omega⟩, rfl⟩
      · skip
        exact absurd c16 (by decide)
    · skip
      refine WP.iload K 43 own_b18_41 rfl rfl ?_
      refine WP.istore K 45 [.val (.ref m), .val (.long id), .second, .val (.int (0 : Int32)), .val (.int ((1 : Int32) - (1 : Int32))), .val (.int (XT.ushr ((0 : Int32) + ((1 : Int32) - (1 : Int32))) (1 : Int32))), .val (.int (XT.ushr ((0 : Int32) + ((1 : Int32) - (1 : Int32))) (1 : Int32)))] own_b18_43 rfl rfl ?_
      refine WP.iload K 47 own_b18_45 rfl rfl ?_
      refine WP.iconst K (1 : Int32) 48 own_b18_47 rfl rfl ?_
      refine WP.iadd K 49 own_b18_48 rfl ?_
      refine WP.istoreN K 50 [.val (.ref m), .val (.long id), .second, .val (.int ((XT.ushr ((0 : Int32) + ((1 : Int32) - (1 : Int32))) (1 : Int32)) + (1 : Int32))), .val (.int ((1 : Int32) - (1 : Int32))), .val (.int (XT.ushr ((0 : Int32) + ((1 : Int32) - (1 : Int32))) (1 : Int32))), .val (.int (XT.ushr ((0 : Int32) + ((1 : Int32) - (1 : Int32))) (1 : Int32)))] own_b18_49 rfl rfl ?_
      refine WP.goto K 59 own_b18_50 (by decide) ?_
      refine WP.goto K 13 own_b18_59 (by decide) ?_
      refine WP.iloadN K 14 own_b18_13 rfl rfl ?_
      refine WP.iload K 16 own_b18_14 rfl rfl ?_
      refine WP.icmp_gt K 62 19 own_b18_16 (by decide) rfl (fun c16 => ?_) (fun c16 => ?_)
      · skip
        refine WP.iload K 64 own_b18_62 rfl rfl ?_
        refine WP.iret K rfl (Or.inl rfl) rfl own_b18_64 ?_ (by decide) (by decide)
        exact ⟨_, rfl, Or.inl ⟨congrArg Value.int (by decide), by omega⟩, rfl⟩
      · skip
        exact absurd c16 (by decide)
theorem own_b3_0 : decode prog_8_method_3_code 0 = .ok (.aload_n 0, 1) := by decide +kernel
theorem own_b3_1 : decode prog_8_method_3_code 1 = .ok (.getfield 19, 3) := by decide +kernel
theorem own_b3_4 : decode prog_8_method_3_code 4 = .ok (.ifCond .ne 7, 3) := by decide +kernel
theorem own_b3_7 : decode prog_8_method_3_code 7 = .ok (.aconst_null, 1) := by decide +kernel
theorem own_b3_8 : decode prog_8_method_3_code 8 = .ok (.goto 13, 3) := by decide +kernel
theorem own_b3_11 : decode prog_8_method_3_code 11 = .ok (.aload_n 0, 1) := by decide +kernel
theorem own_b3_12 : decode prog_8_method_3_code 12 = .ok (.aload_n 0, 1) := by decide +kernel
theorem own_b3_13 : decode prog_8_method_3_code 13 = .ok (.getfield 19, 3) := by decide +kernel
theorem own_b3_16 : decode prog_8_method_3_code 16 = .ok (.iconst 1, 1) := by decide +kernel
theorem own_b3_17 : decode prog_8_method_3_code 17 = .ok (.isub, 1) := by decide +kernel
theorem own_b3_18 : decode prog_8_method_3_code 18 = .ok (.invokevirtual 22, 3) := by decide +kernel
theorem own_b3_21 : decode prog_8_method_3_code 21 = .ok (.astore_n 3, 1) := by decide +kernel
theorem own_b3_22 : decode prog_8_method_3_code 22 = .ok (.aload_n 3, 1) := by decide +kernel
theorem own_b3_23 : decode prog_8_method_3_code 23 = .ok (.ifnull 26, 3) := by decide +kernel
theorem own_b3_26 : decode prog_8_method_3_code 26 = .ok (.lload_n 1, 1) := by decide +kernel
theorem own_b3_27 : decode prog_8_method_3_code 27 = .ok (.aload_n 3, 1) := by decide +kernel
theorem own_b3_28 : decode prog_8_method_3_code 28 = .ok (.getfield 26, 3) := by decide +kernel
theorem own_b3_31 : decode prog_8_method_3_code 31 = .ok (.lcmp, 1) := by decide +kernel
theorem own_b3_32 : decode prog_8_method_3_code 32 = .ok (.ifCond .gt 17, 3) := by decide +kernel
theorem own_b3_35 : decode prog_8_method_3_code 35 = .ok (.new 30, 3) := by decide +kernel
theorem own_b3_38 : decode prog_8_method_3_code 38 = .ok (.dup, 1) := by decide +kernel
theorem own_b3_39 : decode prog_8_method_3_code 39 = .ok (.lload_n 1, 1) := by decide +kernel
theorem own_b3_40 : decode prog_8_method_3_code 40 = .ok (.invokedynamic 32, 5) := by decide +kernel
theorem own_b3_45 : decode prog_8_method_3_code 45 = .ok (.invokespecial 36, 3) := by decide +kernel
theorem own_b3_48 : decode prog_8_method_3_code 48 = .ok (.athrow, 1) := by decide +kernel
theorem own_b3_49 : decode prog_8_method_3_code 49 = .ok (.aload_n 3, 1) := by decide +kernel
theorem own_b3_50 : decode prog_8_method_3_code 50 = .ok (.ifnull 18, 3) := by decide +kernel
theorem own_b3_53 : decode prog_8_method_3_code 53 = .ok (.aload_n 3, 1) := by decide +kernel
theorem own_b3_54 : decode prog_8_method_3_code 54 = .ok (.invokevirtual 39, 3) := by decide +kernel
theorem own_b3_57 : decode prog_8_method_3_code 57 = .ok (.ifCond .eq 11, 3) := by decide +kernel
theorem own_b3_60 : decode prog_8_method_3_code 60 = .ok (.aload_n 3, 1) := by decide +kernel
theorem own_b3_61 : decode prog_8_method_3_code 61 = .ok (.lload_n 1, 1) := by decide +kernel
theorem own_b3_62 : decode prog_8_method_3_code 62 = .ok (.invokevirtual 43, 3) := by decide +kernel
theorem own_b3_65 : decode prog_8_method_3_code 65 = .ok (.goto 19, 3) := by decide +kernel
theorem own_b3_68 : decode prog_8_method_3_code 68 = .ok (.aload_n 0, 1) := by decide +kernel
theorem own_b3_69 : decode prog_8_method_3_code 69 = .ok (.aload_n 0, 1) := by decide +kernel
theorem own_b3_70 : decode prog_8_method_3_code 70 = .ok (.getfield 19, 3) := by decide +kernel
theorem own_b3_73 : decode prog_8_method_3_code 73 = .ok (.new 7, 3) := by decide +kernel
theorem own_b3_76 : decode prog_8_method_3_code 76 = .ok (.dup, 1) := by decide +kernel
theorem own_b3_77 : decode prog_8_method_3_code 77 = .ok (.lload_n 1, 1) := by decide +kernel
theorem own_b3_78 : decode prog_8_method_3_code 78 = .ok (.invokespecial 47, 3) := by decide +kernel
theorem own_b3_81 : decode prog_8_method_3_code 81 = .ok (.invokevirtual 49, 3) := by decide +kernel
theorem own_b3_84 : decode prog_8_method_3_code 84 = .ok (.aload_n 0, 1) := by decide +kernel
theorem own_b3_85 : decode prog_8_method_3_code 85 = .ok (.dup, 1) := by decide +kernel
theorem own_b3_86 : decode prog_8_method_3_code 86 = .ok (.getfield 15, 3) := by decide +kernel
theorem own_b3_89 : decode prog_8_method_3_code 89 = .ok (.iconst 1, 1) := by decide +kernel
theorem own_b3_90 : decode prog_8_method_3_code 90 = .ok (.iadd, 1) := by decide +kernel
theorem own_b3_91 : decode prog_8_method_3_code 91 = .ok (.putfield 15, 3) := by decide +kernel
theorem own_b3_94 : decode prog_8_method_3_code 94 = .ok (.return_, 1) := by decide +kernel
theorem own_pf_b3 : plainFor (⟨"com/example/highwater/highwater/MessageIndex", "add", "(J)V"⟩ : MethodName) = true := by first | exact plainFor_of_name (by first | (simp [plainName, overriddenIn, x]; done) | decide +kernel) | decide +kernel
theorem own_pd_9 : parseMethodDescriptor "(J)V" = some ⟨[.long], none⟩ := by decide +kernel
theorem own_pd_10 : parseMethodDescriptor "(ILcom/example/highwater/highwater/MessageIndex$Run;)V" = some ⟨[.int, (.object "com/example/highwater/highwater/MessageIndex$Run")], none⟩ := by decide +kernel
set_option maxRecDepth 65536 in
set_option maxHeartbeats 40000000 in
theorem own_add0 (l : Launch) (Z : State) (a0 : Array Value) (hw : ∀ d ∈ tables_1, d.before a0 Z = true) (n0 : Nat) (h : Heap) (m no : Nat) (H : MF Z h n0 m) (SN : Sta Z h "com/example/highwater/highwater/MessageIndex" "NO_GAPS" "[B" (.ref no)) (A_no : ArB Z h no []) (hnm : no ≠ m) (hn0 : no < n0) (id : Int64) (F : Nat) (hid : id.toInt = (F : Nat)) :
    Con l Z (⟨"com/example/highwater/highwater/MessageIndex", "add", "(J)V"⟩ : MethodName) prog_8_method_3_code 4 none ({ frames := 2, cells := 1, slots := 5, locals := 37 } : Room) n0 #[(.ref m), (.long id)] h (R0 fun h' => MI Z h' n0 m F []) := by
  refine Con.of (ls := [.val (.ref m), .val (.long id), .second, .unset]) own_pf_b3 (fun m => by first | (simp [entryFrame, mkF, argsToLocals, Value.category]; done) | rfl) fun k K => ?_
  have k_1 : (1 : Int32).toInt = 1 := rfl
  obtain ⟨ra, Em, Fr, Fh, Fc, Fz, R_ra, n0_m, n0_ra, Z0, d1⟩ := H
  refine WP.aloadN K 1 own_b3_0 rfl rfl rfl ?_
  refine WP.getfield K (host := "") 4 (Or.inl (hw _ (List.mem_of_getElem? (i := 19) rfl))) Via.refl Fc own_b3_1 rfl ?_
  refine WP.if_ne K 11 7 own_b3_4 (by decide) rfl (fun c4 => ?_) (fun c4 => ?_)
  · skip
    exact absurd c4 (by decide)
  · skip
    refine WP.aconstNull K 8 own_b3_7 rfl ?_
    refine WP.goto K 21 own_b3_8 (by decide) ?_
    refine WP.astoreN K 22 [.val (.ref m), .val (.long id), .second, .val .null] own_b3_21 rfl rfl rfl ?_
    refine WP.aloadN K 23 own_b3_22 rfl rfl rfl ?_
    refine WP.ifnull_n K 49 own_b3_23 (by decide) ?_
    refine WP.aloadN K 50 own_b3_49 rfl rfl rfl ?_
    refine WP.ifnull_n K 68 own_b3_50 (by decide) ?_
    refine WP.aloadN K 69 own_b3_68 rfl rfl rfl ?_
    refine WP.aloadN K 70 own_b3_69 rfl rfl rfl ?_
    refine WP.getfield K (host := "") 73 (Or.inl (hw _ (List.mem_of_getElem? (i := 19) rfl))) Via.refl Fc own_b3_70 rfl ?_
    refine WP.new K 76 1 5 (hw _ (List.mem_of_getElem? (i := 10) rfl)) (hw _ (List.mem_of_getElem? (i := 21) rfl)) (hw _ (List.mem_of_getElem? (i := 22) rfl)) own_b3_73 rfl rfl rfl (by decide) (by decide) (fun h1 r z_r E2 X_r Dl3 => ?_)
    have l_m_r : @LT.lt Nat _ m r := z_r ▸ Em.lt
    have l_ra_r : @LT.lt Nat _ ra r := z_r ▸ R_ra.lt
    have l_no_r : @LT.lt Nat _ no r := z_r ▸ A_no.lt
    have n0_r : @LE.le Nat _ n0 r := z_r ▸ Z0
    have Z0 : n0 ≤ (h1).size := Nat.le_trans Z0 E2.1
    have Em := Em.ext E2
    have Fr := Fr.ext E2
    have Fh := Fh.ext E2
    have Fc := Fc.ext E2
    have Fz := Fz.ext E2
    have R_ra := R_ra.ext E2
    have SN := SN.ext E2
    have A_no := A_no.ext E2
    have F_gaps_r : Fld Z h1 r "com/example/highwater/highwater/MessageIndex$Run" "gaps" "[B" .null := Dl3 (Or.inl (hw _ (List.mem_of_getElem? (i := 30) rfl))) (ty := (.array .byte)) (by decide)
    have F_first_r : Fld Z h1 r "com/example/highwater/highwater/MessageIndex$Run" "first" "J" (.long (0 : Int64)) := Dl3 (Or.inl (hw _ (List.mem_of_getElem? (i := 32) rfl))) (ty := .long) (by decide)
    have F_last_r : Fld Z h1 r "com/example/highwater/highwater/MessageIndex$Run" "last" "J" (.long (0 : Int64)) := Dl3 (Or.inl (hw _ (List.mem_of_getElem? (i := 34) rfl))) (ty := .long) (by decide)
    have F_end_r : Fld Z h1 r "com/example/highwater/highwater/MessageIndex$Run" "end" "I" (.int (0 : Int32)) := Dl3 (Or.inl (hw _ (List.mem_of_getElem? (i := 59) rfl))) (ty := .int) (by decide)
    have F_start_r : Fld Z h1 r "com/example/highwater/highwater/MessageIndex$Run" "start" "I" (.int (0 : Int32)) := Dl3 (Or.inl (hw _ (List.mem_of_getElem? (i := 61) rfl))) (ty := .int) (by decide)
    refine WP.dup K 77 own_b3_76 rfl rfl ?_
    refine WP.lloadN K 78 own_b3_77 rfl rfl ?_
    refine WP.callI K (a := r) 81 1 5 3 [(.long id)] [(.ref r), (.int (0 : Int32)), (.ref m)] (hw _ (List.mem_of_getElem? (i := 23) rfl)) (hw _ (List.mem_of_getElem? (i := 24) rfl)) (hw _ (List.mem_of_getElem? (i := 22) rfl)) (hw _ (List.mem_of_getElem? (i := 25) rfl)) rfl (by decide) own_pd_9 rfl rfl rfl (by decide) (by decide) (Nat.le_of_eq rfl) rfl own_b3_78 rfl rfl rfl (by decide) (by decide) (own_rctor l Z a0 hw n0 h1 r no id F hid X_r _ _ _ F_first_r F_last_r F_gaps_r F_start_r F_end_r n0_r SN A_no (by omega)) (r0_next fun h4 q5 => ?_)
    obtain ⟨HR, Kc⟩ := q5
    have Z0 : n0 ≤ (h4).size := Nat.le_trans Z0 Kc.1
    have Em := Em.keep Kc
    have Fr := Fr.keep Kc (nm1 (by omega))
    have Fh := Fh.keep Kc (nm1 (by omega))
    have Fc := Fc.keep Kc (nm1 (by omega))
    have Fz := Fz.keep Kc (nm1 (by omega))
    have R_ra := R_ra.keep Kc (nm1 (by omega))
    have l_m := Fr.lt
    have l_ra := R_ra.lt
    refine WP.callP K (a := m) (C := "com/example/highwater/highwater/MessageIndex") 84 1 5 0 [(.int (0 : Int32)), (.ref r)] [] (hw _ (List.mem_of_getElem? (i := 35) rfl)) (hw _ (List.mem_of_getElem? (i := 36) rfl)) (u := (⟨"com/example/highwater/highwater/MessageIndex", "add", "(J)V"⟩ : MethodName)) rfl (hw _ (List.mem_of_getElem? (i := 17) rfl)) (hw _ (List.mem_of_getElem? (i := 37) rfl)) (hw _ (List.mem_of_getElem? (i := 3) rfl)) (hw _ (List.mem_of_getElem? (i := 38) rfl)) (by decide) own_pd_10 rfl rfl rfl (by decide) (by decide) (Nat.le_of_eq rfl) rfl own_b3_81 rfl rfl rfl (by decide) (by decide) Em (own_addrun l Z a0 hw n0 h4 m ra r (0 : Int32) Em Fr Fh Fc Fz R_ra HR.ex n0_m n0_ra d1) (r0_next fun h7 q8 => ?_)
    obtain ⟨Em, Fr, Fh, Fc, Fz, R_ra, Kd⟩ := q8
    have HR := HR.keep Kd ⟨nm2 (by omega), nm2 (by omega)⟩
    have Z0 : n0 ≤ h7.size := Nat.le_trans Z0 Kd.1
    refine WP.aloadN K 85 own_b3_84 rfl rfl rfl ?_
    refine WP.dup K 86 own_b3_85 rfl rfl ?_
    refine WP.getfield K (host := "") 89 (Or.inl (hw _ (List.mem_of_getElem? (i := 46) rfl))) Via.refl Fz own_b3_86 rfl ?_
    refine WP.iconst K (1 : Int32) 90 own_b3_89 rfl rfl ?_
    refine WP.iadd K 91 own_b3_90 rfl ?_
    refine WP.putfield K (host := "") (a := m) 94 (Or.inl (hw _ (List.mem_of_getElem? (i := 46) rfl))) Via.refl Fz Em (Or.inl (hw _ (List.mem_of_getElem? (i := 47) rfl))) (hw _ (List.mem_of_getElem? (i := 2) rfl)) (ty := .int) (by decide) rfl rfl own_b3_91 rfl n0_m (fun h10 W11 => ?_)
    have Z0 : n0 ≤ (h10).size := by rw [W11.size]; exact Z0
    have Em := Em.wr W11
    have Fr := Fr.other W11 (Or.inr (slot_ne (Or.inl (hw _ (List.mem_of_getElem? (i := 13) rfl))) (Or.inl (hw _ (List.mem_of_getElem? (i := 47) rfl))) (by decide) (t := (.array (.object "com/example/highwater/highwater/MessageIndex$Run"))) (t' := .int) (by decide) (by decide)))
    have Fh := Fh.other W11 (Or.inr (slot_ne (Or.inl (hw _ (List.mem_of_getElem? (i := 40) rfl))) (Or.inl (hw _ (List.mem_of_getElem? (i := 47) rfl))) (by decide) (t := .int) (t' := .int) (by decide) (by decide)))
    have Fc := Fc.other W11 (Or.inr (slot_ne (Or.inl (hw _ (List.mem_of_getElem? (i := 20) rfl))) (Or.inl (hw _ (List.mem_of_getElem? (i := 47) rfl))) (by decide) (t := .int) (t' := .int) (by decide) (by decide)))
    have Fz := Fz.same W11
    have R_ra := R_ra.other W11 (ne_addr (by omega))
    have HR := HR.keep (Keep.of_wr W11) ⟨nm1 (by omega), nm1 (by omega)⟩
    refine WP.retV K rfl own_b3_94 ?_ (by decide) (by decide)
    exact ⟨rfl, ra, r, no, _, Em, Fr, Fh, Fc, Fz, R_ra, HR, rfl, n0_m, n0_ra, Z0, d1, by omega, by omega, by omega, by omega⟩
set_option maxRecDepth 65536 in
set_option maxHeartbeats 40000000 in
theorem own_add1 (l : Launch) (Z : State) (a0 : Array Value) (hw : ∀ d ∈ tables_1, d.before a0 Z = true) (n0 : Nat) (h : Heap) (m : Nat) (F : Nat) (gs : List Nat) (H : MI Z h n0 m F gs) (id : Int64) (d : Nat) (hid : id.toInt = ((F + gs.sum + d : Nat) : Int)) (hd : 1 ≤ d) (hb : (encs gs).length + el d ≤ 27) :
    Con l Z (⟨"com/example/highwater/highwater/MessageIndex", "add", "(J)V"⟩ : MethodName) prog_8_method_3_code 4 none ({ frames := 5, cells := 1, slots := 54, locals := 80 } : Room) n0 #[(.ref m), (.long id)] h (R0 fun h' => MI Z h' n0 m F (gs ++ [d])) := by
  refine Con.of (ls := [.val (.ref m), .val (.long id), .second, .unset]) own_pf_b3 (fun m => by first | (simp [entryFrame, mkF, argsToLocals, Value.category]; done) | rfl) fun k K => ?_
  have k_1 : (1 : Int32).toInt = 1 := rfl
  obtain ⟨ra, r, g, sz, Em, Fr, Fh, Fc, Fz, R_ra, HR, hsz, n0_m, n0_ra, Z0, d1, d2, d3, d4, d5⟩ := H
  have l_m : @LT.lt Nat _ m h.size := Fr.lt
  have l_ra : @LT.lt Nat _ ra h.size := R_ra.lt
  obtain ⟨l_r, l_g, d6, n0_r⟩ := HR.rg
  obtain ⟨la, Fl, hla⟩ := HR.fl
  have l1 := i64_rng la
  have hge := encs_ge gs
  have hsz1 := inc32 hsz (by omega)
  refine WP.aloadN K 1 own_b3_0 rfl rfl rfl ?_
  refine WP.getfield K (host := "") 4 (Or.inl (hw _ (List.mem_of_getElem? (i := 19) rfl))) Via.refl Fc own_b3_1 rfl ?_
  refine WP.if_ne K 11 7 own_b3_4 (by decide) rfl (fun c4 => ?_) (fun c4 => ?_)
  · skip
    refine WP.aloadN K 12 own_b3_11 rfl rfl rfl ?_
    refine WP.aloadN K 13 own_b3_12 rfl rfl rfl ?_
    refine WP.getfield K (host := "") 16 (Or.inl (hw _ (List.mem_of_getElem? (i := 19) rfl))) Via.refl Fc own_b3_13 rfl ?_
    refine WP.iconst K (1 : Int32) 17 own_b3_16 rfl rfl ?_
    refine WP.isub K 18 own_b3_17 rfl ?_
    refine WP.callP K (a := m) (C := "com/example/highwater/highwater/MessageIndex") 21 0 0 0 [(.int ((1 : Int32) - (1 : Int32)))] [] (hw _ (List.mem_of_getElem? (i := 48) rfl)) (hw _ (List.mem_of_getElem? (i := 49) rfl)) (u := (⟨"com/example/highwater/highwater/MessageIndex", "add", "(J)V"⟩ : MethodName)) rfl (hw _ (List.mem_of_getElem? (i := 17) rfl)) (hw _ (List.mem_of_getElem? (i := 50) rfl)) (hw _ (List.mem_of_getElem? (i := 3) rfl)) (hw _ (List.mem_of_getElem? (i := 51) rfl)) (by decide) own_pd_8 rfl rfl rfl (by decide) (by decide) (Nat.le_of_eq rfl) rfl own_b3_18 rfl rfl rfl (by decide) (by decide) Em (own_run l Z a0 hw n0 h m ra r ((1 : Int32) - (1 : Int32)) (by decide) Fr Fh R_ra) (r1_next fun r3 h1 q2 => ?_)
    obtain ⟨rfl, rfl⟩ := q2
    refine WP.astoreN K 22 [.val (.ref m), .val (.long id), .second, .val (.ref r)] own_b3_21 rfl rfl rfl ?_
    refine WP.aloadN K 23 own_b3_22 rfl rfl rfl ?_
    refine WP.ifnull_r K 26 own_b3_23 rfl ?_
    refine WP.lloadN K 27 own_b3_26 rfl rfl ?_
    refine WP.aloadN K 28 own_b3_27 rfl rfl rfl ?_
    refine WP.getfield K (host := "") 31 (Or.inl (hw _ (List.mem_of_getElem? (i := 52) rfl))) Via.refl Fl own_b3_28 rfl ?_
    refine WP.lcmp K 32 own_b3_31 rfl ?_
    refine WP.ifl_gt K 49 35 own_b3_32 (by decide) rfl (fun c32 => ?_) (fun c32 => ?_)
    · skip
      refine WP.aloadN K 50 own_b3_49 rfl rfl rfl ?_
      refine WP.ifnull_r K 53 own_b3_50 rfl ?_
      refine WP.aloadN K 54 own_b3_53 rfl rfl rfl ?_
      refine WP.callV K (a := r) (C := "com/example/highwater/highwater/MessageIndex$Run") 57 0 0 0 [] [] (hw _ (List.mem_of_getElem? (i := 53) rfl)) (hw _ (List.mem_of_getElem? (i := 54) rfl)) rfl (hw _ (List.mem_of_getElem? (i := 56) rfl)) (hw _ (List.mem_of_getElem? (i := 55) rfl)) (hw _ (List.mem_of_getElem? (i := 22) rfl)) (hw _ (List.mem_of_getElem? (i := 57) rfl)) (by decide) own_pd_7 rfl rfl rfl (by decide) (by decide) (Nat.le_of_eq rfl) rfl own_b3_54 rfl rfl rfl (by decide) (by decide) HR.ex (own_hasroom l Z a0 hw n0 h r g F _ HR) (r1_next fun r6 h4 q5 => ?_)
      obtain ⟨rfl, rfl⟩ := q5
      refine WP.if_eq K 68 60 own_b3_57 (by decide) rfl (fun c57 => ?_) (fun c57 => ?_)
      · skip
        exact absurd c57 (by decide)
      · skip
        refine WP.aloadN K 61 own_b3_60 rfl rfl rfl ?_
        refine WP.lloadN K 62 own_b3_61 rfl rfl ?_
        refine WP.callV K (a := r) (C := "com/example/highwater/highwater/MessageIndex$Run") 65 1 54 0 [(.long id)] [] (hw _ (List.mem_of_getElem? (i := 62) rfl)) (hw _ (List.mem_of_getElem? (i := 63) rfl)) rfl (hw _ (List.mem_of_getElem? (i := 65) rfl)) (hw _ (List.mem_of_getElem? (i := 64) rfl)) (hw _ (List.mem_of_getElem? (i := 22) rfl)) (hw _ (List.mem_of_getElem? (i := 66) rfl)) (by decide) own_pd_9 rfl rfl rfl (by decide) (by decide) (Nat.le_of_eq rfl) rfl own_b3_62 rfl rfl rfl (by decide) (by decide) HR.ex (own_append l Z a0 hw n0 h r g F gs HR id d hid hd hb Z0) (r0_next fun h7 q8 => ?_)
        obtain ⟨g2, HR2, Kq, hg2⟩ := q8
        have Z0 : n0 ≤ (h7).size := Nat.le_trans Z0 Kq.1
        have Em := Em.keep Kq
        have Fr := Fr.keep Kq (nm2 (by omega))
        have Fh := Fh.keep Kq (nm2 (by omega))
        have Fc := Fc.keep Kq (nm2 (by omega))
        have Fz := Fz.keep Kq (nm2 (by omega))
        have R_ra := R_ra.keep Kq (nm2 (by omega))
        have hg3 : m ≠ g2 ∧ ra ≠ g2 := by
          rcases hg2 with q | q
          · exact ⟨fun z => d3 (z.trans q), fun z => d5 (z.trans q)⟩
          · exact ⟨fun z => by rw [z] at l_m; exact absurd q (Nat.not_le_of_lt l_m), fun z => by rw [z] at l_ra; exact absurd q (Nat.not_le_of_lt l_ra)⟩
        obtain ⟨l_r2, l_g2, d62, -⟩ := HR2.rg
        refine WP.goto K 84 own_b3_65 (by decide) ?_
        refine WP.aloadN K 85 own_b3_84 rfl rfl rfl ?_
        refine WP.dup K 86 own_b3_85 rfl rfl ?_
        refine WP.getfield K (host := "") 89 (Or.inl (hw _ (List.mem_of_getElem? (i := 46) rfl))) Via.refl Fz own_b3_86 rfl ?_
        refine WP.iconst K (1 : Int32) 90 own_b3_89 rfl rfl ?_
        refine WP.iadd K 91 own_b3_90 rfl ?_
        refine WP.putfield K (host := "") (a := m) 94 (Or.inl (hw _ (List.mem_of_getElem? (i := 46) rfl))) Via.refl Fz Em (Or.inl (hw _ (List.mem_of_getElem? (i := 47) rfl))) (hw _ (List.mem_of_getElem? (i := 2) rfl)) (ty := .int) (by decide) rfl rfl own_b3_91 rfl n0_m (fun h10 W11 => ?_)
        have Z0 : n0 ≤ (h10).size := by rw [W11.size]; exact Z0
        have Em := Em.wr W11
        have Fr := Fr.other W11 (Or.inr (slot_ne (Or.inl (hw _ (List.mem_of_getElem? (i := 13) rfl))) (Or.inl (hw _ (List.mem_of_getElem? (i := 47) rfl))) (by decide) (t := (.array (.object "com/example/highwater/highwater/MessageIndex$Run"))) (t' := .int) (by decide) (by decide)))
        have Fh := Fh.other W11 (Or.inr (slot_ne (Or.inl (hw _ (List.mem_of_getElem? (i := 40) rfl))) (Or.inl (hw _ (List.mem_of_getElem? (i := 47) rfl))) (by decide) (t := .int) (t' := .int) (by decide) (by decide)))
        have Fc := Fc.other W11 (Or.inr (slot_ne (Or.inl (hw _ (List.mem_of_getElem? (i := 20) rfl))) (Or.inl (hw _ (List.mem_of_getElem? (i := 47) rfl))) (by decide) (t := .int) (t' := .int) (by decide) (by decide)))
        have Fz := Fz.same W11
        have R_ra := R_ra.other W11 (ne_addr (by omega))
        have HR2 := HR2.keep (Keep.of_wr W11) ⟨nm1 (by omega), nm1 (by omega)⟩
        refine WP.retV K rfl own_b3_94 ?_ (by decide) (by decide)
        refine ⟨rfl, ?_⟩
        exact ⟨ra, r, g2, _, Em, Fr, Fh, Fc, Fz, R_ra, HR2, (by rw [hsz1, List.length_append]; rfl), n0_m, n0_ra, Z0, d1, d2, hg3.1, d4, hg3.2⟩
    · skip
      exfalso; omega
  · skip
    exact absurd c4 (by decide)
theorem own_b24_0 : decode prog_8_method_6_code 0 = .ok (.aload_n 0, 1) := by decide +kernel
theorem own_b24_1 : decode prog_8_method_6_code 1 = .ok (.lload_n 1, 1) := by decide +kernel
theorem own_b24_2 : decode prog_8_method_6_code 2 = .ok (.invokevirtual 65, 3) := by decide +kernel
theorem own_b24_5 : decode prog_8_method_6_code 5 = .ok (.istore_n 3, 1) := by decide +kernel
theorem own_b24_6 : decode prog_8_method_6_code 6 = .ok (.iload_n 3, 1) := by decide +kernel
theorem own_b24_7 : decode prog_8_method_6_code 7 = .ok (.ifCond .lt 19, 3) := by decide +kernel
theorem own_b24_10 : decode prog_8_method_6_code 10 = .ok (.aload_n 0, 1) := by decide +kernel
theorem own_b24_11 : decode prog_8_method_6_code 11 = .ok (.iload_n 3, 1) := by decide +kernel
theorem own_b24_12 : decode prog_8_method_6_code 12 = .ok (.invokevirtual 22, 3) := by decide +kernel
theorem own_b24_15 : decode prog_8_method_6_code 15 = .ok (.lload_n 1, 1) := by decide +kernel
theorem own_b24_16 : decode prog_8_method_6_code 16 = .ok (.invokevirtual 69, 3) := by decide +kernel
theorem own_b24_19 : decode prog_8_method_6_code 19 = .ok (.ifCond .eq 7, 3) := by decide +kernel
theorem own_b24_22 : decode prog_8_method_6_code 22 = .ok (.iconst 1, 1) := by decide +kernel
theorem own_b24_23 : decode prog_8_method_6_code 23 = .ok (.goto 4, 3) := by decide +kernel
theorem own_b24_26 : decode prog_8_method_6_code 26 = .ok (.iconst 0, 1) := by decide +kernel
theorem own_b24_27 : decode prog_8_method_6_code 27 = .ok (.ireturn, 1) := by decide +kernel
theorem own_pf_b24 : plainFor (⟨"com/example/highwater/highwater/MessageIndex", "contains", "(J)Z"⟩ : MethodName) = true := by first | exact plainFor_of_name (by first | (simp [plainName, overriddenIn, x]; done) | decide +kernel) | decide +kernel
theorem own_pd_11 : parseMethodDescriptor "(J)Z" = some ⟨[.long], some .boolean⟩ := by decide +kernel
set_option maxRecDepth 65536 in
set_option maxHeartbeats 40000000 in
theorem own_mcontains (l : Launch) (Z : State) (a0 : Array Value) (hw : ∀ d ∈ tables_1, d.before a0 Z = true) (n0 : Nat) (h : Heap) (m : Nat) (F : Nat) (gs : List Nat) (H : MI Z h n0 m F gs) (id : Int64) :
    Con l Z (⟨"com/example/highwater/highwater/MessageIndex", "contains", "(J)Z"⟩ : MethodName) prog_8_method_6_code 4 (some .boolean) ({ frames := 3, cells := 0, slots := 0, locals := 54 } : Room) n0 #[(.ref m), (.long id)] h (R1 fun v h' => ((v = .int 1 ∧ InR id.toInt F gs) ∨ (v = .int 0 ∧ ¬ InR id.toInt F gs)) ∧ h = h') := by
  refine Con.of (ls := [.val (.ref m), .val (.long id), .second, .unset]) own_pf_b24 (fun m => by first | (simp [entryFrame, mkF, argsToLocals, Value.category]; done) | rfl) fun k K => ?_
  have k_0 : (0 : Int32).toInt = 0 := rfl
  have k_1 : (1 : Int32).toInt = 1 := rfl
  have H0 := H
  obtain ⟨ra, r, g, sz, Em, Fr, Fh, Fc, Fz, R_ra, HR, hsz, n0_m, n0_ra, Z0, d1, d2, d3, d4, d5⟩ := H
  have l_m : @LT.lt Nat _ m h.size := Fr.lt
  have l_ra : @LT.lt Nat _ ra h.size := R_ra.lt
  obtain ⟨l_r, l_g, d6, n0_r⟩ := HR.rg
  refine WP.aloadN K 1 own_b24_0 rfl rfl rfl ?_
  refine WP.lloadN K 2 own_b24_1 rfl rfl ?_
  refine WP.callP K (a := m) (C := "com/example/highwater/highwater/MessageIndex") 5 0 0 0 [(.long id)] [] (hw _ (List.mem_of_getElem? (i := 106) rfl)) (hw _ (List.mem_of_getElem? (i := 107) rfl)) (u := (⟨"com/example/highwater/highwater/MessageIndex", "add", "(J)V"⟩ : MethodName)) rfl (hw _ (List.mem_of_getElem? (i := 17) rfl)) (hw _ (List.mem_of_getElem? (i := 108) rfl)) (hw _ (List.mem_of_getElem? (i := 3) rfl)) (hw _ (List.mem_of_getElem? (i := 109) rfl)) (by decide) own_pd_1 rfl rfl rfl (by decide) (by decide) (Nat.le_of_eq rfl) rfl own_b24_2 rfl rfl rfl (by decide) (by decide) Em (own_runfor l Z a0 hw n0 h m F gs H0 id) (r1_next fun r3 h1 q2 => ?_)
  obtain ⟨hq, rfl⟩ := q2
  rcases hq with ⟨rfl, hq⟩ | ⟨rfl, hq⟩
  · skip
    refine WP.istoreN K 6 [.val (.ref m), .val (.long id), .second, .val (.int (0 : Int32))] own_b24_5 rfl rfl ?_
    refine WP.iloadN K 7 own_b24_6 rfl rfl ?_
    refine WP.if_lt K 26 10 own_b24_7 (by decide) rfl (fun c7 => ?_) (fun c7 => ?_)
    · skip
      exact absurd c7 (by decide)
    · skip
      refine WP.aloadN K 11 own_b24_10 rfl rfl rfl ?_
      refine WP.iloadN K 12 own_b24_11 rfl rfl ?_
      refine WP.callP K (a := m) (C := "com/example/highwater/highwater/MessageIndex") 15 0 0 0 [(.int (0 : Int32))] [] (hw _ (List.mem_of_getElem? (i := 48) rfl)) (hw _ (List.mem_of_getElem? (i := 49) rfl)) (u := (⟨"com/example/highwater/highwater/MessageIndex", "add", "(J)V"⟩ : MethodName)) rfl (hw _ (List.mem_of_getElem? (i := 17) rfl)) (hw _ (List.mem_of_getElem? (i := 50) rfl)) (hw _ (List.mem_of_getElem? (i := 3) rfl)) (hw _ (List.mem_of_getElem? (i := 51) rfl)) (by decide) own_pd_8 rfl rfl rfl (by decide) (by decide) (Nat.le_of_eq rfl) rfl own_b24_12 rfl rfl rfl (by decide) (by decide) Em (own_run l Z a0 hw n0 h m ra r (0 : Int32) rfl Fr Fh R_ra) (r1_next fun r6 h4 q5 => ?_)
      obtain ⟨rfl, rfl⟩ := q5
      refine WP.lloadN K 16 own_b24_15 rfl rfl ?_
      refine WP.callV K (a := r) (C := "com/example/highwater/highwater/MessageIndex$Run") 19 0 0 0 [(.long id)] [] (hw _ (List.mem_of_getElem? (i := 111) rfl)) (hw _ (List.mem_of_getElem? (i := 112) rfl)) rfl (hw _ (List.mem_of_getElem? (i := 114) rfl)) (hw _ (List.mem_of_getElem? (i := 113) rfl)) (hw _ (List.mem_of_getElem? (i := 22) rfl)) (hw _ (List.mem_of_getElem? (i := 115) rfl)) (by decide) own_pd_11 rfl rfl rfl (by decide) (by decide) (Nat.le_of_eq rfl) rfl own_b24_16 rfl rfl rfl (by decide) (by decide) HR.ex (own_holds l Z a0 hw n0 h r g F gs HR id) (r1_next fun r9 h7 q8 => ?_)
      obtain ⟨hq2, rfl⟩ := q8
      rcases hq2 with ⟨rfl, hI⟩ | ⟨rfl, hI⟩
      · skip
        refine WP.if_eq K 26 22 own_b24_19 (by decide) rfl (fun c19 => ?_) (fun c19 => ?_)
        · skip
          exact absurd c19 (by decide)
        · skip
          refine WP.iconst K (1 : Int32) 23 own_b24_22 rfl rfl ?_
          refine WP.goto K 27 own_b24_23 (by decide) ?_
          refine WP.iret K rfl (Or.inr (Or.inl rfl)) rfl own_b24_27 ?_ (by decide) (by decide)
          exact ⟨_, rfl, Or.inl ⟨rfl, hI⟩, rfl⟩
      · skip
        refine WP.if_eq K 26 22 own_b24_19 (by decide) rfl (fun c19 => ?_) (fun c19 => ?_)
        · skip
          refine WP.iconst K (0 : Int32) 27 own_b24_26 rfl rfl ?_
          refine WP.iret K rfl (Or.inr (Or.inl rfl)) rfl own_b24_27 ?_ (by decide) (by decide)
          exact ⟨_, rfl, Or.inr ⟨rfl, hI⟩, rfl⟩
        · skip
          exact absurd c19 (by decide)
  · skip
    have hI : ¬ InR id.toInt F gs := by
      rintro (q | q)
      · omega
      · have := InT_gt _ _ HR.gp q; omega
    refine WP.istoreN K 6 [.val (.ref m), .val (.long id), .second, .val (.int ((-1) : Int32))] own_b24_5 rfl rfl ?_
    refine WP.iloadN K 7 own_b24_6 rfl rfl ?_
    refine WP.if_lt K 26 10 own_b24_7 (by decide) rfl (fun c7 => ?_) (fun c7 => ?_)
    · skip
      refine WP.iconst K (0 : Int32) 27 own_b24_26 rfl rfl ?_
      refine WP.iret K rfl (Or.inr (Or.inl rfl)) rfl own_b24_27 ?_ (by decide) (by decide)
      exact ⟨_, rfl, Or.inr ⟨rfl, hI⟩, rfl⟩
    · skip
      exact absurd c7 (by decide)
theorem own_b26_0 : decode prog_8_method_8_code 0 = .ok (.aload_n 0, 1) := by decide +kernel
theorem own_b26_1 : decode prog_8_method_8_code 1 = .ok (.lload_n 1, 1) := by decide +kernel
theorem own_b26_2 : decode prog_8_method_8_code 2 = .ok (.invokevirtual 65, 3) := by decide +kernel
theorem own_b26_5 : decode prog_8_method_8_code 5 = .ok (.istore_n 3, 1) := by decide +kernel
theorem own_b26_6 : decode prog_8_method_8_code 6 = .ok (.iload_n 3, 1) := by decide +kernel
theorem own_b26_7 : decode prog_8_method_8_code 7 = .ok (.ifCond .lt 29, 3) := by decide +kernel
theorem own_b26_10 : decode prog_8_method_8_code 10 = .ok (.aload_n 0, 1) := by decide +kernel
theorem own_b26_11 : decode prog_8_method_8_code 11 = .ok (.iload_n 3, 1) := by decide +kernel
theorem own_b26_12 : decode prog_8_method_8_code 12 = .ok (.invokevirtual 22, 3) := by decide +kernel
theorem own_b26_15 : decode prog_8_method_8_code 15 = .ok (.lload_n 1, 1) := by decide +kernel
theorem own_b26_16 : decode prog_8_method_8_code 16 = .ok (.invokevirtual 69, 3) := by decide +kernel
theorem own_b26_19 : decode prog_8_method_8_code 19 = .ok (.ifCond .eq 17, 3) := by decide +kernel
theorem own_b26_22 : decode prog_8_method_8_code 22 = .ok (.new 30, 3) := by decide +kernel
theorem own_b26_25 : decode prog_8_method_8_code 25 = .ok (.dup, 1) := by decide +kernel
theorem own_b26_26 : decode prog_8_method_8_code 26 = .ok (.lload_n 1, 1) := by decide +kernel
theorem own_b26_27 : decode prog_8_method_8_code 27 = .ok (.invokedynamic 76, 5) := by decide +kernel
theorem own_b26_32 : decode prog_8_method_8_code 32 = .ok (.invokespecial 36, 3) := by decide +kernel
theorem own_b26_35 : decode prog_8_method_8_code 35 = .ok (.athrow, 1) := by decide +kernel
theorem own_b26_36 : decode prog_8_method_8_code 36 = .ok (.iload_n 3, 1) := by decide +kernel
theorem own_b26_37 : decode prog_8_method_8_code 37 = .ok (.ifCond .lt 48, 3) := by decide +kernel
theorem own_b26_40 : decode prog_8_method_8_code 40 = .ok (.lload_n 1, 1) := by decide +kernel
theorem own_b26_41 : decode prog_8_method_8_code 41 = .ok (.aload_n 0, 1) := by decide +kernel
theorem own_b26_42 : decode prog_8_method_8_code 42 = .ok (.iload_n 3, 1) := by decide +kernel
theorem own_b26_43 : decode prog_8_method_8_code 43 = .ok (.invokevirtual 22, 3) := by decide +kernel
theorem own_b26_46 : decode prog_8_method_8_code 46 = .ok (.getfield 26, 3) := by decide +kernel
theorem own_b26_49 : decode prog_8_method_8_code 49 = .ok (.lcmp, 1) := by decide +kernel
theorem own_b26_50 : decode prog_8_method_8_code 50 = .ok (.ifCond .ge 35, 3) := by decide +kernel
theorem own_b26_53 : decode prog_8_method_8_code 53 = .ok (.aload_n 0, 1) := by decide +kernel
theorem own_b26_54 : decode prog_8_method_8_code 54 = .ok (.iload_n 3, 1) := by decide +kernel
theorem own_b26_55 : decode prog_8_method_8_code 55 = .ok (.invokevirtual 22, 3) := by decide +kernel
theorem own_b26_58 : decode prog_8_method_8_code 58 = .ok (.invokevirtual 39, 3) := by decide +kernel
theorem own_b26_61 : decode prog_8_method_8_code 61 = .ok (.ifCond .ne 24, 3) := by decide +kernel
theorem own_b26_64 : decode prog_8_method_8_code 64 = .ok (.aload_n 0, 1) := by decide +kernel
theorem own_b26_65 : decode prog_8_method_8_code 65 = .ok (.iload_n 3, 1) := by decide +kernel
theorem own_b26_66 : decode prog_8_method_8_code 66 = .ok (.iconst 1, 1) := by decide +kernel
theorem own_b26_67 : decode prog_8_method_8_code 67 = .ok (.iadd, 1) := by decide +kernel
theorem own_b26_68 : decode prog_8_method_8_code 68 = .ok (.aload_n 0, 1) := by decide +kernel
theorem own_b26_69 : decode prog_8_method_8_code 69 = .ok (.iload_n 3, 1) := by decide +kernel
theorem own_b26_70 : decode prog_8_method_8_code 70 = .ok (.invokevirtual 22, 3) := by decide +kernel
theorem own_b26_73 : decode prog_8_method_8_code 73 = .ok (.invokevirtual 77, 3) := by decide +kernel
theorem own_b26_76 : decode prog_8_method_8_code 76 = .ok (.invokevirtual 49, 3) := by decide +kernel
theorem own_b26_79 : decode prog_8_method_8_code 79 = .ok (.aload_n 0, 1) := by decide +kernel
theorem own_b26_80 : decode prog_8_method_8_code 80 = .ok (.lload_n 1, 1) := by decide +kernel
theorem own_b26_81 : decode prog_8_method_8_code 81 = .ok (.invokevirtual 65, 3) := by decide +kernel
theorem own_b26_84 : decode prog_8_method_8_code 84 = .ok (.istore_n 3, 1) := by decide +kernel
theorem own_b26_85 : decode prog_8_method_8_code 85 = .ok (.iload_n 3, 1) := by decide +kernel
theorem own_b26_86 : decode prog_8_method_8_code 86 = .ok (.ifCond .ge 33, 3) := by decide +kernel
theorem own_b26_89 : decode prog_8_method_8_code 89 = .ok (.aload_n 0, 1) := by decide +kernel
theorem own_b26_90 : decode prog_8_method_8_code 90 = .ok (.getfield 19, 3) := by decide +kernel
theorem own_b26_93 : decode prog_8_method_8_code 93 = .ok (.ifCond .le 26, 3) := by decide +kernel
theorem own_b26_96 : decode prog_8_method_8_code 96 = .ok (.aload_n 0, 1) := by decide +kernel
theorem own_b26_97 : decode prog_8_method_8_code 97 = .ok (.iconst 0, 1) := by decide +kernel
theorem own_b26_98 : decode prog_8_method_8_code 98 = .ok (.invokevirtual 22, 3) := by decide +kernel
theorem own_b26_101 : decode prog_8_method_8_code 101 = .ok (.invokevirtual 39, 3) := by decide +kernel
theorem own_b26_104 : decode prog_8_method_8_code 104 = .ok (.ifCond .eq 15, 3) := by decide +kernel
theorem own_b26_107 : decode prog_8_method_8_code 107 = .ok (.aload_n 0, 1) := by decide +kernel
theorem own_b26_108 : decode prog_8_method_8_code 108 = .ok (.iconst 0, 1) := by decide +kernel
theorem own_b26_109 : decode prog_8_method_8_code 109 = .ok (.invokevirtual 22, 3) := by decide +kernel
theorem own_b26_112 : decode prog_8_method_8_code 112 = .ok (.lload_n 1, 1) := by decide +kernel
theorem own_b26_113 : decode prog_8_method_8_code 113 = .ok (.invokevirtual 81, 3) := by decide +kernel
theorem own_b26_116 : decode prog_8_method_8_code 116 = .ok (.goto 86, 3) := by decide +kernel
theorem own_b26_119 : decode prog_8_method_8_code 119 = .ok (.iload_n 3, 1) := by decide +kernel
theorem own_b26_120 : decode prog_8_method_8_code 120 = .ok (.ifCond .ge 19, 3) := by decide +kernel
theorem own_b26_123 : decode prog_8_method_8_code 123 = .ok (.aload_n 0, 1) := by decide +kernel
theorem own_b26_124 : decode prog_8_method_8_code 124 = .ok (.iconst 0, 1) := by decide +kernel
theorem own_b26_125 : decode prog_8_method_8_code 125 = .ok (.new 7, 3) := by decide +kernel
theorem own_b26_128 : decode prog_8_method_8_code 128 = .ok (.dup, 1) := by decide +kernel
theorem own_b26_129 : decode prog_8_method_8_code 129 = .ok (.lload_n 1, 1) := by decide +kernel
theorem own_b26_130 : decode prog_8_method_8_code 130 = .ok (.invokespecial 47, 3) := by decide +kernel
theorem own_b26_133 : decode prog_8_method_8_code 133 = .ok (.invokevirtual 49, 3) := by decide +kernel
theorem own_b26_136 : decode prog_8_method_8_code 136 = .ok (.goto 66, 3) := by decide +kernel
theorem own_b26_139 : decode prog_8_method_8_code 139 = .ok (.aload_n 0, 1) := by decide +kernel
theorem own_b26_140 : decode prog_8_method_8_code 140 = .ok (.iload_n 3, 1) := by decide +kernel
theorem own_b26_141 : decode prog_8_method_8_code 141 = .ok (.invokevirtual 22, 3) := by decide +kernel
theorem own_b26_144 : decode prog_8_method_8_code 144 = .ok (.invokevirtual 39, 3) := by decide +kernel
theorem own_b26_147 : decode prog_8_method_8_code 147 = .ok (.ifCond .ne 21, 3) := by decide +kernel
theorem own_b26_150 : decode prog_8_method_8_code 150 = .ok (.aload_n 0, 1) := by decide +kernel
theorem own_b26_151 : decode prog_8_method_8_code 151 = .ok (.iload_n 3, 1) := by decide +kernel
theorem own_b26_152 : decode prog_8_method_8_code 152 = .ok (.iconst 1, 1) := by decide +kernel
theorem own_b26_153 : decode prog_8_method_8_code 153 = .ok (.iadd, 1) := by decide +kernel
theorem own_b26_154 : decode prog_8_method_8_code 154 = .ok (.new 7, 3) := by decide +kernel
theorem own_b26_157 : decode prog_8_method_8_code 157 = .ok (.dup, 1) := by decide +kernel
theorem own_b26_158 : decode prog_8_method_8_code 158 = .ok (.lload_n 1, 1) := by decide +kernel
theorem own_b26_159 : decode prog_8_method_8_code 159 = .ok (.invokespecial 47, 3) := by decide +kernel
theorem own_b26_162 : decode prog_8_method_8_code 162 = .ok (.invokevirtual 49, 3) := by decide +kernel
theorem own_b26_165 : decode prog_8_method_8_code 165 = .ok (.goto 37, 3) := by decide +kernel
theorem own_b26_168 : decode prog_8_method_8_code 168 = .ok (.lload_n 1, 1) := by decide +kernel
theorem own_b26_169 : decode prog_8_method_8_code 169 = .ok (.aload_n 0, 1) := by decide +kernel
theorem own_b26_170 : decode prog_8_method_8_code 170 = .ok (.iload_n 3, 1) := by decide +kernel
theorem own_b26_171 : decode prog_8_method_8_code 171 = .ok (.invokevirtual 22, 3) := by decide +kernel
theorem own_b26_174 : decode prog_8_method_8_code 174 = .ok (.getfield 26, 3) := by decide +kernel
theorem own_b26_177 : decode prog_8_method_8_code 177 = .ok (.lcmp, 1) := by decide +kernel
theorem own_b26_178 : decode prog_8_method_8_code 178 = .ok (.ifCond .le 15, 3) := by decide +kernel
theorem own_b26_181 : decode prog_8_method_8_code 181 = .ok (.aload_n 0, 1) := by decide +kernel
theorem own_b26_182 : decode prog_8_method_8_code 182 = .ok (.iload_n 3, 1) := by decide +kernel
theorem own_b26_183 : decode prog_8_method_8_code 183 = .ok (.invokevirtual 22, 3) := by decide +kernel
theorem own_b26_186 : decode prog_8_method_8_code 186 = .ok (.lload_n 1, 1) := by decide +kernel
theorem own_b26_187 : decode prog_8_method_8_code 187 = .ok (.invokevirtual 43, 3) := by decide +kernel
theorem own_b26_190 : decode prog_8_method_8_code 190 = .ok (.goto 12, 3) := by decide +kernel
theorem own_b26_193 : decode prog_8_method_8_code 193 = .ok (.aload_n 0, 1) := by decide +kernel
theorem own_b26_194 : decode prog_8_method_8_code 194 = .ok (.iload_n 3, 1) := by decide +kernel
theorem own_b26_195 : decode prog_8_method_8_code 195 = .ok (.invokevirtual 22, 3) := by decide +kernel
theorem own_b26_198 : decode prog_8_method_8_code 198 = .ok (.lload_n 1, 1) := by decide +kernel
theorem own_b26_199 : decode prog_8_method_8_code 199 = .ok (.invokevirtual 84, 3) := by decide +kernel
theorem own_b26_202 : decode prog_8_method_8_code 202 = .ok (.aload_n 0, 1) := by decide +kernel
theorem own_b26_203 : decode prog_8_method_8_code 203 = .ok (.dup, 1) := by decide +kernel
theorem own_b26_204 : decode prog_8_method_8_code 204 = .ok (.getfield 15, 3) := by decide +kernel
theorem own_b26_207 : decode prog_8_method_8_code 207 = .ok (.iconst 1, 1) := by decide +kernel
theorem own_b26_208 : decode prog_8_method_8_code 208 = .ok (.iadd, 1) := by decide +kernel
theorem own_b26_209 : decode prog_8_method_8_code 209 = .ok (.putfield 15, 3) := by decide +kernel
theorem own_b26_212 : decode prog_8_method_8_code 212 = .ok (.return_, 1) := by decide +kernel
theorem own_pf_b26 : plainFor (⟨"com/example/highwater/highwater/MessageIndex", "insert", "(J)V"⟩ : MethodName) = true := by first | exact plainFor_of_name (by first | (simp [plainName, overriddenIn, x]; done) | decide +kernel) | decide +kernel
set_option maxRecDepth 65536 in
set_option maxHeartbeats 40000000 in
theorem own_minsertP (l : Launch) (Z : State) (a0 : Array Value) (hw : ∀ d ∈ tables_1, d.before a0 Z = true) (n0 : Nat) (h : Heap) (m : Nat) (F : Nat) (gs : List Nat) (H : MI Z h n0 m F gs) (id : Int64) (d F2 : Nat) (hid : id.toInt + d = (F : Int)) (hF2 : id.toInt = (F2 : Nat)) (hd : 1 ≤ d) (hb : (encs gs).length + el d ≤ 27) :
    Con l Z (⟨"com/example/highwater/highwater/MessageIndex", "insert", "(J)V"⟩ : MethodName) prog_8_method_8_code 4 none ({ frames := 5, cells := 1, slots := 54, locals := 85 } : Room) n0 #[(.ref m), (.long id)] h (R0 fun h' => MI Z h' n0 m F2 (d :: gs)) := by
  refine Con.of (ls := [.val (.ref m), .val (.long id), .second, .unset]) own_pf_b26 (fun m => by first | (simp [entryFrame, mkF, argsToLocals, Value.category]; done) | rfl) fun k K => ?_
  have k_0 : (0 : Int32).toInt = 0 := rfl
  have k_1 : (1 : Int32).toInt = 1 := rfl
  have H0 := H
  obtain ⟨ra, r, g, sz, Em, Fr, Fh, Fc, Fz, R_ra, HR, hsz, n0_m, n0_ra, Z0, d1, d2, d3, d4, d5⟩ := H
  have l_m : @LT.lt Nat _ m h.size := Fr.lt
  have l_ra : @LT.lt Nat _ ra h.size := R_ra.lt
  obtain ⟨l_r, l_g, d6, n0_r⟩ := HR.rg
  have hge := encs_ge gs
  have hsz1 := inc32 hsz (by omega)
  refine WP.aloadN K 1 own_b26_0 rfl rfl rfl ?_
  refine WP.lloadN K 2 own_b26_1 rfl rfl ?_
  refine WP.callP K (a := m) (C := "com/example/highwater/highwater/MessageIndex") 5 0 0 0 [(.long id)] [] (hw _ (List.mem_of_getElem? (i := 106) rfl)) (hw _ (List.mem_of_getElem? (i := 107) rfl)) (u := (⟨"com/example/highwater/highwater/MessageIndex", "add", "(J)V"⟩ : MethodName)) rfl (hw _ (List.mem_of_getElem? (i := 17) rfl)) (hw _ (List.mem_of_getElem? (i := 108) rfl)) (hw _ (List.mem_of_getElem? (i := 3) rfl)) (hw _ (List.mem_of_getElem? (i := 109) rfl)) (by decide) own_pd_1 rfl rfl rfl (by decide) (by decide) (Nat.le_of_eq rfl) rfl own_b26_2 rfl rfl rfl (by decide) (by decide) Em (own_runfor l Z a0 hw n0 h m F gs H0 id) (r1_next fun r3 h1 q2 => ?_)
  obtain ⟨hq, rfl⟩ := q2
  obtain rfl : r3 = .int (-1 : Int32) := by
    rcases hq with ⟨-, q⟩ | ⟨q, -⟩
    · exfalso; omega
    · exact q
  refine WP.istoreN K 6 [.val (.ref m), .val (.long id), .second, .val (.int ((-1) : Int32))] own_b26_5 rfl rfl ?_
  refine WP.iloadN K 7 own_b26_6 rfl rfl ?_
  refine WP.if_lt K 36 10 own_b26_7 (by decide) rfl (fun c7 => ?_) (fun c7 => ?_)
  · skip
    refine WP.iloadN K 37 own_b26_36 rfl rfl ?_
    refine WP.if_lt K 85 40 own_b26_37 (by decide) rfl (fun c37 => ?_) (fun c37 => ?_)
    · skip
      refine WP.iloadN K 86 own_b26_85 rfl rfl ?_
      refine WP.if_ge K 119 89 own_b26_86 (by decide) rfl (fun c86 => ?_) (fun c86 => ?_)
      · skip
        exact absurd c86 (by decide)
      · skip
        refine WP.aloadN K 90 own_b26_89 rfl rfl rfl ?_
        refine WP.getfield K (host := "") 93 (Or.inl (hw _ (List.mem_of_getElem? (i := 19) rfl))) Via.refl Fc own_b26_90 rfl ?_
        refine WP.if_le K 119 96 own_b26_93 (by decide) rfl (fun c93 => ?_) (fun c93 => ?_)
        · skip
          exact absurd c93 (by decide)
        · skip
          refine WP.aloadN K 97 own_b26_96 rfl rfl rfl ?_
          refine WP.iconst K (0 : Int32) 98 own_b26_97 rfl rfl ?_
          refine WP.callP K (a := m) (C := "com/example/highwater/highwater/MessageIndex") 101 0 0 0 [(.int (0 : Int32))] [] (hw _ (List.mem_of_getElem? (i := 48) rfl)) (hw _ (List.mem_of_getElem? (i := 49) rfl)) (u := (⟨"com/example/highwater/highwater/MessageIndex", "add", "(J)V"⟩ : MethodName)) rfl (hw _ (List.mem_of_getElem? (i := 17) rfl)) (hw _ (List.mem_of_getElem? (i := 50) rfl)) (hw _ (List.mem_of_getElem? (i := 3) rfl)) (hw _ (List.mem_of_getElem? (i := 51) rfl)) (by decide) own_pd_8 rfl rfl rfl (by decide) (by decide) (Nat.le_of_eq rfl) rfl own_b26_98 rfl rfl rfl (by decide) (by decide) Em (own_run l Z a0 hw n0 h m ra r (0 : Int32) rfl Fr Fh R_ra) (r1_next fun r6 h4 q5 => ?_)
          obtain ⟨rfl, rfl⟩ := q5
          refine WP.callV K (a := r) (C := "com/example/highwater/highwater/MessageIndex$Run") 104 0 0 0 [] [] (hw _ (List.mem_of_getElem? (i := 53) rfl)) (hw _ (List.mem_of_getElem? (i := 54) rfl)) rfl (hw _ (List.mem_of_getElem? (i := 56) rfl)) (hw _ (List.mem_of_getElem? (i := 55) rfl)) (hw _ (List.mem_of_getElem? (i := 22) rfl)) (hw _ (List.mem_of_getElem? (i := 57) rfl)) (by decide) own_pd_7 rfl rfl rfl (by decide) (by decide) (Nat.le_of_eq rfl) rfl own_b26_101 rfl rfl rfl (by decide) (by decide) HR.ex (own_hasroom l Z a0 hw n0 h r g F _ HR) (r1_next fun r9 h7 q8 => ?_)
          obtain ⟨rfl, rfl⟩ := q8
          refine WP.if_eq K 119 107 own_b26_104 (by decide) rfl (fun c104 => ?_) (fun c104 => ?_)
          · skip
            exact absurd c104 (by decide)
          · skip
            refine WP.aloadN K 108 own_b26_107 rfl rfl rfl ?_
            refine WP.iconst K (0 : Int32) 109 own_b26_108 rfl rfl ?_
            refine WP.callP K (a := m) (C := "com/example/highwater/highwater/MessageIndex") 112 0 0 0 [(.int (0 : Int32))] [] (hw _ (List.mem_of_getElem? (i := 48) rfl)) (hw _ (List.mem_of_getElem? (i := 49) rfl)) (u := (⟨"com/example/highwater/highwater/MessageIndex", "add", "(J)V"⟩ : MethodName)) rfl (hw _ (List.mem_of_getElem? (i := 17) rfl)) (hw _ (List.mem_of_getElem? (i := 50) rfl)) (hw _ (List.mem_of_getElem? (i := 3) rfl)) (hw _ (List.mem_of_getElem? (i := 51) rfl)) (by decide) own_pd_8 rfl rfl rfl (by decide) (by decide) (Nat.le_of_eq rfl) rfl own_b26_109 rfl rfl rfl (by decide) (by decide) Em (own_run l Z a0 hw n0 h m ra r (0 : Int32) rfl Fr Fh R_ra) (r1_next fun r12 h10 q11 => ?_)
            obtain ⟨rfl, rfl⟩ := q11
            refine WP.lloadN K 113 own_b26_112 rfl rfl ?_
            refine WP.callV K (a := r) (C := "com/example/highwater/highwater/MessageIndex$Run") 116 1 54 0 [(.long id)] [] (hw _ (List.mem_of_getElem? (i := 146) rfl)) (hw _ (List.mem_of_getElem? (i := 147) rfl)) rfl (hw _ (List.mem_of_getElem? (i := 149) rfl)) (hw _ (List.mem_of_getElem? (i := 148) rfl)) (hw _ (List.mem_of_getElem? (i := 22) rfl)) (hw _ (List.mem_of_getElem? (i := 150) rfl)) (by decide) own_pd_9 rfl rfl rfl (by decide) (by decide) (Nat.le_of_eq rfl) rfl own_b26_113 rfl rfl rfl (by decide) (by decide) HR.ex (own_prepend l Z a0 hw n0 h r g F gs HR id d F2 hid hF2 hd hb Z0) (r0_next fun h13 q14 => ?_)
            obtain ⟨g2, HR2, Kq, hg2⟩ := q14
            have Z0 : n0 ≤ (h13).size := Nat.le_trans Z0 Kq.1
            have Em := Em.keep Kq
            have Fr := Fr.keep Kq (nm2 (by omega))
            have Fh := Fh.keep Kq (nm2 (by omega))
            have Fc := Fc.keep Kq (nm2 (by omega))
            have Fz := Fz.keep Kq (nm2 (by omega))
            have R_ra := R_ra.keep Kq (nm2 (by omega))
            have hg3 : m ≠ g2 ∧ ra ≠ g2 := by
              rcases hg2 with q | q
              · exact ⟨fun z => d3 (z.trans q), fun z => d5 (z.trans q)⟩
              · exact ⟨fun z => by rw [z] at l_m; exact absurd q (Nat.not_le_of_lt l_m), fun z => by rw [z] at l_ra; exact absurd q (Nat.not_le_of_lt l_ra)⟩
            obtain ⟨l_r2, l_g2, d62, -⟩ := HR2.rg
            refine WP.goto K 202 own_b26_116 (by decide) ?_
            refine WP.aloadN K 203 own_b26_202 rfl rfl rfl ?_
            refine WP.dup K 204 own_b26_203 rfl rfl ?_
            refine WP.getfield K (host := "") 207 (Or.inl (hw _ (List.mem_of_getElem? (i := 46) rfl))) Via.refl Fz own_b26_204 rfl ?_
            refine WP.iconst K (1 : Int32) 208 own_b26_207 rfl rfl ?_
            refine WP.iadd K 209 own_b26_208 rfl ?_
            refine WP.putfield K (host := "") (a := m) 212 (Or.inl (hw _ (List.mem_of_getElem? (i := 46) rfl))) Via.refl Fz Em (Or.inl (hw _ (List.mem_of_getElem? (i := 47) rfl))) (hw _ (List.mem_of_getElem? (i := 2) rfl)) (ty := .int) (by decide) rfl rfl own_b26_209 rfl n0_m (fun h16 W17 => ?_)
            have Z0 : n0 ≤ (h16).size := by rw [W17.size]; exact Z0
            have Em := Em.wr W17
            have Fr := Fr.other W17 (Or.inr (slot_ne (Or.inl (hw _ (List.mem_of_getElem? (i := 13) rfl))) (Or.inl (hw _ (List.mem_of_getElem? (i := 47) rfl))) (by decide) (t := (.array (.object "com/example/highwater/highwater/MessageIndex$Run"))) (t' := .int) (by decide) (by decide)))
            have Fh := Fh.other W17 (Or.inr (slot_ne (Or.inl (hw _ (List.mem_of_getElem? (i := 40) rfl))) (Or.inl (hw _ (List.mem_of_getElem? (i := 47) rfl))) (by decide) (t := .int) (t' := .int) (by decide) (by decide)))
            have Fc := Fc.other W17 (Or.inr (slot_ne (Or.inl (hw _ (List.mem_of_getElem? (i := 20) rfl))) (Or.inl (hw _ (List.mem_of_getElem? (i := 47) rfl))) (by decide) (t := .int) (t' := .int) (by decide) (by decide)))
            have Fz := Fz.same W17
            have R_ra := R_ra.other W17 (ne_addr (by omega))
            have HR2 := HR2.keep (Keep.of_wr W17) ⟨nm1 (by omega), nm1 (by omega)⟩
            refine WP.retV K rfl own_b26_212 ?_ (by decide) (by decide)
            refine ⟨rfl, ?_⟩
            exact ⟨ra, r, g2, _, Em, Fr, Fh, Fc, Fz, R_ra, HR2, (by rw [hsz1, List.length_cons]), n0_m, n0_ra, Z0, d1, d2, hg3.1, d4, hg3.2⟩
    · skip
      exact absurd c37 (by decide)
  · skip
    exact absurd c7 (by decide)
set_option maxRecDepth 65536 in
set_option maxHeartbeats 40000000 in
theorem own_minsertM (l : Launch) (Z : State) (a0 : Array Value) (hw : ∀ d ∈ tables_1, d.before a0 Z = true) (n0 : Nat) (h : Heap) (m : Nat) (F : Nat) (as : List Nat) (x y : Nat) (bs : List Nat) (H : MI Z h n0 m F (as ++ (x + y) :: bs)) (id : Int64) (hid : id.toInt = ((F + as.sum + x : Nat) : Int)) (hx : 1 ≤ x) (hy : 1 ≤ y) (hb : (encs as).length + (el x + el y) + (encs bs).length ≤ 27) :
    Con l Z (⟨"com/example/highwater/highwater/MessageIndex", "insert", "(J)V"⟩ : MethodName) prog_8_method_8_code 4 none ({ frames := 5, cells := 1, slots := 54, locals := 85 } : Room) n0 #[(.ref m), (.long id)] h (R0 fun h' => MI Z h' n0 m F (as ++ x :: y :: bs)) := by
  refine Con.of (ls := [.val (.ref m), .val (.long id), .second, .unset]) own_pf_b26 (fun m => by first | (simp [entryFrame, mkF, argsToLocals, Value.category]; done) | rfl) fun k K => ?_
  have k_0 : (0 : Int32).toInt = 0 := rfl
  have k_1 : (1 : Int32).toInt = 1 := rfl
  have H0 := H
  obtain ⟨ra, r, g, sz, Em, Fr, Fh, Fc, Fz, R_ra, HR, hsz, n0_m, n0_ra, Z0, d1, d2, d3, d4, d5⟩ := H
  have l_m : @LT.lt Nat _ m h.size := Fr.lt
  have l_ra : @LT.lt Nat _ ra h.size := R_ra.lt
  obtain ⟨l_r, l_g, d6, n0_r⟩ := HR.rg
  obtain ⟨la, Fl, hla⟩ := HR.fl
  have l1 := i64_rng la
  have hsum : (as ++ (x + y) :: bs).sum = as.sum + (x + y) + bs.sum := by simp only [List.sum_append, List.sum_cons]; omega
  have hge := encs_ge as
  have hge2 := encs_ge bs
  have hll : (as ++ (x + y) :: bs).length = as.length + bs.length + 1 := by rw [List.length_append, List.length_cons]; omega
  have hsz1 := inc32 hsz (by omega)
  refine WP.aloadN K 1 own_b26_0 rfl rfl rfl ?_
  refine WP.lloadN K 2 own_b26_1 rfl rfl ?_
  refine WP.callP K (a := m) (C := "com/example/highwater/highwater/MessageIndex") 5 0 0 0 [(.long id)] [] (hw _ (List.mem_of_getElem? (i := 106) rfl)) (hw _ (List.mem_of_getElem? (i := 107) rfl)) (u := (⟨"com/example/highwater/highwater/MessageIndex", "add", "(J)V"⟩ : MethodName)) rfl (hw _ (List.mem_of_getElem? (i := 17) rfl)) (hw _ (List.mem_of_getElem? (i := 108) rfl)) (hw _ (List.mem_of_getElem? (i := 3) rfl)) (hw _ (List.mem_of_getElem? (i := 109) rfl)) (by decide) own_pd_1 rfl rfl rfl (by decide) (by decide) (Nat.le_of_eq rfl) rfl own_b26_2 rfl rfl rfl (by decide) (by decide) Em (own_runfor l Z a0 hw n0 h m F _ H0 id) (r1_next fun r3 h1 q2 => ?_)
  obtain ⟨hq, rfl⟩ := q2
  obtain rfl : r3 = .int (0 : Int32) := by
    rcases hq with ⟨q, -⟩ | ⟨-, q⟩
    · exact q
    · exfalso; omega
  refine WP.istoreN K 6 [.val (.ref m), .val (.long id), .second, .val (.int (0 : Int32))] own_b26_5 rfl rfl ?_
  refine WP.iloadN K 7 own_b26_6 rfl rfl ?_
  refine WP.if_lt K 36 10 own_b26_7 (by decide) rfl (fun c7 => ?_) (fun c7 => ?_)
  · skip
    exact absurd c7 (by decide)
  · skip
    refine WP.aloadN K 11 own_b26_10 rfl rfl rfl ?_
    refine WP.iloadN K 12 own_b26_11 rfl rfl ?_
    refine WP.callP K (a := m) (C := "com/example/highwater/highwater/MessageIndex") 15 0 0 0 [(.int (0 : Int32))] [] (hw _ (List.mem_of_getElem? (i := 48) rfl)) (hw _ (List.mem_of_getElem? (i := 49) rfl)) (u := (⟨"com/example/highwater/highwater/MessageIndex", "add", "(J)V"⟩ : MethodName)) rfl (hw _ (List.mem_of_getElem? (i := 17) rfl)) (hw _ (List.mem_of_getElem? (i := 50) rfl)) (hw _ (List.mem_of_getElem? (i := 3) rfl)) (hw _ (List.mem_of_getElem? (i := 51) rfl)) (by decide) own_pd_8 rfl rfl rfl (by decide) (by decide) (Nat.le_of_eq rfl) rfl own_b26_12 rfl rfl rfl (by decide) (by decide) Em (own_run l Z a0 hw n0 h m ra r (0 : Int32) rfl Fr Fh R_ra) (r1_next fun r6 h4 q5 => ?_)
    obtain ⟨rfl, rfl⟩ := q5
    refine WP.lloadN K 16 own_b26_15 rfl rfl ?_
    refine WP.callV K (a := r) (C := "com/example/highwater/highwater/MessageIndex$Run") 19 0 0 0 [(.long id)] [] (hw _ (List.mem_of_getElem? (i := 111) rfl)) (hw _ (List.mem_of_getElem? (i := 112) rfl)) rfl (hw _ (List.mem_of_getElem? (i := 114) rfl)) (hw _ (List.mem_of_getElem? (i := 113) rfl)) (hw _ (List.mem_of_getElem? (i := 22) rfl)) (hw _ (List.mem_of_getElem? (i := 115) rfl)) (by decide) own_pd_11 rfl rfl rfl (by decide) (by decide) (Nat.le_of_eq rfl) rfl own_b26_16 rfl rfl rfl (by decide) (by decide) HR.ex (own_holds l Z a0 hw n0 h r g F _ HR id) (r1_next fun r9 h7 q8 => ?_)
    obtain ⟨hq2, rfl⟩ := q8
    obtain rfl : r9 = .int 0 := by
      rcases hq2 with ⟨-, q⟩ | ⟨q, -⟩
      · exfalso
        rcases q with q | q
        · omega
        · exact InT_mid as F (x + y) bs HR.gp (by omega) (by omega) q
      · exact q
    refine WP.if_eq K 36 22 own_b26_19 (by decide) rfl (fun c19 => ?_) (fun c19 => ?_)
    · skip
      refine WP.iloadN K 37 own_b26_36 rfl rfl ?_
      refine WP.if_lt K 85 40 own_b26_37 (by decide) rfl (fun c37 => ?_) (fun c37 => ?_)
      · skip
        exact absurd c37 (by decide)
      · skip
        refine WP.lloadN K 41 own_b26_40 rfl rfl ?_
        refine WP.aloadN K 42 own_b26_41 rfl rfl rfl ?_
        refine WP.iloadN K 43 own_b26_42 rfl rfl ?_
        refine WP.callP K (a := m) (C := "com/example/highwater/highwater/MessageIndex") 46 0 0 2 [(.int (0 : Int32))] [(.long id)] (hw _ (List.mem_of_getElem? (i := 48) rfl)) (hw _ (List.mem_of_getElem? (i := 49) rfl)) (u := (⟨"com/example/highwater/highwater/MessageIndex", "add", "(J)V"⟩ : MethodName)) rfl (hw _ (List.mem_of_getElem? (i := 17) rfl)) (hw _ (List.mem_of_getElem? (i := 50) rfl)) (hw _ (List.mem_of_getElem? (i := 3) rfl)) (hw _ (List.mem_of_getElem? (i := 51) rfl)) (by decide) own_pd_8 rfl rfl rfl (by decide) (by decide) (Nat.le_of_eq rfl) rfl own_b26_43 rfl rfl rfl (by decide) (by decide) Em (own_run l Z a0 hw n0 h m ra r (0 : Int32) rfl Fr Fh R_ra) (r1_next fun r12 h10 q11 => ?_)
        obtain ⟨rfl, rfl⟩ := q11
        refine WP.getfield K (host := "") 49 (Or.inl (hw _ (List.mem_of_getElem? (i := 52) rfl))) Via.refl Fl own_b26_46 rfl ?_
        refine WP.lcmp K 50 own_b26_49 rfl ?_
        refine WP.ifl_ge K 85 53 own_b26_50 (by decide) rfl (fun c50 => ?_) (fun c50 => ?_)
        · skip
          exfalso; omega
        · skip
          refine WP.aloadN K 54 own_b26_53 rfl rfl rfl ?_
          refine WP.iloadN K 55 own_b26_54 rfl rfl ?_
          refine WP.callP K (a := m) (C := "com/example/highwater/highwater/MessageIndex") 58 0 0 0 [(.int (0 : Int32))] [] (hw _ (List.mem_of_getElem? (i := 48) rfl)) (hw _ (List.mem_of_getElem? (i := 49) rfl)) (u := (⟨"com/example/highwater/highwater/MessageIndex", "add", "(J)V"⟩ : MethodName)) rfl (hw _ (List.mem_of_getElem? (i := 17) rfl)) (hw _ (List.mem_of_getElem? (i := 50) rfl)) (hw _ (List.mem_of_getElem? (i := 3) rfl)) (hw _ (List.mem_of_getElem? (i := 51) rfl)) (by decide) own_pd_8 rfl rfl rfl (by decide) (by decide) (Nat.le_of_eq rfl) rfl own_b26_55 rfl rfl rfl (by decide) (by decide) Em (own_run l Z a0 hw n0 h m ra r (0 : Int32) rfl Fr Fh R_ra) (r1_next fun r15 h13 q14 => ?_)
          obtain ⟨rfl, rfl⟩ := q14
          refine WP.callV K (a := r) (C := "com/example/highwater/highwater/MessageIndex$Run") 61 0 0 0 [] [] (hw _ (List.mem_of_getElem? (i := 53) rfl)) (hw _ (List.mem_of_getElem? (i := 54) rfl)) rfl (hw _ (List.mem_of_getElem? (i := 56) rfl)) (hw _ (List.mem_of_getElem? (i := 55) rfl)) (hw _ (List.mem_of_getElem? (i := 22) rfl)) (hw _ (List.mem_of_getElem? (i := 57) rfl)) (by decide) own_pd_7 rfl rfl rfl (by decide) (by decide) (Nat.le_of_eq rfl) rfl own_b26_58 rfl rfl rfl (by decide) (by decide) HR.ex (own_hasroom l Z a0 hw n0 h r g F _ HR) (r1_next fun r18 h16 q17 => ?_)
          obtain ⟨rfl, rfl⟩ := q17
          refine WP.if_ne K 85 64 own_b26_61 (by decide) rfl (fun c61 => ?_) (fun c61 => ?_)
          · skip
            refine WP.iloadN K 86 own_b26_85 rfl rfl ?_
            refine WP.if_ge K 119 89 own_b26_86 (by decide) rfl (fun c86 => ?_) (fun c86 => ?_)
            · skip
              refine WP.iloadN K 120 own_b26_119 rfl rfl ?_
              refine WP.if_ge K 139 123 own_b26_120 (by decide) rfl (fun c120 => ?_) (fun c120 => ?_)
              · skip
                refine WP.aloadN K 140 own_b26_139 rfl rfl rfl ?_
                refine WP.iloadN K 141 own_b26_140 rfl rfl ?_
                refine WP.callP K (a := m) (C := "com/example/highwater/highwater/MessageIndex") 144 0 0 0 [(.int (0 : Int32))] [] (hw _ (List.mem_of_getElem? (i := 48) rfl)) (hw _ (List.mem_of_getElem? (i := 49) rfl)) (u := (⟨"com/example/highwater/highwater/MessageIndex", "add", "(J)V"⟩ : MethodName)) rfl (hw _ (List.mem_of_getElem? (i := 17) rfl)) (hw _ (List.mem_of_getElem? (i := 50) rfl)) (hw _ (List.mem_of_getElem? (i := 3) rfl)) (hw _ (List.mem_of_getElem? (i := 51) rfl)) (by decide) own_pd_8 rfl rfl rfl (by decide) (by decide) (Nat.le_of_eq rfl) rfl own_b26_141 rfl rfl rfl (by decide) (by decide) Em (own_run l Z a0 hw n0 h m ra r (0 : Int32) rfl Fr Fh R_ra) (r1_next fun r21 h19 q20 => ?_)
                obtain ⟨rfl, rfl⟩ := q20
                refine WP.callV K (a := r) (C := "com/example/highwater/highwater/MessageIndex$Run") 147 0 0 0 [] [] (hw _ (List.mem_of_getElem? (i := 53) rfl)) (hw _ (List.mem_of_getElem? (i := 54) rfl)) rfl (hw _ (List.mem_of_getElem? (i := 56) rfl)) (hw _ (List.mem_of_getElem? (i := 55) rfl)) (hw _ (List.mem_of_getElem? (i := 22) rfl)) (hw _ (List.mem_of_getElem? (i := 57) rfl)) (by decide) own_pd_7 rfl rfl rfl (by decide) (by decide) (Nat.le_of_eq rfl) rfl own_b26_144 rfl rfl rfl (by decide) (by decide) HR.ex (own_hasroom l Z a0 hw n0 h r g F _ HR) (r1_next fun r24 h22 q23 => ?_)
                obtain ⟨rfl, rfl⟩ := q23
                refine WP.if_ne K 168 150 own_b26_147 (by decide) rfl (fun c147 => ?_) (fun c147 => ?_)
                · skip
                  refine WP.lloadN K 169 own_b26_168 rfl rfl ?_
                  refine WP.aloadN K 170 own_b26_169 rfl rfl rfl ?_
                  refine WP.iloadN K 171 own_b26_170 rfl rfl ?_
                  refine WP.callP K (a := m) (C := "com/example/highwater/highwater/MessageIndex") 174 0 0 2 [(.int (0 : Int32))] [(.long id)] (hw _ (List.mem_of_getElem? (i := 48) rfl)) (hw _ (List.mem_of_getElem? (i := 49) rfl)) (u := (⟨"com/example/highwater/highwater/MessageIndex", "add", "(J)V"⟩ : MethodName)) rfl (hw _ (List.mem_of_getElem? (i := 17) rfl)) (hw _ (List.mem_of_getElem? (i := 50) rfl)) (hw _ (List.mem_of_getElem? (i := 3) rfl)) (hw _ (List.mem_of_getElem? (i := 51) rfl)) (by decide) own_pd_8 rfl rfl rfl (by decide) (by decide) (Nat.le_of_eq rfl) rfl own_b26_171 rfl rfl rfl (by decide) (by decide) Em (own_run l Z a0 hw n0 h m ra r (0 : Int32) rfl Fr Fh R_ra) (r1_next fun r27 h25 q26 => ?_)
                  obtain ⟨rfl, rfl⟩ := q26
                  refine WP.getfield K (host := "") 177 (Or.inl (hw _ (List.mem_of_getElem? (i := 52) rfl))) Via.refl Fl own_b26_174 rfl ?_
                  refine WP.lcmp K 178 own_b26_177 rfl ?_
                  refine WP.ifl_le K 193 181 own_b26_178 (by decide) rfl (fun c178 => ?_) (fun c178 => ?_)
                  · skip
                    refine WP.aloadN K 194 own_b26_193 rfl rfl rfl ?_
                    refine WP.iloadN K 195 own_b26_194 rfl rfl ?_
                    refine WP.callP K (a := m) (C := "com/example/highwater/highwater/MessageIndex") 198 0 0 0 [(.int (0 : Int32))] [] (hw _ (List.mem_of_getElem? (i := 48) rfl)) (hw _ (List.mem_of_getElem? (i := 49) rfl)) (u := (⟨"com/example/highwater/highwater/MessageIndex", "add", "(J)V"⟩ : MethodName)) rfl (hw _ (List.mem_of_getElem? (i := 17) rfl)) (hw _ (List.mem_of_getElem? (i := 50) rfl)) (hw _ (List.mem_of_getElem? (i := 3) rfl)) (hw _ (List.mem_of_getElem? (i := 51) rfl)) (by decide) own_pd_8 rfl rfl rfl (by decide) (by decide) (Nat.le_of_eq rfl) rfl own_b26_195 rfl rfl rfl (by decide) (by decide) Em (own_run l Z a0 hw n0 h m ra r (0 : Int32) rfl Fr Fh R_ra) (r1_next fun r30 h28 q29 => ?_)
                    obtain ⟨rfl, rfl⟩ := q29
                    refine WP.lloadN K 199 own_b26_198 rfl rfl ?_
                    refine WP.callV K (a := r) (C := "com/example/highwater/highwater/MessageIndex$Run") 202 1 54 0 [(.long id)] [] (hw _ (List.mem_of_getElem? (i := 151) rfl)) (hw _ (List.mem_of_getElem? (i := 152) rfl)) rfl (hw _ (List.mem_of_getElem? (i := 154) rfl)) (hw _ (List.mem_of_getElem? (i := 153) rfl)) (hw _ (List.mem_of_getElem? (i := 22) rfl)) (hw _ (List.mem_of_getElem? (i := 155) rfl)) (by decide) own_pd_9 rfl rfl rfl (by decide) (by decide) (Nat.le_of_eq rfl) rfl own_b26_199 rfl rfl rfl (by decide) (by decide) HR.ex (own_insertR l Z a0 hw n0 h r g F as x y bs HR id hid hx hy hb Z0) (r0_next fun h31 q32 => ?_)
                    obtain ⟨g2, HR2, Kq, hg2⟩ := q32
                    have Z0 : n0 ≤ (h31).size := Nat.le_trans Z0 Kq.1
                    have Em := Em.keep Kq
                    have Fr := Fr.keep Kq (nm2 (by omega))
                    have Fh := Fh.keep Kq (nm2 (by omega))
                    have Fc := Fc.keep Kq (nm2 (by omega))
                    have Fz := Fz.keep Kq (nm2 (by omega))
                    have R_ra := R_ra.keep Kq (nm2 (by omega))
                    have hg3 : m ≠ g2 ∧ ra ≠ g2 := by
                      rcases hg2 with q | q
                      · exact ⟨fun z => d3 (z.trans q), fun z => d5 (z.trans q)⟩
                      · exact ⟨fun z => by rw [z] at l_m; exact absurd q (Nat.not_le_of_lt l_m), fun z => by rw [z] at l_ra; exact absurd q (Nat.not_le_of_lt l_ra)⟩
                    obtain ⟨l_r2, l_g2, d62, -⟩ := HR2.rg
                    refine WP.aloadN K 203 own_b26_202 rfl rfl rfl ?_
                    refine WP.dup K 204 own_b26_203 rfl rfl ?_
                    refine WP.getfield K (host := "") 207 (Or.inl (hw _ (List.mem_of_getElem? (i := 46) rfl))) Via.refl Fz own_b26_204 rfl ?_
                    refine WP.iconst K (1 : Int32) 208 own_b26_207 rfl rfl ?_
                    refine WP.iadd K 209 own_b26_208 rfl ?_
                    refine WP.putfield K (host := "") (a := m) 212 (Or.inl (hw _ (List.mem_of_getElem? (i := 46) rfl))) Via.refl Fz Em (Or.inl (hw _ (List.mem_of_getElem? (i := 47) rfl))) (hw _ (List.mem_of_getElem? (i := 2) rfl)) (ty := .int) (by decide) rfl rfl own_b26_209 rfl n0_m (fun h34 W35 => ?_)
                    have Z0 : n0 ≤ (h34).size := by rw [W35.size]; exact Z0
                    have Em := Em.wr W35
                    have Fr := Fr.other W35 (Or.inr (slot_ne (Or.inl (hw _ (List.mem_of_getElem? (i := 13) rfl))) (Or.inl (hw _ (List.mem_of_getElem? (i := 47) rfl))) (by decide) (t := (.array (.object "com/example/highwater/highwater/MessageIndex$Run"))) (t' := .int) (by decide) (by decide)))
                    have Fh := Fh.other W35 (Or.inr (slot_ne (Or.inl (hw _ (List.mem_of_getElem? (i := 40) rfl))) (Or.inl (hw _ (List.mem_of_getElem? (i := 47) rfl))) (by decide) (t := .int) (t' := .int) (by decide) (by decide)))
                    have Fc := Fc.other W35 (Or.inr (slot_ne (Or.inl (hw _ (List.mem_of_getElem? (i := 20) rfl))) (Or.inl (hw _ (List.mem_of_getElem? (i := 47) rfl))) (by decide) (t := .int) (t' := .int) (by decide) (by decide)))
                    have Fz := Fz.same W35
                    have R_ra := R_ra.other W35 (ne_addr (by omega))
                    have HR2 := HR2.keep (Keep.of_wr W35) ⟨nm1 (by omega), nm1 (by omega)⟩
                    refine WP.retV K rfl own_b26_212 ?_ (by decide) (by decide)
                    refine ⟨rfl, ?_⟩
                    exact ⟨ra, r, g2, _, Em, Fr, Fh, Fc, Fz, R_ra, HR2, (by rw [hsz1, hll]; simp only [List.length_append, List.length_cons]; omega), n0_m, n0_ra, Z0, d1, d2, hg3.1, d4, hg3.2⟩
                  · skip
                    exfalso; omega
                · skip
                  exact absurd c147 (by decide)
              · skip
                exact absurd c120 (by decide)
            · skip
              exact absurd c86 (by decide)
          · skip
            exact absurd c61 (by decide)
    · skip
      exact absurd c19 (by decide)
theorem own_b17_0 : decode prog_8_method_7_code 0 = .ok (.aload_n 0, 1) := by decide +kernel
theorem own_b17_1 : decode prog_8_method_7_code 1 = .ok (.lload_n 1, 1) := by decide +kernel
theorem own_b17_2 : decode prog_8_method_7_code 2 = .ok (.invokevirtual 65, 3) := by decide +kernel
theorem own_b17_5 : decode prog_8_method_7_code 5 = .ok (.istore_n 3, 1) := by decide +kernel
theorem own_b17_6 : decode prog_8_method_7_code 6 = .ok (.iload_n 3, 1) := by decide +kernel
theorem own_b17_7 : decode prog_8_method_7_code 7 = .ok (.ifCond .lt 15, 3) := by decide +kernel
theorem own_b17_10 : decode prog_8_method_7_code 10 = .ok (.aload_n 0, 1) := by decide +kernel
theorem own_b17_11 : decode prog_8_method_7_code 11 = .ok (.iload_n 3, 1) := by decide +kernel
theorem own_b17_12 : decode prog_8_method_7_code 12 = .ok (.invokevirtual 22, 3) := by decide +kernel
theorem own_b17_15 : decode prog_8_method_7_code 15 = .ok (.lload_n 1, 1) := by decide +kernel
theorem own_b17_16 : decode prog_8_method_7_code 16 = .ok (.invokevirtual 69, 3) := by decide +kernel
theorem own_b17_19 : decode prog_8_method_7_code 19 = .ok (.ifCond .ne 5, 3) := by decide +kernel
theorem own_b17_22 : decode prog_8_method_7_code 22 = .ok (.iconst 0, 1) := by decide +kernel
theorem own_b17_23 : decode prog_8_method_7_code 23 = .ok (.ireturn, 1) := by decide +kernel
theorem own_b17_24 : decode prog_8_method_7_code 24 = .ok (.aload_n 0, 1) := by decide +kernel
theorem own_b17_25 : decode prog_8_method_7_code 25 = .ok (.iload_n 3, 1) := by decide +kernel
theorem own_b17_26 : decode prog_8_method_7_code 26 = .ok (.invokevirtual 22, 3) := by decide +kernel
theorem own_b17_29 : decode prog_8_method_7_code 29 = .ok (.lload_n 1, 1) := by decide +kernel
theorem own_b17_30 : decode prog_8_method_7_code 30 = .ok (.invokevirtual 73, 3) := by decide +kernel
theorem own_b17_33 : decode prog_8_method_7_code 33 = .ok (.ifCond .ne 8, 3) := by decide +kernel
theorem own_b17_36 : decode prog_8_method_7_code 36 = .ok (.aload_n 0, 1) := by decide +kernel
theorem own_b17_37 : decode prog_8_method_7_code 37 = .ok (.iload_n 3, 1) := by decide +kernel
theorem own_b17_38 : decode prog_8_method_7_code 38 = .ok (.invokevirtual 61, 3) := by decide +kernel
theorem own_b17_41 : decode prog_8_method_7_code 41 = .ok (.aload_n 0, 1) := by decide +kernel
theorem own_b17_42 : decode prog_8_method_7_code 42 = .ok (.dup, 1) := by decide +kernel
theorem own_b17_43 : decode prog_8_method_7_code 43 = .ok (.getfield 15, 3) := by decide +kernel
theorem own_b17_46 : decode prog_8_method_7_code 46 = .ok (.iconst 1, 1) := by decide +kernel
theorem own_b17_47 : decode prog_8_method_7_code 47 = .ok (.isub, 1) := by decide +kernel
theorem own_b17_48 : decode prog_8_method_7_code 48 = .ok (.putfield 15, 3) := by decide +kernel
theorem own_b17_51 : decode prog_8_method_7_code 51 = .ok (.iconst 1, 1) := by decide +kernel
theorem own_b17_52 : decode prog_8_method_7_code 52 = .ok (.ireturn, 1) := by decide +kernel
theorem own_pf_b17 : plainFor (⟨"com/example/highwater/highwater/MessageIndex", "remove", "(J)Z"⟩ : MethodName) = true := by first | exact plainFor_of_name (by first | (simp [plainName, overriddenIn, x]; done) | decide +kernel) | decide +kernel
set_option maxRecDepth 65536 in
set_option maxHeartbeats 40000000 in
theorem own_mremoveF (l : Launch) (Z : State) (a0 : Array Value) (hw : ∀ d ∈ tables_1, d.before a0 Z = true) (n0 : Nat) (h : Heap) (m : Nat) (F e : Nat) (gs : List Nat) (H : MI Z h n0 m F (e :: gs)) (id : Int64) (hid : id.toInt = (F : Nat)) :
    Con l Z (⟨"com/example/highwater/highwater/MessageIndex", "remove", "(J)Z"⟩ : MethodName) prog_8_method_7_code 4 (some .boolean) ({ frames := 5, cells := 1, slots := 54, locals := 83 } : Room) n0 #[(.ref m), (.long id)] h (R1 fun v h' => v = .int 1 ∧ MI Z h' n0 m (F + e) gs) := by
  refine Con.of (ls := [.val (.ref m), .val (.long id), .second, .unset]) own_pf_b17 (fun m => by first | (simp [entryFrame, mkF, argsToLocals, Value.category]; done) | rfl) fun k K => ?_
  have k_0 : (0 : Int32).toInt = 0 := rfl
  have k_1 : (1 : Int32).toInt = 1 := rfl
  have H0 := H
  obtain ⟨ra, r, g, sz, Em, Fr, Fh, Fc, Fz, R_ra, HR, hsz, n0_m, n0_ra, Z0, d1, d2, d3, d4, d5⟩ := H
  have l_m : @LT.lt Nat _ m h.size := Fr.lt
  have l_ra : @LT.lt Nat _ ra h.size := R_ra.lt
  obtain ⟨l_r, l_g, d6, n0_r⟩ := HR.rg
  have hll : (e :: gs).length = gs.length + 1 := rfl
  have hszr := i32_rng sz
  have hsz1 : (sz - (1 : Int32)).toInt = sz.toInt - 1 := by
    have e1 : (1 : Int32).toInt = 1 := rfl
    rw [i32_sub (by omega) (by omega)]; omega
  have hI : InR id.toInt F (e :: gs) := Or.inl hid
  refine WP.aloadN K 1 own_b17_0 rfl rfl rfl ?_
  refine WP.lloadN K 2 own_b17_1 rfl rfl ?_
  refine WP.callP K (a := m) (C := "com/example/highwater/highwater/MessageIndex") 5 0 0 0 [(.long id)] [] (hw _ (List.mem_of_getElem? (i := 106) rfl)) (hw _ (List.mem_of_getElem? (i := 107) rfl)) (u := (⟨"com/example/highwater/highwater/MessageIndex", "add", "(J)V"⟩ : MethodName)) rfl (hw _ (List.mem_of_getElem? (i := 17) rfl)) (hw _ (List.mem_of_getElem? (i := 108) rfl)) (hw _ (List.mem_of_getElem? (i := 3) rfl)) (hw _ (List.mem_of_getElem? (i := 109) rfl)) (by decide) own_pd_1 rfl rfl rfl (by decide) (by decide) (Nat.le_of_eq rfl) rfl own_b17_2 rfl rfl rfl (by decide) (by decide) Em (own_runfor l Z a0 hw n0 h m F _ H0 id) (r1_next fun r3 h1 q2 => ?_)
  obtain ⟨hq, rfl⟩ := q2
  obtain rfl : r3 = .int (0 : Int32) := by
    rcases hq with ⟨q, -⟩ | ⟨-, q⟩
    · exact q
    · exfalso; omega
  refine WP.istoreN K 6 [.val (.ref m), .val (.long id), .second, .val (.int (0 : Int32))] own_b17_5 rfl rfl ?_
  refine WP.iloadN K 7 own_b17_6 rfl rfl ?_
  refine WP.if_lt K 22 10 own_b17_7 (by decide) rfl (fun c7 => ?_) (fun c7 => ?_)
  · skip
    exact absurd c7 (by decide)
  · skip
    refine WP.aloadN K 11 own_b17_10 rfl rfl rfl ?_
    refine WP.iloadN K 12 own_b17_11 rfl rfl ?_
    refine WP.callP K (a := m) (C := "com/example/highwater/highwater/MessageIndex") 15 0 0 0 [(.int (0 : Int32))] [] (hw _ (List.mem_of_getElem? (i := 48) rfl)) (hw _ (List.mem_of_getElem? (i := 49) rfl)) (u := (⟨"com/example/highwater/highwater/MessageIndex", "add", "(J)V"⟩ : MethodName)) rfl (hw _ (List.mem_of_getElem? (i := 17) rfl)) (hw _ (List.mem_of_getElem? (i := 50) rfl)) (hw _ (List.mem_of_getElem? (i := 3) rfl)) (hw _ (List.mem_of_getElem? (i := 51) rfl)) (by decide) own_pd_8 rfl rfl rfl (by decide) (by decide) (Nat.le_of_eq rfl) rfl own_b17_12 rfl rfl rfl (by decide) (by decide) Em (own_run l Z a0 hw n0 h m ra r (0 : Int32) rfl Fr Fh R_ra) (r1_next fun r6 h4 q5 => ?_)
    obtain ⟨rfl, rfl⟩ := q5
    refine WP.lloadN K 16 own_b17_15 rfl rfl ?_
    refine WP.callV K (a := r) (C := "com/example/highwater/highwater/MessageIndex$Run") 19 0 0 0 [(.long id)] [] (hw _ (List.mem_of_getElem? (i := 111) rfl)) (hw _ (List.mem_of_getElem? (i := 112) rfl)) rfl (hw _ (List.mem_of_getElem? (i := 114) rfl)) (hw _ (List.mem_of_getElem? (i := 113) rfl)) (hw _ (List.mem_of_getElem? (i := 22) rfl)) (hw _ (List.mem_of_getElem? (i := 115) rfl)) (by decide) own_pd_11 rfl rfl rfl (by decide) (by decide) (Nat.le_of_eq rfl) rfl own_b17_16 rfl rfl rfl (by decide) (by decide) HR.ex (own_holds l Z a0 hw n0 h r g F _ HR id) (r1_next fun r9 h7 q8 => ?_)
    obtain ⟨hq2, rfl⟩ := q8
    obtain rfl : r9 = .int 1 := by
      rcases hq2 with ⟨q, -⟩ | ⟨-, q⟩
      · exact q
      · exact absurd hI q
    refine WP.if_ne K 24 22 own_b17_19 (by decide) rfl (fun c19 => ?_) (fun c19 => ?_)
    · skip
      refine WP.aloadN K 25 own_b17_24 rfl rfl rfl ?_
      refine WP.iloadN K 26 own_b17_25 rfl rfl ?_
      refine WP.callP K (a := m) (C := "com/example/highwater/highwater/MessageIndex") 29 0 0 0 [(.int (0 : Int32))] [] (hw _ (List.mem_of_getElem? (i := 48) rfl)) (hw _ (List.mem_of_getElem? (i := 49) rfl)) (u := (⟨"com/example/highwater/highwater/MessageIndex", "add", "(J)V"⟩ : MethodName)) rfl (hw _ (List.mem_of_getElem? (i := 17) rfl)) (hw _ (List.mem_of_getElem? (i := 50) rfl)) (hw _ (List.mem_of_getElem? (i := 3) rfl)) (hw _ (List.mem_of_getElem? (i := 51) rfl)) (by decide) own_pd_8 rfl rfl rfl (by decide) (by decide) (Nat.le_of_eq rfl) rfl own_b17_26 rfl rfl rfl (by decide) (by decide) Em (own_run l Z a0 hw n0 h m ra r (0 : Int32) rfl Fr Fh R_ra) (r1_next fun r12 h10 q11 => ?_)
      obtain ⟨rfl, rfl⟩ := q11
      refine WP.lloadN K 30 own_b17_29 rfl rfl ?_
      refine WP.callV K (a := r) (C := "com/example/highwater/highwater/MessageIndex$Run") 33 1 54 0 [(.long id)] [] (hw _ (List.mem_of_getElem? (i := 116) rfl)) (hw _ (List.mem_of_getElem? (i := 117) rfl)) rfl (hw _ (List.mem_of_getElem? (i := 119) rfl)) (hw _ (List.mem_of_getElem? (i := 118) rfl)) (hw _ (List.mem_of_getElem? (i := 22) rfl)) (hw _ (List.mem_of_getElem? (i := 120) rfl)) (by decide) own_pd_11 rfl rfl rfl (by decide) (by decide) (Nat.le_of_eq rfl) rfl own_b17_30 rfl rfl rfl (by decide) (by decide) HR.ex (own_removeF l Z a0 hw n0 h r g F e gs HR id hid) (r1_next fun r15 h13 q14 => ?_)
      obtain ⟨rfl, q14⟩ := q14
      obtain ⟨g2, HR2, Kq, hg2⟩ := q14
      have Z0 : n0 ≤ (h13).size := Nat.le_trans Z0 Kq.1
      have Em := Em.keep Kq
      have Fr := Fr.keep Kq (nm2 (by omega))
      have Fh := Fh.keep Kq (nm2 (by omega))
      have Fc := Fc.keep Kq (nm2 (by omega))
      have Fz := Fz.keep Kq (nm2 (by omega))
      have R_ra := R_ra.keep Kq (nm2 (by omega))
      have hg3 : m ≠ g2 ∧ ra ≠ g2 := by
        rcases hg2 with q | q
        · exact ⟨fun z => d3 (z.trans q), fun z => d5 (z.trans q)⟩
        · exact ⟨fun z => by rw [z] at l_m; exact absurd q (Nat.not_le_of_lt l_m), fun z => by rw [z] at l_ra; exact absurd q (Nat.not_le_of_lt l_ra)⟩
      obtain ⟨l_r2, l_g2, d62, -⟩ := HR2.rg
      refine WP.if_ne K 41 36 own_b17_33 (by decide) rfl (fun c33 => ?_) (fun c33 => ?_)
      · skip
        refine WP.aloadN K 42 own_b17_41 rfl rfl rfl ?_
        refine WP.dup K 43 own_b17_42 rfl rfl ?_
        refine WP.getfield K (host := "") 46 (Or.inl (hw _ (List.mem_of_getElem? (i := 46) rfl))) Via.refl Fz own_b17_43 rfl ?_
        refine WP.iconst K (1 : Int32) 47 own_b17_46 rfl rfl ?_
        refine WP.isub K 48 own_b17_47 rfl ?_
        refine WP.putfield K (host := "") (a := m) 51 (Or.inl (hw _ (List.mem_of_getElem? (i := 46) rfl))) Via.refl Fz Em (Or.inl (hw _ (List.mem_of_getElem? (i := 47) rfl))) (hw _ (List.mem_of_getElem? (i := 2) rfl)) (ty := .int) (by decide) rfl rfl own_b17_48 rfl n0_m (fun h16 W17 => ?_)
        have Z0 : n0 ≤ (h16).size := by rw [W17.size]; exact Z0
        have Em := Em.wr W17
        have Fr := Fr.other W17 (Or.inr (slot_ne (Or.inl (hw _ (List.mem_of_getElem? (i := 13) rfl))) (Or.inl (hw _ (List.mem_of_getElem? (i := 47) rfl))) (by decide) (t := (.array (.object "com/example/highwater/highwater/MessageIndex$Run"))) (t' := .int) (by decide) (by decide)))
        have Fh := Fh.other W17 (Or.inr (slot_ne (Or.inl (hw _ (List.mem_of_getElem? (i := 40) rfl))) (Or.inl (hw _ (List.mem_of_getElem? (i := 47) rfl))) (by decide) (t := .int) (t' := .int) (by decide) (by decide)))
        have Fc := Fc.other W17 (Or.inr (slot_ne (Or.inl (hw _ (List.mem_of_getElem? (i := 20) rfl))) (Or.inl (hw _ (List.mem_of_getElem? (i := 47) rfl))) (by decide) (t := .int) (t' := .int) (by decide) (by decide)))
        have Fz := Fz.same W17
        have R_ra := R_ra.other W17 (ne_addr (by omega))
        have HR2 := HR2.keep (Keep.of_wr W17) ⟨nm1 (by omega), nm1 (by omega)⟩
        refine WP.iconst K (1 : Int32) 52 own_b17_51 rfl rfl ?_
        refine WP.iret K rfl (Or.inr (Or.inl rfl)) rfl own_b17_52 ?_ (by decide) (by decide)
        refine ⟨_, rfl, rfl, ?_⟩
        exact ⟨ra, r, g2, _, Em, Fr, Fh, Fc, Fz, R_ra, HR2, (by rw [hsz1, hsz, hll]; omega), n0_m, n0_ra, Z0, d1, d2, hg3.1, d4, hg3.2⟩
      · skip
        exact absurd c33 (by decide)
    · skip
      exact absurd c19 (by decide)
set_option maxRecDepth 65536 in
set_option maxHeartbeats 40000000 in
theorem own_mremoveL (l : Launch) (Z : State) (a0 : Array Value) (hw : ∀ d ∈ tables_1, d.before a0 Z = true) (n0 : Nat) (h : Heap) (m : Nat) (F : Nat) (as : List Nat) (cc : Nat) (H : MI Z h n0 m F (as ++ [cc])) (id : Int64) (hid : id.toInt = ((F + as.sum + cc : Nat) : Int)) (hb : (encs (as ++ [cc])).length ≤ 27) :
    Con l Z (⟨"com/example/highwater/highwater/MessageIndex", "remove", "(J)Z"⟩ : MethodName) prog_8_method_7_code 4 (some .boolean) ({ frames := 5, cells := 1, slots := 54, locals := 83 } : Room) n0 #[(.ref m), (.long id)] h (R1 fun v h' => v = .int 1 ∧ MI Z h' n0 m F as) := by
  refine Con.of (ls := [.val (.ref m), .val (.long id), .second, .unset]) own_pf_b17 (fun m => by first | (simp [entryFrame, mkF, argsToLocals, Value.category]; done) | rfl) fun k K => ?_
  have k_0 : (0 : Int32).toInt = 0 := rfl
  have k_1 : (1 : Int32).toInt = 1 := rfl
  have H0 := H
  obtain ⟨ra, r, g, sz, Em, Fr, Fh, Fc, Fz, R_ra, HR, hsz, n0_m, n0_ra, Z0, d1, d2, d3, d4, d5⟩ := H
  have l_m : @LT.lt Nat _ m h.size := Fr.lt
  have l_ra : @LT.lt Nat _ ra h.size := R_ra.lt
  obtain ⟨l_r, l_g, d6, n0_r⟩ := HR.rg
  have hll : (as ++ [cc]).length = as.length + 1 := by rw [List.length_append]; rfl
  have hszr := i32_rng sz
  have hsz1 : (sz - (1 : Int32)).toInt = sz.toInt - 1 := by
    have e1 : (1 : Int32).toInt = 1 := rfl
    rw [i32_sub (by omega) (by omega)]; omega
  have hI : InR id.toInt F (as ++ cc :: []) := Or.inr (Classical.byContradiction fun q => by
    have q1 := (fnd_none _ F).mpr q
    rw [fnd_at as F cc [] (fun x hx => HR.gp x (by simp [hx])) (HR.gp cc (by simp)) hid] at q1
    cases q1)
  refine WP.aloadN K 1 own_b17_0 rfl rfl rfl ?_
  refine WP.lloadN K 2 own_b17_1 rfl rfl ?_
  refine WP.callP K (a := m) (C := "com/example/highwater/highwater/MessageIndex") 5 0 0 0 [(.long id)] [] (hw _ (List.mem_of_getElem? (i := 106) rfl)) (hw _ (List.mem_of_getElem? (i := 107) rfl)) (u := (⟨"com/example/highwater/highwater/MessageIndex", "add", "(J)V"⟩ : MethodName)) rfl (hw _ (List.mem_of_getElem? (i := 17) rfl)) (hw _ (List.mem_of_getElem? (i := 108) rfl)) (hw _ (List.mem_of_getElem? (i := 3) rfl)) (hw _ (List.mem_of_getElem? (i := 109) rfl)) (by decide) own_pd_1 rfl rfl rfl (by decide) (by decide) (Nat.le_of_eq rfl) rfl own_b17_2 rfl rfl rfl (by decide) (by decide) Em (own_runfor l Z a0 hw n0 h m F _ H0 id) (r1_next fun r3 h1 q2 => ?_)
  obtain ⟨hq, rfl⟩ := q2
  obtain rfl : r3 = .int (0 : Int32) := by
    rcases hq with ⟨q, -⟩ | ⟨-, q⟩
    · exact q
    · exfalso; omega
  refine WP.istoreN K 6 [.val (.ref m), .val (.long id), .second, .val (.int (0 : Int32))] own_b17_5 rfl rfl ?_
  refine WP.iloadN K 7 own_b17_6 rfl rfl ?_
  refine WP.if_lt K 22 10 own_b17_7 (by decide) rfl (fun c7 => ?_) (fun c7 => ?_)
  · skip
    exact absurd c7 (by decide)
  · skip
    refine WP.aloadN K 11 own_b17_10 rfl rfl rfl ?_
    refine WP.iloadN K 12 own_b17_11 rfl rfl ?_
    refine WP.callP K (a := m) (C := "com/example/highwater/highwater/MessageIndex") 15 0 0 0 [(.int (0 : Int32))] [] (hw _ (List.mem_of_getElem? (i := 48) rfl)) (hw _ (List.mem_of_getElem? (i := 49) rfl)) (u := (⟨"com/example/highwater/highwater/MessageIndex", "add", "(J)V"⟩ : MethodName)) rfl (hw _ (List.mem_of_getElem? (i := 17) rfl)) (hw _ (List.mem_of_getElem? (i := 50) rfl)) (hw _ (List.mem_of_getElem? (i := 3) rfl)) (hw _ (List.mem_of_getElem? (i := 51) rfl)) (by decide) own_pd_8 rfl rfl rfl (by decide) (by decide) (Nat.le_of_eq rfl) rfl own_b17_12 rfl rfl rfl (by decide) (by decide) Em (own_run l Z a0 hw n0 h m ra r (0 : Int32) rfl Fr Fh R_ra) (r1_next fun r6 h4 q5 => ?_)
    obtain ⟨rfl, rfl⟩ := q5
    refine WP.lloadN K 16 own_b17_15 rfl rfl ?_
    refine WP.callV K (a := r) (C := "com/example/highwater/highwater/MessageIndex$Run") 19 0 0 0 [(.long id)] [] (hw _ (List.mem_of_getElem? (i := 111) rfl)) (hw _ (List.mem_of_getElem? (i := 112) rfl)) rfl (hw _ (List.mem_of_getElem? (i := 114) rfl)) (hw _ (List.mem_of_getElem? (i := 113) rfl)) (hw _ (List.mem_of_getElem? (i := 22) rfl)) (hw _ (List.mem_of_getElem? (i := 115) rfl)) (by decide) own_pd_11 rfl rfl rfl (by decide) (by decide) (Nat.le_of_eq rfl) rfl own_b17_16 rfl rfl rfl (by decide) (by decide) HR.ex (own_holds l Z a0 hw n0 h r g F _ HR id) (r1_next fun r9 h7 q8 => ?_)
    obtain ⟨hq2, rfl⟩ := q8
    obtain rfl : r9 = .int 1 := by
      rcases hq2 with ⟨q, -⟩ | ⟨-, q⟩
      · exact q
      · exact absurd hI q
    refine WP.if_ne K 24 22 own_b17_19 (by decide) rfl (fun c19 => ?_) (fun c19 => ?_)
    · skip
      refine WP.aloadN K 25 own_b17_24 rfl rfl rfl ?_
      refine WP.iloadN K 26 own_b17_25 rfl rfl ?_
      refine WP.callP K (a := m) (C := "com/example/highwater/highwater/MessageIndex") 29 0 0 0 [(.int (0 : Int32))] [] (hw _ (List.mem_of_getElem? (i := 48) rfl)) (hw _ (List.mem_of_getElem? (i := 49) rfl)) (u := (⟨"com/example/highwater/highwater/MessageIndex", "add", "(J)V"⟩ : MethodName)) rfl (hw _ (List.mem_of_getElem? (i := 17) rfl)) (hw _ (List.mem_of_getElem? (i := 50) rfl)) (hw _ (List.mem_of_getElem? (i := 3) rfl)) (hw _ (List.mem_of_getElem? (i := 51) rfl)) (by decide) own_pd_8 rfl rfl rfl (by decide) (by decide) (Nat.le_of_eq rfl) rfl own_b17_26 rfl rfl rfl (by decide) (by decide) Em (own_run l Z a0 hw n0 h m ra r (0 : Int32) rfl Fr Fh R_ra) (r1_next fun r12 h10 q11 => ?_)
      obtain ⟨rfl, rfl⟩ := q11
      refine WP.lloadN K 30 own_b17_29 rfl rfl ?_
      refine WP.callV K (a := r) (C := "com/example/highwater/highwater/MessageIndex$Run") 33 1 54 0 [(.long id)] [] (hw _ (List.mem_of_getElem? (i := 116) rfl)) (hw _ (List.mem_of_getElem? (i := 117) rfl)) rfl (hw _ (List.mem_of_getElem? (i := 119) rfl)) (hw _ (List.mem_of_getElem? (i := 118) rfl)) (hw _ (List.mem_of_getElem? (i := 22) rfl)) (hw _ (List.mem_of_getElem? (i := 120) rfl)) (by decide) own_pd_11 rfl rfl rfl (by decide) (by decide) (Nat.le_of_eq rfl) rfl own_b17_30 rfl rfl rfl (by decide) (by decide) HR.ex (own_removeL l Z a0 hw n0 h r g F as cc HR id hid hb Z0) (r1_next fun r15 h13 q14 => ?_)
      obtain ⟨rfl, q14⟩ := q14
      obtain ⟨g2, HR2, Kq, hg2⟩ := q14
      have Z0 : n0 ≤ (h13).size := Nat.le_trans Z0 Kq.1
      have Em := Em.keep Kq
      have Fr := Fr.keep Kq (nm2 (by omega))
      have Fh := Fh.keep Kq (nm2 (by omega))
      have Fc := Fc.keep Kq (nm2 (by omega))
      have Fz := Fz.keep Kq (nm2 (by omega))
      have R_ra := R_ra.keep Kq (nm2 (by omega))
      have hg3 : m ≠ g2 ∧ ra ≠ g2 := by
        rcases hg2 with q | q
        · exact ⟨fun z => d3 (z.trans q), fun z => d5 (z.trans q)⟩
        · exact ⟨fun z => by rw [z] at l_m; exact absurd q (Nat.not_le_of_lt l_m), fun z => by rw [z] at l_ra; exact absurd q (Nat.not_le_of_lt l_ra)⟩
      obtain ⟨l_r2, l_g2, d62, -⟩ := HR2.rg
      refine WP.if_ne K 41 36 own_b17_33 (by decide) rfl (fun c33 => ?_) (fun c33 => ?_)
      · skip
        refine WP.aloadN K 42 own_b17_41 rfl rfl rfl ?_
        refine WP.dup K 43 own_b17_42 rfl rfl ?_
        refine WP.getfield K (host := "") 46 (Or.inl (hw _ (List.mem_of_getElem? (i := 46) rfl))) Via.refl Fz own_b17_43 rfl ?_
        refine WP.iconst K (1 : Int32) 47 own_b17_46 rfl rfl ?_
        refine WP.isub K 48 own_b17_47 rfl ?_
        refine WP.putfield K (host := "") (a := m) 51 (Or.inl (hw _ (List.mem_of_getElem? (i := 46) rfl))) Via.refl Fz Em (Or.inl (hw _ (List.mem_of_getElem? (i := 47) rfl))) (hw _ (List.mem_of_getElem? (i := 2) rfl)) (ty := .int) (by decide) rfl rfl own_b17_48 rfl n0_m (fun h16 W17 => ?_)
        have Z0 : n0 ≤ (h16).size := by rw [W17.size]; exact Z0
        have Em := Em.wr W17
        have Fr := Fr.other W17 (Or.inr (slot_ne (Or.inl (hw _ (List.mem_of_getElem? (i := 13) rfl))) (Or.inl (hw _ (List.mem_of_getElem? (i := 47) rfl))) (by decide) (t := (.array (.object "com/example/highwater/highwater/MessageIndex$Run"))) (t' := .int) (by decide) (by decide)))
        have Fh := Fh.other W17 (Or.inr (slot_ne (Or.inl (hw _ (List.mem_of_getElem? (i := 40) rfl))) (Or.inl (hw _ (List.mem_of_getElem? (i := 47) rfl))) (by decide) (t := .int) (t' := .int) (by decide) (by decide)))
        have Fc := Fc.other W17 (Or.inr (slot_ne (Or.inl (hw _ (List.mem_of_getElem? (i := 20) rfl))) (Or.inl (hw _ (List.mem_of_getElem? (i := 47) rfl))) (by decide) (t := .int) (t' := .int) (by decide) (by decide)))
        have Fz := Fz.same W17
        have R_ra := R_ra.other W17 (ne_addr (by omega))
        have HR2 := HR2.keep (Keep.of_wr W17) ⟨nm1 (by omega), nm1 (by omega)⟩
        refine WP.iconst K (1 : Int32) 52 own_b17_51 rfl rfl ?_
        refine WP.iret K rfl (Or.inr (Or.inl rfl)) rfl own_b17_52 ?_ (by decide) (by decide)
        refine ⟨_, rfl, rfl, ?_⟩
        exact ⟨ra, r, g2, _, Em, Fr, Fh, Fc, Fz, R_ra, HR2, (by rw [hsz1, hsz, hll]; omega), n0_m, n0_ra, Z0, d1, d2, hg3.1, d4, hg3.2⟩
      · skip
        exact absurd c33 (by decide)
    · skip
      exact absurd c19 (by decide)
set_option maxRecDepth 65536 in
set_option maxHeartbeats 40000000 in
theorem own_mremoveM (l : Launch) (Z : State) (a0 : Array Value) (hw : ∀ d ∈ tables_1, d.before a0 Z = true) (n0 : Nat) (h : Heap) (m : Nat) (F : Nat) (as : List Nat) (cc e : Nat) (bs : List Nat) (H : MI Z h n0 m F (as ++ cc :: e :: bs)) (id : Int64) (hid : id.toInt = ((F + as.sum + cc : Nat) : Int)) (hb : (encs (as ++ cc :: e :: bs)).length ≤ 27) :
    Con l Z (⟨"com/example/highwater/highwater/MessageIndex", "remove", "(J)Z"⟩ : MethodName) prog_8_method_7_code 4 (some .boolean) ({ frames := 5, cells := 1, slots := 54, locals := 83 } : Room) n0 #[(.ref m), (.long id)] h (R1 fun v h' => v = .int 1 ∧ MI Z h' n0 m F (as ++ (cc + e) :: bs)) := by
  refine Con.of (ls := [.val (.ref m), .val (.long id), .second, .unset]) own_pf_b17 (fun m => by first | (simp [entryFrame, mkF, argsToLocals, Value.category]; done) | rfl) fun k K => ?_
  have k_0 : (0 : Int32).toInt = 0 := rfl
  have k_1 : (1 : Int32).toInt = 1 := rfl
  have H0 := H
  obtain ⟨ra, r, g, sz, Em, Fr, Fh, Fc, Fz, R_ra, HR, hsz, n0_m, n0_ra, Z0, d1, d2, d3, d4, d5⟩ := H
  have l_m : @LT.lt Nat _ m h.size := Fr.lt
  have l_ra : @LT.lt Nat _ ra h.size := R_ra.lt
  obtain ⟨l_r, l_g, d6, n0_r⟩ := HR.rg
  have hll : (as ++ cc :: e :: bs).length = (as ++ (cc + e) :: bs).length + 1 := by simp only [List.length_append, List.length_cons]; omega
  have hszr := i32_rng sz
  have hsz1 : (sz - (1 : Int32)).toInt = sz.toInt - 1 := by
    have e1 : (1 : Int32).toInt = 1 := rfl
    rw [i32_sub (by omega) (by omega)]; omega
  have hI : InR id.toInt F (as ++ cc :: (e :: bs)) := Or.inr (Classical.byContradiction fun q => by
    have q1 := (fnd_none _ F).mpr q
    rw [fnd_at as F cc (e :: bs) (fun x hx => HR.gp x (by simp [hx])) (HR.gp cc (by simp)) hid] at q1
    cases q1)
  refine WP.aloadN K 1 own_b17_0 rfl rfl rfl ?_
  refine WP.lloadN K 2 own_b17_1 rfl rfl ?_
  refine WP.callP K (a := m) (C := "com/example/highwater/highwater/MessageIndex") 5 0 0 0 [(.long id)] [] (hw _ (List.mem_of_getElem? (i := 106) rfl)) (hw _ (List.mem_of_getElem? (i := 107) rfl)) (u := (⟨"com/example/highwater/highwater/MessageIndex", "add", "(J)V"⟩ : MethodName)) rfl (hw _ (List.mem_of_getElem? (i := 17) rfl)) (hw _ (List.mem_of_getElem? (i := 108) rfl)) (hw _ (List.mem_of_getElem? (i := 3) rfl)) (hw _ (List.mem_of_getElem? (i := 109) rfl)) (by decide) own_pd_1 rfl rfl rfl (by decide) (by decide) (Nat.le_of_eq rfl) rfl own_b17_2 rfl rfl rfl (by decide) (by decide) Em (own_runfor l Z a0 hw n0 h m F _ H0 id) (r1_next fun r3 h1 q2 => ?_)
  obtain ⟨hq, rfl⟩ := q2
  obtain rfl : r3 = .int (0 : Int32) := by
    rcases hq with ⟨q, -⟩ | ⟨-, q⟩
    · exact q
    · exfalso; omega
  refine WP.istoreN K 6 [.val (.ref m), .val (.long id), .second, .val (.int (0 : Int32))] own_b17_5 rfl rfl ?_
  refine WP.iloadN K 7 own_b17_6 rfl rfl ?_
  refine WP.if_lt K 22 10 own_b17_7 (by decide) rfl (fun c7 => ?_) (fun c7 => ?_)
  · skip
    exact absurd c7 (by decide)
  · skip
    refine WP.aloadN K 11 own_b17_10 rfl rfl rfl ?_
    refine WP.iloadN K 12 own_b17_11 rfl rfl ?_
    refine WP.callP K (a := m) (C := "com/example/highwater/highwater/MessageIndex") 15 0 0 0 [(.int (0 : Int32))] [] (hw _ (List.mem_of_getElem? (i := 48) rfl)) (hw _ (List.mem_of_getElem? (i := 49) rfl)) (u := (⟨"com/example/highwater/highwater/MessageIndex", "add", "(J)V"⟩ : MethodName)) rfl (hw _ (List.mem_of_getElem? (i := 17) rfl)) (hw _ (List.mem_of_getElem? (i := 50) rfl)) (hw _ (List.mem_of_getElem? (i := 3) rfl)) (hw _ (List.mem_of_getElem? (i := 51) rfl)) (by decide) own_pd_8 rfl rfl rfl (by decide) (by decide) (Nat.le_of_eq rfl) rfl own_b17_12 rfl rfl rfl (by decide) (by decide) Em (own_run l Z a0 hw n0 h m ra r (0 : Int32) rfl Fr Fh R_ra) (r1_next fun r6 h4 q5 => ?_)
    obtain ⟨rfl, rfl⟩ := q5
    refine WP.lloadN K 16 own_b17_15 rfl rfl ?_
    refine WP.callV K (a := r) (C := "com/example/highwater/highwater/MessageIndex$Run") 19 0 0 0 [(.long id)] [] (hw _ (List.mem_of_getElem? (i := 111) rfl)) (hw _ (List.mem_of_getElem? (i := 112) rfl)) rfl (hw _ (List.mem_of_getElem? (i := 114) rfl)) (hw _ (List.mem_of_getElem? (i := 113) rfl)) (hw _ (List.mem_of_getElem? (i := 22) rfl)) (hw _ (List.mem_of_getElem? (i := 115) rfl)) (by decide) own_pd_11 rfl rfl rfl (by decide) (by decide) (Nat.le_of_eq rfl) rfl own_b17_16 rfl rfl rfl (by decide) (by decide) HR.ex (own_holds l Z a0 hw n0 h r g F _ HR id) (r1_next fun r9 h7 q8 => ?_)
    obtain ⟨hq2, rfl⟩ := q8
    obtain rfl : r9 = .int 1 := by
      rcases hq2 with ⟨q, -⟩ | ⟨-, q⟩
      · exact q
      · exact absurd hI q
    refine WP.if_ne K 24 22 own_b17_19 (by decide) rfl (fun c19 => ?_) (fun c19 => ?_)
    · skip
      refine WP.aloadN K 25 own_b17_24 rfl rfl rfl ?_
      refine WP.iloadN K 26 own_b17_25 rfl rfl ?_
      refine WP.callP K (a := m) (C := "com/example/highwater/highwater/MessageIndex") 29 0 0 0 [(.int (0 : Int32))] [] (hw _ (List.mem_of_getElem? (i := 48) rfl)) (hw _ (List.mem_of_getElem? (i := 49) rfl)) (u := (⟨"com/example/highwater/highwater/MessageIndex", "add", "(J)V"⟩ : MethodName)) rfl (hw _ (List.mem_of_getElem? (i := 17) rfl)) (hw _ (List.mem_of_getElem? (i := 50) rfl)) (hw _ (List.mem_of_getElem? (i := 3) rfl)) (hw _ (List.mem_of_getElem? (i := 51) rfl)) (by decide) own_pd_8 rfl rfl rfl (by decide) (by decide) (Nat.le_of_eq rfl) rfl own_b17_26 rfl rfl rfl (by decide) (by decide) Em (own_run l Z a0 hw n0 h m ra r (0 : Int32) rfl Fr Fh R_ra) (r1_next fun r12 h10 q11 => ?_)
      obtain ⟨rfl, rfl⟩ := q11
      refine WP.lloadN K 30 own_b17_29 rfl rfl ?_
      refine WP.callV K (a := r) (C := "com/example/highwater/highwater/MessageIndex$Run") 33 1 54 0 [(.long id)] [] (hw _ (List.mem_of_getElem? (i := 116) rfl)) (hw _ (List.mem_of_getElem? (i := 117) rfl)) rfl (hw _ (List.mem_of_getElem? (i := 119) rfl)) (hw _ (List.mem_of_getElem? (i := 118) rfl)) (hw _ (List.mem_of_getElem? (i := 22) rfl)) (hw _ (List.mem_of_getElem? (i := 120) rfl)) (by decide) own_pd_11 rfl rfl rfl (by decide) (by decide) (Nat.le_of_eq rfl) rfl own_b17_30 rfl rfl rfl (by decide) (by decide) HR.ex (own_removeM l Z a0 hw n0 h r g F as cc e bs HR id hid hb Z0) (r1_next fun r15 h13 q14 => ?_)
      obtain ⟨rfl, q14⟩ := q14
      obtain ⟨g2, HR2, Kq, hg2⟩ := q14
      have Z0 : n0 ≤ (h13).size := Nat.le_trans Z0 Kq.1
      have Em := Em.keep Kq
      have Fr := Fr.keep Kq (nm2 (by omega))
      have Fh := Fh.keep Kq (nm2 (by omega))
      have Fc := Fc.keep Kq (nm2 (by omega))
      have Fz := Fz.keep Kq (nm2 (by omega))
      have R_ra := R_ra.keep Kq (nm2 (by omega))
      have hg3 : m ≠ g2 ∧ ra ≠ g2 := by
        rcases hg2 with q | q
        · exact ⟨fun z => d3 (z.trans q), fun z => d5 (z.trans q)⟩
        · exact ⟨fun z => by rw [z] at l_m; exact absurd q (Nat.not_le_of_lt l_m), fun z => by rw [z] at l_ra; exact absurd q (Nat.not_le_of_lt l_ra)⟩
      obtain ⟨l_r2, l_g2, d62, -⟩ := HR2.rg
      refine WP.if_ne K 41 36 own_b17_33 (by decide) rfl (fun c33 => ?_) (fun c33 => ?_)
      · skip
        refine WP.aloadN K 42 own_b17_41 rfl rfl rfl ?_
        refine WP.dup K 43 own_b17_42 rfl rfl ?_
        refine WP.getfield K (host := "") 46 (Or.inl (hw _ (List.mem_of_getElem? (i := 46) rfl))) Via.refl Fz own_b17_43 rfl ?_
        refine WP.iconst K (1 : Int32) 47 own_b17_46 rfl rfl ?_
        refine WP.isub K 48 own_b17_47 rfl ?_
        refine WP.putfield K (host := "") (a := m) 51 (Or.inl (hw _ (List.mem_of_getElem? (i := 46) rfl))) Via.refl Fz Em (Or.inl (hw _ (List.mem_of_getElem? (i := 47) rfl))) (hw _ (List.mem_of_getElem? (i := 2) rfl)) (ty := .int) (by decide) rfl rfl own_b17_48 rfl n0_m (fun h16 W17 => ?_)
        have Z0 : n0 ≤ (h16).size := by rw [W17.size]; exact Z0
        have Em := Em.wr W17
        have Fr := Fr.other W17 (Or.inr (slot_ne (Or.inl (hw _ (List.mem_of_getElem? (i := 13) rfl))) (Or.inl (hw _ (List.mem_of_getElem? (i := 47) rfl))) (by decide) (t := (.array (.object "com/example/highwater/highwater/MessageIndex$Run"))) (t' := .int) (by decide) (by decide)))
        have Fh := Fh.other W17 (Or.inr (slot_ne (Or.inl (hw _ (List.mem_of_getElem? (i := 40) rfl))) (Or.inl (hw _ (List.mem_of_getElem? (i := 47) rfl))) (by decide) (t := .int) (t' := .int) (by decide) (by decide)))
        have Fc := Fc.other W17 (Or.inr (slot_ne (Or.inl (hw _ (List.mem_of_getElem? (i := 20) rfl))) (Or.inl (hw _ (List.mem_of_getElem? (i := 47) rfl))) (by decide) (t := .int) (t' := .int) (by decide) (by decide)))
        have Fz := Fz.same W17
        have R_ra := R_ra.other W17 (ne_addr (by omega))
        have HR2 := HR2.keep (Keep.of_wr W17) ⟨nm1 (by omega), nm1 (by omega)⟩
        refine WP.iconst K (1 : Int32) 52 own_b17_51 rfl rfl ?_
        refine WP.iret K rfl (Or.inr (Or.inl rfl)) rfl own_b17_52 ?_ (by decide) (by decide)
        refine ⟨_, rfl, rfl, ?_⟩
        exact ⟨ra, r, g2, _, Em, Fr, Fh, Fc, Fz, R_ra, HR2, (by rw [hsz1, hsz, hll]; omega), n0_m, n0_ra, Z0, d1, d2, hg3.1, d4, hg3.2⟩
      · skip
        exact absurd c33 (by decide)
    · skip
      exact absurd c19 (by decide)
theorem own_b16_0 : decode method_2_code 0 = .ok (.iload_n 0, 1) := by decide +kernel
theorem own_b16_1 : decode method_2_code 1 = .ok (.ifCond .ne 5, 3) := by decide +kernel
theorem own_b16_4 : decode method_2_code 4 = .ok (.lload_n 1, 1) := by decide +kernel
theorem own_b16_5 : decode method_2_code 5 = .ok (.lreturn, 1) := by decide +kernel
theorem own_b16_6 : decode method_2_code 6 = .ok (.iload_n 0, 1) := by decide +kernel
theorem own_b16_7 : decode method_2_code 7 = .ok (.iconst 1, 1) := by decide +kernel
theorem own_b16_8 : decode method_2_code 8 = .ok (.if_icmp .ne 5, 3) := by decide +kernel
theorem own_b16_11 : decode method_2_code 11 = .ok (.lload_n 3, 1) := by decide +kernel
theorem own_b16_12 : decode method_2_code 12 = .ok (.lreturn, 1) := by decide +kernel
theorem own_b16_13 : decode method_2_code 13 = .ok (.iload_n 0, 1) := by decide +kernel
theorem own_b16_14 : decode method_2_code 14 = .ok (.iconst 2, 1) := by decide +kernel
theorem own_b16_15 : decode method_2_code 15 = .ok (.if_icmp .ne 6, 3) := by decide +kernel
theorem own_b16_18 : decode method_2_code 18 = .ok (.lload 5, 2) := by decide +kernel
theorem own_b16_20 : decode method_2_code 20 = .ok (.lreturn, 1) := by decide +kernel
theorem own_b16_21 : decode method_2_code 21 = .ok (.lload 7, 2) := by decide +kernel
theorem own_b16_23 : decode method_2_code 23 = .ok (.lreturn, 1) := by decide +kernel
theorem own_pf_b16 : plainFor (⟨"com/example/highwater/highwater/MessageIndexContainsPinLaw", "pick", "(IJJJJ)J"⟩ : MethodName) = true := by first | exact plainFor_of_name (by first | (simp [plainName, overriddenIn, x]; done) | decide +kernel) | decide +kernel
set_option maxRecDepth 65536 in
set_option maxHeartbeats 40000000 in
theorem own_pick (l : Launch) (Z : State) (a0 : Array Value) (hw : ∀ d ∈ tables_1, d.before a0 Z = true) (n0 : Nat) (h : Heap) (x : Int32) (y0 y1 y2 y3 : Int64) :
    Con l Z (⟨"com/example/highwater/highwater/MessageIndexContainsPinLaw", "pick", "(IJJJJ)J"⟩ : MethodName) method_2_code 9 (some .long) ({ frames := 0, cells := 0, slots := 0, locals := 0 } : Room) n0 #[(.int x), (.long y0), (.long y1), (.long y2), (.long y3)] h (R1 fun r h' => (∃ z : Int64, r = .long z ∧ (x.toInt = 0 → z = y0) ∧ (x.toInt = 1 → z = y1) ∧ (x.toInt = 2 → z = y2) ∧ (x.toInt = 3 → z = y3)) ∧ h = h') := by
  refine Con.of (ls := [.val (.int x), .val (.long y0), .second, .val (.long y1), .second, .val (.long y2), .second, .val (.long y3), .second]) own_pf_b16 (fun m => by first | (simp [entryFrame, mkF, argsToLocals, Value.category]; done) | rfl) fun k K => ?_
  have k_1 : (1 : Int32).toInt = 1 := rfl
  have k_2 : (2 : Int32).toInt = 2 := rfl
  refine WP.iloadN K 1 own_b16_0 rfl rfl ?_
  refine WP.if_ne K 6 4 own_b16_1 (by decide) rfl (fun c1 => ?_) (fun c1 => ?_)
  · skip
    refine WP.iloadN K 7 own_b16_6 rfl rfl ?_
    refine WP.iconst K (1 : Int32) 8 own_b16_7 rfl rfl ?_
    refine WP.icmp_ne K 13 11 own_b16_8 (by decide) rfl (fun c8 => ?_) (fun c8 => ?_)
    · skip
      refine WP.iloadN K 14 own_b16_13 rfl rfl ?_
      refine WP.iconst K (2 : Int32) 15 own_b16_14 rfl rfl ?_
      refine WP.icmp_ne K 21 18 own_b16_15 (by decide) rfl (fun c15 => ?_) (fun c15 => ?_)
      · skip
        refine WP.lload K 23 own_b16_21 rfl rfl ?_
        refine WP.lret K rfl own_b16_23 ?_ (by decide) (by decide)
        exact ⟨_, rfl, ⟨_, rfl, fun q => by first | rfl | (exfalso; omega), fun q => by first | rfl | (exfalso; omega), fun q => by first | rfl | (exfalso; omega), fun q => by first | rfl | (exfalso; omega)⟩, rfl⟩
      · skip
        refine WP.lload K 20 own_b16_18 rfl rfl ?_
        refine WP.lret K rfl own_b16_20 ?_ (by decide) (by decide)
        exact ⟨_, rfl, ⟨_, rfl, fun q => by first | rfl | (exfalso; omega), fun q => by first | rfl | (exfalso; omega), fun q => by first | rfl | (exfalso; omega), fun q => by first | rfl | (exfalso; omega)⟩, rfl⟩
    · skip
      refine WP.lloadN K 12 own_b16_11 rfl rfl ?_
      refine WP.lret K rfl own_b16_12 ?_ (by decide) (by decide)
      exact ⟨_, rfl, ⟨_, rfl, fun q => by first | rfl | (exfalso; omega), fun q => by first | rfl | (exfalso; omega), fun q => by first | rfl | (exfalso; omega), fun q => by first | rfl | (exfalso; omega)⟩, rfl⟩
  · skip
    refine WP.lloadN K 5 own_b16_4 rfl rfl ?_
    refine WP.lret K rfl own_b16_5 ?_ (by decide) (by decide)
    exact ⟨_, rfl, ⟨_, rfl, fun q => by first | rfl | (exfalso; omega), fun q => by first | rfl | (exfalso; omega), fun q => by first | rfl | (exfalso; omega), fun q => by first | rfl | (exfalso; omega)⟩, rfl⟩
theorem own_pf_law : plainFor x = true := by first | exact plainFor_of_name (by first | (simp [plainName, overriddenIn, x]; done) | decide +kernel) | decide +kernel
theorem own_pd_12 : parseMethodDescriptor "()V" = some ⟨[], none⟩ := by decide +kernel
theorem own_pd_13 : parseMethodDescriptor "(IJJJJ)J" = some ⟨[.int, .long, .long, .long, .long], some .long⟩ := by decide +kernel
set_option maxRecDepth 65536 in
set_option maxHeartbeats 40000000 in
theorem own_law (l : Launch) (Z : State) (a0 : Array Value) (hw : ∀ d ∈ tables_1, d.before a0 Z = true) (n0 : Nat) (h : Heap) (p1 p2 p3 p4 : Int64) (sl : Int32) (pq : Int64) (no : Nat) (SN : Sta Z h "com/example/highwater/highwater/MessageIndex" "NO_GAPS" "[B" (.ref no)) (A_no : ArB Z h no []) (hn0 : no < n0) (Z0 : n0 ≤ h.size) :
    Con l Z x code maxLocals ret room_1 n0 #[(.long p1), (.long p2), (.long p3), (.long p4), (.int sl), (.long pq)] h (R1 fun r h' => r = .int 1) := by
  refine Con.of (ls := [.val (.long p1), .second, .val (.long p2), .second, .val (.long p3), .second, .val (.long p4), .second, .val (.int sl), .val (.long pq), .second, .unset, .unset, .unset, .unset, .unset, .unset, .unset, .unset, .unset, .unset, .unset, .unset, .unset, .unset, .unset, .unset, .unset, .unset, .unset, .unset, .unset, .unset]) own_pf_law (fun m => by first | (simp [entryFrame, mkF, argsToLocals, Value.category, maxLocals]; done) | rfl) fun k K => ?_
  have k_0 : (0 : Int32).toInt = 0 := rfl
  have k_1 : (1 : Int32).toInt = 1 := rfl
  have kL_1 : (1 : Int64).toInt = 1 := rfl
  have k_10 : (10 : Int32).toInt = 10 := rfl
  have kL_1152921504606846975 : (1152921504606846975 : Int64).toInt = 1152921504606846975 := rfl
  have k_16 : (16 : Int32).toInt = 16 := rfl
  have k_2 : (2 : Int32).toInt = 2 := rfl
  have k_22 : (22 : Int32).toInt = 22 := rfl
  have k_25 : (25 : Int32).toInt = 25 := rfl
  have k_3 : (3 : Int32).toInt = 3 := rfl
  have k_4 : (4 : Int32).toInt = 4 := rfl
  have k_63 : (63 : Int32).toInt = 63 := rfl
  have k_7 : (7 : Int32).toInt = 7 := rfl
  refine WP.ldc2J K (v := (1152921504606846975 : Int64)) 3 (hw _ (List.mem_of_getElem? (i := 0) rfl)) at_0 rfl ?_
  refine WP.lstore K 5 [.val (.long p1), .second, .val (.long p2), .second, .val (.long p3), .second, .val (.long p4), .second, .val (.int sl), .val (.long pq), .second, .val (.long (1152921504606846975 : Int64)), .second, .unset, .unset, .unset, .unset, .unset, .unset, .unset, .unset, .unset, .unset, .unset, .unset, .unset, .unset, .unset, .unset, .unset, .unset, .unset, .unset] at_3 rfl rfl ?_
  refine WP.lloadN K 6 at_5 rfl rfl ?_
  refine WP.lload K 8 at_6 rfl rfl ?_
  refine WP.land K 9 at_8 rfl ?_
  refine WP.lstore K 11 [.val (.long p1), .second, .val (.long p2), .second, .val (.long p3), .second, .val (.long p4), .second, .val (.int sl), .val (.long pq), .second, .val (.long (1152921504606846975 : Int64)), .second, .val (.long (p1 &&& (1152921504606846975 : Int64))), .second, .unset, .unset, .unset, .unset, .unset, .unset, .unset, .unset, .unset, .unset, .unset, .unset, .unset, .unset, .unset, .unset, .unset, .unset] at_9 rfl rfl ?_
  obtain ⟨A0, hA0, bA0⟩ : ∃ n : Nat, (p1 &&& (1152921504606846975 : Int64)).toInt = (n : Nat) ∧ n < 1152921504606846976 := by
    have e := c_maskL p1 (1152921504606846975 : Int64) 60 (by decide) rfl
    have e60 : ((2 ^ 60 : Nat) : Int) = 1152921504606846976 := rfl
    rw [e60] at e
    exact ⟨(p1 &&& (1152921504606846975 : Int64)).toInt.toNat, by omega, by omega⟩
  obtain ⟨Q2, hQ2, bQ2⟩ : ∃ n : Nat, (p2 &&& (1152921504606846975 : Int64)).toInt = (n : Nat) ∧ n < 1152921504606846976 := by
    have e := c_maskL p2 (1152921504606846975 : Int64) 60 (by decide) rfl
    have e60 : ((2 ^ 60 : Nat) : Int) = 1152921504606846976 := rfl
    rw [e60] at e
    exact ⟨(p2 &&& (1152921504606846975 : Int64)).toInt.toNat, by omega, by omega⟩
  obtain ⟨Q3, hQ3, bQ3⟩ : ∃ n : Nat, (p3 &&& (1152921504606846975 : Int64)).toInt = (n : Nat) ∧ n < 1152921504606846976 := by
    have e := c_maskL p3 (1152921504606846975 : Int64) 60 (by decide) rfl
    have e60 : ((2 ^ 60 : Nat) : Int) = 1152921504606846976 := rfl
    rw [e60] at e
    exact ⟨(p3 &&& (1152921504606846975 : Int64)).toInt.toNat, by omega, by omega⟩
  obtain ⟨Q4, hQ4, bQ4⟩ : ∃ n : Nat, (p4 &&& (1152921504606846975 : Int64)).toInt = (n : Nat) ∧ n < 1152921504606846976 := by
    have e := c_maskL p4 (1152921504606846975 : Int64) 60 (by decide) rfl
    have e60 : ((2 ^ 60 : Nat) : Int) = 1152921504606846976 := rfl
    rw [e60] at e
    exact ⟨(p4 &&& (1152921504606846975 : Int64)).toInt.toNat, by omega, by omega⟩
  generalize (p1 &&& (1152921504606846975 : Int64)) = a0_ at hA0 ⊢
  refine WP.lload K 13 at_11 rfl rfl ?_
  refine WP.lconst K (1 : Int64) 14 at_13 rfl rfl ?_
  refine WP.ladd K 15 at_14 rfl ?_
  refine WP.lloadN K 16 at_15 rfl rfl ?_
  refine WP.lload K 18 at_16 rfl rfl ?_
  refine WP.land K 19 at_18 rfl ?_
  refine WP.iload K 21 at_19 rfl rfl ?_
  refine WP.iconst K (4 : Int32) 22 at_21 rfl rfl ?_
  refine WP.iushr K 23 at_22 rfl ?_
  refine WP.bipush K (63 : Int32) 25 at_23 rfl rfl ?_
  refine WP.iand K 26 at_25 rfl ?_
  refine WP.lushr K 27 at_26 rfl ?_
  refine WP.ladd K 28 at_27 rfl ?_
  refine WP.lstore K 30 [.val (.long p1), .second, .val (.long p2), .second, .val (.long p3), .second, .val (.long p4), .second, .val (.int sl), .val (.long pq), .second, .val (.long (1152921504606846975 : Int64)), .second, .val (.long a0_), .second, .val (.long ((a0_ + (1 : Int64)) + (XT.ushrL (p2 &&& (1152921504606846975 : Int64)) ((XT.ushr sl (4 : Int32)) &&& (63 : Int32))))), .second, .unset, .unset, .unset, .unset, .unset, .unset, .unset, .unset, .unset, .unset, .unset, .unset, .unset, .unset, .unset, .unset] at_28 rfl rfl ?_
  obtain ⟨m1, hm1, lm1⟩ := ushrL_le ((XT.ushr sl (4 : Int32)) &&& (63 : Int32)) hQ2
  obtain ⟨D1, eD1⟩ : ∃ n : Nat, n = 1 + m1 := ⟨_, rfl⟩
  have ha1 : ((a0_ + (1 : Int64)) + (XT.ushrL (p2 &&& (1152921504606846975 : Int64)) ((XT.ushr sl (4 : Int32)) &&& (63 : Int32)))).toInt = ((A0 + D1 : Nat) : Int) := by
    have e1 : (a0_ + (1 : Int64)).toInt = a0_.toInt + 1 := by rw [i64_add (by omega) (by omega)]; omega
    rw [i64_add (by omega) (by omega)]; omega
  generalize ((a0_ + (1 : Int64)) + (XT.ushrL (p2 &&& (1152921504606846975 : Int64)) ((XT.ushr sl (4 : Int32)) &&& (63 : Int32)))) = a1 at ha1 ⊢
  refine WP.lload K 32 at_30 rfl rfl ?_
  refine WP.lconst K (1 : Int64) 33 at_32 rfl rfl ?_
  refine WP.ladd K 34 at_33 rfl ?_
  refine WP.lload K 36 at_34 rfl rfl ?_
  refine WP.lload K 38 at_36 rfl rfl ?_
  refine WP.land K 39 at_38 rfl ?_
  refine WP.iload K 41 at_39 rfl rfl ?_
  refine WP.bipush K (10 : Int32) 43 at_41 rfl rfl ?_
  refine WP.iushr K 44 at_43 rfl ?_
  refine WP.bipush K (63 : Int32) 46 at_44 rfl rfl ?_
  refine WP.iand K 47 at_46 rfl ?_
  refine WP.lushr K 48 at_47 rfl ?_
  refine WP.ladd K 49 at_48 rfl ?_
  refine WP.lstore K 51 [.val (.long p1), .second, .val (.long p2), .second, .val (.long p3), .second, .val (.long p4), .second, .val (.int sl), .val (.long pq), .second, .val (.long (1152921504606846975 : Int64)), .second, .val (.long a0_), .second, .val (.long a1), .second, .val (.long ((a1 + (1 : Int64)) + (XT.ushrL (p3 &&& (1152921504606846975 : Int64)) ((XT.ushr sl (10 : Int32)) &&& (63 : Int32))))), .second, .unset, .unset, .unset, .unset, .unset, .unset, .unset, .unset, .unset, .unset, .unset, .unset, .unset, .unset] at_49 rfl rfl ?_
  obtain ⟨m2, hm2, lm2⟩ := ushrL_le ((XT.ushr sl (10 : Int32)) &&& (63 : Int32)) hQ3
  obtain ⟨D2, eD2⟩ : ∃ n : Nat, n = 1 + m2 := ⟨_, rfl⟩
  have ha2 : ((a1 + (1 : Int64)) + (XT.ushrL (p3 &&& (1152921504606846975 : Int64)) ((XT.ushr sl (10 : Int32)) &&& (63 : Int32)))).toInt = ((A0 + D1 + D2 : Nat) : Int) := by
    have e1 : (a1 + (1 : Int64)).toInt = a1.toInt + 1 := by rw [i64_add (by omega) (by omega)]; omega
    rw [i64_add (by omega) (by omega)]; omega
  generalize ((a1 + (1 : Int64)) + (XT.ushrL (p3 &&& (1152921504606846975 : Int64)) ((XT.ushr sl (10 : Int32)) &&& (63 : Int32)))) = a2 at ha2 ⊢
  refine WP.lload K 53 at_51 rfl rfl ?_
  refine WP.lconst K (1 : Int64) 54 at_53 rfl rfl ?_
  refine WP.ladd K 55 at_54 rfl ?_
  refine WP.lload K 57 at_55 rfl rfl ?_
  refine WP.lload K 59 at_57 rfl rfl ?_
  refine WP.land K 60 at_59 rfl ?_
  refine WP.iload K 62 at_60 rfl rfl ?_
  refine WP.bipush K (16 : Int32) 64 at_62 rfl rfl ?_
  refine WP.iushr K 65 at_64 rfl ?_
  refine WP.bipush K (63 : Int32) 67 at_65 rfl rfl ?_
  refine WP.iand K 68 at_67 rfl ?_
  refine WP.lushr K 69 at_68 rfl ?_
  refine WP.ladd K 70 at_69 rfl ?_
  refine WP.lstore K 72 [.val (.long p1), .second, .val (.long p2), .second, .val (.long p3), .second, .val (.long p4), .second, .val (.int sl), .val (.long pq), .second, .val (.long (1152921504606846975 : Int64)), .second, .val (.long a0_), .second, .val (.long a1), .second, .val (.long a2), .second, .val (.long ((a2 + (1 : Int64)) + (XT.ushrL (p4 &&& (1152921504606846975 : Int64)) ((XT.ushr sl (16 : Int32)) &&& (63 : Int32))))), .second, .unset, .unset, .unset, .unset, .unset, .unset, .unset, .unset, .unset, .unset, .unset, .unset] at_70 rfl rfl ?_
  obtain ⟨m3, hm3, lm3⟩ := ushrL_le ((XT.ushr sl (16 : Int32)) &&& (63 : Int32)) hQ4
  obtain ⟨D3, eD3⟩ : ∃ n : Nat, n = 1 + m3 := ⟨_, rfl⟩
  have ha3 : ((a2 + (1 : Int64)) + (XT.ushrL (p4 &&& (1152921504606846975 : Int64)) ((XT.ushr sl (16 : Int32)) &&& (63 : Int32)))).toInt = ((A0 + D1 + D2 + D3 : Nat) : Int) := by
    have e1 : (a2 + (1 : Int64)).toInt = a2.toInt + 1 := by rw [i64_add (by omega) (by omega)]; omega
    rw [i64_add (by omega) (by omega)]; omega
  generalize ((a2 + (1 : Int64)) + (XT.ushrL (p4 &&& (1152921504606846975 : Int64)) ((XT.ushr sl (16 : Int32)) &&& (63 : Int32)))) = a3 at ha3 ⊢
  refine WP.iload K 74 at_72 rfl rfl ?_
  refine WP.iconst K (3 : Int32) 75 at_74 rfl rfl ?_
  refine WP.iand K 76 at_75 rfl ?_
  refine WP.istore K 78 [.val (.long p1), .second, .val (.long p2), .second, .val (.long p3), .second, .val (.long p4), .second, .val (.int sl), .val (.long pq), .second, .val (.long (1152921504606846975 : Int64)), .second, .val (.long a0_), .second, .val (.long a1), .second, .val (.long a2), .second, .val (.long a3), .second, .val (.int (sl &&& (3 : Int32))), .unset, .unset, .unset, .unset, .unset, .unset, .unset, .unset, .unset, .unset, .unset] at_76 rfl rfl ?_
  have hmd := c_mask sl (3 : Int32) 2 (by decide) rfl
  generalize (sl &&& (3 : Int32)) = md at hmd ⊢
  have hmd : 0 ≤ md.toInt ∧ md.toInt < 4 := by omega
  refine WP.iload K 80 at_78 rfl rfl ?_
  refine WP.iconst K (2 : Int32) 81 at_80 rfl rfl ?_
  refine WP.iushr K 82 at_81 rfl ?_
  refine WP.iconst K (3 : Int32) 83 at_82 rfl rfl ?_
  refine WP.iand K 84 at_83 rfl ?_
  refine WP.istore K 86 [.val (.long p1), .second, .val (.long p2), .second, .val (.long p3), .second, .val (.long p4), .second, .val (.int sl), .val (.long pq), .second, .val (.long (1152921504606846975 : Int64)), .second, .val (.long a0_), .second, .val (.long a1), .second, .val (.long a2), .second, .val (.long a3), .second, .val (.int md), .val (.int ((XT.ushr sl (2 : Int32)) &&& (3 : Int32))), .unset, .unset, .unset, .unset, .unset, .unset, .unset, .unset, .unset, .unset] at_84 rfl rfl ?_
  have hkk := c_mask (XT.ushr sl (2 : Int32)) (3 : Int32) 2 (by decide) rfl
  generalize ((XT.ushr sl (2 : Int32)) &&& (3 : Int32)) = kk at hkk ⊢
  have hkk : 0 ≤ kk.toInt ∧ kk.toInt < 4 := by omega
  have b1 : D1 < 1152921504606846978 ∧ D2 < 1152921504606846978 ∧ D3 < 1152921504606846978 ∧ 1 ≤ D1 ∧ 1 ≤ D2 ∧ 1 ≤ D3 := by omega
  have hED1 := el_le9 (G := D1) (by omega)
  have hED2 := el_le9 (G := D2) (by omega)
  have hED3 := el_le9 (G := D3) (by omega)
  have hED1_D2 := el_le9 (G := (D1 + D2)) (by omega)
  have hED2_D3 := el_le9 (G := (D2 + D3)) (by omega)
  refine WP.new K 89 1 4 (hw _ (List.mem_of_getElem? (i := 1) rfl)) (hw _ (List.mem_of_getElem? (i := 2) rfl)) (hw _ (List.mem_of_getElem? (i := 3) rfl)) at_86 rfl rfl rfl (by decide) (by decide) (fun h1 m z_m E2 X_m Dl3 => ?_)
  have l_no_m : @LT.lt Nat _ no m := z_m ▸ A_no.lt
  have n0_m : @LE.le Nat _ n0 m := z_m ▸ Z0
  have Z0 : n0 ≤ (h1).size := Nat.le_trans Z0 E2.1
  have SN := SN.ext E2
  have A_no := A_no.ext E2
  have F_runs_m : Fld Z h1 m "com/example/highwater/highwater/MessageIndex" "runs" "[Lcom/example/highwater/highwater/MessageIndex$Run;" .null := Dl3 (Or.inl (hw _ (List.mem_of_getElem? (i := 13) rfl))) (ty := (.array (.object "com/example/highwater/highwater/MessageIndex$Run"))) (by decide)
  have F_count_m : Fld Z h1 m "com/example/highwater/highwater/MessageIndex" "count" "I" (.int (0 : Int32)) := Dl3 (Or.inl (hw _ (List.mem_of_getElem? (i := 20) rfl))) (ty := .int) (by decide)
  have F_head_m : Fld Z h1 m "com/example/highwater/highwater/MessageIndex" "head" "I" (.int (0 : Int32)) := Dl3 (Or.inl (hw _ (List.mem_of_getElem? (i := 40) rfl))) (ty := .int) (by decide)
  have F_size_m : Fld Z h1 m "com/example/highwater/highwater/MessageIndex" "size" "I" (.int (0 : Int32)) := Dl3 (Or.inl (hw _ (List.mem_of_getElem? (i := 47) rfl))) (ty := .int) (by decide)
  refine WP.dup K 90 at_89 rfl rfl ?_
  refine WP.callI K (a := m) 93 2 6 1 [] [(.ref m)] (hw _ (List.mem_of_getElem? (i := 4) rfl)) (hw _ (List.mem_of_getElem? (i := 5) rfl)) (hw _ (List.mem_of_getElem? (i := 3) rfl)) (hw _ (List.mem_of_getElem? (i := 6) rfl)) rfl (by decide) own_pd_12 rfl rfl rfl (by decide) (by decide) (Nat.le_of_eq rfl) rfl at_90 rfl rfl rfl (by decide) (by decide) (own_mctor l Z a0 hw n0 h1 m no X_m _ F_runs_m F_head_m F_count_m F_size_m n0_m Z0 SN A_no (by omega)) (r0_next fun h4 q5 => ?_)
  obtain ⟨HM, SN, A_no⟩ := q5
  refine WP.astore K 95 [.val (.long p1), .second, .val (.long p2), .second, .val (.long p3), .second, .val (.long p4), .second, .val (.int sl), .val (.long pq), .second, .val (.long (1152921504606846975 : Int64)), .second, .val (.long a0_), .second, .val (.long a1), .second, .val (.long a2), .second, .val (.long a3), .second, .val (.int md), .val (.int kk), .val (.ref m), .unset, .unset, .unset, .unset, .unset, .unset, .unset, .unset, .unset] at_93 rfl rfl rfl ?_
  have J222 : ∀ (hh : Heap) (F : Nat) (gs : List Nat), MI Z hh n0 m F gs → (∀ q : Int, InR q F gs ↔ (q = ((A0 : Nat) : Int) ∧ ¬ (md.toInt = 3 ∧ kk.toInt = 0)) ∨ (q = ((A0 + D1 : Nat) : Int) ∧ ¬ (md.toInt = 3 ∧ kk.toInt = 1)) ∨ (q = ((A0 + D1 + D2 : Nat) : Int) ∧ ¬ (md.toInt = 3 ∧ kk.toInt = 2)) ∨ (q = ((A0 + D1 + D2 + D3 : Nat) : Int) ∧ ¬ (md.toInt = 3 ∧ kk.toInt = 3))) → WP k hh 7 227 222 [.val (.long p1), .second, .val (.long p2), .second, .val (.long p3), .second, .val (.long p4), .second, .val (.int sl), .val (.long pq), .second, .val (.long (1152921504606846975 : Int64)), .second, .val (.long a0_), .second, .val (.long a1), .second, .val (.long a2), .second, .val (.long a3), .second, .val (.int md), .val (.int kk), .val (.ref m), .unset, .unset, .unset, .unset, .unset, .unset, .unset, .unset, .unset] [] := by
    intro hh F gs HM hIn
    have J275 : ∀ (x24 x25 : Int32) (qv : Int64), WP k hh 7 227 275 [.val (.long p1), .second, .val (.long p2), .second, .val (.long p3), .second, .val (.long p4), .second, .val (.int sl), .val (.long pq), .second, .val (.long (1152921504606846975 : Int64)), .second, .val (.long a0_), .second, .val (.long a1), .second, .val (.long a2), .second, .val (.long a3), .second, .val (.int md), .val (.int kk), .val (.ref m), .val (.int x24), .val (.int x25), .val (.long qv), .second, .unset, .unset, .unset, .unset, .unset] [] := by
      intro x24 x25 qv
      have hQ := hIn qv.toInt
      have J389 : ∀ (e0 e1 e2 e3 : Int32), (InR qv.toInt F gs ↔ (qv.toInt = ((A0 : Nat) : Int) ∧ e0.toInt ≠ 0) ∨ (qv.toInt = ((A0 + D1 : Nat) : Int) ∧ e1.toInt ≠ 0) ∨ (qv.toInt = ((A0 + D1 + D2 : Nat) : Int) ∧ e2.toInt ≠ 0) ∨ (qv.toInt = ((A0 + D1 + D2 + D3 : Nat) : Int) ∧ e3.toInt ≠ 0)) → ¬ (qv.toInt = ((A0 : Nat) : Int) ∧ e0.toInt ≠ 0) → ¬ (qv.toInt = ((A0 + D1 : Nat) : Int) ∧ e1.toInt ≠ 0) → ¬ (qv.toInt = ((A0 + D1 + D2 : Nat) : Int) ∧ e2.toInt ≠ 0) → WP k hh 7 227 389 [.val (.long p1), .second, .val (.long p2), .second, .val (.long p3), .second, .val (.long p4), .second, .val (.int sl), .val (.long pq), .second, .val (.long (1152921504606846975 : Int64)), .second, .val (.long a0_), .second, .val (.long a1), .second, .val (.long a2), .second, .val (.long a3), .second, .val (.int md), .val (.int kk), .val (.ref m), .val (.int x24), .val (.int x25), .val (.long qv), .second, .val (.int e0), .val (.int e1), .val (.int e2), .val (.int e3), .unset] [] := by
        intro e0 e1 e2 e3 hX g0 g1 g2
        refine WP.lload K 391 at_389 rfl rfl ?_
        refine WP.lload K 393 at_391 rfl rfl ?_
        refine WP.lcmp K 394 at_393 rfl ?_
        refine WP.ifl_ne K 406 397 at_394 (by decide) rfl (fun c394 => ?_) (fun c394 => ?_)
        · skip
          have hP : ¬ InR qv.toInt F gs := fun q => by have := hX.mp q; omega
          refine WP.iconst K (0 : Int32) 407 at_406 rfl rfl ?_
          refine WP.istore K 409 [.val (.long p1), .second, .val (.long p2), .second, .val (.long p3), .second, .val (.long p4), .second, .val (.int sl), .val (.long pq), .second, .val (.long (1152921504606846975 : Int64)), .second, .val (.long a0_), .second, .val (.long a1), .second, .val (.long a2), .second, .val (.long a3), .second, .val (.int md), .val (.int kk), .val (.ref m), .val (.int x24), .val (.int x25), .val (.long qv), .second, .val (.int e0), .val (.int e1), .val (.int e2), .val (.int e3), .val (.int (0 : Int32))] at_407 rfl rfl ?_
          refine WP.aload K 411 at_409 rfl rfl rfl ?_
          refine WP.lload K 413 at_411 rfl rfl ?_
          refine WP.callV K (a := m) (C := "com/example/highwater/highwater/MessageIndex") 416 7 227 0 [(.long qv)] [] (hw _ (List.mem_of_getElem? (i := 132) rfl)) (hw _ (List.mem_of_getElem? (i := 133) rfl)) rfl (hw _ (List.mem_of_getElem? (i := 135) rfl)) (hw _ (List.mem_of_getElem? (i := 134) rfl)) (hw _ (List.mem_of_getElem? (i := 3) rfl)) (hw _ (List.mem_of_getElem? (i := 136) rfl)) (by decide) own_pd_11 rfl rfl rfl (by decide) (by decide) (Nat.le_of_eq rfl) rfl at_413 rfl rfl rfl (by decide) (by decide) HM.ex (own_mcontains l Z a0 hw n0 hh m F gs HM qv) (r1_next fun r9 h7 q8 => ?_)
          obtain ⟨hq2, rfl⟩ := q8
          rcases hq2 with ⟨rfl, hI⟩ | ⟨rfl, hI⟩
          · skip
            exact absurd hI hP
          · skip
            refine WP.iload K 418 at_416 rfl rfl ?_
            refine WP.icmp_ne K 425 421 at_418 (by decide) rfl (fun c418 => ?_) (fun c418 => ?_)
            · skip
              exact absurd c418 (by decide)
            · skip
              refine WP.iconst K (1 : Int32) 422 at_421 rfl rfl ?_
              refine WP.goto K 426 at_422 (by decide) ?_
              refine WP.iret K rfl (Or.inr (Or.inl rfl)) rfl at_426 ?_ (by decide) (by decide)
              exact ⟨_, rfl, rfl⟩
        · skip
          refine WP.iload K 399 at_397 rfl rfl ?_
          refine WP.if_eq K 406 402 at_399 (by decide) rfl (fun c399 => ?_) (fun c399 => ?_)
          · skip
            have hP : ¬ InR qv.toInt F gs := fun q => by have := hX.mp q; omega
            refine WP.iconst K (0 : Int32) 407 at_406 rfl rfl ?_
            refine WP.istore K 409 [.val (.long p1), .second, .val (.long p2), .second, .val (.long p3), .second, .val (.long p4), .second, .val (.int sl), .val (.long pq), .second, .val (.long (1152921504606846975 : Int64)), .second, .val (.long a0_), .second, .val (.long a1), .second, .val (.long a2), .second, .val (.long a3), .second, .val (.int md), .val (.int kk), .val (.ref m), .val (.int x24), .val (.int x25), .val (.long qv), .second, .val (.int e0), .val (.int e1), .val (.int e2), .val (.int e3), .val (.int (0 : Int32))] at_407 rfl rfl ?_
            refine WP.aload K 411 at_409 rfl rfl rfl ?_
            refine WP.lload K 413 at_411 rfl rfl ?_
            refine WP.callV K (a := m) (C := "com/example/highwater/highwater/MessageIndex") 416 7 227 0 [(.long qv)] [] (hw _ (List.mem_of_getElem? (i := 132) rfl)) (hw _ (List.mem_of_getElem? (i := 133) rfl)) rfl (hw _ (List.mem_of_getElem? (i := 135) rfl)) (hw _ (List.mem_of_getElem? (i := 134) rfl)) (hw _ (List.mem_of_getElem? (i := 3) rfl)) (hw _ (List.mem_of_getElem? (i := 136) rfl)) (by decide) own_pd_11 rfl rfl rfl (by decide) (by decide) (Nat.le_of_eq rfl) rfl at_413 rfl rfl rfl (by decide) (by decide) HM.ex (own_mcontains l Z a0 hw n0 hh m F gs HM qv) (r1_next fun r12 h10 q11 => ?_)
            obtain ⟨hq2, rfl⟩ := q11
            rcases hq2 with ⟨rfl, hI⟩ | ⟨rfl, hI⟩
            · skip
              exact absurd hI hP
            · skip
              refine WP.iload K 418 at_416 rfl rfl ?_
              refine WP.icmp_ne K 425 421 at_418 (by decide) rfl (fun c418 => ?_) (fun c418 => ?_)
              · skip
                exact absurd c418 (by decide)
              · skip
                refine WP.iconst K (1 : Int32) 422 at_421 rfl rfl ?_
                refine WP.goto K 426 at_422 (by decide) ?_
                refine WP.iret K rfl (Or.inr (Or.inl rfl)) rfl at_426 ?_ (by decide) (by decide)
                exact ⟨_, rfl, rfl⟩
          · skip
            have hP : InR qv.toInt F gs := hX.mpr (by omega)
            refine WP.iconst K (1 : Int32) 403 at_402 rfl rfl ?_
            refine WP.goto K 407 at_403 (by decide) ?_
            refine WP.istore K 409 [.val (.long p1), .second, .val (.long p2), .second, .val (.long p3), .second, .val (.long p4), .second, .val (.int sl), .val (.long pq), .second, .val (.long (1152921504606846975 : Int64)), .second, .val (.long a0_), .second, .val (.long a1), .second, .val (.long a2), .second, .val (.long a3), .second, .val (.int md), .val (.int kk), .val (.ref m), .val (.int x24), .val (.int x25), .val (.long qv), .second, .val (.int e0), .val (.int e1), .val (.int e2), .val (.int e3), .val (.int (1 : Int32))] at_407 rfl rfl ?_
            refine WP.aload K 411 at_409 rfl rfl rfl ?_
            refine WP.lload K 413 at_411 rfl rfl ?_
            refine WP.callV K (a := m) (C := "com/example/highwater/highwater/MessageIndex") 416 7 227 0 [(.long qv)] [] (hw _ (List.mem_of_getElem? (i := 132) rfl)) (hw _ (List.mem_of_getElem? (i := 133) rfl)) rfl (hw _ (List.mem_of_getElem? (i := 135) rfl)) (hw _ (List.mem_of_getElem? (i := 134) rfl)) (hw _ (List.mem_of_getElem? (i := 3) rfl)) (hw _ (List.mem_of_getElem? (i := 136) rfl)) (by decide) own_pd_11 rfl rfl rfl (by decide) (by decide) (Nat.le_of_eq rfl) rfl at_413 rfl rfl rfl (by decide) (by decide) HM.ex (own_mcontains l Z a0 hw n0 hh m F gs HM qv) (r1_next fun r15 h13 q14 => ?_)
            obtain ⟨hq2, rfl⟩ := q14
            rcases hq2 with ⟨rfl, hI⟩ | ⟨rfl, hI⟩
            · skip
              refine WP.iload K 418 at_416 rfl rfl ?_
              refine WP.icmp_ne K 425 421 at_418 (by decide) rfl (fun c418 => ?_) (fun c418 => ?_)
              · skip
                exact absurd c418 (by decide)
              · skip
                refine WP.iconst K (1 : Int32) 422 at_421 rfl rfl ?_
                refine WP.goto K 426 at_422 (by decide) ?_
                refine WP.iret K rfl (Or.inr (Or.inl rfl)) rfl at_426 ?_ (by decide) (by decide)
                exact ⟨_, rfl, rfl⟩
            · skip
              exact absurd hP hI
      have J376 : ∀ (e0 e1 e2 e3 : Int32), (InR qv.toInt F gs ↔ (qv.toInt = ((A0 : Nat) : Int) ∧ e0.toInt ≠ 0) ∨ (qv.toInt = ((A0 + D1 : Nat) : Int) ∧ e1.toInt ≠ 0) ∨ (qv.toInt = ((A0 + D1 + D2 : Nat) : Int) ∧ e2.toInt ≠ 0) ∨ (qv.toInt = ((A0 + D1 + D2 + D3 : Nat) : Int) ∧ e3.toInt ≠ 0)) → ¬ (qv.toInt = ((A0 : Nat) : Int) ∧ e0.toInt ≠ 0) → ¬ (qv.toInt = ((A0 + D1 : Nat) : Int) ∧ e1.toInt ≠ 0) → WP k hh 7 227 376 [.val (.long p1), .second, .val (.long p2), .second, .val (.long p3), .second, .val (.long p4), .second, .val (.int sl), .val (.long pq), .second, .val (.long (1152921504606846975 : Int64)), .second, .val (.long a0_), .second, .val (.long a1), .second, .val (.long a2), .second, .val (.long a3), .second, .val (.int md), .val (.int kk), .val (.ref m), .val (.int x24), .val (.int x25), .val (.long qv), .second, .val (.int e0), .val (.int e1), .val (.int e2), .val (.int e3), .unset] [] := by
        intro e0 e1 e2 e3 hX g0 g1
        refine WP.lload K 378 at_376 rfl rfl ?_
        refine WP.lload K 380 at_378 rfl rfl ?_
        refine WP.lcmp K 381 at_380 rfl ?_
        refine WP.ifl_ne K 389 384 at_381 (by decide) rfl (fun c381 => ?_) (fun c381 => ?_)
        · skip
          exact J389 _ _ _ _ hX g0 g1 (by omega)
        · skip
          refine WP.iload K 386 at_384 rfl rfl ?_
          refine WP.if_ne K 402 389 at_386 (by decide) rfl (fun c386 => ?_) (fun c386 => ?_)
          · skip
            have hP : InR qv.toInt F gs := hX.mpr (by omega)
            refine WP.iconst K (1 : Int32) 403 at_402 rfl rfl ?_
            refine WP.goto K 407 at_403 (by decide) ?_
            refine WP.istore K 409 [.val (.long p1), .second, .val (.long p2), .second, .val (.long p3), .second, .val (.long p4), .second, .val (.int sl), .val (.long pq), .second, .val (.long (1152921504606846975 : Int64)), .second, .val (.long a0_), .second, .val (.long a1), .second, .val (.long a2), .second, .val (.long a3), .second, .val (.int md), .val (.int kk), .val (.ref m), .val (.int x24), .val (.int x25), .val (.long qv), .second, .val (.int e0), .val (.int e1), .val (.int e2), .val (.int e3), .val (.int (1 : Int32))] at_407 rfl rfl ?_
            refine WP.aload K 411 at_409 rfl rfl rfl ?_
            refine WP.lload K 413 at_411 rfl rfl ?_
            refine WP.callV K (a := m) (C := "com/example/highwater/highwater/MessageIndex") 416 7 227 0 [(.long qv)] [] (hw _ (List.mem_of_getElem? (i := 132) rfl)) (hw _ (List.mem_of_getElem? (i := 133) rfl)) rfl (hw _ (List.mem_of_getElem? (i := 135) rfl)) (hw _ (List.mem_of_getElem? (i := 134) rfl)) (hw _ (List.mem_of_getElem? (i := 3) rfl)) (hw _ (List.mem_of_getElem? (i := 136) rfl)) (by decide) own_pd_11 rfl rfl rfl (by decide) (by decide) (Nat.le_of_eq rfl) rfl at_413 rfl rfl rfl (by decide) (by decide) HM.ex (own_mcontains l Z a0 hw n0 hh m F gs HM qv) (r1_next fun r18 h16 q17 => ?_)
            obtain ⟨hq2, rfl⟩ := q17
            rcases hq2 with ⟨rfl, hI⟩ | ⟨rfl, hI⟩
            · skip
              refine WP.iload K 418 at_416 rfl rfl ?_
              refine WP.icmp_ne K 425 421 at_418 (by decide) rfl (fun c418 => ?_) (fun c418 => ?_)
              · skip
                exact absurd c418 (by decide)
              · skip
                refine WP.iconst K (1 : Int32) 422 at_421 rfl rfl ?_
                refine WP.goto K 426 at_422 (by decide) ?_
                refine WP.iret K rfl (Or.inr (Or.inl rfl)) rfl at_426 ?_ (by decide) (by decide)
                exact ⟨_, rfl, rfl⟩
            · skip
              exact absurd hP hI
          · skip
            exact J389 _ _ _ _ hX g0 g1 (by omega)
      have J363 : ∀ (e0 e1 e2 e3 : Int32), (InR qv.toInt F gs ↔ (qv.toInt = ((A0 : Nat) : Int) ∧ e0.toInt ≠ 0) ∨ (qv.toInt = ((A0 + D1 : Nat) : Int) ∧ e1.toInt ≠ 0) ∨ (qv.toInt = ((A0 + D1 + D2 : Nat) : Int) ∧ e2.toInt ≠ 0) ∨ (qv.toInt = ((A0 + D1 + D2 + D3 : Nat) : Int) ∧ e3.toInt ≠ 0)) → ¬ (qv.toInt = ((A0 : Nat) : Int) ∧ e0.toInt ≠ 0) → WP k hh 7 227 363 [.val (.long p1), .second, .val (.long p2), .second, .val (.long p3), .second, .val (.long p4), .second, .val (.int sl), .val (.long pq), .second, .val (.long (1152921504606846975 : Int64)), .second, .val (.long a0_), .second, .val (.long a1), .second, .val (.long a2), .second, .val (.long a3), .second, .val (.int md), .val (.int kk), .val (.ref m), .val (.int x24), .val (.int x25), .val (.long qv), .second, .val (.int e0), .val (.int e1), .val (.int e2), .val (.int e3), .unset] [] := by
        intro e0 e1 e2 e3 hX g0
        refine WP.lload K 365 at_363 rfl rfl ?_
        refine WP.lload K 367 at_365 rfl rfl ?_
        refine WP.lcmp K 368 at_367 rfl ?_
        refine WP.ifl_ne K 376 371 at_368 (by decide) rfl (fun c368 => ?_) (fun c368 => ?_)
        · skip
          exact J376 _ _ _ _ hX g0 (by omega)
        · skip
          refine WP.iload K 373 at_371 rfl rfl ?_
          refine WP.if_ne K 402 376 at_373 (by decide) rfl (fun c373 => ?_) (fun c373 => ?_)
          · skip
            have hP : InR qv.toInt F gs := hX.mpr (by omega)
            refine WP.iconst K (1 : Int32) 403 at_402 rfl rfl ?_
            refine WP.goto K 407 at_403 (by decide) ?_
            refine WP.istore K 409 [.val (.long p1), .second, .val (.long p2), .second, .val (.long p3), .second, .val (.long p4), .second, .val (.int sl), .val (.long pq), .second, .val (.long (1152921504606846975 : Int64)), .second, .val (.long a0_), .second, .val (.long a1), .second, .val (.long a2), .second, .val (.long a3), .second, .val (.int md), .val (.int kk), .val (.ref m), .val (.int x24), .val (.int x25), .val (.long qv), .second, .val (.int e0), .val (.int e1), .val (.int e2), .val (.int e3), .val (.int (1 : Int32))] at_407 rfl rfl ?_
            refine WP.aload K 411 at_409 rfl rfl rfl ?_
            refine WP.lload K 413 at_411 rfl rfl ?_
            refine WP.callV K (a := m) (C := "com/example/highwater/highwater/MessageIndex") 416 7 227 0 [(.long qv)] [] (hw _ (List.mem_of_getElem? (i := 132) rfl)) (hw _ (List.mem_of_getElem? (i := 133) rfl)) rfl (hw _ (List.mem_of_getElem? (i := 135) rfl)) (hw _ (List.mem_of_getElem? (i := 134) rfl)) (hw _ (List.mem_of_getElem? (i := 3) rfl)) (hw _ (List.mem_of_getElem? (i := 136) rfl)) (by decide) own_pd_11 rfl rfl rfl (by decide) (by decide) (Nat.le_of_eq rfl) rfl at_413 rfl rfl rfl (by decide) (by decide) HM.ex (own_mcontains l Z a0 hw n0 hh m F gs HM qv) (r1_next fun r21 h19 q20 => ?_)
            obtain ⟨hq2, rfl⟩ := q20
            rcases hq2 with ⟨rfl, hI⟩ | ⟨rfl, hI⟩
            · skip
              refine WP.iload K 418 at_416 rfl rfl ?_
              refine WP.icmp_ne K 425 421 at_418 (by decide) rfl (fun c418 => ?_) (fun c418 => ?_)
              · skip
                exact absurd c418 (by decide)
              · skip
                refine WP.iconst K (1 : Int32) 422 at_421 rfl rfl ?_
                refine WP.goto K 426 at_422 (by decide) ?_
                refine WP.iret K rfl (Or.inr (Or.inl rfl)) rfl at_426 ?_ (by decide) (by decide)
                exact ⟨_, rfl, rfl⟩
            · skip
              exact absurd hP hI
          · skip
            exact J376 _ _ _ _ hX g0 (by omega)
      have J350 : ∀ (e0 e1 e2 e3 : Int32), (InR qv.toInt F gs ↔ (qv.toInt = ((A0 : Nat) : Int) ∧ e0.toInt ≠ 0) ∨ (qv.toInt = ((A0 + D1 : Nat) : Int) ∧ e1.toInt ≠ 0) ∨ (qv.toInt = ((A0 + D1 + D2 : Nat) : Int) ∧ e2.toInt ≠ 0) ∨ (qv.toInt = ((A0 + D1 + D2 + D3 : Nat) : Int) ∧ e3.toInt ≠ 0)) → WP k hh 7 227 350 [.val (.long p1), .second, .val (.long p2), .second, .val (.long p3), .second, .val (.long p4), .second, .val (.int sl), .val (.long pq), .second, .val (.long (1152921504606846975 : Int64)), .second, .val (.long a0_), .second, .val (.long a1), .second, .val (.long a2), .second, .val (.long a3), .second, .val (.int md), .val (.int kk), .val (.ref m), .val (.int x24), .val (.int x25), .val (.long qv), .second, .val (.int e0), .val (.int e1), .val (.int e2), .val (.int e3), .unset] [] := by
        intro e0 e1 e2 e3 hX 
        refine WP.lload K 352 at_350 rfl rfl ?_
        refine WP.lload K 354 at_352 rfl rfl ?_
        refine WP.lcmp K 355 at_354 rfl ?_
        refine WP.ifl_ne K 363 358 at_355 (by decide) rfl (fun c355 => ?_) (fun c355 => ?_)
        · skip
          exact J363 _ _ _ _ hX  (by omega)
        · skip
          refine WP.iload K 360 at_358 rfl rfl ?_
          refine WP.if_ne K 402 363 at_360 (by decide) rfl (fun c360 => ?_) (fun c360 => ?_)
          · skip
            have hP : InR qv.toInt F gs := hX.mpr (by omega)
            refine WP.iconst K (1 : Int32) 403 at_402 rfl rfl ?_
            refine WP.goto K 407 at_403 (by decide) ?_
            refine WP.istore K 409 [.val (.long p1), .second, .val (.long p2), .second, .val (.long p3), .second, .val (.long p4), .second, .val (.int sl), .val (.long pq), .second, .val (.long (1152921504606846975 : Int64)), .second, .val (.long a0_), .second, .val (.long a1), .second, .val (.long a2), .second, .val (.long a3), .second, .val (.int md), .val (.int kk), .val (.ref m), .val (.int x24), .val (.int x25), .val (.long qv), .second, .val (.int e0), .val (.int e1), .val (.int e2), .val (.int e3), .val (.int (1 : Int32))] at_407 rfl rfl ?_
            refine WP.aload K 411 at_409 rfl rfl rfl ?_
            refine WP.lload K 413 at_411 rfl rfl ?_
            refine WP.callV K (a := m) (C := "com/example/highwater/highwater/MessageIndex") 416 7 227 0 [(.long qv)] [] (hw _ (List.mem_of_getElem? (i := 132) rfl)) (hw _ (List.mem_of_getElem? (i := 133) rfl)) rfl (hw _ (List.mem_of_getElem? (i := 135) rfl)) (hw _ (List.mem_of_getElem? (i := 134) rfl)) (hw _ (List.mem_of_getElem? (i := 3) rfl)) (hw _ (List.mem_of_getElem? (i := 136) rfl)) (by decide) own_pd_11 rfl rfl rfl (by decide) (by decide) (Nat.le_of_eq rfl) rfl at_413 rfl rfl rfl (by decide) (by decide) HM.ex (own_mcontains l Z a0 hw n0 hh m F gs HM qv) (r1_next fun r24 h22 q23 => ?_)
            obtain ⟨hq2, rfl⟩ := q23
            rcases hq2 with ⟨rfl, hI⟩ | ⟨rfl, hI⟩
            · skip
              refine WP.iload K 418 at_416 rfl rfl ?_
              refine WP.icmp_ne K 425 421 at_418 (by decide) rfl (fun c418 => ?_) (fun c418 => ?_)
              · skip
                exact absurd c418 (by decide)
              · skip
                refine WP.iconst K (1 : Int32) 422 at_421 rfl rfl ?_
                refine WP.goto K 426 at_422 (by decide) ?_
                refine WP.iret K rfl (Or.inr (Or.inl rfl)) rfl at_426 ?_ (by decide) (by decide)
                exact ⟨_, rfl, rfl⟩
            · skip
              exact absurd hP hI
          · skip
            exact J363 _ _ _ _ hX  (by omega)
      rcases (show md.toInt ≠ 3 ∨ (md.toInt = 3 ∧ kk.toInt = 0) ∨ (md.toInt = 3 ∧ kk.toInt = 1) ∨ (md.toInt = 3 ∧ kk.toInt = 2) ∨ (md.toInt = 3 ∧ kk.toInt = 3) by omega) with hc | hc | hc | hc | hc
      · skip
        refine WP.iload K 277 at_275 rfl rfl ?_
        refine WP.iconst K (3 : Int32) 278 at_277 rfl rfl ?_
        refine WP.icmp_ne K 286 281 at_278 (by decide) rfl (fun c278 => ?_) (fun c278 => ?_)
        · skip
          refine WP.iconst K (1 : Int32) 287 at_286 rfl rfl ?_
          refine WP.goto K 291 at_287 (by decide) ?_
          refine WP.istore K 293 [.val (.long p1), .second, .val (.long p2), .second, .val (.long p3), .second, .val (.long p4), .second, .val (.int sl), .val (.long pq), .second, .val (.long (1152921504606846975 : Int64)), .second, .val (.long a0_), .second, .val (.long a1), .second, .val (.long a2), .second, .val (.long a3), .second, .val (.int md), .val (.int kk), .val (.ref m), .val (.int x24), .val (.int x25), .val (.long qv), .second, .val (.int (1 : Int32)), .unset, .unset, .unset, .unset] at_291 rfl rfl ?_
          refine WP.iload K 295 at_293 rfl rfl ?_
          refine WP.iconst K (3 : Int32) 296 at_295 rfl rfl ?_
          refine WP.icmp_ne K 305 299 at_296 (by decide) rfl (fun c296 => ?_) (fun c296 => ?_)
          · skip
            refine WP.iconst K (1 : Int32) 306 at_305 rfl rfl ?_
            refine WP.goto K 310 at_306 (by decide) ?_
            refine WP.istore K 312 [.val (.long p1), .second, .val (.long p2), .second, .val (.long p3), .second, .val (.long p4), .second, .val (.int sl), .val (.long pq), .second, .val (.long (1152921504606846975 : Int64)), .second, .val (.long a0_), .second, .val (.long a1), .second, .val (.long a2), .second, .val (.long a3), .second, .val (.int md), .val (.int kk), .val (.ref m), .val (.int x24), .val (.int x25), .val (.long qv), .second, .val (.int (1 : Int32)), .val (.int (1 : Int32)), .unset, .unset, .unset] at_310 rfl rfl ?_
            refine WP.iload K 314 at_312 rfl rfl ?_
            refine WP.iconst K (3 : Int32) 315 at_314 rfl rfl ?_
            refine WP.icmp_ne K 324 318 at_315 (by decide) rfl (fun c315 => ?_) (fun c315 => ?_)
            · skip
              refine WP.iconst K (1 : Int32) 325 at_324 rfl rfl ?_
              refine WP.goto K 329 at_325 (by decide) ?_
              refine WP.istore K 331 [.val (.long p1), .second, .val (.long p2), .second, .val (.long p3), .second, .val (.long p4), .second, .val (.int sl), .val (.long pq), .second, .val (.long (1152921504606846975 : Int64)), .second, .val (.long a0_), .second, .val (.long a1), .second, .val (.long a2), .second, .val (.long a3), .second, .val (.int md), .val (.int kk), .val (.ref m), .val (.int x24), .val (.int x25), .val (.long qv), .second, .val (.int (1 : Int32)), .val (.int (1 : Int32)), .val (.int (1 : Int32)), .unset, .unset] at_329 rfl rfl ?_
              refine WP.iload K 333 at_331 rfl rfl ?_
              refine WP.iconst K (3 : Int32) 334 at_333 rfl rfl ?_
              refine WP.icmp_ne K 343 337 at_334 (by decide) rfl (fun c334 => ?_) (fun c334 => ?_)
              · skip
                refine WP.iconst K (1 : Int32) 344 at_343 rfl rfl ?_
                refine WP.goto K 348 at_344 (by decide) ?_
                refine WP.istore K 350 [.val (.long p1), .second, .val (.long p2), .second, .val (.long p3), .second, .val (.long p4), .second, .val (.int sl), .val (.long pq), .second, .val (.long (1152921504606846975 : Int64)), .second, .val (.long a0_), .second, .val (.long a1), .second, .val (.long a2), .second, .val (.long a3), .second, .val (.int md), .val (.int kk), .val (.ref m), .val (.int x24), .val (.int x25), .val (.long qv), .second, .val (.int (1 : Int32)), .val (.int (1 : Int32)), .val (.int (1 : Int32)), .val (.int (1 : Int32)), .unset] at_348 rfl rfl ?_
                exact J350 _ _ _ _ (hQ.trans (by omega))
              · skip
                exfalso; omega
            · skip
              exfalso; omega
          · skip
            exfalso; omega
        · skip
          exfalso; omega
      · skip
        refine WP.iload K 277 at_275 rfl rfl ?_
        refine WP.iconst K (3 : Int32) 278 at_277 rfl rfl ?_
        refine WP.icmp_ne K 286 281 at_278 (by decide) rfl (fun c278 => ?_) (fun c278 => ?_)
        · skip
          exfalso; omega
        · skip
          refine WP.iload K 283 at_281 rfl rfl ?_
          refine WP.if_eq K 290 286 at_283 (by decide) rfl (fun c283 => ?_) (fun c283 => ?_)
          · skip
            refine WP.iconst K (0 : Int32) 291 at_290 rfl rfl ?_
            refine WP.istore K 293 [.val (.long p1), .second, .val (.long p2), .second, .val (.long p3), .second, .val (.long p4), .second, .val (.int sl), .val (.long pq), .second, .val (.long (1152921504606846975 : Int64)), .second, .val (.long a0_), .second, .val (.long a1), .second, .val (.long a2), .second, .val (.long a3), .second, .val (.int md), .val (.int kk), .val (.ref m), .val (.int x24), .val (.int x25), .val (.long qv), .second, .val (.int (0 : Int32)), .unset, .unset, .unset, .unset] at_291 rfl rfl ?_
            refine WP.iload K 295 at_293 rfl rfl ?_
            refine WP.iconst K (3 : Int32) 296 at_295 rfl rfl ?_
            refine WP.icmp_ne K 305 299 at_296 (by decide) rfl (fun c296 => ?_) (fun c296 => ?_)
            · skip
              exfalso; omega
            · skip
              refine WP.iload K 301 at_299 rfl rfl ?_
              refine WP.iconst K (1 : Int32) 302 at_301 rfl rfl ?_
              refine WP.icmp_eq K 309 305 at_302 (by decide) rfl (fun c302 => ?_) (fun c302 => ?_)
              · skip
                exfalso; omega
              · skip
                refine WP.iconst K (1 : Int32) 306 at_305 rfl rfl ?_
                refine WP.goto K 310 at_306 (by decide) ?_
                refine WP.istore K 312 [.val (.long p1), .second, .val (.long p2), .second, .val (.long p3), .second, .val (.long p4), .second, .val (.int sl), .val (.long pq), .second, .val (.long (1152921504606846975 : Int64)), .second, .val (.long a0_), .second, .val (.long a1), .second, .val (.long a2), .second, .val (.long a3), .second, .val (.int md), .val (.int kk), .val (.ref m), .val (.int x24), .val (.int x25), .val (.long qv), .second, .val (.int (0 : Int32)), .val (.int (1 : Int32)), .unset, .unset, .unset] at_310 rfl rfl ?_
                refine WP.iload K 314 at_312 rfl rfl ?_
                refine WP.iconst K (3 : Int32) 315 at_314 rfl rfl ?_
                refine WP.icmp_ne K 324 318 at_315 (by decide) rfl (fun c315 => ?_) (fun c315 => ?_)
                · skip
                  exfalso; omega
                · skip
                  refine WP.iload K 320 at_318 rfl rfl ?_
                  refine WP.iconst K (2 : Int32) 321 at_320 rfl rfl ?_
                  refine WP.icmp_eq K 328 324 at_321 (by decide) rfl (fun c321 => ?_) (fun c321 => ?_)
                  · skip
                    exfalso; omega
                  · skip
                    refine WP.iconst K (1 : Int32) 325 at_324 rfl rfl ?_
                    refine WP.goto K 329 at_325 (by decide) ?_
                    refine WP.istore K 331 [.val (.long p1), .second, .val (.long p2), .second, .val (.long p3), .second, .val (.long p4), .second, .val (.int sl), .val (.long pq), .second, .val (.long (1152921504606846975 : Int64)), .second, .val (.long a0_), .second, .val (.long a1), .second, .val (.long a2), .second, .val (.long a3), .second, .val (.int md), .val (.int kk), .val (.ref m), .val (.int x24), .val (.int x25), .val (.long qv), .second, .val (.int (0 : Int32)), .val (.int (1 : Int32)), .val (.int (1 : Int32)), .unset, .unset] at_329 rfl rfl ?_
                    refine WP.iload K 333 at_331 rfl rfl ?_
                    refine WP.iconst K (3 : Int32) 334 at_333 rfl rfl ?_
                    refine WP.icmp_ne K 343 337 at_334 (by decide) rfl (fun c334 => ?_) (fun c334 => ?_)
                    · skip
                      exfalso; omega
                    · skip
                      refine WP.iload K 339 at_337 rfl rfl ?_
                      refine WP.iconst K (3 : Int32) 340 at_339 rfl rfl ?_
                      refine WP.icmp_eq K 347 343 at_340 (by decide) rfl (fun c340 => ?_) (fun c340 => ?_)
                      · skip
                        exfalso; omega
                      · skip
                        refine WP.iconst K (1 : Int32) 344 at_343 rfl rfl ?_
                        refine WP.goto K 348 at_344 (by decide) ?_
                        refine WP.istore K 350 [.val (.long p1), .second, .val (.long p2), .second, .val (.long p3), .second, .val (.long p4), .second, .val (.int sl), .val (.long pq), .second, .val (.long (1152921504606846975 : Int64)), .second, .val (.long a0_), .second, .val (.long a1), .second, .val (.long a2), .second, .val (.long a3), .second, .val (.int md), .val (.int kk), .val (.ref m), .val (.int x24), .val (.int x25), .val (.long qv), .second, .val (.int (0 : Int32)), .val (.int (1 : Int32)), .val (.int (1 : Int32)), .val (.int (1 : Int32)), .unset] at_348 rfl rfl ?_
                        exact J350 _ _ _ _ (hQ.trans (by omega))
          · skip
            exfalso; omega
      · skip
        refine WP.iload K 277 at_275 rfl rfl ?_
        refine WP.iconst K (3 : Int32) 278 at_277 rfl rfl ?_
        refine WP.icmp_ne K 286 281 at_278 (by decide) rfl (fun c278 => ?_) (fun c278 => ?_)
        · skip
          exfalso; omega
        · skip
          refine WP.iload K 283 at_281 rfl rfl ?_
          refine WP.if_eq K 290 286 at_283 (by decide) rfl (fun c283 => ?_) (fun c283 => ?_)
          · skip
            exfalso; omega
          · skip
            refine WP.iconst K (1 : Int32) 287 at_286 rfl rfl ?_
            refine WP.goto K 291 at_287 (by decide) ?_
            refine WP.istore K 293 [.val (.long p1), .second, .val (.long p2), .second, .val (.long p3), .second, .val (.long p4), .second, .val (.int sl), .val (.long pq), .second, .val (.long (1152921504606846975 : Int64)), .second, .val (.long a0_), .second, .val (.long a1), .second, .val (.long a2), .second, .val (.long a3), .second, .val (.int md), .val (.int kk), .val (.ref m), .val (.int x24), .val (.int x25), .val (.long qv), .second, .val (.int (1 : Int32)), .unset, .unset, .unset, .unset] at_291 rfl rfl ?_
            refine WP.iload K 295 at_293 rfl rfl ?_
            refine WP.iconst K (3 : Int32) 296 at_295 rfl rfl ?_
            refine WP.icmp_ne K 305 299 at_296 (by decide) rfl (fun c296 => ?_) (fun c296 => ?_)
            · skip
              exfalso; omega
            · skip
              refine WP.iload K 301 at_299 rfl rfl ?_
              refine WP.iconst K (1 : Int32) 302 at_301 rfl rfl ?_
              refine WP.icmp_eq K 309 305 at_302 (by decide) rfl (fun c302 => ?_) (fun c302 => ?_)
              · skip
                refine WP.iconst K (0 : Int32) 310 at_309 rfl rfl ?_
                refine WP.istore K 312 [.val (.long p1), .second, .val (.long p2), .second, .val (.long p3), .second, .val (.long p4), .second, .val (.int sl), .val (.long pq), .second, .val (.long (1152921504606846975 : Int64)), .second, .val (.long a0_), .second, .val (.long a1), .second, .val (.long a2), .second, .val (.long a3), .second, .val (.int md), .val (.int kk), .val (.ref m), .val (.int x24), .val (.int x25), .val (.long qv), .second, .val (.int (1 : Int32)), .val (.int (0 : Int32)), .unset, .unset, .unset] at_310 rfl rfl ?_
                refine WP.iload K 314 at_312 rfl rfl ?_
                refine WP.iconst K (3 : Int32) 315 at_314 rfl rfl ?_
                refine WP.icmp_ne K 324 318 at_315 (by decide) rfl (fun c315 => ?_) (fun c315 => ?_)
                · skip
                  exfalso; omega
                · skip
                  refine WP.iload K 320 at_318 rfl rfl ?_
                  refine WP.iconst K (2 : Int32) 321 at_320 rfl rfl ?_
                  refine WP.icmp_eq K 328 324 at_321 (by decide) rfl (fun c321 => ?_) (fun c321 => ?_)
                  · skip
                    exfalso; omega
                  · skip
                    refine WP.iconst K (1 : Int32) 325 at_324 rfl rfl ?_
                    refine WP.goto K 329 at_325 (by decide) ?_
                    refine WP.istore K 331 [.val (.long p1), .second, .val (.long p2), .second, .val (.long p3), .second, .val (.long p4), .second, .val (.int sl), .val (.long pq), .second, .val (.long (1152921504606846975 : Int64)), .second, .val (.long a0_), .second, .val (.long a1), .second, .val (.long a2), .second, .val (.long a3), .second, .val (.int md), .val (.int kk), .val (.ref m), .val (.int x24), .val (.int x25), .val (.long qv), .second, .val (.int (1 : Int32)), .val (.int (0 : Int32)), .val (.int (1 : Int32)), .unset, .unset] at_329 rfl rfl ?_
                    refine WP.iload K 333 at_331 rfl rfl ?_
                    refine WP.iconst K (3 : Int32) 334 at_333 rfl rfl ?_
                    refine WP.icmp_ne K 343 337 at_334 (by decide) rfl (fun c334 => ?_) (fun c334 => ?_)
                    · skip
                      exfalso; omega
                    · skip
                      refine WP.iload K 339 at_337 rfl rfl ?_
                      refine WP.iconst K (3 : Int32) 340 at_339 rfl rfl ?_
                      refine WP.icmp_eq K 347 343 at_340 (by decide) rfl (fun c340 => ?_) (fun c340 => ?_)
                      · skip
                        exfalso; omega
                      · skip
                        refine WP.iconst K (1 : Int32) 344 at_343 rfl rfl ?_
                        refine WP.goto K 348 at_344 (by decide) ?_
                        refine WP.istore K 350 [.val (.long p1), .second, .val (.long p2), .second, .val (.long p3), .second, .val (.long p4), .second, .val (.int sl), .val (.long pq), .second, .val (.long (1152921504606846975 : Int64)), .second, .val (.long a0_), .second, .val (.long a1), .second, .val (.long a2), .second, .val (.long a3), .second, .val (.int md), .val (.int kk), .val (.ref m), .val (.int x24), .val (.int x25), .val (.long qv), .second, .val (.int (1 : Int32)), .val (.int (0 : Int32)), .val (.int (1 : Int32)), .val (.int (1 : Int32)), .unset] at_348 rfl rfl ?_
                        exact J350 _ _ _ _ (hQ.trans (by omega))
              · skip
                exfalso; omega
      · skip
        refine WP.iload K 277 at_275 rfl rfl ?_
        refine WP.iconst K (3 : Int32) 278 at_277 rfl rfl ?_
        refine WP.icmp_ne K 286 281 at_278 (by decide) rfl (fun c278 => ?_) (fun c278 => ?_)
        · skip
          exfalso; omega
        · skip
          refine WP.iload K 283 at_281 rfl rfl ?_
          refine WP.if_eq K 290 286 at_283 (by decide) rfl (fun c283 => ?_) (fun c283 => ?_)
          · skip
            exfalso; omega
          · skip
            refine WP.iconst K (1 : Int32) 287 at_286 rfl rfl ?_
            refine WP.goto K 291 at_287 (by decide) ?_
            refine WP.istore K 293 [.val (.long p1), .second, .val (.long p2), .second, .val (.long p3), .second, .val (.long p4), .second, .val (.int sl), .val (.long pq), .second, .val (.long (1152921504606846975 : Int64)), .second, .val (.long a0_), .second, .val (.long a1), .second, .val (.long a2), .second, .val (.long a3), .second, .val (.int md), .val (.int kk), .val (.ref m), .val (.int x24), .val (.int x25), .val (.long qv), .second, .val (.int (1 : Int32)), .unset, .unset, .unset, .unset] at_291 rfl rfl ?_
            refine WP.iload K 295 at_293 rfl rfl ?_
            refine WP.iconst K (3 : Int32) 296 at_295 rfl rfl ?_
            refine WP.icmp_ne K 305 299 at_296 (by decide) rfl (fun c296 => ?_) (fun c296 => ?_)
            · skip
              exfalso; omega
            · skip
              refine WP.iload K 301 at_299 rfl rfl ?_
              refine WP.iconst K (1 : Int32) 302 at_301 rfl rfl ?_
              refine WP.icmp_eq K 309 305 at_302 (by decide) rfl (fun c302 => ?_) (fun c302 => ?_)
              · skip
                exfalso; omega
              · skip
                refine WP.iconst K (1 : Int32) 306 at_305 rfl rfl ?_
                refine WP.goto K 310 at_306 (by decide) ?_
                refine WP.istore K 312 [.val (.long p1), .second, .val (.long p2), .second, .val (.long p3), .second, .val (.long p4), .second, .val (.int sl), .val (.long pq), .second, .val (.long (1152921504606846975 : Int64)), .second, .val (.long a0_), .second, .val (.long a1), .second, .val (.long a2), .second, .val (.long a3), .second, .val (.int md), .val (.int kk), .val (.ref m), .val (.int x24), .val (.int x25), .val (.long qv), .second, .val (.int (1 : Int32)), .val (.int (1 : Int32)), .unset, .unset, .unset] at_310 rfl rfl ?_
                refine WP.iload K 314 at_312 rfl rfl ?_
                refine WP.iconst K (3 : Int32) 315 at_314 rfl rfl ?_
                refine WP.icmp_ne K 324 318 at_315 (by decide) rfl (fun c315 => ?_) (fun c315 => ?_)
                · skip
                  exfalso; omega
                · skip
                  refine WP.iload K 320 at_318 rfl rfl ?_
                  refine WP.iconst K (2 : Int32) 321 at_320 rfl rfl ?_
                  refine WP.icmp_eq K 328 324 at_321 (by decide) rfl (fun c321 => ?_) (fun c321 => ?_)
                  · skip
                    refine WP.iconst K (0 : Int32) 329 at_328 rfl rfl ?_
                    refine WP.istore K 331 [.val (.long p1), .second, .val (.long p2), .second, .val (.long p3), .second, .val (.long p4), .second, .val (.int sl), .val (.long pq), .second, .val (.long (1152921504606846975 : Int64)), .second, .val (.long a0_), .second, .val (.long a1), .second, .val (.long a2), .second, .val (.long a3), .second, .val (.int md), .val (.int kk), .val (.ref m), .val (.int x24), .val (.int x25), .val (.long qv), .second, .val (.int (1 : Int32)), .val (.int (1 : Int32)), .val (.int (0 : Int32)), .unset, .unset] at_329 rfl rfl ?_
                    refine WP.iload K 333 at_331 rfl rfl ?_
                    refine WP.iconst K (3 : Int32) 334 at_333 rfl rfl ?_
                    refine WP.icmp_ne K 343 337 at_334 (by decide) rfl (fun c334 => ?_) (fun c334 => ?_)
                    · skip
                      exfalso; omega
                    · skip
                      refine WP.iload K 339 at_337 rfl rfl ?_
                      refine WP.iconst K (3 : Int32) 340 at_339 rfl rfl ?_
                      refine WP.icmp_eq K 347 343 at_340 (by decide) rfl (fun c340 => ?_) (fun c340 => ?_)
                      · skip
                        exfalso; omega
                      · skip
                        refine WP.iconst K (1 : Int32) 344 at_343 rfl rfl ?_
                        refine WP.goto K 348 at_344 (by decide) ?_
                        refine WP.istore K 350 [.val (.long p1), .second, .val (.long p2), .second, .val (.long p3), .second, .val (.long p4), .second, .val (.int sl), .val (.long pq), .second, .val (.long (1152921504606846975 : Int64)), .second, .val (.long a0_), .second, .val (.long a1), .second, .val (.long a2), .second, .val (.long a3), .second, .val (.int md), .val (.int kk), .val (.ref m), .val (.int x24), .val (.int x25), .val (.long qv), .second, .val (.int (1 : Int32)), .val (.int (1 : Int32)), .val (.int (0 : Int32)), .val (.int (1 : Int32)), .unset] at_348 rfl rfl ?_
                        exact J350 _ _ _ _ (hQ.trans (by omega))
                  · skip
                    exfalso; omega
      · skip
        refine WP.iload K 277 at_275 rfl rfl ?_
        refine WP.iconst K (3 : Int32) 278 at_277 rfl rfl ?_
        refine WP.icmp_ne K 286 281 at_278 (by decide) rfl (fun c278 => ?_) (fun c278 => ?_)
        · skip
          exfalso; omega
        · skip
          refine WP.iload K 283 at_281 rfl rfl ?_
          refine WP.if_eq K 290 286 at_283 (by decide) rfl (fun c283 => ?_) (fun c283 => ?_)
          · skip
            exfalso; omega
          · skip
            refine WP.iconst K (1 : Int32) 287 at_286 rfl rfl ?_
            refine WP.goto K 291 at_287 (by decide) ?_
            refine WP.istore K 293 [.val (.long p1), .second, .val (.long p2), .second, .val (.long p3), .second, .val (.long p4), .second, .val (.int sl), .val (.long pq), .second, .val (.long (1152921504606846975 : Int64)), .second, .val (.long a0_), .second, .val (.long a1), .second, .val (.long a2), .second, .val (.long a3), .second, .val (.int md), .val (.int kk), .val (.ref m), .val (.int x24), .val (.int x25), .val (.long qv), .second, .val (.int (1 : Int32)), .unset, .unset, .unset, .unset] at_291 rfl rfl ?_
            refine WP.iload K 295 at_293 rfl rfl ?_
            refine WP.iconst K (3 : Int32) 296 at_295 rfl rfl ?_
            refine WP.icmp_ne K 305 299 at_296 (by decide) rfl (fun c296 => ?_) (fun c296 => ?_)
            · skip
              exfalso; omega
            · skip
              refine WP.iload K 301 at_299 rfl rfl ?_
              refine WP.iconst K (1 : Int32) 302 at_301 rfl rfl ?_
              refine WP.icmp_eq K 309 305 at_302 (by decide) rfl (fun c302 => ?_) (fun c302 => ?_)
              · skip
                exfalso; omega
              · skip
                refine WP.iconst K (1 : Int32) 306 at_305 rfl rfl ?_
                refine WP.goto K 310 at_306 (by decide) ?_
                refine WP.istore K 312 [.val (.long p1), .second, .val (.long p2), .second, .val (.long p3), .second, .val (.long p4), .second, .val (.int sl), .val (.long pq), .second, .val (.long (1152921504606846975 : Int64)), .second, .val (.long a0_), .second, .val (.long a1), .second, .val (.long a2), .second, .val (.long a3), .second, .val (.int md), .val (.int kk), .val (.ref m), .val (.int x24), .val (.int x25), .val (.long qv), .second, .val (.int (1 : Int32)), .val (.int (1 : Int32)), .unset, .unset, .unset] at_310 rfl rfl ?_
                refine WP.iload K 314 at_312 rfl rfl ?_
                refine WP.iconst K (3 : Int32) 315 at_314 rfl rfl ?_
                refine WP.icmp_ne K 324 318 at_315 (by decide) rfl (fun c315 => ?_) (fun c315 => ?_)
                · skip
                  exfalso; omega
                · skip
                  refine WP.iload K 320 at_318 rfl rfl ?_
                  refine WP.iconst K (2 : Int32) 321 at_320 rfl rfl ?_
                  refine WP.icmp_eq K 328 324 at_321 (by decide) rfl (fun c321 => ?_) (fun c321 => ?_)
                  · skip
                    exfalso; omega
                  · skip
                    refine WP.iconst K (1 : Int32) 325 at_324 rfl rfl ?_
                    refine WP.goto K 329 at_325 (by decide) ?_
                    refine WP.istore K 331 [.val (.long p1), .second, .val (.long p2), .second, .val (.long p3), .second, .val (.long p4), .second, .val (.int sl), .val (.long pq), .second, .val (.long (1152921504606846975 : Int64)), .second, .val (.long a0_), .second, .val (.long a1), .second, .val (.long a2), .second, .val (.long a3), .second, .val (.int md), .val (.int kk), .val (.ref m), .val (.int x24), .val (.int x25), .val (.long qv), .second, .val (.int (1 : Int32)), .val (.int (1 : Int32)), .val (.int (1 : Int32)), .unset, .unset] at_329 rfl rfl ?_
                    refine WP.iload K 333 at_331 rfl rfl ?_
                    refine WP.iconst K (3 : Int32) 334 at_333 rfl rfl ?_
                    refine WP.icmp_ne K 343 337 at_334 (by decide) rfl (fun c334 => ?_) (fun c334 => ?_)
                    · skip
                      exfalso; omega
                    · skip
                      refine WP.iload K 339 at_337 rfl rfl ?_
                      refine WP.iconst K (3 : Int32) 340 at_339 rfl rfl ?_
                      refine WP.icmp_eq K 347 343 at_340 (by decide) rfl (fun c340 => ?_) (fun c340 => ?_)
                      · skip
                        refine WP.iconst K (0 : Int32) 348 at_347 rfl rfl ?_
                        refine WP.istore K 350 [.val (.long p1), .second, .val (.long p2), .second, .val (.long p3), .second, .val (.long p4), .second, .val (.int sl), .val (.long pq), .second, .val (.long (1152921504606846975 : Int64)), .second, .val (.long a0_), .second, .val (.long a1), .second, .val (.long a2), .second, .val (.long a3), .second, .val (.int md), .val (.int kk), .val (.ref m), .val (.int x24), .val (.int x25), .val (.long qv), .second, .val (.int (1 : Int32)), .val (.int (1 : Int32)), .val (.int (1 : Int32)), .val (.int (0 : Int32)), .unset] at_348 rfl rfl ?_
                        exact J350 _ _ _ _ (hQ.trans (by omega))
                      · skip
                        exfalso; omega
    refine WP.iload K 224 at_222 rfl rfl ?_
    refine WP.bipush K (22 : Int32) 226 at_224 rfl rfl ?_
    refine WP.iushr K 227 at_226 rfl ?_
    refine WP.bipush K (7 : Int32) 229 at_227 rfl rfl ?_
    refine WP.iand K 230 at_229 rfl ?_
    refine WP.istore K 232 [.val (.long p1), .second, .val (.long p2), .second, .val (.long p3), .second, .val (.long p4), .second, .val (.int sl), .val (.long pq), .second, .val (.long (1152921504606846975 : Int64)), .second, .val (.long a0_), .second, .val (.long a1), .second, .val (.long a2), .second, .val (.long a3), .second, .val (.int md), .val (.int kk), .val (.ref m), .val (.int ((XT.ushr sl (22 : Int32)) &&& (7 : Int32))), .unset, .unset, .unset, .unset, .unset, .unset, .unset, .unset] at_230 rfl rfl ?_
    refine WP.iload K 234 at_232 rfl rfl ?_
    refine WP.bipush K (25 : Int32) 236 at_234 rfl rfl ?_
    refine WP.iushr K 237 at_236 rfl ?_
    refine WP.iconst K (3 : Int32) 238 at_237 rfl rfl ?_
    refine WP.iand K 239 at_238 rfl ?_
    refine WP.iconst K (3 : Int32) 240 at_239 rfl rfl ?_
    refine WP.irem K 241 at_240 rfl (by decide) ?_
    refine WP.iconst K (1 : Int32) 242 at_241 rfl rfl ?_
    refine WP.isub K 243 at_242 rfl ?_
    refine WP.istore K 245 [.val (.long p1), .second, .val (.long p2), .second, .val (.long p3), .second, .val (.long p4), .second, .val (.int sl), .val (.long pq), .second, .val (.long (1152921504606846975 : Int64)), .second, .val (.long a0_), .second, .val (.long a1), .second, .val (.long a2), .second, .val (.long a3), .second, .val (.int md), .val (.int kk), .val (.ref m), .val (.int ((XT.ushr sl (22 : Int32)) &&& (7 : Int32))), .val (.int ((((XT.ushr sl (25 : Int32)) &&& (3 : Int32)) % (3 : Int32)) - (1 : Int32))), .unset, .unset, .unset, .unset, .unset, .unset, .unset] at_243 rfl rfl ?_
    refine WP.iload K 247 at_245 rfl rfl ?_
    refine WP.iconst K (4 : Int32) 248 at_247 rfl rfl ?_
    refine WP.icmp_ge K 271 251 at_248 (by decide) rfl (fun c248 => ?_) (fun c248 => ?_)
    · skip
      refine WP.lload K 273 at_271 rfl rfl ?_
      refine WP.lstore K 275 [.val (.long p1), .second, .val (.long p2), .second, .val (.long p3), .second, .val (.long p4), .second, .val (.int sl), .val (.long pq), .second, .val (.long (1152921504606846975 : Int64)), .second, .val (.long a0_), .second, .val (.long a1), .second, .val (.long a2), .second, .val (.long a3), .second, .val (.int md), .val (.int kk), .val (.ref m), .val (.int ((XT.ushr sl (22 : Int32)) &&& (7 : Int32))), .val (.int ((((XT.ushr sl (25 : Int32)) &&& (3 : Int32)) % (3 : Int32)) - (1 : Int32))), .val (.long pq), .second, .unset, .unset, .unset, .unset, .unset] at_273 rfl rfl ?_
      exact J275 _ _ _
    · skip
      refine WP.iload K 253 at_251 rfl rfl ?_
      refine WP.lload K 255 at_253 rfl rfl ?_
      refine WP.lload K 257 at_255 rfl rfl ?_
      refine WP.lload K 259 at_257 rfl rfl ?_
      refine WP.lload K 261 at_259 rfl rfl ?_
      refine WP.callS K 264 7 227 0 [(.int ((XT.ushr sl (22 : Int32)) &&& (7 : Int32))), (.long a0_), (.long a1), (.long a2), (.long a3)] [] (hw _ (List.mem_of_getElem? (i := 97) rfl)) (hw _ (List.mem_of_getElem? (i := 98) rfl)) (hw _ (List.mem_of_getElem? (i := 99) rfl)) (hw _ (List.mem_of_getElem? (i := 100) rfl)) (by decide) own_pd_13 rfl rfl rfl (by decide) (by decide) (Nat.le_of_eq rfl) rfl at_261 rfl rfl rfl (by decide) (by decide) (own_pick l Z a0 hw n0 hh ((XT.ushr sl (22 : Int32)) &&& (7 : Int32)) a0_ a1 a2 a3) (r1_next fun r27 h25 q26 => ?_)
      obtain ⟨⟨zp, rfl, -⟩, rfl⟩ := q26
      refine WP.iload K 266 at_264 rfl rfl ?_
      refine WP.i2l K 267 at_266 rfl ?_
      refine WP.ladd K 268 at_267 rfl ?_
      refine WP.goto K 273 at_268 (by decide) ?_
      refine WP.lstore K 275 [.val (.long p1), .second, .val (.long p2), .second, .val (.long p3), .second, .val (.long p4), .second, .val (.int sl), .val (.long pq), .second, .val (.long (1152921504606846975 : Int64)), .second, .val (.long a0_), .second, .val (.long a1), .second, .val (.long a2), .second, .val (.long a3), .second, .val (.int md), .val (.int kk), .val (.ref m), .val (.int ((XT.ushr sl (22 : Int32)) &&& (7 : Int32))), .val (.int ((((XT.ushr sl (25 : Int32)) &&& (3 : Int32)) % (3 : Int32)) - (1 : Int32))), .val (.long (zp + (((((XT.ushr sl (25 : Int32)) &&& (3 : Int32)) % (3 : Int32)) - (1 : Int32)).toInt64))), .second, .unset, .unset, .unset, .unset, .unset] at_273 rfl rfl ?_
      exact J275 _ _ _
  refine WP.iload K 97 at_95 rfl rfl ?_
  refine WP.iconst K (1 : Int32) 98 at_97 rfl rfl ?_
  refine WP.icmp_ne K 132 101 at_98 (by decide) rfl (fun c98 => ?_) (fun c98 => ?_)
  · skip
    refine WP.iload K 134 at_132 rfl rfl ?_
    refine WP.iconst K (2 : Int32) 135 at_134 rfl rfl ?_
    refine WP.icmp_ne K 169 138 at_135 (by decide) rfl (fun c135 => ?_) (fun c135 => ?_)
    · skip
      refine WP.aload K 171 at_169 rfl rfl rfl ?_
      refine WP.lload K 173 at_171 rfl rfl ?_
      refine WP.callV K (a := m) (C := "com/example/highwater/highwater/MessageIndex") 176 3 11 0 [(.long a0_)] [] (hw _ (List.mem_of_getElem? (i := 14) rfl)) (hw _ (List.mem_of_getElem? (i := 15) rfl)) rfl (hw _ (List.mem_of_getElem? (i := 17) rfl)) (hw _ (List.mem_of_getElem? (i := 16) rfl)) (hw _ (List.mem_of_getElem? (i := 3) rfl)) (hw _ (List.mem_of_getElem? (i := 18) rfl)) (by decide) own_pd_9 rfl rfl rfl (by decide) (by decide) (Nat.le_of_eq rfl) rfl at_173 rfl rfl rfl (by decide) (by decide) HM.ex (own_add0 l Z a0 hw n0 h4 m no HM SN A_no (by omega) hn0 a0_ A0 (by omega)) (r0_next fun h28 q29 => ?_)
      have HM := q29
      have HM : MI Z h28 n0 m A0 [] := HM
      refine WP.aload K 178 at_176 rfl rfl rfl ?_
      refine WP.lload K 180 at_178 rfl rfl ?_
      refine WP.callV K (a := m) (C := "com/example/highwater/highwater/MessageIndex") 183 4 65 0 [(.long a1)] [] (hw _ (List.mem_of_getElem? (i := 14) rfl)) (hw _ (List.mem_of_getElem? (i := 15) rfl)) rfl (hw _ (List.mem_of_getElem? (i := 17) rfl)) (hw _ (List.mem_of_getElem? (i := 16) rfl)) (hw _ (List.mem_of_getElem? (i := 3) rfl)) (hw _ (List.mem_of_getElem? (i := 18) rfl)) (by decide) own_pd_9 rfl rfl rfl (by decide) (by decide) (Nat.le_of_eq rfl) rfl at_180 rfl rfl rfl (by decide) (by decide) HM.ex (own_add1 l Z a0 hw n0 h28 m A0 [] HM a1 D1 (by simp only [List.sum_cons, List.sum_nil]; omega) (by omega) (by show (encs []).length + _ ≤ _; simp only [encs_len, encs_nil, List.length_nil]; omega)) (r0_next fun h31 q32 => ?_)
      have HM := q32
      have HM : MI Z h31 n0 m A0 [D1] := HM
      refine WP.aload K 185 at_183 rfl rfl rfl ?_
      refine WP.lload K 187 at_185 rfl rfl ?_
      refine WP.callV K (a := m) (C := "com/example/highwater/highwater/MessageIndex") 190 5 119 0 [(.long a2)] [] (hw _ (List.mem_of_getElem? (i := 14) rfl)) (hw _ (List.mem_of_getElem? (i := 15) rfl)) rfl (hw _ (List.mem_of_getElem? (i := 17) rfl)) (hw _ (List.mem_of_getElem? (i := 16) rfl)) (hw _ (List.mem_of_getElem? (i := 3) rfl)) (hw _ (List.mem_of_getElem? (i := 18) rfl)) (by decide) own_pd_9 rfl rfl rfl (by decide) (by decide) (Nat.le_of_eq rfl) rfl at_187 rfl rfl rfl (by decide) (by decide) HM.ex (own_add1 l Z a0 hw n0 h31 m A0 [D1] HM a2 D2 (by simp only [List.sum_cons, List.sum_nil]; omega) (by omega) (by show (encs [D1]).length + _ ≤ _; simp only [encs_len, encs_nil, List.length_nil]; omega)) (r0_next fun h34 q35 => ?_)
      have HM := q35
      have HM : MI Z h34 n0 m A0 [D1, D2] := HM
      refine WP.aload K 192 at_190 rfl rfl rfl ?_
      refine WP.lload K 194 at_192 rfl rfl ?_
      refine WP.callV K (a := m) (C := "com/example/highwater/highwater/MessageIndex") 197 6 173 0 [(.long a3)] [] (hw _ (List.mem_of_getElem? (i := 14) rfl)) (hw _ (List.mem_of_getElem? (i := 15) rfl)) rfl (hw _ (List.mem_of_getElem? (i := 17) rfl)) (hw _ (List.mem_of_getElem? (i := 16) rfl)) (hw _ (List.mem_of_getElem? (i := 3) rfl)) (hw _ (List.mem_of_getElem? (i := 18) rfl)) (by decide) own_pd_9 rfl rfl rfl (by decide) (by decide) (Nat.le_of_eq rfl) rfl at_194 rfl rfl rfl (by decide) (by decide) HM.ex (own_add1 l Z a0 hw n0 h34 m A0 [D1, D2] HM a3 D3 (by simp only [List.sum_cons, List.sum_nil]; omega) (by omega) (by show (encs [D1, D2]).length + _ ≤ _; simp only [encs_len, encs_nil, List.length_nil]; omega)) (r0_next fun h37 q38 => ?_)
      have HM := q38
      have HM : MI Z h37 n0 m A0 [D1, D2, D3] := HM
      refine WP.iload K 199 at_197 rfl rfl ?_
      refine WP.iconst K (3 : Int32) 200 at_199 rfl rfl ?_
      refine WP.icmp_ne K 222 203 at_200 (by decide) rfl (fun c200 => ?_) (fun c200 => ?_)
      · skip
        exact WP.mono (by decide) (by decide) (J222 _ _ _ HM (fun q => by simp only [InR, InT, or_false]; omega))
      · skip
        rcases (show kk.toInt = 0 ∨ kk.toInt = 1 ∨ kk.toInt = 2 ∨ kk.toInt = 3 by omega) with hk | hk | hk | hk
        · skip
          refine WP.aload K 205 at_203 rfl rfl rfl ?_
          refine WP.iload K 207 at_205 rfl rfl ?_
          refine WP.lload K 209 at_207 rfl rfl ?_
          refine WP.lload K 211 at_209 rfl rfl ?_
          refine WP.lload K 213 at_211 rfl rfl ?_
          refine WP.lload K 215 at_213 rfl rfl ?_
          refine WP.callS K 218 6 173 1 [(.int kk), (.long a0_), (.long a1), (.long a2), (.long a3)] [(.ref m)] (hw _ (List.mem_of_getElem? (i := 97) rfl)) (hw _ (List.mem_of_getElem? (i := 98) rfl)) (hw _ (List.mem_of_getElem? (i := 99) rfl)) (hw _ (List.mem_of_getElem? (i := 100) rfl)) (by decide) own_pd_13 rfl rfl rfl (by decide) (by decide) (Nat.le_of_eq rfl) rfl at_215 rfl rfl rfl (by decide) (by decide) (own_pick l Z a0 hw n0 h37 kk a0_ a1 a2 a3) (r1_next fun r42 h40 q41 => ?_)
          obtain ⟨⟨zp, rfl, z0, z1, z2, z3⟩, rfl⟩ := q41
          obtain rfl := (z0 hk).symm
          refine WP.callV K (a := m) (C := "com/example/highwater/highwater/MessageIndex") 221 7 227 0 [(.long a0_)] [] (hw _ (List.mem_of_getElem? (i := 101) rfl)) (hw _ (List.mem_of_getElem? (i := 102) rfl)) rfl (hw _ (List.mem_of_getElem? (i := 104) rfl)) (hw _ (List.mem_of_getElem? (i := 103) rfl)) (hw _ (List.mem_of_getElem? (i := 3) rfl)) (hw _ (List.mem_of_getElem? (i := 105) rfl)) (by decide) own_pd_11 rfl rfl rfl (by decide) (by decide) (Nat.le_of_eq rfl) rfl at_218 rfl rfl rfl (by decide) (by decide) HM.ex (own_mremoveF l Z a0 hw n0 h37 m A0 D1 [D2, D3] HM a0_ (by omega)) (r1_next fun r45 h43 q44 => ?_)
          obtain ⟨rfl, HM⟩ := q44
          have HM : MI Z h43 n0 m (A0 + D1) [D2, D3] := HM
          refine WP.pop K 222 at_221 rfl rfl ?_
          exact WP.mono (by decide) (by decide) (J222 _ _ _ HM (fun q => by simp only [InR, InT, or_false]; omega))
        · skip
          refine WP.aload K 205 at_203 rfl rfl rfl ?_
          refine WP.iload K 207 at_205 rfl rfl ?_
          refine WP.lload K 209 at_207 rfl rfl ?_
          refine WP.lload K 211 at_209 rfl rfl ?_
          refine WP.lload K 213 at_211 rfl rfl ?_
          refine WP.lload K 215 at_213 rfl rfl ?_
          refine WP.callS K 218 6 173 1 [(.int kk), (.long a0_), (.long a1), (.long a2), (.long a3)] [(.ref m)] (hw _ (List.mem_of_getElem? (i := 97) rfl)) (hw _ (List.mem_of_getElem? (i := 98) rfl)) (hw _ (List.mem_of_getElem? (i := 99) rfl)) (hw _ (List.mem_of_getElem? (i := 100) rfl)) (by decide) own_pd_13 rfl rfl rfl (by decide) (by decide) (Nat.le_of_eq rfl) rfl at_215 rfl rfl rfl (by decide) (by decide) (own_pick l Z a0 hw n0 h37 kk a0_ a1 a2 a3) (r1_next fun r48 h46 q47 => ?_)
          obtain ⟨⟨zp, rfl, z0, z1, z2, z3⟩, rfl⟩ := q47
          obtain rfl := (z1 hk).symm
          refine WP.callV K (a := m) (C := "com/example/highwater/highwater/MessageIndex") 221 7 227 0 [(.long a1)] [] (hw _ (List.mem_of_getElem? (i := 101) rfl)) (hw _ (List.mem_of_getElem? (i := 102) rfl)) rfl (hw _ (List.mem_of_getElem? (i := 104) rfl)) (hw _ (List.mem_of_getElem? (i := 103) rfl)) (hw _ (List.mem_of_getElem? (i := 3) rfl)) (hw _ (List.mem_of_getElem? (i := 105) rfl)) (by decide) own_pd_11 rfl rfl rfl (by decide) (by decide) (Nat.le_of_eq rfl) rfl at_218 rfl rfl rfl (by decide) (by decide) HM.ex (own_mremoveM l Z a0 hw n0 h37 m A0 [] D1 D2 [D3] HM a1 (by simp only [List.sum_cons, List.sum_nil]; omega) (by show (encs [D1, D2, D3]).length ≤ _; simp only [encs_len, encs_nil, List.length_nil]; omega)) (r1_next fun r51 h49 q50 => ?_)
          obtain ⟨rfl, HM⟩ := q50
          have HM : MI Z h49 n0 m A0 [D1 + D2, D3] := HM
          refine WP.pop K 222 at_221 rfl rfl ?_
          exact WP.mono (by decide) (by decide) (J222 _ _ _ HM (fun q => by simp only [InR, InT, or_false]; omega))
        · skip
          refine WP.aload K 205 at_203 rfl rfl rfl ?_
          refine WP.iload K 207 at_205 rfl rfl ?_
          refine WP.lload K 209 at_207 rfl rfl ?_
          refine WP.lload K 211 at_209 rfl rfl ?_
          refine WP.lload K 213 at_211 rfl rfl ?_
          refine WP.lload K 215 at_213 rfl rfl ?_
          refine WP.callS K 218 6 173 1 [(.int kk), (.long a0_), (.long a1), (.long a2), (.long a3)] [(.ref m)] (hw _ (List.mem_of_getElem? (i := 97) rfl)) (hw _ (List.mem_of_getElem? (i := 98) rfl)) (hw _ (List.mem_of_getElem? (i := 99) rfl)) (hw _ (List.mem_of_getElem? (i := 100) rfl)) (by decide) own_pd_13 rfl rfl rfl (by decide) (by decide) (Nat.le_of_eq rfl) rfl at_215 rfl rfl rfl (by decide) (by decide) (own_pick l Z a0 hw n0 h37 kk a0_ a1 a2 a3) (r1_next fun r54 h52 q53 => ?_)
          obtain ⟨⟨zp, rfl, z0, z1, z2, z3⟩, rfl⟩ := q53
          obtain rfl := (z2 hk).symm
          refine WP.callV K (a := m) (C := "com/example/highwater/highwater/MessageIndex") 221 7 227 0 [(.long a2)] [] (hw _ (List.mem_of_getElem? (i := 101) rfl)) (hw _ (List.mem_of_getElem? (i := 102) rfl)) rfl (hw _ (List.mem_of_getElem? (i := 104) rfl)) (hw _ (List.mem_of_getElem? (i := 103) rfl)) (hw _ (List.mem_of_getElem? (i := 3) rfl)) (hw _ (List.mem_of_getElem? (i := 105) rfl)) (by decide) own_pd_11 rfl rfl rfl (by decide) (by decide) (Nat.le_of_eq rfl) rfl at_218 rfl rfl rfl (by decide) (by decide) HM.ex (own_mremoveM l Z a0 hw n0 h37 m A0 [D1] D2 D3 [] HM a2 (by simp only [List.sum_cons, List.sum_nil]; omega) (by show (encs [D1, D2, D3]).length ≤ _; simp only [encs_len, encs_nil, List.length_nil]; omega)) (r1_next fun r57 h55 q56 => ?_)
          obtain ⟨rfl, HM⟩ := q56
          have HM : MI Z h55 n0 m A0 [D1, D2 + D3] := HM
          refine WP.pop K 222 at_221 rfl rfl ?_
          exact WP.mono (by decide) (by decide) (J222 _ _ _ HM (fun q => by simp only [InR, InT, or_false]; omega))
        · skip
          refine WP.aload K 205 at_203 rfl rfl rfl ?_
          refine WP.iload K 207 at_205 rfl rfl ?_
          refine WP.lload K 209 at_207 rfl rfl ?_
          refine WP.lload K 211 at_209 rfl rfl ?_
          refine WP.lload K 213 at_211 rfl rfl ?_
          refine WP.lload K 215 at_213 rfl rfl ?_
          refine WP.callS K 218 6 173 1 [(.int kk), (.long a0_), (.long a1), (.long a2), (.long a3)] [(.ref m)] (hw _ (List.mem_of_getElem? (i := 97) rfl)) (hw _ (List.mem_of_getElem? (i := 98) rfl)) (hw _ (List.mem_of_getElem? (i := 99) rfl)) (hw _ (List.mem_of_getElem? (i := 100) rfl)) (by decide) own_pd_13 rfl rfl rfl (by decide) (by decide) (Nat.le_of_eq rfl) rfl at_215 rfl rfl rfl (by decide) (by decide) (own_pick l Z a0 hw n0 h37 kk a0_ a1 a2 a3) (r1_next fun r60 h58 q59 => ?_)
          obtain ⟨⟨zp, rfl, z0, z1, z2, z3⟩, rfl⟩ := q59
          obtain rfl := (z3 hk).symm
          refine WP.callV K (a := m) (C := "com/example/highwater/highwater/MessageIndex") 221 7 227 0 [(.long a3)] [] (hw _ (List.mem_of_getElem? (i := 101) rfl)) (hw _ (List.mem_of_getElem? (i := 102) rfl)) rfl (hw _ (List.mem_of_getElem? (i := 104) rfl)) (hw _ (List.mem_of_getElem? (i := 103) rfl)) (hw _ (List.mem_of_getElem? (i := 3) rfl)) (hw _ (List.mem_of_getElem? (i := 105) rfl)) (by decide) own_pd_11 rfl rfl rfl (by decide) (by decide) (Nat.le_of_eq rfl) rfl at_218 rfl rfl rfl (by decide) (by decide) HM.ex (own_mremoveL l Z a0 hw n0 h37 m A0 [D1, D2] D3 HM a3 (by simp only [List.sum_cons, List.sum_nil]; omega) (by show (encs [D1, D2, D3]).length ≤ _; simp only [encs_len, encs_nil, List.length_nil]; omega)) (r1_next fun r63 h61 q62 => ?_)
          obtain ⟨rfl, HM⟩ := q62
          have HM : MI Z h61 n0 m A0 [D1, D2] := HM
          refine WP.pop K 222 at_221 rfl rfl ?_
          exact WP.mono (by decide) (by decide) (J222 _ _ _ HM (fun q => by simp only [InR, InT, or_false]; omega))
    · skip
      refine WP.aload K 140 at_138 rfl rfl rfl ?_
      refine WP.lload K 142 at_140 rfl rfl ?_
      refine WP.callV K (a := m) (C := "com/example/highwater/highwater/MessageIndex") 145 3 11 0 [(.long a0_)] [] (hw _ (List.mem_of_getElem? (i := 14) rfl)) (hw _ (List.mem_of_getElem? (i := 15) rfl)) rfl (hw _ (List.mem_of_getElem? (i := 17) rfl)) (hw _ (List.mem_of_getElem? (i := 16) rfl)) (hw _ (List.mem_of_getElem? (i := 3) rfl)) (hw _ (List.mem_of_getElem? (i := 18) rfl)) (by decide) own_pd_9 rfl rfl rfl (by decide) (by decide) (Nat.le_of_eq rfl) rfl at_142 rfl rfl rfl (by decide) (by decide) HM.ex (own_add0 l Z a0 hw n0 h4 m no HM SN A_no (by omega) hn0 a0_ A0 (by omega)) (r0_next fun h64 q65 => ?_)
      have HM := q65
      have HM : MI Z h64 n0 m A0 [] := HM
      refine WP.aload K 147 at_145 rfl rfl rfl ?_
      refine WP.lload K 149 at_147 rfl rfl ?_
      refine WP.callV K (a := m) (C := "com/example/highwater/highwater/MessageIndex") 152 4 65 0 [(.long a1)] [] (hw _ (List.mem_of_getElem? (i := 14) rfl)) (hw _ (List.mem_of_getElem? (i := 15) rfl)) rfl (hw _ (List.mem_of_getElem? (i := 17) rfl)) (hw _ (List.mem_of_getElem? (i := 16) rfl)) (hw _ (List.mem_of_getElem? (i := 3) rfl)) (hw _ (List.mem_of_getElem? (i := 18) rfl)) (by decide) own_pd_9 rfl rfl rfl (by decide) (by decide) (Nat.le_of_eq rfl) rfl at_149 rfl rfl rfl (by decide) (by decide) HM.ex (own_add1 l Z a0 hw n0 h64 m A0 [] HM a1 D1 (by simp only [List.sum_cons, List.sum_nil]; omega) (by omega) (by show (encs []).length + _ ≤ _; simp only [encs_len, encs_nil, List.length_nil]; omega)) (r0_next fun h67 q68 => ?_)
      have HM := q68
      have HM : MI Z h67 n0 m A0 [D1] := HM
      refine WP.aload K 154 at_152 rfl rfl rfl ?_
      refine WP.lload K 156 at_154 rfl rfl ?_
      refine WP.callV K (a := m) (C := "com/example/highwater/highwater/MessageIndex") 159 5 119 0 [(.long a3)] [] (hw _ (List.mem_of_getElem? (i := 14) rfl)) (hw _ (List.mem_of_getElem? (i := 15) rfl)) rfl (hw _ (List.mem_of_getElem? (i := 17) rfl)) (hw _ (List.mem_of_getElem? (i := 16) rfl)) (hw _ (List.mem_of_getElem? (i := 3) rfl)) (hw _ (List.mem_of_getElem? (i := 18) rfl)) (by decide) own_pd_9 rfl rfl rfl (by decide) (by decide) (Nat.le_of_eq rfl) rfl at_156 rfl rfl rfl (by decide) (by decide) HM.ex (own_add1 l Z a0 hw n0 h67 m A0 [D1] HM a3 (D2 + D3) (by simp only [List.sum_cons, List.sum_nil]; omega) (by omega) (by show (encs [D1]).length + _ ≤ _; simp only [encs_len, encs_nil, List.length_nil]; omega)) (r0_next fun h70 q71 => ?_)
      have HM := q71
      have HM : MI Z h70 n0 m A0 [D1, D2 + D3] := HM
      refine WP.aload K 161 at_159 rfl rfl rfl ?_
      refine WP.lload K 163 at_161 rfl rfl ?_
      refine WP.callV K (a := m) (C := "com/example/highwater/highwater/MessageIndex") 166 6 173 0 [(.long a2)] [] (hw _ (List.mem_of_getElem? (i := 141) rfl)) (hw _ (List.mem_of_getElem? (i := 142) rfl)) rfl (hw _ (List.mem_of_getElem? (i := 144) rfl)) (hw _ (List.mem_of_getElem? (i := 143) rfl)) (hw _ (List.mem_of_getElem? (i := 3) rfl)) (hw _ (List.mem_of_getElem? (i := 145) rfl)) (by decide) own_pd_9 rfl rfl rfl (by decide) (by decide) (Nat.le_of_eq rfl) rfl at_163 rfl rfl rfl (by decide) (by decide) HM.ex (own_minsertM l Z a0 hw n0 h70 m A0 [D1] D2 D3 [] HM a2 (by simp only [List.sum_cons, List.sum_nil]; omega) (by omega) (by omega) (by simp only [encs_len, encs_nil, List.length_nil]; omega)) (r0_next fun h73 q74 => ?_)
      have HM := q74
      have HM : MI Z h73 n0 m A0 [D1, D2, D3] := HM
      refine WP.goto K 222 at_166 (by decide) ?_
      exact WP.mono (by decide) (by decide) (J222 _ _ _ HM (fun q => by simp only [InR, InT, or_false]; omega))
  · skip
    refine WP.aload K 103 at_101 rfl rfl rfl ?_
    refine WP.lload K 105 at_103 rfl rfl ?_
    refine WP.callV K (a := m) (C := "com/example/highwater/highwater/MessageIndex") 108 3 11 0 [(.long a1)] [] (hw _ (List.mem_of_getElem? (i := 14) rfl)) (hw _ (List.mem_of_getElem? (i := 15) rfl)) rfl (hw _ (List.mem_of_getElem? (i := 17) rfl)) (hw _ (List.mem_of_getElem? (i := 16) rfl)) (hw _ (List.mem_of_getElem? (i := 3) rfl)) (hw _ (List.mem_of_getElem? (i := 18) rfl)) (by decide) own_pd_9 rfl rfl rfl (by decide) (by decide) (Nat.le_of_eq rfl) rfl at_105 rfl rfl rfl (by decide) (by decide) HM.ex (own_add0 l Z a0 hw n0 h4 m no HM SN A_no (by omega) hn0 a1 (A0 + D1) (by omega)) (r0_next fun h76 q77 => ?_)
    have HM := q77
    have HM : MI Z h76 n0 m (A0 + D1) [] := HM
    refine WP.aload K 110 at_108 rfl rfl rfl ?_
    refine WP.lload K 112 at_110 rfl rfl ?_
    refine WP.callV K (a := m) (C := "com/example/highwater/highwater/MessageIndex") 115 4 65 0 [(.long a2)] [] (hw _ (List.mem_of_getElem? (i := 14) rfl)) (hw _ (List.mem_of_getElem? (i := 15) rfl)) rfl (hw _ (List.mem_of_getElem? (i := 17) rfl)) (hw _ (List.mem_of_getElem? (i := 16) rfl)) (hw _ (List.mem_of_getElem? (i := 3) rfl)) (hw _ (List.mem_of_getElem? (i := 18) rfl)) (by decide) own_pd_9 rfl rfl rfl (by decide) (by decide) (Nat.le_of_eq rfl) rfl at_112 rfl rfl rfl (by decide) (by decide) HM.ex (own_add1 l Z a0 hw n0 h76 m (A0 + D1) [] HM a2 D2 (by simp only [List.sum_cons, List.sum_nil]; omega) (by omega) (by show (encs []).length + _ ≤ _; simp only [encs_len, encs_nil, List.length_nil]; omega)) (r0_next fun h79 q80 => ?_)
    have HM := q80
    have HM : MI Z h79 n0 m (A0 + D1) [D2] := HM
    refine WP.aload K 117 at_115 rfl rfl rfl ?_
    refine WP.lload K 119 at_117 rfl rfl ?_
    refine WP.callV K (a := m) (C := "com/example/highwater/highwater/MessageIndex") 122 5 119 0 [(.long a3)] [] (hw _ (List.mem_of_getElem? (i := 14) rfl)) (hw _ (List.mem_of_getElem? (i := 15) rfl)) rfl (hw _ (List.mem_of_getElem? (i := 17) rfl)) (hw _ (List.mem_of_getElem? (i := 16) rfl)) (hw _ (List.mem_of_getElem? (i := 3) rfl)) (hw _ (List.mem_of_getElem? (i := 18) rfl)) (by decide) own_pd_9 rfl rfl rfl (by decide) (by decide) (Nat.le_of_eq rfl) rfl at_119 rfl rfl rfl (by decide) (by decide) HM.ex (own_add1 l Z a0 hw n0 h79 m (A0 + D1) [D2] HM a3 D3 (by simp only [List.sum_cons, List.sum_nil]; omega) (by omega) (by show (encs [D2]).length + _ ≤ _; simp only [encs_len, encs_nil, List.length_nil]; omega)) (r0_next fun h82 q83 => ?_)
    have HM := q83
    have HM : MI Z h82 n0 m (A0 + D1) [D2, D3] := HM
    refine WP.aload K 124 at_122 rfl rfl rfl ?_
    refine WP.lload K 126 at_124 rfl rfl ?_
    refine WP.callV K (a := m) (C := "com/example/highwater/highwater/MessageIndex") 129 6 173 0 [(.long a0_)] [] (hw _ (List.mem_of_getElem? (i := 141) rfl)) (hw _ (List.mem_of_getElem? (i := 142) rfl)) rfl (hw _ (List.mem_of_getElem? (i := 144) rfl)) (hw _ (List.mem_of_getElem? (i := 143) rfl)) (hw _ (List.mem_of_getElem? (i := 3) rfl)) (hw _ (List.mem_of_getElem? (i := 145) rfl)) (by decide) own_pd_9 rfl rfl rfl (by decide) (by decide) (Nat.le_of_eq rfl) rfl at_126 rfl rfl rfl (by decide) (by decide) HM.ex (own_minsertP l Z a0 hw n0 h82 m (A0 + D1) [D2, D3] HM a0_ D1 A0 (by omega) (by omega) (by omega) (by show (encs [D2, D3]).length + _ ≤ _; simp only [encs_len, encs_nil, List.length_nil]; omega)) (r0_next fun h85 q86 => ?_)
    have HM := q86
    have HM : MI Z h85 n0 m A0 [D1, D2, D3] := HM
    refine WP.goto K 222 at_129 (by decide) ?_
    exact WP.mono (by decide) (by decide) (J222 _ _ _ HM (fun q => by simp only [InR, InT, or_false]; omega))
set_option maxRecDepth 65536 in
set_option maxHeartbeats 40000000 in
theorem comes_1 {Post : Tables → Env → Array Value → State → Outcome → State → Prop} (hpost : ∀ tb e args s v u, (limb_1_1.after args s (.returned v) u = true ∧ limb_1_2.after args s (.returned v) u = true ∧ True) → FrameEnd s (.returned v) u (Jvm.fieldLocs frame_1_writes args s ++ Jvm.arrayLocs frame_1_arrays args s ++ Jvm.staticLocs frame_1_statics s) 24 256 → Post tb e args s (.returned v) u) :
    ArmFor flags0 classFile x code maxLocals ret World_1 tables_1 room_1 Calls_1 rest_1 Pre_1 Post := by
  intro l hfl _ _ p e ha hc hk s m args below hf hA hF happ hP
  obtain ⟨hcalls, hrest, hpre⟩ := hP
  obtain ⟨-, -, -, hnamed, -, -, -, hat⟩ := (Spec.applies_iff hf).mp happ
  obtain ⟨hg, hn⟩ := and_e (Cond.before_iff.mp (show (Jvm.Cond.and given_1 narrow_1).before args s = true from hpre))
  obtain ⟨g0, g1⟩ := and_e hg
  obtain ⟨w0, w1, w2, w3, w4, w5, rfl⟩ : ∃ w0 w1 w2 w3 w4 w5 : Value, args = #[w0, w1, w2, w3, w4, w5] := by
    have hs : args.size = 6 := by simpa [Cond.value, given_1] using g0
    obtain ⟨L⟩ := args
    match L, hs with
    | [w0, w1, w2, w3, w4, w5], _ => exact ⟨w0, w1, w2, w3, w4, w5, rfl⟩
  have hw := fun d (hd : d ∈ tables_1) => atoms_spec (ws := Jvm.Cond.code x code maxLocals ret :: tables_1) hat d (List.mem_cons_of_mem _ hd)
  have hfit : Fit s := fun {y c} hc i hi => by
    obtain ⟨ha, rfl⟩ := Array.getElem?_eq_some_iff.mp hc
    have q := List.all_eq_true.mp ((Array.all_eq_true_iff_forall_mem.mp hF) _ (Array.getElem_mem ha)) i (List.mem_range.mpr hi)
    simpa [Array.getElem?_eq_getElem hi] using q
  obtain ⟨u0, g2⟩ := and_e g1
  obtain ⟨i0, ei0⟩ := isL_v u0
  obtain rfl : w0 = (.long i0) := Option.some.inj ei0
  obtain ⟨u1, g3⟩ := and_e g2
  obtain ⟨i1, ei1⟩ := isL_v u1
  obtain rfl : w1 = (.long i1) := Option.some.inj ei1
  obtain ⟨u2, g4⟩ := and_e g3
  obtain ⟨i2, ei2⟩ := isL_v u2
  obtain rfl : w2 = (.long i2) := Option.some.inj ei2
  obtain ⟨u3, g5⟩ := and_e g4
  obtain ⟨i3, ei3⟩ := isL_v u3
  obtain rfl : w3 = (.long i3) := Option.some.inj ei3
  obtain ⟨u4, g6⟩ := and_e g5
  obtain ⟨i4, ei4⟩ := is_v u4
  obtain rfl : w4 = (.int i4) := Option.some.inj ei4
  obtain ⟨i5, ei5⟩ := isL_v g6
  obtain rfl : w5 = (.long i5) := Option.some.inj ei5
  obtain ⟨n1, hn'⟩ := and_e hn
  obtain ⟨n2, n3⟩ := and_e hn'
  obtain ⟨no, _, _, _, eNO, -⟩ := Cond.exactly_spec (Cond.before_iff.mpr n2)
  obtain ⟨cNO, ANO⟩ := Arr.start eNO n1
  have SN := Sta.start eNO (Or.inr ⟨(hw _ (List.mem_of_getElem? (i := 3) rfl)), (hw _ (List.mem_of_getElem? (i := 28) rfl))⟩)
  have A_no : ArB s s.heap no [] := own_emptyB eNO ANO n3
  obtain ⟨n, o, h1, h2, h3, _, L, rfl, ⟨⟨_, rfl, rfl⟩, N⟩, hq⟩ := own_law l s _ hw s.heap.size s.heap i0 i1 i2 i3 i4 i5 no SN A_no A_no.lt (Nat.le_refl _) tables_1 p e ha hc hk s m _ below hf ((Spec.applies_iff_loose hf).mp happ).1 ⟨rfl, State.Warmed39.refl s, rfl⟩ trivial
  refine ⟨n, _, h1, h2, h3, hpost _ _ _ _ _ _ ⟨Cond.after_iff.mpr rfl, Cond.after_iff.mpr (eq_i res_at (Term.int_eval (1)) rfl), trivial⟩ ⟨hq.1, hq.2.1, (hq.2.2.sift fun y hy => Or.inr (N y hy)).mono (by decide) (by decide)⟩⟩
theorem main_1_1 : Claimed_1_1 := comes_1 fun _ _ _ _ _ _ h hF => ⟨h.1, hF⟩
theorem main_1_2 : Claimed_1_2 := comes_1 fun _ _ _ _ _ _ h hF => ⟨h.2.1, hF⟩
end Jvm.Pilot.@@N@@
namespace Jvm.Pilot.@@N@@
open Jvm Jvm.ClassFile Sem Op Lib Jvm.Free Jvm.Stand Jvm.Pilot.@@N@@.Jvm.D
/-! MADE BY PROGRAM (witnessworld.py) out of the Statement's table words and the real class files: 19 classes; the members and pool entries that the words name. The judged class is class 1, her method 2. -/
namespace start1
open Jvm.ClassFile
def u (s : String) : CpInfo := .utf8 (stringToUtf16 s)
/-- a pool by its gaps: so many unusable entries, then the entry; so many at the end -/
def gap : Nat → List CpInfo → List CpInfo
  | 0, r => r
  | n + 1, r => .unusable :: gap n r
def poolList (es : List (Nat × CpInfo)) (last : Nat) : List CpInfo := es.foldr (fun e r => gap e.1 (e.2 :: r)) (gap last [])
def pool (es : List (Nat × CpInfo)) (last : Nat) : Array CpInfo := ⟨poolList es last⟩
def fileOf (pool : Array CpInfo) (this : Nat) (attrs : Array Attribute := #[]) (ms : Array MethodInfo := #[]) (fl : Nat := 33) (sup : Nat := 0) (ifs : Array Nat := #[]) (fds : Array FieldInfo := #[]) : ClassFile where
  minorVersion := 0
  majorVersion := 65
  constantPool := pool
  accessFlags := fl
  thisClass := this
  superClass := sup
  interfaces := ifs
  fields := fds
  methods := ms
  attributes := attrs
def plain (name : String) (sup : Option ClassId) : Class where
  name := name
  kind := .ordinary
  loader := none
  accessFlags := 33
  super := sup
  interfaces := #[]
  cf := none
  fields := #[]
  methods := #[]
  instanceTypes := #[]
  staticTypes := #[]
  resolved := #[]
  callSites := []
  init := .initialized
  statics := none
  mirror := none

def pool0 : Array CpInfo := pool [(5, u "<init>"), (0, u "()V"), (1, .class_ 10), (1, u "java/lang/Object")] 113

def k0c0 : Code := { maxStack := 0, maxLocals := 1, code := object_method_1_code, exceptionTable := #[], attributes := #[] }
def k0m0 : Method := { name := "<init>", desc := "()V", sig := { parameters := [], returnType := none }, accessFlags := 1, code := some k0c0 }
/-- java/lang/Object -/
def k0 : Class := { plain "java/lang/Object" none with
  accessFlags := 33
  interfaces := #[]
  cf := some (fileOf pool0 8 #[] #[{ accessFlags := 1, nameIndex := 5, descriptorIndex := 6, attributes := #[] }] 33 0 #[] #[])
  fields := #[]
  methods := #[k0m0]
  instanceTypes := #[]
  staticTypes := #[]
  resolved := Array.replicate 124 none
  statics := none }

def pool1 : Array CpInfo := pool [(2, .class_ 4), (0, .nameAndType 5 6), (0, u "java/lang/Object"), (0, u "<init>"), (0, u "()V"), (0, .long 1152921504606846975), (1, .class_ 10), (0, u "com/example/highwater/highwater/MessageIndex"), (0, .methodref 9 3), (0, .methodref 9 13), (0, .nameAndType 14 15), (0, u "add"), (0, u "(J)V"), (0, .methodref 9 17), (0, .nameAndType 18 15), (0, u "insert"), (0, .methodref 20 21), (0, .class_ 22), (0, .nameAndType 23 24), (0, u "com/example/highwater/highwater/MessageIndexContainsPinLaw"), (0, u "pick"), (0, u "(IJJJJ)J"), (0, .methodref 9 26), (0, .nameAndType 27 28), (0, u "remove"), (0, u "(J)Z"), (0, .methodref 9 30), (0, .nameAndType 31 28), (0, u "contains"), (3, u "law"), (0, u "(JJJJIJ)Z")] 2

def k1m0 : Method := { name := "<init>", desc := "()V", sig := { parameters := [], returnType := none }, accessFlags := 1, code := none }
def k1c1 : Code := { maxStack := 2, maxLocals := 9, code := method_2_code, exceptionTable := #[], attributes := #[] }
def k1m1 : Method := { name := "pick", desc := "(IJJJJ)J", sig := { parameters := [.int, .long, .long, .long, .long], returnType := some .long }, accessFlags := 10, code := some k1c1 }
def k1c2 : Code := { maxStack := 10, maxLocals := 33, code := code, exceptionTable := #[], attributes := #[] }
def k1m2 : Method := { name := "law", desc := "(JJJJIJ)Z", sig := { parameters := [.long, .long, .long, .long, .int, .long], returnType := some .boolean }, accessFlags := 9, code := some k1c2 }
/-- com/example/highwater/highwater/MessageIndexContainsPinLaw -/
def k1 : Class := { plain "com/example/highwater/highwater/MessageIndexContainsPinLaw" (some 0) with
  accessFlags := 49
  interfaces := #[]
  cf := some (fileOf pool1 20 #[] #[{ accessFlags := 1, nameIndex := 5, descriptorIndex := 6, attributes := #[] }, { accessFlags := 10, nameIndex := 23, descriptorIndex := 24, attributes := #[] }, { accessFlags := 9, nameIndex := 35, descriptorIndex := 36, attributes := #[] }] 49 2 #[] #[])
  fields := #[]
  methods := #[k1m0, k1m1, k1m2]
  instanceTypes := #[]
  staticTypes := #[]
  resolved := Array.replicate 39 none
  statics := none }

def pool2 : Array CpInfo := pool [(1, .methodref 2 3), (0, .class_ 4), (0, .nameAndType 5 6), (0, u "java/lang/Object"), (0, u "<init>"), (0, u "()V"), (0, .class_ 8), (0, u "com/example/highwater/highwater/MessageIndex$Run"), (0, .fieldref 10 11), (0, .class_ 12), (0, .nameAndType 13 14), (0, u "com/example/highwater/highwater/MessageIndex"), (0, u "runs"), (0, u "[Lcom/example/highwater/highwater/MessageIndex$Run;"), (0, .fieldref 10 16), (0, .nameAndType 17 18), (0, u "size"), (0, u "I"), (0, .fieldref 10 20), (0, .nameAndType 21 18), (0, u "count"), (0, .methodref 10 23), (0, .nameAndType 24 25), (0, u "run"), (0, u "(I)Lcom/example/highwater/highwater/MessageIndex$Run;"), (0, .fieldref 7 27), (0, .nameAndType 28 29), (0, u "last"), (0, u "J"), (9, .methodref 7 40), (0, .nameAndType 41 42), (0, u "hasRoom"), (0, u "()Z"), (0, .methodref 7 44), (0, .nameAndType 45 46), (0, u "append"), (0, u "(J)V"), (0, .methodref 7 48), (0, .nameAndType 5 46), (0, .methodref 10 50), (0, .nameAndType 51 52), (0, u "addRun"), (0, u "(ILcom/example/highwater/highwater/MessageIndex$Run;)V"), (2, .fieldref 7 56), (0, .nameAndType 57 29), (0, u "first"), (7, .methodref 10 66), (0, .nameAndType 67 68), (0, u "runFor"), (0, u "(J)I"), (0, .methodref 7 70), (0, .nameAndType 71 72), (0, u "holds"), (0, u "(J)Z"), (0, .methodref 7 74), (0, .nameAndType 75 72), (0, u "remove"), (5, .methodref 7 82), (0, .nameAndType 83 46), (0, u "prepend"), (0, .methodref 7 85), (0, .nameAndType 86 46), (0, u "insert"), (0, .fieldref 10 88), (0, .nameAndType 89 18), (0, u "head"), (0, .methodref 91 92), (0, .class_ 93), (0, .nameAndType 94 95), (0, u "java/lang/System"), (0, u "arraycopy"), (0, u "(Ljava/lang/Object;ILjava/lang/Object;II)V"), (11, .methodref 108 109), (0, .class_ 110), (0, .nameAndType 111 68), (0, u "java/lang/Long"), (0, u "numberOfLeadingZeros"), (0, .methodref 113 114), (0, .class_ 115), (0, .nameAndType 116 117), (0, u "java/lang/Math"), (0, u "max"), (0, u "(II)I"), (0, .long 128), (3, u "NO_GAPS"), (0, u "[B"), (0, u "RUN_BYTES"), (2, u "MAX_GAP_BYTES"), (4, u "add"), (3, u "contains"), (0, u "gap"), (0, u "([BI)J"), (0, u "gapBytes"), (0, u "([BI)I"), (0, u "gapLength"), (0, u "put"), (0, u "([BIJ)I")] 22

def k2c0 : Code := { maxStack := 2, maxLocals := 1, code := prog_8_method_1_code, exceptionTable := #[], attributes := #[] }
def k2m0 : Method := { name := "<init>", desc := "()V", sig := { parameters := [], returnType := none }, accessFlags := 0, code := some k2c0 }
def k2c1 : Code := { maxStack := 6, maxLocals := 4, code := prog_8_method_3_code, exceptionTable := #[], attributes := #[] }
def k2m1 : Method := { name := "add", desc := "(J)V", sig := { parameters := [.long], returnType := none }, accessFlags := 0, code := some k2c1 }
def k2c2 : Code := { maxStack := 3, maxLocals := 4, code := prog_8_method_6_code, exceptionTable := #[], attributes := #[] }
def k2m2 : Method := { name := "contains", desc := "(J)Z", sig := { parameters := [.long], returnType := some .boolean }, accessFlags := 0, code := some k2c2 }
def k2c3 : Code := { maxStack := 3, maxLocals := 4, code := prog_8_method_7_code, exceptionTable := #[], attributes := #[] }
def k2m3 : Method := { name := "remove", desc := "(J)Z", sig := { parameters := [.long], returnType := some .boolean }, accessFlags := 0, code := some k2c3 }
def k2c4 : Code := { maxStack := 6, maxLocals := 4, code := prog_8_method_8_code, exceptionTable := #[], attributes := #[] }
def k2m4 : Method := { name := "insert", desc := "(J)V", sig := { parameters := [.long], returnType := none }, accessFlags := 0, code := some k2c4 }
def k2c5 : Code := { maxStack := 3, maxLocals := 2, code := prog_8_method_9_code, exceptionTable := #[], attributes := #[] }
def k2m5 : Method := { name := "run", desc := "(I)Lcom/example/highwater/highwater/MessageIndex$Run;", sig := { parameters := [.int], returnType := some (.object "com/example/highwater/highwater/MessageIndex$Run") }, accessFlags := 2, code := some k2c5 }
def k2c6 : Code := { maxStack := 4, maxLocals := 7, code := prog_8_method_10_code, exceptionTable := #[], attributes := #[] }
def k2m6 : Method := { name := "runFor", desc := "(J)I", sig := { parameters := [.long], returnType := some .int }, accessFlags := 2, code := some k2c6 }
def k2c7 : Code := { maxStack := 6, maxLocals := 3, code := prog_8_method_11_code, exceptionTable := #[], attributes := #[] }
def k2m7 : Method := { name := "addRun", desc := "(ILcom/example/highwater/highwater/MessageIndex$Run;)V", sig := { parameters := [.int, (.object "com/example/highwater/highwater/MessageIndex$Run")], returnType := none }, accessFlags := 2, code := some k2c7 }
def k2c8 : Code := { maxStack := 5, maxLocals := 6, code := prog_8_method_13_code, exceptionTable := #[], attributes := #[] }
def k2m8 : Method := { name := "gap", desc := "([BI)J", sig := { parameters := [(.array .byte), .int], returnType := some .long }, accessFlags := 10, code := some k2c8 }
def k2c9 : Code := { maxStack := 3, maxLocals := 3, code := prog_8_method_14_code, exceptionTable := #[], attributes := #[] }
def k2m9 : Method := { name := "gapBytes", desc := "([BI)I", sig := { parameters := [(.array .byte), .int], returnType := some .int }, accessFlags := 10, code := some k2c9 }
def k2c10 : Code := { maxStack := 4, maxLocals := 2, code := prog_8_method_15_code, exceptionTable := #[], attributes := #[] }
def k2m10 : Method := { name := "gapLength", desc := "(J)I", sig := { parameters := [.long], returnType := some .int }, accessFlags := 10, code := some k2c10 }
def k2c11 : Code := { maxStack := 6, maxLocals := 7, code := prog_8_method_16_code, exceptionTable := #[], attributes := #[] }
def k2m11 : Method := { name := "put", desc := "([BIJ)I", sig := { parameters := [(.array .byte), .int, .long], returnType := some .int }, accessFlags := 10, code := some k2c11 }
/-- com/example/highwater/highwater/MessageIndex -/
def k2 : Class := { plain "com/example/highwater/highwater/MessageIndex" (some 0) with
  accessFlags := 48
  interfaces := #[]
  cf := some (fileOf pool2 10 #[.nestMembers #[7]] #[{ accessFlags := 0, nameIndex := 5, descriptorIndex := 6, attributes := #[] }, { accessFlags := 0, nameIndex := 132, descriptorIndex := 46, attributes := #[] }, { accessFlags := 0, nameIndex := 136, descriptorIndex := 72, attributes := #[] }, { accessFlags := 0, nameIndex := 75, descriptorIndex := 72, attributes := #[] }, { accessFlags := 0, nameIndex := 86, descriptorIndex := 46, attributes := #[] }, { accessFlags := 2, nameIndex := 24, descriptorIndex := 25, attributes := #[] }, { accessFlags := 2, nameIndex := 67, descriptorIndex := 68, attributes := #[] }, { accessFlags := 2, nameIndex := 51, descriptorIndex := 52, attributes := #[] }, { accessFlags := 10, nameIndex := 137, descriptorIndex := 138, attributes := #[] }, { accessFlags := 10, nameIndex := 139, descriptorIndex := 140, attributes := #[] }, { accessFlags := 10, nameIndex := 141, descriptorIndex := 68, attributes := #[] }, { accessFlags := 10, nameIndex := 142, descriptorIndex := 143, attributes := #[] }] 48 2 #[] #[{ accessFlags := 26, nameIndex := 124, descriptorIndex := 18, attributes := #[] }, { accessFlags := 26, nameIndex := 127, descriptorIndex := 18, attributes := #[] }, { accessFlags := 26, nameIndex := 122, descriptorIndex := 123, attributes := #[] }, { accessFlags := 2, nameIndex := 13, descriptorIndex := 14, attributes := #[] }, { accessFlags := 2, nameIndex := 89, descriptorIndex := 18, attributes := #[] }, { accessFlags := 2, nameIndex := 21, descriptorIndex := 18, attributes := #[] }, { accessFlags := 2, nameIndex := 17, descriptorIndex := 18, attributes := #[] }])
  fields := #[{ name := "RUN_BYTES", type := .int, accessFlags := 26, slot := 0, constantValue := 0 }, { name := "MAX_GAP_BYTES", type := .int, accessFlags := 26, slot := 1, constantValue := 0 }, { name := "NO_GAPS", type := (.array .byte), accessFlags := 26, slot := 2, constantValue := 0 }, { name := "runs", type := (.array (.object "com/example/highwater/highwater/MessageIndex$Run")), accessFlags := 2, slot := 0, constantValue := 0 }, { name := "head", type := .int, accessFlags := 2, slot := 1, constantValue := 0 }, { name := "count", type := .int, accessFlags := 2, slot := 2, constantValue := 0 }, { name := "size", type := .int, accessFlags := 2, slot := 3, constantValue := 0 }]
  methods := #[k2m0, k2m1, k2m2, k2m3, k2m4, k2m5, k2m6, k2m7, k2m8, k2m9, k2m10, k2m11]
  instanceTypes := #[(.array (.object "com/example/highwater/highwater/MessageIndex$Run")), .int, .int, .int]
  staticTypes := #[.int, .int, (.array .byte)]
  resolved := Array.replicate 166 none
  statics := some 0 }

def pool3 : Array CpInfo := pool [(1, .class_ 2), (0, u "com/example/highwater/highwater/MessageIndex"), (0, .methodref 4 5), (0, .class_ 6), (0, .nameAndType 7 8), (0, u "java/lang/Object"), (0, u "<init>"), (0, u "()V"), (0, .fieldref 1 10), (0, .nameAndType 11 12), (0, u "NO_GAPS"), (0, u "[B"), (0, .fieldref 14 15), (0, .class_ 16), (0, .nameAndType 17 12), (0, u "com/example/highwater/highwater/MessageIndex$Run"), (0, u "gaps"), (0, .fieldref 14 19), (0, .nameAndType 20 21), (0, u "first"), (0, u "J"), (0, .fieldref 14 23), (0, .nameAndType 24 21), (0, u "last"), (0, .fieldref 14 26), (0, .nameAndType 27 28), (0, u "end"), (0, u "I"), (0, .fieldref 14 30), (0, .nameAndType 31 28), (0, u "start"), (0, .methodref 14 33), (0, .nameAndType 34 35), (0, u "splice"), (0, u "(IIJJ)V"), (0, .methodref 1 37), (0, .nameAndType 38 39), (0, u "gap"), (0, u "([BI)J"), (0, .methodref 1 41), (0, .nameAndType 42 43), (0, u "gapBytes"), (0, u "([BI)I"), (0, .methodref 14 45), (0, .nameAndType 46 47), (0, u "find"), (0, u "(J)I"), (0, .methodref 14 49), (0, .nameAndType 50 51), (0, u "dropFirst"), (0, u "()Z"), (2, u "(J)V"), (6, .methodref 1 62), (0, .nameAndType 63 47), (0, u "gapLength"), (0, .methodref 65 66), (0, .class_ 67), (0, .nameAndType 68 69), (0, u "java/lang/Math"), (0, u "max"), (0, u "(II)I"), (0, .methodref 65 71), (0, .nameAndType 72 69), (0, u "min"), (0, .methodref 74 75), (0, .class_ 76), (0, .nameAndType 77 78), (0, u "java/lang/System"), (0, u "arraycopy"), (0, u "(Ljava/lang/Object;ILjava/lang/Object;II)V"), (0, .methodref 1 80), (0, .nameAndType 81 82), (0, u "put"), (0, u "([BIJ)I"), (2, u "hasRoom"), (1, u "append"), (0, u "prepend"), (0, u "insert"), (0, u "holds"), (0, u "(J)Z"), (0, u "remove")] 8

def k3c0 : Code := { maxStack := 3, maxLocals := 3, code := prog_9_method_1_code, exceptionTable := #[], attributes := #[] }
def k3m0 : Method := { name := "<init>", desc := "(J)V", sig := { parameters := [.long], returnType := none }, accessFlags := 0, code := some k3c0 }
def k3c1 : Code := { maxStack := 2, maxLocals := 1, code := prog_9_method_2_code, exceptionTable := #[], attributes := #[] }
def k3m1 : Method := { name := "hasRoom", desc := "()Z", sig := { parameters := [], returnType := some .boolean }, accessFlags := 0, code := some k3c1 }
def k3c2 : Code := { maxStack := 7, maxLocals := 3, code := prog_9_method_3_code, exceptionTable := #[], attributes := #[] }
def k3m2 : Method := { name := "append", desc := "(J)V", sig := { parameters := [.long], returnType := none }, accessFlags := 0, code := some k3c2 }
def k3c3 : Code := { maxStack := 7, maxLocals := 3, code := prog_9_method_4_code, exceptionTable := #[], attributes := #[] }
def k3m3 : Method := { name := "prepend", desc := "(J)V", sig := { parameters := [.long], returnType := none }, accessFlags := 0, code := some k3c3 }
def k3c4 : Code := { maxStack := 9, maxLocals := 8, code := prog_9_method_5_code, exceptionTable := #[], attributes := #[] }
def k3m4 : Method := { name := "insert", desc := "(J)V", sig := { parameters := [.long], returnType := none }, accessFlags := 0, code := some k3c4 }
def k3c5 : Code := { maxStack := 4, maxLocals := 3, code := prog_9_method_6_code, exceptionTable := #[], attributes := #[] }
def k3m5 : Method := { name := "holds", desc := "(J)Z", sig := { parameters := [.long], returnType := some .boolean }, accessFlags := 0, code := some k3c5 }
def k3c6 : Code := { maxStack := 4, maxLocals := 6, code := prog_9_method_7_code, exceptionTable := #[], attributes := #[] }
def k3m6 : Method := { name := "find", desc := "(J)I", sig := { parameters := [.long], returnType := some .int }, accessFlags := 2, code := some k3c6 }
def k3c7 : Code := { maxStack := 5, maxLocals := 1, code := prog_9_method_8_code, exceptionTable := #[], attributes := #[] }
def k3m7 : Method := { name := "dropFirst", desc := "()Z", sig := { parameters := [], returnType := some .boolean }, accessFlags := 0, code := some k3c7 }
def k3c8 : Code := { maxStack := 8, maxLocals := 6, code := prog_9_method_9_code, exceptionTable := #[], attributes := #[] }
def k3m8 : Method := { name := "remove", desc := "(J)Z", sig := { parameters := [.long], returnType := some .boolean }, accessFlags := 0, code := some k3c8 }
def k3c9 : Code := { maxStack := 6, maxLocals := 11, code := prog_9_method_11_code, exceptionTable := #[], attributes := #[] }
def k3m9 : Method := { name := "splice", desc := "(IIJJ)V", sig := { parameters := [.int, .int, .long, .long], returnType := none }, accessFlags := 2, code := some k3c9 }
/-- com/example/highwater/highwater/MessageIndex$Run -/
def k3 : Class := { plain "com/example/highwater/highwater/MessageIndex$Run" (some 0) with
  accessFlags := 48
  interfaces := #[]
  cf := some (fileOf pool3 14 #[.nestHost 1] #[{ accessFlags := 0, nameIndex := 7, descriptorIndex := 54, attributes := #[] }, { accessFlags := 0, nameIndex := 85, descriptorIndex := 51, attributes := #[] }, { accessFlags := 0, nameIndex := 87, descriptorIndex := 54, attributes := #[] }, { accessFlags := 0, nameIndex := 88, descriptorIndex := 54, attributes := #[] }, { accessFlags := 0, nameIndex := 89, descriptorIndex := 54, attributes := #[] }, { accessFlags := 0, nameIndex := 90, descriptorIndex := 91, attributes := #[] }, { accessFlags := 2, nameIndex := 46, descriptorIndex := 47, attributes := #[] }, { accessFlags := 0, nameIndex := 50, descriptorIndex := 51, attributes := #[] }, { accessFlags := 0, nameIndex := 92, descriptorIndex := 91, attributes := #[] }, { accessFlags := 2, nameIndex := 34, descriptorIndex := 35, attributes := #[] }] 48 4 #[] #[{ accessFlags := 0, nameIndex := 20, descriptorIndex := 21, attributes := #[] }, { accessFlags := 0, nameIndex := 24, descriptorIndex := 21, attributes := #[] }, { accessFlags := 0, nameIndex := 17, descriptorIndex := 12, attributes := #[] }, { accessFlags := 0, nameIndex := 31, descriptorIndex := 28, attributes := #[] }, { accessFlags := 0, nameIndex := 27, descriptorIndex := 28, attributes := #[] }])
  fields := #[{ name := "first", type := .long, accessFlags := 0, slot := 0, constantValue := 0 }, { name := "last", type := .long, accessFlags := 0, slot := 1, constantValue := 0 }, { name := "gaps", type := (.array .byte), accessFlags := 0, slot := 2, constantValue := 0 }, { name := "start", type := .int, accessFlags := 0, slot := 3, constantValue := 0 }, { name := "end", type := .int, accessFlags := 0, slot := 4, constantValue := 0 }]
  methods := #[k3m0, k3m1, k3m2, k3m3, k3m4, k3m5, k3m6, k3m7, k3m8, k3m9]
  instanceTypes := #[.long, .long, (.array .byte), .int, .int]
  staticTypes := #[]
  resolved := Array.replicate 101 none
  statics := none }

def pool4 : Array CpInfo := pool [(2, .class_ 4), (1, u "java/lang/Object"), (0, u "<init>"), (0, u "()V"), (1, .class_ 10), (1, u "java/lang/System"), (0, u "allowSecurityManager"), (0, u "I"), (16, u "cons"), (0, u "Ljava/io/Console;"), (77, .class_ 110), (1, u "java/lang/System$CallersHolder"), (43, u "initialErrStream"), (0, u "Ljava/io/PrintStream;"), (19, u "security"), (0, u "Ljava/lang/SecurityManager;"), (31, .class_ 209), (0, u "java/lang/System$1"), (7, u "props"), (0, u "Ljava/util/Properties;"), (2, u "lineSeparator"), (0, u "Ljava/lang/String;"), (96, .class_ 321), (1, u "java/lang/System$LoggerFinder"), (5, .class_ 328), (0, u "java/lang/System$Logger"), (67, u "err"), (2, u "out"), (91, u "notSupportedJnuEncoding"), (15, u "in"), (17, u "initialIn"), (0, u "Ljava/io/InputStream;"), (35, u "bootLayer"), (0, u "Ljava/lang/ModuleLayer;"), (99, .class_ 664), (0, u "java/lang/System$2"), (9, u "NEVER"), (2, u "MAYBE"), (49, u "arraycopy"), (0, u "(Ljava/lang/Object;ILjava/lang/Object;II)V"), (72, .class_ 802), (0, u "java/lang/System$Logger$Level")] 31

def k4m0 : Method := { name := "<init>", desc := "()V", sig := { parameters := [], returnType := none }, accessFlags := 2, code := none }
def k4m1 : Method := { name := "arraycopy", desc := "(Ljava/lang/Object;ILjava/lang/Object;II)V", sig := { parameters := [(.object "java/lang/Object"), .int, (.object "java/lang/Object"), .int, .int], returnType := none }, accessFlags := 265, code := none }
/-- java/lang/System -/
def k4 : Class := { plain "java/lang/System" (some 0) with
  accessFlags := 49
  interfaces := #[]
  cf := some (fileOf pool4 8 #[.nestMembers #[319, 327, 801, 108, 663, 208]] #[{ accessFlags := 2, nameIndex := 5, descriptorIndex := 6, attributes := #[] }, { accessFlags := 265, nameIndex := 727, descriptorIndex := 728, attributes := #[] }] 49 2 #[] #[{ accessFlags := 25, nameIndex := 507, descriptorIndex := 526, attributes := #[] }, { accessFlags := 25, nameIndex := 399, descriptorIndex := 155, attributes := #[] }, { accessFlags := 25, nameIndex := 396, descriptorIndex := 155, attributes := #[] }, { accessFlags := 10, nameIndex := 525, descriptorIndex := 526, attributes := #[] }, { accessFlags := 26, nameIndex := 674, descriptorIndex := 12, attributes := #[] }, { accessFlags := 26, nameIndex := 677, descriptorIndex := 12, attributes := #[] }, { accessFlags := 10, nameIndex := 11, descriptorIndex := 12, attributes := #[] }, { accessFlags := 74, nameIndex := 175, descriptorIndex := 176, attributes := #[] }, { accessFlags := 10, nameIndex := 491, descriptorIndex := 222, attributes := #[] }, { accessFlags := 74, nameIndex := 29, descriptorIndex := 30, attributes := #[] }, { accessFlags := 74, nameIndex := 154, descriptorIndex := 155, attributes := #[] }, { accessFlags := 10, nameIndex := 217, descriptorIndex := 218, attributes := #[] }, { accessFlags := 10, nameIndex := 221, descriptorIndex := 222, attributes := #[] }, { accessFlags := 8, nameIndex := 562, descriptorIndex := 563, attributes := #[] }])
  fields := #[{ name := "in", type := (.object "java/io/InputStream"), accessFlags := 25, slot := 0, constantValue := 0 }, { name := "out", type := (.object "java/io/PrintStream"), accessFlags := 25, slot := 1, constantValue := 0 }, { name := "err", type := (.object "java/io/PrintStream"), accessFlags := 25, slot := 2, constantValue := 0 }, { name := "initialIn", type := (.object "java/io/InputStream"), accessFlags := 10, slot := 3, constantValue := 0 }, { name := "NEVER", type := .int, accessFlags := 26, slot := 4, constantValue := 0 }, { name := "MAYBE", type := .int, accessFlags := 26, slot := 5, constantValue := 0 }, { name := "allowSecurityManager", type := .int, accessFlags := 10, slot := 6, constantValue := 0 }, { name := "security", type := (.object "java/lang/SecurityManager"), accessFlags := 74, slot := 7, constantValue := 0 }, { name := "notSupportedJnuEncoding", type := (.object "java/lang/String"), accessFlags := 10, slot := 8, constantValue := 0 }, { name := "cons", type := (.object "java/io/Console"), accessFlags := 74, slot := 9, constantValue := 0 }, { name := "initialErrStream", type := (.object "java/io/PrintStream"), accessFlags := 74, slot := 10, constantValue := 0 }, { name := "props", type := (.object "java/util/Properties"), accessFlags := 10, slot := 11, constantValue := 0 }, { name := "lineSeparator", type := (.object "java/lang/String"), accessFlags := 10, slot := 12, constantValue := 0 }, { name := "bootLayer", type := (.object "java/lang/ModuleLayer"), accessFlags := 8, slot := 13, constantValue := 0 }]
  methods := #[k4m0, k4m1]
  instanceTypes := #[]
  staticTypes := #[(.object "java/io/InputStream"), (.object "java/io/PrintStream"), (.object "java/io/PrintStream"), (.object "java/io/InputStream"), .int, .int, .int, (.object "java/lang/SecurityManager"), (.object "java/lang/String"), (.object "java/io/Console"), (.object "java/io/PrintStream"), (.object "java/util/Properties"), (.object "java/lang/String"), (.object "java/lang/ModuleLayer")]
  resolved := Array.replicate 834 none
  statics := none }

def pool5 : Array CpInfo := pool [(1, .class_ 2), (0, u "java/io/Serializable"), (0, .class_ 4), (0, u "java/lang/Object")] 2

/-- java/io/Serializable -/
def k5 : Class := { plain "java/io/Serializable" (some 0) with
  accessFlags := 1537
  interfaces := #[]
  cf := some (fileOf pool5 1 #[] #[] 1537 3 #[] #[])
  fields := #[]
  methods := #[]
  instanceTypes := #[]
  staticTypes := #[]
  resolved := Array.replicate 7 none
  statics := none }

def pool6 : Array CpInfo := pool [(2, .class_ 4), (1, u "java/lang/Object"), (0, u "<init>"), (0, u "()V"), (1, .class_ 10), (1, u "java/lang/Number"), (2, .class_ 14), (0, u "java/io/Serializable"), (0, u "serialVersionUID"), (0, u "J")] 20

def k6m0 : Method := { name := "<init>", desc := "()V", sig := { parameters := [], returnType := none }, accessFlags := 1, code := none }
/-- java/lang/Number -/
def k6 : Class := { plain "java/lang/Number" (some 0) with
  accessFlags := 1057
  interfaces := #[5]
  cf := some (fileOf pool6 8 #[] #[{ accessFlags := 1, nameIndex := 5, descriptorIndex := 6, attributes := #[] }] 1057 2 #[13] #[{ accessFlags := 26, nameIndex := 15, descriptorIndex := 16, attributes := #[] }])
  fields := #[{ name := "serialVersionUID", type := .long, accessFlags := 26, slot := 0, constantValue := 0 }]
  methods := #[k6m0]
  instanceTypes := #[]
  staticTypes := #[.long]
  resolved := Array.replicate 37 none
  statics := none }

def pool7 : Array CpInfo := pool [(1, .class_ 2), (0, u "java/lang/Comparable"), (0, .class_ 4), (0, u "java/lang/Object")] 7

/-- java/lang/Comparable -/
def k7 : Class := { plain "java/lang/Comparable" (some 0) with
  accessFlags := 1537
  interfaces := #[]
  cf := some (fileOf pool7 1 #[] #[] 1537 3 #[] #[])
  fields := #[]
  methods := #[]
  instanceTypes := #[]
  staticTypes := #[]
  resolved := Array.replicate 12 none
  statics := none }

def pool8 : Array CpInfo := pool [(1, .class_ 2), (0, u "java/lang/constant/Constable"), (0, .class_ 4), (0, u "java/lang/Object")] 6

/-- java/lang/constant/Constable -/
def k8 : Class := { plain "java/lang/constant/Constable" (some 0) with
  accessFlags := 1537
  interfaces := #[]
  cf := some (fileOf pool8 1 #[] #[] 1537 3 #[] #[])
  fields := #[]
  methods := #[]
  instanceTypes := #[]
  staticTypes := #[]
  resolved := Array.replicate 11 none
  statics := none }

def pool9 : Array CpInfo := pool [(1, .class_ 2), (0, u "java/lang/constant/ConstantDesc"), (0, .class_ 4), (0, u "java/lang/Object")] 32

/-- java/lang/constant/ConstantDesc -/
def k9 : Class := { plain "java/lang/constant/ConstantDesc" (some 0) with
  accessFlags := 1537
  interfaces := #[]
  cf := some (fileOf pool9 1 #[] #[] 1537 3 #[] #[])
  fields := #[]
  methods := #[]
  instanceTypes := #[]
  staticTypes := #[]
  resolved := Array.replicate 37 none
  statics := none }

def pool10 : Array CpInfo := pool [(1, .class_ 2), (0, u "java/lang/Long"), (15, .class_ 20), (1, u "java/lang/Integer"), (79, u "numberOfLeadingZeros"), (0, u "(J)I"), (133, .class_ 237), (1, u "java/lang/Long$LongCache"), (33, .class_ 272), (0, u "java/lang/Number"), (2, u "value"), (0, u "J"), (31, .methodref 18 309), (0, .nameAndType 100 310), (0, u "(I)I"), (50, u "TYPE"), (0, u "Ljava/lang/Class;"), (0, .class_ 364), (0, u "java/lang/Comparable"), (0, .class_ 366), (0, u "java/lang/constant/Constable"), (0, .class_ 368), (0, u "java/lang/constant/ConstantDesc"), (0, u "MIN_VALUE"), (1, u "MAX_VALUE"), (4, u "SIZE"), (0, u "I"), (1, u "BYTES"), (1, u "serialVersionUID")] 142

def k10c0 : Code := { maxStack := 3, maxLocals := 3, code := jdk_35_method_48_code, exceptionTable := #[], attributes := #[] }
def k10m0 : Method := { name := "numberOfLeadingZeros", desc := "(J)I", sig := { parameters := [.long], returnType := some .int }, accessFlags := 9, code := some k10c0 }
/-- java/lang/Long -/
def k10 : Class := { plain "java/lang/Long" (some 6) with
  accessFlags := 49
  interfaces := #[7, 8, 9]
  cf := some (fileOf pool10 1 #[.nestMembers #[235]] #[{ accessFlags := 9, nameIndex := 100, descriptorIndex := 101, attributes := #[] }] 49 271 #[363, 365, 367] #[{ accessFlags := 25, nameIndex := 369, descriptorIndex := 276, attributes := #[] }, { accessFlags := 25, nameIndex := 371, descriptorIndex := 276, attributes := #[] }, { accessFlags := 25, nameIndex := 361, descriptorIndex := 362, attributes := #[] }, { accessFlags := 18, nameIndex := 275, descriptorIndex := 276, attributes := #[] }, { accessFlags := 25, nameIndex := 376, descriptorIndex := 377, attributes := #[] }, { accessFlags := 25, nameIndex := 379, descriptorIndex := 377, attributes := #[] }, { accessFlags := 26, nameIndex := 381, descriptorIndex := 276, attributes := #[] }])
  fields := #[{ name := "MIN_VALUE", type := .long, accessFlags := 25, slot := 0, constantValue := 0 }, { name := "MAX_VALUE", type := .long, accessFlags := 25, slot := 1, constantValue := 0 }, { name := "TYPE", type := (.object "java/lang/Class"), accessFlags := 25, slot := 2, constantValue := 0 }, { name := "value", type := .long, accessFlags := 18, slot := 0, constantValue := 0 }, { name := "SIZE", type := .int, accessFlags := 25, slot := 3, constantValue := 0 }, { name := "BYTES", type := .int, accessFlags := 25, slot := 4, constantValue := 0 }, { name := "serialVersionUID", type := .long, accessFlags := 26, slot := 5, constantValue := 0 }]
  methods := #[k10m0]
  instanceTypes := #[.long]
  staticTypes := #[.long, .long, (.object "java/lang/Class"), .int, .int, .long]
  resolved := Array.replicate 524 none
  statics := none }

def pool11 : Array CpInfo := pool [(1, .class_ 2), (0, u "java/lang/Integer"), (16, u "digits"), (0, u "[C"), (32, u "numberOfLeadingZeros"), (0, u "(I)I"), (30, u "DigitOnes"), (0, u "[B"), (2, u "DigitTens"), (99, .class_ 190), (0, u "java/lang/Integer$IntegerCache"), (3, u "I"), (8, .class_ 204), (0, u "java/lang/Number"), (2, u "value"), (56, .integer 65536), (37, u "TYPE"), (0, u "Ljava/lang/Class;"), (0, .class_ 305), (0, u "java/lang/Comparable"), (0, .class_ 307), (0, u "java/lang/constant/Constable"), (0, .class_ 309), (0, u "java/lang/constant/ConstantDesc"), (0, u "MIN_VALUE"), (1, u "MAX_VALUE"), (3, u "SIZE"), (1, u "BYTES"), (1, u "serialVersionUID"), (0, u "J")] 131

def k11c0 : Code := { maxStack := 3, maxLocals := 2, code := jdk_33_method_47_code, exceptionTable := #[], attributes := #[] }
def k11m0 : Method := { name := "numberOfLeadingZeros", desc := "(I)I", sig := { parameters := [.int], returnType := some .int }, accessFlags := 9, code := some k11c0 }
/-- java/lang/Integer -/
def k11 : Class := { plain "java/lang/Integer" (some 6) with
  accessFlags := 49
  interfaces := #[7, 8, 9]
  cf := some (fileOf pool11 1 #[.nestMembers #[189]] #[{ accessFlags := 9, nameIndex := 53, descriptorIndex := 54, attributes := #[] }] 49 203 #[304, 306, 308] #[{ accessFlags := 25, nameIndex := 310, descriptorIndex := 194, attributes := #[] }, { accessFlags := 25, nameIndex := 312, descriptorIndex := 194, attributes := #[] }, { accessFlags := 25, nameIndex := 302, descriptorIndex := 303, attributes := #[] }, { accessFlags := 24, nameIndex := 19, descriptorIndex := 20, attributes := #[] }, { accessFlags := 24, nameIndex := 89, descriptorIndex := 86, attributes := #[] }, { accessFlags := 24, nameIndex := 85, descriptorIndex := 86, attributes := #[] }, { accessFlags := 18, nameIndex := 207, descriptorIndex := 194, attributes := #[] }, { accessFlags := 25, nameIndex := 316, descriptorIndex := 194, attributes := #[] }, { accessFlags := 25, nameIndex := 318, descriptorIndex := 194, attributes := #[] }, { accessFlags := 26, nameIndex := 320, descriptorIndex := 321, attributes := #[] }])
  fields := #[{ name := "MIN_VALUE", type := .int, accessFlags := 25, slot := 0, constantValue := 0 }, { name := "MAX_VALUE", type := .int, accessFlags := 25, slot := 1, constantValue := 0 }, { name := "TYPE", type := (.object "java/lang/Class"), accessFlags := 25, slot := 2, constantValue := 0 }, { name := "digits", type := (.array .char), accessFlags := 24, slot := 3, constantValue := 0 }, { name := "DigitTens", type := (.array .byte), accessFlags := 24, slot := 4, constantValue := 0 }, { name := "DigitOnes", type := (.array .byte), accessFlags := 24, slot := 5, constantValue := 0 }, { name := "value", type := .int, accessFlags := 18, slot := 0, constantValue := 0 }, { name := "SIZE", type := .int, accessFlags := 25, slot := 6, constantValue := 0 }, { name := "BYTES", type := .int, accessFlags := 25, slot := 7, constantValue := 0 }, { name := "serialVersionUID", type := .long, accessFlags := 26, slot := 8, constantValue := 0 }]
  methods := #[k11m0]
  instanceTypes := #[.int]
  staticTypes := #[.int, .int, (.object "java/lang/Class"), (.array .char), (.array .byte), (.array .byte), .int, .int, .long]
  resolved := Array.replicate 453 none
  statics := none }

def pool12 : Array CpInfo := pool [(1, .class_ 2), (0, u "java/lang/Math"), (1, .class_ 6), (1, u "java/lang/Object"), (0, u "<init>"), (0, u "()V"), (89, .class_ 100), (1, u "java/lang/Math$RandomNumberGeneratorHolder"), (71, u "negativeZeroFloatBits"), (0, u "J"), (2, u "negativeZeroDoubleBits"), (21, u "max"), (2, u "min"), (43, u "$assertionsDisabled"), (0, u "Z"), (88, u "(II)I"), (2, u "twoToTheDoubleScaleDown"), (0, u "D"), (4, u "twoToTheDoubleScaleUp"), (9, u "E"), (3, u "PI"), (2, u "TAU"), (2, u "DEGREES_TO_RADIANS"), (0, u "RADIANS_TO_DEGREES")] 94

def k12m0 : Method := { name := "<init>", desc := "()V", sig := { parameters := [], returnType := none }, accessFlags := 2, code := none }
def k12c1 : Code := { maxStack := 2, maxLocals := 2, code := jdk_29_method_65_code, exceptionTable := #[], attributes := #[] }
def k12m1 : Method := { name := "max", desc := "(II)I", sig := { parameters := [.int, .int], returnType := some .int }, accessFlags := 9, code := some k12c1 }
def k12c2 : Code := { maxStack := 2, maxLocals := 2, code := jdk_29_method_69_code, exceptionTable := #[], attributes := #[] }
def k12m2 : Method := { name := "min", desc := "(II)I", sig := { parameters := [.int, .int], returnType := some .int }, accessFlags := 9, code := some k12c2 }
/-- java/lang/Math -/
def k12 : Class := { plain "java/lang/Math" (some 0) with
  accessFlags := 49
  interfaces := #[]
  cf := some (fileOf pool12 1 #[.nestMembers #[98]] #[{ accessFlags := 2, nameIndex := 7, descriptorIndex := 8, attributes := #[] }, { accessFlags := 9, nameIndex := 198, descriptorIndex := 335, attributes := #[] }, { accessFlags := 9, nameIndex := 201, descriptorIndex := 335, attributes := #[] }] 49 4 #[] #[{ accessFlags := 25, nameIndex := 354, descriptorIndex := 339, attributes := #[] }, { accessFlags := 25, nameIndex := 358, descriptorIndex := 339, attributes := #[] }, { accessFlags := 25, nameIndex := 361, descriptorIndex := 339, attributes := #[] }, { accessFlags := 26, nameIndex := 364, descriptorIndex := 339, attributes := #[] }, { accessFlags := 26, nameIndex := 365, descriptorIndex := 339, attributes := #[] }, { accessFlags := 26, nameIndex := 172, descriptorIndex := 173, attributes := #[] }, { accessFlags := 26, nameIndex := 176, descriptorIndex := 173, attributes := #[] }, { accessFlags := 8, nameIndex := 344, descriptorIndex := 339, attributes := #[] }, { accessFlags := 8, nameIndex := 338, descriptorIndex := 339, attributes := #[] }, { accessFlags := 4120, nameIndex := 245, descriptorIndex := 246, attributes := #[] }])
  fields := #[{ name := "E", type := .double, accessFlags := 25, slot := 0, constantValue := 0 }, { name := "PI", type := .double, accessFlags := 25, slot := 1, constantValue := 0 }, { name := "TAU", type := .double, accessFlags := 25, slot := 2, constantValue := 0 }, { name := "DEGREES_TO_RADIANS", type := .double, accessFlags := 26, slot := 3, constantValue := 0 }, { name := "RADIANS_TO_DEGREES", type := .double, accessFlags := 26, slot := 4, constantValue := 0 }, { name := "negativeZeroFloatBits", type := .long, accessFlags := 26, slot := 5, constantValue := 0 }, { name := "negativeZeroDoubleBits", type := .long, accessFlags := 26, slot := 6, constantValue := 0 }, { name := "twoToTheDoubleScaleUp", type := .double, accessFlags := 8, slot := 7, constantValue := 0 }, { name := "twoToTheDoubleScaleDown", type := .double, accessFlags := 8, slot := 8, constantValue := 0 }, { name := "$assertionsDisabled", type := .boolean, accessFlags := 4120, slot := 9, constantValue := 0 }]
  methods := #[k12m0, k12m1, k12m2]
  instanceTypes := #[]
  staticTypes := #[.double, .double, .double, .double, .double, .long, .long, .double, .double, .boolean]
  resolved := Array.replicate 460 none
  statics := none }

def pool13 : Array CpInfo := pool [(1, u "java/lang/Cloneable"), (0, .class_ 1), (0, u "java/lang/Object"), (0, .class_ 3)] 3

/-- java/lang/Cloneable -/
def k13 : Class := { plain "java/lang/Cloneable" (some 0) with
  accessFlags := 1537
  interfaces := #[]
  cf := some (fileOf pool13 2 #[] #[] 1537 4 #[] #[])
  fields := #[]
  methods := #[]
  instanceTypes := #[]
  staticTypes := #[]
  resolved := Array.replicate 8 none
  statics := none }

/-- the primitive byte -/
def k14 : Class := { plain "byte" none with kind := .primitive 'B', accessFlags := 0x411 }
/-- [B -/
def k15 : Class := { plain "[B" (some 0) with kind := .array 14 .byte, interfaces := #[13, 5], accessFlags := 1041 }

/-- the primitive int -/
def k16 : Class := { plain "int" none with kind := .primitive 'I', accessFlags := 0x411 }
/-- [I -/
def k17 : Class := { plain "[I" (some 0) with kind := .array 16 .int, interfaces := #[13, 5], accessFlags := 1041 }

/-- [Lcom/example/highwater/highwater/MessageIndex$Run; -/
def k18 : Class := { plain "[Lcom/example/highwater/highwater/MessageIndex$Run;" (some 0) with kind := .array 3 (.object "com/example/highwater/highwater/MessageIndex$Run"), interfaces := #[13, 5], accessFlags := 1041 }

def heap : Heap := #[{ cls := 2, slots := #[.int 0, .int 0, .ref 1], vm := .statics 2 },
  { cls := 15, slots := #[], vm := .none }]
def classes : Array Class := #[k0, k1, k2, k3, k4, k5, k6, k7, k8, k9, k10, k11, k12, k13, k14, k15, k16, k17, k18]
def interned : List (Array UInt16 × Addr) := []
def slotsUsed : Nat := 3
def theMethod : MethodId := ⟨1, 2⟩
def args0 : Array Value := #[.long 5, .long 5, .long 5, .long 5, .int 3, .long 7]
def aboutOver (below : List Frame) : State where
  vm := { classes := classes, interned := interned.toArray }
  heap := heap
  slotsUsed := slotsUsed
  threads := #[{ frames := .invoking theMethod args0 :: below }]
def below0 : List Frame := [.native { method := ⟨0, 0⟩, args := #[] }]
def about1 : State := aboutOver below0
def p0 : Program := .bare "" "" ""
def e0 : Env := launch0.env 0 0 0
theorem w_frames : about1.frames = Frame.invoking theMethod args0 :: below0 := rfl
set_option maxRecDepth 65536 in
theorem w_args : argsFit about1.vm theMethod args0 = true := by decide +kernel
set_option maxRecDepth 65536 in
theorem w_heap : heapFits about1 = true := by decide +kernel
set_option maxRecDepth 65536 in
theorem w_runnable : about1.curStatus? = some .runnable := by decide +kernel
set_option maxRecDepth 65536 in
theorem w_alone : about1.alone = true := by decide +kernel
set_option maxRecDepth 65536 in
theorem w_named : about1.methodNamed? x = some theMethod := by decide +kernel
set_option maxRecDepth 65536 in
theorem w_hears : about1.hears theMethod below0 = true := by decide +kernel
set_option maxRecDepth 65536 in
theorem w_ripe : about1.ripe theMethod args0 below0 = true := by decide +kernel
theorem w_running : about1.status = .running := rfl
set_option maxRecDepth 65536 in
theorem w_room : about1.hasRoom e0.platform room_1 = true :=
  launch0.hasRoom_least _ room_1 (by decide +kernel) (by decide +kernel) (by decide +kernel) (by decide +kernel) (by decide +kernel) (by decide +kernel)
theorem allAtoms_all (ts : List Jvm.Cond) (a : Array Jvm.Value) (st : Jvm.State) : (allAtoms ts).before a st = ts.all (fun c => c.before a st) := by
  induction ts with
  | nil => rfl
  | cons c t ih =>
    show (Jvm.Cond.and c (allAtoms t)).before a st = _
    rw [Jvm.Cond.before_and, ih, List.all_cons]
def words1 : List Jvm.Cond := Jvm.Cond.code x code maxLocals ret :: tables_1
/-- a 'code' word, met by the world's own term for the bytes: nothing is compared byte by byte -/
theorem code_word {y : MethodName} {bytes : ByteArray} {mx : Nat} {rt : Option FieldType} {a : Array Value} {s : State} {m : MethodId} {meth : Method} {c : Code} (h1 : s.methodNamed? y = some m) (h2 : s.vm.method? m = some meth) (h3 : meth.code = some c) (h4 : c.code = bytes)
    (h5 : (c.maxLocals == mx && c.exceptionTable.isEmpty && decide (c.maxStack ≤ mostOperands) && decide (meth.sig.returnType = rt) && !meth.locks && decide (parseMethodDescriptor y.desc = some meth.sig)) = true) : (Jvm.Cond.code y bytes mx rt).before a s = true := by
  simp only [Bool.and_eq_true, beq_iff_eq, Bool.not_eq_true', decide_eq_true_eq] at h5
  obtain ⟨⟨⟨⟨⟨g1, g2⟩, g3⟩, g4⟩, g5⟩, g6⟩ := h5
  simp [Cond.before, Cond.holds, Cond.value, h1, h2, h3, h4, g1, g2, g3, g4, g5, g6]
def isCode : Jvm.Cond → Bool
  | .code _ _ _ _ => true
  | _ => false
theorem all_split {L : List Jvm.Cond} {P : Jvm.Cond → Bool} (h1 : L.all (fun c => isCode c || P c) = true) (h2 : ∀ c ∈ L.filter isCode, P c = true) : L.all P = true := by
  refine List.all_eq_true.mpr fun c hc => ?_
  have h := List.all_eq_true.mp h1 c hc
  rcases Bool.eq_false_or_eq_true (isCode c) with hi | hi
  · exact h2 c (List.mem_filter.mpr ⟨hc, hi⟩)
  · simpa [hi] using h
set_option maxRecDepth 65536 in
theorem w_c0 : (Jvm.Cond.code x code maxLocals ret).before args0 about1 = true := code_word (m := ⟨1, 2⟩) (meth := k1m2) (c := k1c2) (by decide +kernel) rfl rfl rfl (by decide +kernel)
set_option maxRecDepth 65536 in
theorem w_c1 : (Jvm.Cond.code ({ cls := "com/example/highwater/highwater/MessageIndex", name := "<init>", desc := "()V" } : Jvm.MethodName) prog_8_method_1_code (1 : Nat) (Option.none : Option Jvm.ClassFile.FieldType)).before args0 about1 = true := code_word (m := ⟨2, 0⟩) (meth := k2m0) (c := k2c0) (by decide +kernel) rfl rfl rfl (by decide +kernel)
set_option maxRecDepth 65536 in
theorem w_c2 : (Jvm.Cond.code ({ cls := "java/lang/Object", name := "<init>", desc := "()V" } : Jvm.MethodName) object_method_1_code (1 : Nat) (Option.none : Option Jvm.ClassFile.FieldType)).before args0 about1 = true := code_word (m := ⟨0, 0⟩) (meth := k0m0) (c := k0c0) (by decide +kernel) rfl rfl rfl (by decide +kernel)
set_option maxRecDepth 65536 in
theorem w_c3 : (Jvm.Cond.code ({ cls := "com/example/highwater/highwater/MessageIndex", name := "add", desc := "(J)V" } : Jvm.MethodName) prog_8_method_3_code (4 : Nat) (Option.none : Option Jvm.ClassFile.FieldType)).before args0 about1 = true := code_word (m := ⟨2, 1⟩) (meth := k2m1) (c := k2c1) (by decide +kernel) rfl rfl rfl (by decide +kernel)
set_option maxRecDepth 65536 in
theorem w_c4 : (Jvm.Cond.code ({ cls := "com/example/highwater/highwater/MessageIndex$Run", name := "<init>", desc := "(J)V" } : Jvm.MethodName) prog_9_method_1_code (3 : Nat) (Option.none : Option Jvm.ClassFile.FieldType)).before args0 about1 = true := code_word (m := ⟨3, 0⟩) (meth := k3m0) (c := k3c0) (by decide +kernel) rfl rfl rfl (by decide +kernel)
set_option maxRecDepth 65536 in
theorem w_c5 : (Jvm.Cond.code ({ cls := "com/example/highwater/highwater/MessageIndex", name := "addRun", desc := "(ILcom/example/highwater/highwater/MessageIndex$Run;)V" } : Jvm.MethodName) prog_8_method_11_code (3 : Nat) (Option.none : Option Jvm.ClassFile.FieldType)).before args0 about1 = true := code_word (m := ⟨2, 7⟩) (meth := k2m7) (c := k2c7) (by decide +kernel) rfl rfl rfl (by decide +kernel)
set_option maxRecDepth 65536 in
theorem w_c6 : (Jvm.Cond.code ({ cls := "com/example/highwater/highwater/MessageIndex", name := "run", desc := "(I)Lcom/example/highwater/highwater/MessageIndex$Run;" } : Jvm.MethodName) prog_8_method_9_code (2 : Nat) (Option.some (Jvm.ClassFile.FieldType.object "com/example/highwater/highwater/MessageIndex$Run"))).before args0 about1 = true := code_word (m := ⟨2, 5⟩) (meth := k2m5) (c := k2c5) (by decide +kernel) rfl rfl rfl (by decide +kernel)
set_option maxRecDepth 65536 in
theorem w_c7 : (Jvm.Cond.code ({ cls := "com/example/highwater/highwater/MessageIndex$Run", name := "hasRoom", desc := "()Z" } : Jvm.MethodName) prog_9_method_2_code (1 : Nat) (Option.some Jvm.ClassFile.FieldType.boolean)).before args0 about1 = true := code_word (m := ⟨3, 1⟩) (meth := k3m1) (c := k3c1) (by decide +kernel) rfl rfl rfl (by decide +kernel)
set_option maxRecDepth 65536 in
theorem w_c8 : (Jvm.Cond.code ({ cls := "com/example/highwater/highwater/MessageIndex$Run", name := "append", desc := "(J)V" } : Jvm.MethodName) prog_9_method_3_code (3 : Nat) (Option.none : Option Jvm.ClassFile.FieldType)).before args0 about1 = true := code_word (m := ⟨3, 2⟩) (meth := k3m2) (c := k3c2) (by decide +kernel) rfl rfl rfl (by decide +kernel)
set_option maxRecDepth 65536 in
theorem w_c9 : (Jvm.Cond.code ({ cls := "com/example/highwater/highwater/MessageIndex$Run", name := "splice", desc := "(IIJJ)V" } : Jvm.MethodName) prog_9_method_11_code (11 : Nat) (Option.none : Option Jvm.ClassFile.FieldType)).before args0 about1 = true := code_word (m := ⟨3, 9⟩) (meth := k3m9) (c := k3c9) (by decide +kernel) rfl rfl rfl (by decide +kernel)
set_option maxRecDepth 65536 in
theorem w_c10 : (Jvm.Cond.code ({ cls := "com/example/highwater/highwater/MessageIndex", name := "gapLength", desc := "(J)I" } : Jvm.MethodName) prog_8_method_15_code (2 : Nat) (Option.some Jvm.ClassFile.FieldType.int)).before args0 about1 = true := code_word (m := ⟨2, 10⟩) (meth := k2m10) (c := k2c10) (by decide +kernel) rfl rfl rfl (by decide +kernel)
set_option maxRecDepth 65536 in
theorem w_c11 : (Jvm.Cond.code ({ cls := "java/lang/Long", name := "numberOfLeadingZeros", desc := "(J)I" } : Jvm.MethodName) jdk_35_method_48_code (3 : Nat) (Option.some Jvm.ClassFile.FieldType.int)).before args0 about1 = true := code_word (m := ⟨10, 0⟩) (meth := k10m0) (c := k10c0) (by decide +kernel) rfl rfl rfl (by decide +kernel)
set_option maxRecDepth 65536 in
theorem w_c12 : (Jvm.Cond.code ({ cls := "java/lang/Integer", name := "numberOfLeadingZeros", desc := "(I)I" } : Jvm.MethodName) jdk_33_method_47_code (2 : Nat) (Option.some Jvm.ClassFile.FieldType.int)).before args0 about1 = true := code_word (m := ⟨11, 0⟩) (meth := k11m0) (c := k11c0) (by decide +kernel) rfl rfl rfl (by decide +kernel)
set_option maxRecDepth 65536 in
theorem w_c13 : (Jvm.Cond.code ({ cls := "java/lang/Math", name := "max", desc := "(II)I" } : Jvm.MethodName) jdk_29_method_65_code (2 : Nat) (Option.some Jvm.ClassFile.FieldType.int)).before args0 about1 = true := code_word (m := ⟨12, 1⟩) (meth := k12m1) (c := k12c1) (by decide +kernel) rfl rfl rfl (by decide +kernel)
set_option maxRecDepth 65536 in
theorem w_c14 : (Jvm.Cond.code ({ cls := "java/lang/Math", name := "min", desc := "(II)I" } : Jvm.MethodName) jdk_29_method_69_code (2 : Nat) (Option.some Jvm.ClassFile.FieldType.int)).before args0 about1 = true := code_word (m := ⟨12, 2⟩) (meth := k12m2) (c := k12c2) (by decide +kernel) rfl rfl rfl (by decide +kernel)
set_option maxRecDepth 65536 in
theorem w_c15 : (Jvm.Cond.code ({ cls := "com/example/highwater/highwater/MessageIndex", name := "put", desc := "([BIJ)I" } : Jvm.MethodName) prog_8_method_16_code (7 : Nat) (Option.some Jvm.ClassFile.FieldType.int)).before args0 about1 = true := code_word (m := ⟨2, 11⟩) (meth := k2m11) (c := k2c11) (by decide +kernel) rfl rfl rfl (by decide +kernel)
set_option maxRecDepth 65536 in
theorem w_c16 : (Jvm.Cond.code ({ cls := "com/example/highwater/highwater/MessageIndexContainsPinLaw", name := "pick", desc := "(IJJJJ)J" } : Jvm.MethodName) method_2_code (9 : Nat) (Option.some Jvm.ClassFile.FieldType.long)).before args0 about1 = true := code_word (m := ⟨1, 1⟩) (meth := k1m1) (c := k1c1) (by decide +kernel) rfl rfl rfl (by decide +kernel)
set_option maxRecDepth 65536 in
theorem w_c17 : (Jvm.Cond.code ({ cls := "com/example/highwater/highwater/MessageIndex", name := "remove", desc := "(J)Z" } : Jvm.MethodName) prog_8_method_7_code (4 : Nat) (Option.some Jvm.ClassFile.FieldType.boolean)).before args0 about1 = true := code_word (m := ⟨2, 3⟩) (meth := k2m3) (c := k2c3) (by decide +kernel) rfl rfl rfl (by decide +kernel)
set_option maxRecDepth 65536 in
theorem w_c18 : (Jvm.Cond.code ({ cls := "com/example/highwater/highwater/MessageIndex", name := "runFor", desc := "(J)I" } : Jvm.MethodName) prog_8_method_10_code (7 : Nat) (Option.some Jvm.ClassFile.FieldType.int)).before args0 about1 = true := code_word (m := ⟨2, 6⟩) (meth := k2m6) (c := k2c6) (by decide +kernel) rfl rfl rfl (by decide +kernel)
set_option maxRecDepth 65536 in
theorem w_c19 : (Jvm.Cond.code ({ cls := "com/example/highwater/highwater/MessageIndex$Run", name := "holds", desc := "(J)Z" } : Jvm.MethodName) prog_9_method_6_code (3 : Nat) (Option.some Jvm.ClassFile.FieldType.boolean)).before args0 about1 = true := code_word (m := ⟨3, 5⟩) (meth := k3m5) (c := k3c5) (by decide +kernel) rfl rfl rfl (by decide +kernel)
set_option maxRecDepth 65536 in
theorem w_c20 : (Jvm.Cond.code ({ cls := "com/example/highwater/highwater/MessageIndex$Run", name := "remove", desc := "(J)Z" } : Jvm.MethodName) prog_9_method_9_code (6 : Nat) (Option.some Jvm.ClassFile.FieldType.boolean)).before args0 about1 = true := code_word (m := ⟨3, 8⟩) (meth := k3m8) (c := k3c8) (by decide +kernel) rfl rfl rfl (by decide +kernel)
set_option maxRecDepth 65536 in
theorem w_c21 : (Jvm.Cond.code ({ cls := "com/example/highwater/highwater/MessageIndex$Run", name := "dropFirst", desc := "()Z" } : Jvm.MethodName) prog_9_method_8_code (1 : Nat) (Option.some Jvm.ClassFile.FieldType.boolean)).before args0 about1 = true := code_word (m := ⟨3, 7⟩) (meth := k3m7) (c := k3c7) (by decide +kernel) rfl rfl rfl (by decide +kernel)
set_option maxRecDepth 65536 in
theorem w_c22 : (Jvm.Cond.code ({ cls := "com/example/highwater/highwater/MessageIndex", name := "gap", desc := "([BI)J" } : Jvm.MethodName) prog_8_method_13_code (6 : Nat) (Option.some Jvm.ClassFile.FieldType.long)).before args0 about1 = true := code_word (m := ⟨2, 8⟩) (meth := k2m8) (c := k2c8) (by decide +kernel) rfl rfl rfl (by decide +kernel)
set_option maxRecDepth 65536 in
theorem w_c23 : (Jvm.Cond.code ({ cls := "com/example/highwater/highwater/MessageIndex", name := "gapBytes", desc := "([BI)I" } : Jvm.MethodName) prog_8_method_14_code (3 : Nat) (Option.some Jvm.ClassFile.FieldType.int)).before args0 about1 = true := code_word (m := ⟨2, 9⟩) (meth := k2m9) (c := k2c9) (by decide +kernel) rfl rfl rfl (by decide +kernel)
set_option maxRecDepth 65536 in
theorem w_c24 : (Jvm.Cond.code ({ cls := "com/example/highwater/highwater/MessageIndex", name := "contains", desc := "(J)Z" } : Jvm.MethodName) prog_8_method_6_code (4 : Nat) (Option.some Jvm.ClassFile.FieldType.boolean)).before args0 about1 = true := code_word (m := ⟨2, 2⟩) (meth := k2m2) (c := k2c2) (by decide +kernel) rfl rfl rfl (by decide +kernel)
set_option maxRecDepth 65536 in
theorem w_c25 : (Jvm.Cond.code ({ cls := "com/example/highwater/highwater/MessageIndex$Run", name := "find", desc := "(J)I" } : Jvm.MethodName) prog_9_method_7_code (6 : Nat) (Option.some Jvm.ClassFile.FieldType.int)).before args0 about1 = true := code_word (m := ⟨3, 6⟩) (meth := k3m6) (c := k3c6) (by decide +kernel) rfl rfl rfl (by decide +kernel)
set_option maxRecDepth 65536 in
theorem w_c26 : (Jvm.Cond.code ({ cls := "com/example/highwater/highwater/MessageIndex", name := "insert", desc := "(J)V" } : Jvm.MethodName) prog_8_method_8_code (4 : Nat) (Option.none : Option Jvm.ClassFile.FieldType)).before args0 about1 = true := code_word (m := ⟨2, 4⟩) (meth := k2m4) (c := k2c4) (by decide +kernel) rfl rfl rfl (by decide +kernel)
set_option maxRecDepth 65536 in
theorem w_c27 : (Jvm.Cond.code ({ cls := "com/example/highwater/highwater/MessageIndex$Run", name := "prepend", desc := "(J)V" } : Jvm.MethodName) prog_9_method_4_code (3 : Nat) (Option.none : Option Jvm.ClassFile.FieldType)).before args0 about1 = true := code_word (m := ⟨3, 3⟩) (meth := k3m3) (c := k3c3) (by decide +kernel) rfl rfl rfl (by decide +kernel)
set_option maxRecDepth 65536 in
theorem w_c28 : (Jvm.Cond.code ({ cls := "com/example/highwater/highwater/MessageIndex$Run", name := "insert", desc := "(J)V" } : Jvm.MethodName) prog_9_method_5_code (8 : Nat) (Option.none : Option Jvm.ClassFile.FieldType)).before args0 about1 = true := code_word (m := ⟨3, 4⟩) (meth := k3m4) (c := k3c4) (by decide +kernel) rfl rfl rfl (by decide +kernel)
def codes1 : List Jvm.Cond := [Jvm.Cond.code x code maxLocals ret, Jvm.Cond.code ({ cls := "com/example/highwater/highwater/MessageIndex", name := "<init>", desc := "()V" } : Jvm.MethodName) prog_8_method_1_code (1 : Nat) (Option.none : Option Jvm.ClassFile.FieldType), Jvm.Cond.code ({ cls := "java/lang/Object", name := "<init>", desc := "()V" } : Jvm.MethodName) object_method_1_code (1 : Nat) (Option.none : Option Jvm.ClassFile.FieldType), Jvm.Cond.code ({ cls := "com/example/highwater/highwater/MessageIndex", name := "add", desc := "(J)V" } : Jvm.MethodName) prog_8_method_3_code (4 : Nat) (Option.none : Option Jvm.ClassFile.FieldType), Jvm.Cond.code ({ cls := "com/example/highwater/highwater/MessageIndex$Run", name := "<init>", desc := "(J)V" } : Jvm.MethodName) prog_9_method_1_code (3 : Nat) (Option.none : Option Jvm.ClassFile.FieldType), Jvm.Cond.code ({ cls := "com/example/highwater/highwater/MessageIndex", name := "addRun", desc := "(ILcom/example/highwater/highwater/MessageIndex$Run;)V" } : Jvm.MethodName) prog_8_method_11_code (3 : Nat) (Option.none : Option Jvm.ClassFile.FieldType), Jvm.Cond.code ({ cls := "com/example/highwater/highwater/MessageIndex", name := "run", desc := "(I)Lcom/example/highwater/highwater/MessageIndex$Run;" } : Jvm.MethodName) prog_8_method_9_code (2 : Nat) (Option.some (Jvm.ClassFile.FieldType.object "com/example/highwater/highwater/MessageIndex$Run")), Jvm.Cond.code ({ cls := "com/example/highwater/highwater/MessageIndex$Run", name := "hasRoom", desc := "()Z" } : Jvm.MethodName) prog_9_method_2_code (1 : Nat) (Option.some Jvm.ClassFile.FieldType.boolean), Jvm.Cond.code ({ cls := "com/example/highwater/highwater/MessageIndex$Run", name := "append", desc := "(J)V" } : Jvm.MethodName) prog_9_method_3_code (3 : Nat) (Option.none : Option Jvm.ClassFile.FieldType), Jvm.Cond.code ({ cls := "com/example/highwater/highwater/MessageIndex$Run", name := "splice", desc := "(IIJJ)V" } : Jvm.MethodName) prog_9_method_11_code (11 : Nat) (Option.none : Option Jvm.ClassFile.FieldType), Jvm.Cond.code ({ cls := "com/example/highwater/highwater/MessageIndex", name := "gapLength", desc := "(J)I" } : Jvm.MethodName) prog_8_method_15_code (2 : Nat) (Option.some Jvm.ClassFile.FieldType.int), Jvm.Cond.code ({ cls := "java/lang/Long", name := "numberOfLeadingZeros", desc := "(J)I" } : Jvm.MethodName) jdk_35_method_48_code (3 : Nat) (Option.some Jvm.ClassFile.FieldType.int), Jvm.Cond.code ({ cls := "java/lang/Integer", name := "numberOfLeadingZeros", desc := "(I)I" } : Jvm.MethodName) jdk_33_method_47_code (2 : Nat) (Option.some Jvm.ClassFile.FieldType.int), Jvm.Cond.code ({ cls := "java/lang/Math", name := "max", desc := "(II)I" } : Jvm.MethodName) jdk_29_method_65_code (2 : Nat) (Option.some Jvm.ClassFile.FieldType.int), Jvm.Cond.code ({ cls := "java/lang/Math", name := "min", desc := "(II)I" } : Jvm.MethodName) jdk_29_method_69_code (2 : Nat) (Option.some Jvm.ClassFile.FieldType.int), Jvm.Cond.code ({ cls := "com/example/highwater/highwater/MessageIndex", name := "put", desc := "([BIJ)I" } : Jvm.MethodName) prog_8_method_16_code (7 : Nat) (Option.some Jvm.ClassFile.FieldType.int), Jvm.Cond.code ({ cls := "com/example/highwater/highwater/MessageIndexContainsPinLaw", name := "pick", desc := "(IJJJJ)J" } : Jvm.MethodName) method_2_code (9 : Nat) (Option.some Jvm.ClassFile.FieldType.long), Jvm.Cond.code ({ cls := "com/example/highwater/highwater/MessageIndex", name := "remove", desc := "(J)Z" } : Jvm.MethodName) prog_8_method_7_code (4 : Nat) (Option.some Jvm.ClassFile.FieldType.boolean), Jvm.Cond.code ({ cls := "com/example/highwater/highwater/MessageIndex", name := "runFor", desc := "(J)I" } : Jvm.MethodName) prog_8_method_10_code (7 : Nat) (Option.some Jvm.ClassFile.FieldType.int), Jvm.Cond.code ({ cls := "com/example/highwater/highwater/MessageIndex$Run", name := "holds", desc := "(J)Z" } : Jvm.MethodName) prog_9_method_6_code (3 : Nat) (Option.some Jvm.ClassFile.FieldType.boolean), Jvm.Cond.code ({ cls := "com/example/highwater/highwater/MessageIndex$Run", name := "remove", desc := "(J)Z" } : Jvm.MethodName) prog_9_method_9_code (6 : Nat) (Option.some Jvm.ClassFile.FieldType.boolean), Jvm.Cond.code ({ cls := "com/example/highwater/highwater/MessageIndex$Run", name := "dropFirst", desc := "()Z" } : Jvm.MethodName) prog_9_method_8_code (1 : Nat) (Option.some Jvm.ClassFile.FieldType.boolean), Jvm.Cond.code ({ cls := "com/example/highwater/highwater/MessageIndex", name := "gap", desc := "([BI)J" } : Jvm.MethodName) prog_8_method_13_code (6 : Nat) (Option.some Jvm.ClassFile.FieldType.long), Jvm.Cond.code ({ cls := "com/example/highwater/highwater/MessageIndex", name := "gapBytes", desc := "([BI)I" } : Jvm.MethodName) prog_8_method_14_code (3 : Nat) (Option.some Jvm.ClassFile.FieldType.int), Jvm.Cond.code ({ cls := "com/example/highwater/highwater/MessageIndex", name := "contains", desc := "(J)Z" } : Jvm.MethodName) prog_8_method_6_code (4 : Nat) (Option.some Jvm.ClassFile.FieldType.boolean), Jvm.Cond.code ({ cls := "com/example/highwater/highwater/MessageIndex$Run", name := "find", desc := "(J)I" } : Jvm.MethodName) prog_9_method_7_code (6 : Nat) (Option.some Jvm.ClassFile.FieldType.int), Jvm.Cond.code ({ cls := "com/example/highwater/highwater/MessageIndex", name := "insert", desc := "(J)V" } : Jvm.MethodName) prog_8_method_8_code (4 : Nat) (Option.none : Option Jvm.ClassFile.FieldType), Jvm.Cond.code ({ cls := "com/example/highwater/highwater/MessageIndex$Run", name := "prepend", desc := "(J)V" } : Jvm.MethodName) prog_9_method_4_code (3 : Nat) (Option.none : Option Jvm.ClassFile.FieldType), Jvm.Cond.code ({ cls := "com/example/highwater/highwater/MessageIndex$Run", name := "insert", desc := "(J)V" } : Jvm.MethodName) prog_9_method_5_code (8 : Nat) (Option.none : Option Jvm.ClassFile.FieldType)]
set_option maxRecDepth 65536 in
theorem codes_eq : words1.filter isCode = codes1 := rfl
theorem w_codes : ∀ c ∈ words1.filter isCode, c.before args0 about1 = true := by
  rw [codes_eq]
  intro c hc
  simp only [codes1, List.mem_cons, List.not_mem_nil, or_false] at hc
  rcases hc with rfl | rfl | rfl | rfl | rfl | rfl | rfl | rfl | rfl | rfl | rfl | rfl | rfl | rfl | rfl | rfl | rfl | rfl | rfl | rfl | rfl | rfl | rfl | rfl | rfl | rfl | rfl | rfl | rfl
  · exact w_c0
  · exact w_c1
  · exact w_c2
  · exact w_c3
  · exact w_c4
  · exact w_c5
  · exact w_c6
  · exact w_c7
  · exact w_c8
  · exact w_c9
  · exact w_c10
  · exact w_c11
  · exact w_c12
  · exact w_c13
  · exact w_c14
  · exact w_c15
  · exact w_c16
  · exact w_c17
  · exact w_c18
  · exact w_c19
  · exact w_c20
  · exact w_c21
  · exact w_c22
  · exact w_c23
  · exact w_c24
  · exact w_c25
  · exact w_c26
  · exact w_c27
  · exact w_c28
set_option maxRecDepth 65536 in
theorem w_t1 : (words1.take 24).all (fun c => isCode c || c.before args0 about1) = true := by decide +kernel
set_option maxRecDepth 65536 in
theorem w_t2 : ((words1.drop 24).take 24).all (fun c => isCode c || c.before args0 about1) = true := by decide +kernel
set_option maxRecDepth 65536 in
theorem w_t3 : (((words1.drop 24).drop 24).take 24).all (fun c => isCode c || c.before args0 about1) = true := by decide +kernel
set_option maxRecDepth 65536 in
theorem w_t4 : ((((words1.drop 24).drop 24).drop 24).take 24).all (fun c => isCode c || c.before args0 about1) = true := by decide +kernel
set_option maxRecDepth 65536 in
theorem w_t5 : (((((words1.drop 24).drop 24).drop 24).drop 24).take 24).all (fun c => isCode c || c.before args0 about1) = true := by decide +kernel
set_option maxRecDepth 65536 in
theorem w_t6 : ((((((words1.drop 24).drop 24).drop 24).drop 24).drop 24).take 24).all (fun c => isCode c || c.before args0 about1) = true := by decide +kernel
set_option maxRecDepth 65536 in
theorem w_t7 : ((((((words1.drop 24).drop 24).drop 24).drop 24).drop 24).drop 24).all (fun c => isCode c || c.before args0 about1) = true := by decide +kernel
theorem w_tables : (allAtoms (Jvm.Cond.code x code maxLocals ret :: tables_1)).before args0 about1 = true := by
  rw [allAtoms_all]
  show words1.all (fun c => c.before args0 about1) = true
  refine all_split ?_ w_codes
  rw [← List.take_append_drop 24 words1, List.all_append, w_t1, ← List.take_append_drop 24 (words1.drop 24), List.all_append, w_t2, ← List.take_append_drop 24 ((words1.drop 24).drop 24), List.all_append, w_t3, ← List.take_append_drop 24 (((words1.drop 24).drop 24).drop 24), List.all_append, w_t4, ← List.take_append_drop 24 ((((words1.drop 24).drop 24).drop 24).drop 24), List.all_append, w_t5, ← List.take_append_drop 24 (((((words1.drop 24).drop 24).drop 24).drop 24).drop 24), List.all_append, w_t6, w_t7]
  rfl
set_option maxRecDepth 65536 in
theorem w_case : (Jvm.Cond.and given_1 narrow_1).before args0 about1 = true := by decide +kernel
theorem w_applies : (headSpec (Jvm.Cond.code x code maxLocals ret :: tables_1) room_1).applies x e0.platform about1 = true :=
  (Spec.applies_iff w_frames).mpr ⟨w_running, w_runnable, w_alone, w_named, w_hears, w_ripe, w_room, w_tables⟩
theorem atStart : AtStart classFile x code maxLocals ret World_1 tables_1 room_1 Calls_1 rest_1 Pre_1 launch0 p0 e0 about1 theMethod args0 below0 :=
  ⟨lists_1, trivial, launch0.admits_env _ _ _, launch0.least_env, fairChoices_fair.cas, fairChoices_fair.clock, w_frames, w_args, w_heap, w_applies, trivial, trivial, w_case⟩
end start1
theorem witness_1 : WitnessClaimed_1 := ⟨start1.p0, start1.e0, start1.about1, start1.theMethod, start1.args0, start1.below0, start1.atStart⟩
end Jvm.Pilot.@@N@@
