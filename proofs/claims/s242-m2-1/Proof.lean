import JvmDerived
import JvmDerived.Pilot.@@N@@Statement
import JvmDerived.Pilot.@@N@@Code
set_option linter.unusedVariables false
set_option linter.unusedSimpArgs false
namespace Jvm.OwnWP
open Sem ClassFile Op Lib Jvm.Stand Jvm.Free Jvm.LawKit Jvm.RoadKit
/-- the fixed things of a body's walk -/
abbrev Cx := Program × Launch × Env × Room × State × MethodId × Array Value × List Frame × Method × Code × State × Nat × (Option Value → Heap → Prop) × (Outcome → State → List Loc → Prop)
def Cx.p (k : Cx) : Program := k.1
def Cx.l (k : Cx) : Launch := k.2.1
def Cx.e (k : Cx) : Env := k.2.2.1
def Cx.R (k : Cx) : Room := k.2.2.2.1
def Cx.s (k : Cx) : State := k.2.2.2.2.1
def Cx.m (k : Cx) : MethodId := k.2.2.2.2.2.1
def Cx.args (k : Cx) : Array Value := k.2.2.2.2.2.2.1
def Cx.below (k : Cx) : List Frame := k.2.2.2.2.2.2.2.1
def Cx.meth (k : Cx) : Method := k.2.2.2.2.2.2.2.2.1
def Cx.c (k : Cx) : Code := k.2.2.2.2.2.2.2.2.2.1
def Cx.Z (k : Cx) : State := k.2.2.2.2.2.2.2.2.2.2.1
def Cx.n0 (k : Cx) : Nat := k.2.2.2.2.2.2.2.2.2.2.2.1
def Cx.Q (k : Cx) : Option Value → Heap → Prop := k.2.2.2.2.2.2.2.2.2.2.2.2.1
/-- what the body's end must say of the frame -/
def Cx.Fin (k : Cx) : Outcome → State → List Loc → Prop := k.2.2.2.2.2.2.2.2.2.2.2.2.2
def Cx.St (k : Cx) (T : State) (locs : List Loc) (cells slots : Nat) : Prop := Stand k.p k.l k.e k.R k.s k.m k.args k.below k.meth k.c T locs cells slots
def Cx.Go (k : Cx) (a t : State) : Prop := Steps k.p.tables k.e k.below a t
def Cx.End (k : Cx) (a : State) : Prop := ∃ s₂ o, Steps k.p.tables k.e k.below a s₂ ∧ s₂.status = .running ∧ Ended s₂ k.below o ∧ ∃ v L, o = .returned v ∧ (k.Q v s₂.heap ∧ Fr k.n0 L) ∧ k.Fin o s₂ L
/-- from here the body runs to its end and leaves what Q says -/
def WP (k : Cx) (h : Heap) (cells slots pc : Nat) (ls : List Slot) (st : List Value) : Prop :=
  ∀ (T : State) (locs : List Loc), k.St T locs cells slots → T.heap = h → Fr k.n0 locs → k.End (T.setTop (mkF k.m pc ls.toArray st))
def Ok (k : Cx) (l : Launch) (Z : State) (n0 : Nat) (rm : Room) (bytes : ByteArray) (maxL : Nat) (y : MethodName) (ret : Option FieldType) (Q : Option Value → Heap → Prop) : Prop :=
  k.p.tables.exec = Jvm.exec ∧ Z.Warmed39 k.s.vm ∧ k.R = rm ∧ k.c.code = bytes ∧ k.c.maxLocals = maxL ∧ k.s.vm.findClass y.cls = some k.m.cls ∧ k.meth.sig.returnType = ret ∧ k.meth.locks = false ∧ k.meth.name = y.name ∧ k.l = l ∧ k.Z = Z ∧ k.n0 = n0 ∧ (∀ v h, Q v h → k.Q v h) ∧ ∀ v s₂ L, Q v s₂.heap → FrameEnd k.s (.returned v) s₂ L k.R.cells k.R.slots → k.Fin (.returned v) s₂ L
section Base
variable {k : Cx} {l : Launch} {Z : State} {n0 : Nat} {rm : Room} {bytes : ByteArray} {maxL : Nat} {y : MethodName} {ret : Option FieldType} {Q : Option Value → Heap → Prop}
theorem Ok.hx (K : Ok k l Z n0 rm bytes maxL y ret Q) : k.p.tables.exec = Jvm.exec := K.1
theorem Ok.hZ (K : Ok k l Z n0 rm bytes maxL y ret Q) : Z.Warmed39 k.s.vm := K.2.1
theorem Ok.hR (K : Ok k l Z n0 rm bytes maxL y ret Q) : k.R = rm := K.2.2.1
theorem Ok.hby (K : Ok k l Z n0 rm bytes maxL y ret Q) : k.c.code = bytes := K.2.2.2.1
theorem Ok.hml (K : Ok k l Z n0 rm bytes maxL y ret Q) : k.c.maxLocals = maxL := K.2.2.2.2.1
theorem Ok.hown (K : Ok k l Z n0 rm bytes maxL y ret Q) : k.s.vm.findClass y.cls = some k.m.cls := K.2.2.2.2.2.1
theorem Ok.hret (K : Ok k l Z n0 rm bytes maxL y ret Q) : k.meth.sig.returnType = ret := K.2.2.2.2.2.2.1
theorem Ok.hlk (K : Ok k l Z n0 rm bytes maxL y ret Q) : k.meth.locks = false := K.2.2.2.2.2.2.2.1
theorem Ok.hnm (K : Ok k l Z n0 rm bytes maxL y ret Q) : k.meth.name = y.name := K.2.2.2.2.2.2.2.2.1
theorem Ok.hl (K : Ok k l Z n0 rm bytes maxL y ret Q) : k.l = l := K.2.2.2.2.2.2.2.2.2.1
theorem Ok.hZe (K : Ok k l Z n0 rm bytes maxL y ret Q) : k.Z = Z := K.2.2.2.2.2.2.2.2.2.2.1
theorem Ok.hn0 (K : Ok k l Z n0 rm bytes maxL y ret Q) : k.n0 = n0 := K.2.2.2.2.2.2.2.2.2.2.2.1
theorem Ok.hQ (K : Ok k l Z n0 rm bytes maxL y ret Q) : ∀ v h, Q v h → k.Q v h := K.2.2.2.2.2.2.2.2.2.2.2.2.1
theorem Ok.hfin (K : Ok k l Z n0 rm bytes maxL y ret Q) : ∀ v s₂ L, Q v s₂.heap → FrameEnd k.s (.returned v) s₂ L k.R.cells k.R.slots → k.Fin (.returned v) s₂ L := K.2.2.2.2.2.2.2.2.2.2.2.2.2
theorem Ok.dec (K : Ok k l Z n0 rm bytes maxL y ret Q) {pc : Nat} {r : Except DecodeError (Instr × Nat)} (h : decode bytes pc = r) : decode k.c.code pc = r := hb K.hby h
theorem End.back {a b : State} (st : ∀ t, k.Go b t → k.Go a t) (w : k.End b) : k.End a := by
  obtain ⟨s2, o, h1, r⟩ := w
  exact ⟨s2, o, st _ h1, r⟩
theorem arrGet {ls : List Slot} {i : Nat} {o : Slot} (h : ls[i]? = some o) : ls.toArray[i]? = some o := by simpa using h
variable {h : Heap} {cells slots pc : Nat} {ls : List Slot} {st : List Value}
theorem WP.plain {pc' : Nat} {ls' : List Slot} {st' : List Value} (hs : ∀ T, At T k.m k.c k.below → ∀ t, Steps k.p.tables k.e k.below (T.setTop (mkF k.m pc' ls'.toArray st')) t → Steps k.p.tables k.e k.below (T.setTop (mkF k.m pc ls.toArray st)) t)
    (w : WP k h cells slots pc' ls' st') : WP k h cells slots pc ls st := fun T locs X e N => End.back (fun t q => hs T X.here t q) (w T locs X e N)
theorem WP.mono {cells' slots' : Nat} (hc : cells ≤ cells') (hs : slots ≤ slots') (w : WP k h cells' slots' pc ls st) : WP k h cells slots pc ls st := fun T locs X e N =>
  w T locs { X with same := X.same.mono hc hs } e N
theorem WP.cast {pc' : Nat} {ls' : List Slot} {st' : List Value} {h' : Heap} (w : WP k h' cells slots pc' ls' st') (e1 : h' = h) (e2 : pc' = pc) (e3 : ls' = ls) (e4 : st' = st) : WP k h cells slots pc ls st := by subst e1 e2 e3 e4; exact w
/-- the contract of a body, at given arguments and a given heap -/
def Con (l : Launch) (Z : State) (y : MethodName) (bytes : ByteArray) (maxL : Nat) (ret : Option FieldType) (rm : Room) (n0 : Nat) (as : Array Value) (h0 : Heap) (Q : Option Value → Heap → Prop) : Prop :=
  ∀ ws, MetFree l y (head1 (Jvm.Cond.code y bytes maxL ret :: ws) rm) (fun a U => a = as ∧ Z.Warmed39 U.vm ∧ U.heap = h0) (fun _ _ _ _ _ => True) (fun _ U o U' => ∃ v L, o = .returned v ∧ (Q v U'.heap ∧ Fr n0 L) ∧ FrameEnd U o U' L rm.cells rm.slots)
def R1 (Q : Value → Heap → Prop) : Option Value → Heap → Prop := fun v h => ∃ r, v = some r ∧ Q r h
def R0 (Q : Heap → Prop) : Option Value → Heap → Prop := fun v h => v = none ∧ Q h
theorem Con.of {as : Array Value} {h0 : Heap} (hp : plainFor y = true) (he : ∀ m, entryFrame m as maxL = mkF m 0 ls.toArray [])
    (hwp : ∀ k, Ok k l Z n0 rm bytes maxL y ret Q → WP k h0 0 0 0 ls []) : Con l Z y bytes maxL ret rm n0 as h0 Q := by
  intro ws
  refine MetFree.of_bodySF hp hisR ?_
  intro p e s m args below meth c s₁ Bd hml0 hP hK
  obtain ⟨rfl, hZ, hh⟩ := hP
  have X0 : Stand p l e rm s m args below meth c s₁ [] 0 0 := Stand.of_body Bd
  have e0 : s₁.heap = h0 := by rw [← hh, Bd.state]; rfl
  have w := hwp (p, l, e, rm, s, m, args, below, meth, c, Z, n0, Q, fun o s₂ L => FrameEnd s o s₂ L rm.cells rm.slots) ⟨Bd.exec, hZ, rfl, Bd.bytes, hml0, findClass_of_methodNamed Bd.named, Bd.returns, Bd.notSynchronized, (name_of_methodNamed Bd.named Bd.method).1, rfl, rfl, rfl, fun _ _ q => q, fun _ _ _ _ q => q⟩ s₁ [] X0 e0 (Fr.nil n0)
  obtain ⟨s2, o, h1, h2, h3, h4⟩ := w
  exact ⟨s2, o, castTop (he m) h1, h2, h3, h4⟩
theorem Con.mono {as : Array Value} {h0 : Heap} {Q' : Option Value → Heap → Prop} (C : Con l Z y bytes maxL ret rm n0 as h0 Q) (hq : ∀ v h, Q v h → Q' v h) : Con l Z y bytes maxL ret rm n0 as h0 Q' := by
  intro ws p e ha hc hk s m args below hf happ hP hK
  obtain ⟨n, o, h1, h2, h3, v, L, e1, q, r⟩ := C ws p e ha hc hk s m args below hf happ hP hK
  exact ⟨n, o, h1, h2, h3, v, L, e1, ⟨hq _ _ q.1, q.2⟩, r⟩
end Base
section Plain
variable {k : Cx} {l : Launch} {Z : State} {n0 : Nat} {rm : Room} {bytes : ByteArray} {maxL : Nat} {y : MethodName} {ret : Option FieldType} {Q : Option Value → Heap → Prop} {h : Heap} {cells slots pc : Nat} {ls : List Slot} {st : List Value}

theorem WP.iload (K : Ok k l Z n0 rm bytes maxL y ret Q) {i : Nat} {v : Int32} (pc' : Nat) (hd : decode bytes pc = .ok (.iload i, 2)) (hp : pc + 2 = pc') (hl : ls[i]? = some (.val (.int v))) (w : WP k h cells slots pc' ls (.int v :: st)) : WP k h cells slots pc ls st := by
  subst hp; exact w.plain fun T A t q => XS.iload A K.hx rfl (K.dec hd) (arrGet hl) q
theorem WP.iloadN (K : Ok k l Z n0 rm bytes maxL y ret Q) {i : Fin 4} {v : Int32} (pc' : Nat) (hd : decode bytes pc = .ok (.iload_n i, 1)) (hp : pc + 1 = pc') (hl : ls[i.val]? = some (.val (.int v))) (w : WP k h cells slots pc' ls (.int v :: st)) : WP k h cells slots pc ls st := by
  subst hp; exact w.plain fun T A t q => XS.iloadN A K.hx rfl (K.dec hd) (arrGet hl) q
theorem WP.lload (K : Ok k l Z n0 rm bytes maxL y ret Q) {i : Nat} {v : Int64} (pc' : Nat) (hd : decode bytes pc = .ok (.lload i, 2)) (hp : pc + 2 = pc') (hl : ls[i]? = some (.val (.long v))) (w : WP k h cells slots pc' ls (.long v :: st)) : WP k h cells slots pc ls st := by
  subst hp; exact w.plain fun T A t q => XT.lload A K.hx rfl (K.dec hd) (arrGet hl) q
theorem WP.lloadN (K : Ok k l Z n0 rm bytes maxL y ret Q) {i : Fin 4} {v : Int64} (pc' : Nat) (hd : decode bytes pc = .ok (.lload_n i, 1)) (hp : pc + 1 = pc') (hl : ls[i.val]? = some (.val (.long v))) (w : WP k h cells slots pc' ls (.long v :: st)) : WP k h cells slots pc ls st := by
  subst hp; exact w.plain fun T A t q => XT.lloadN A K.hx rfl (K.dec hd) (arrGet hl) q
theorem WP.aload (K : Ok k l Z n0 rm bytes maxL y ret Q) {i : Nat} {v : Value} (pc' : Nat) (hd : decode bytes pc = .ok (.aload i, 2)) (hp : pc + 2 = pc') (hl : ls[i]? = some (.val (v))) (hv : v.isRef = true) (w : WP k h cells slots pc' ls (v :: st)) : WP k h cells slots pc ls st := by
  subst hp; exact w.plain fun T A t q => XS.aload A K.hx rfl (K.dec hd) (arrGet hl) hv q
theorem WP.aloadN (K : Ok k l Z n0 rm bytes maxL y ret Q) {i : Fin 4} {v : Value} (pc' : Nat) (hd : decode bytes pc = .ok (.aload_n i, 1)) (hp : pc + 1 = pc') (hl : ls[i.val]? = some (.val (v))) (hv : v.isRef = true) (w : WP k h cells slots pc' ls (v :: st)) : WP k h cells slots pc ls st := by
  subst hp; exact w.plain fun T A t q => XS.aloadN A K.hx rfl (K.dec hd) (arrGet hl) hv q
theorem WP.istore (K : Ok k l Z n0 rm bytes maxL y ret Q) {i : Nat} {v : Int32} (pc' : Nat) (ls' : List Slot) (hd : decode bytes pc = .ok (.istore i, 2)) (hp : pc + 2 = pc') (hl : storeLocals ls.toArray i (.int v) = some ls'.toArray) (w : WP k h cells slots pc' ls' st) : WP k h cells slots pc ls (.int v :: st) := by
  subst hp; exact w.plain fun T A t q => XS.istore A K.hx rfl (K.dec hd) rfl hl q
theorem WP.istoreN (K : Ok k l Z n0 rm bytes maxL y ret Q) {i : Fin 4} {v : Int32} (pc' : Nat) (ls' : List Slot) (hd : decode bytes pc = .ok (.istore_n i, 1)) (hp : pc + 1 = pc') (hl : storeLocals ls.toArray i.val (.int v) = some ls'.toArray) (w : WP k h cells slots pc' ls' st) : WP k h cells slots pc ls (.int v :: st) := by
  subst hp; exact w.plain fun T A t q => XS.istoreN A K.hx rfl (K.dec hd) rfl hl q
theorem WP.lstore (K : Ok k l Z n0 rm bytes maxL y ret Q) {i : Nat} {v : Int64} (pc' : Nat) (ls' : List Slot) (hd : decode bytes pc = .ok (.lstore i, 2)) (hp : pc + 2 = pc') (hl : storeLocals ls.toArray i (.long v) = some ls'.toArray) (w : WP k h cells slots pc' ls' st) : WP k h cells slots pc ls (.long v :: st) := by
  subst hp; exact w.plain fun T A t q => XT.lstore A K.hx rfl (K.dec hd) rfl hl q
theorem WP.lstoreN (K : Ok k l Z n0 rm bytes maxL y ret Q) {i : Fin 4} {v : Int64} (pc' : Nat) (ls' : List Slot) (hd : decode bytes pc = .ok (.lstore_n i, 1)) (hp : pc + 1 = pc') (hl : storeLocals ls.toArray i.val (.long v) = some ls'.toArray) (w : WP k h cells slots pc' ls' st) : WP k h cells slots pc ls (.long v :: st) := by
  subst hp; exact w.plain fun T A t q => XT.lstoreN A K.hx rfl (K.dec hd) rfl hl q
theorem WP.astore (K : Ok k l Z n0 rm bytes maxL y ret Q) {i : Nat} {v : Value} (pc' : Nat) (ls' : List Slot) (hd : decode bytes pc = .ok (.astore i, 2)) (hp : pc + 2 = pc') (hv : v.isRef = true) (hl : storeLocals ls.toArray i (v) = some ls'.toArray) (w : WP k h cells slots pc' ls' st) : WP k h cells slots pc ls (v :: st) := by
  subst hp; exact w.plain fun T A t q => XS.astore A K.hx rfl (K.dec hd) rfl hv hl q
theorem WP.astoreN (K : Ok k l Z n0 rm bytes maxL y ret Q) {i : Fin 4} {v : Value} (pc' : Nat) (ls' : List Slot) (hd : decode bytes pc = .ok (.astore_n i, 1)) (hp : pc + 1 = pc') (hv : v.isRef = true) (hl : storeLocals ls.toArray i.val (v) = some ls'.toArray) (w : WP k h cells slots pc' ls' st) : WP k h cells slots pc ls (v :: st) := by
  subst hp; exact w.plain fun T A t q => XS.astoreN A K.hx rfl (K.dec hd) rfl hv hl q
theorem WP.iconst (K : Ok k l Z n0 rm bytes maxL y ret Q) {i : Int} (v : Int32) (pc' : Nat) (hd : decode bytes pc = .ok (.iconst i, 1)) (hp : pc + 1 = pc') (hv : Int32.ofInt i = v) (w : WP k h cells slots pc' ls (.int v :: st)) : WP k h cells slots pc ls st := by
  subst hp; exact w.plain fun T A t q => XT.iconstV A K.hx rfl v (K.dec hd) hv q
theorem WP.bipush (K : Ok k l Z n0 rm bytes maxL y ret Q) {i : Int} (v : Int32) (pc' : Nat) (hd : decode bytes pc = .ok (.bipush i, 2)) (hp : pc + 2 = pc') (hv : (Int8.ofInt i).toInt32 = v) (w : WP k h cells slots pc' ls (.int v :: st)) : WP k h cells slots pc ls st := by
  subst hp; exact w.plain fun T A t q => XT.bipushV A K.hx rfl v (K.dec hd) hv q
theorem WP.sipush (K : Ok k l Z n0 rm bytes maxL y ret Q) {i : Int} (v : Int32) (pc' : Nat) (hd : decode bytes pc = .ok (.sipush i, 3)) (hp : pc + 3 = pc') (hv : (Int16.ofInt i).toInt32 = v) (w : WP k h cells slots pc' ls (.int v :: st)) : WP k h cells slots pc ls st := by
  subst hp; exact w.plain fun T A t q => XT.sipushV A K.hx rfl v (K.dec hd) hv q
theorem WP.lconst (K : Ok k l Z n0 rm bytes maxL y ret Q) {i : Fin 2} (v : Int64) (pc' : Nat) (hd : decode bytes pc = .ok (.lconst i, 1)) (hp : pc + 1 = pc') (hv : Int64.ofNat i = v) (w : WP k h cells slots pc' ls (.long v :: st)) : WP k h cells slots pc ls st := by
  subst hp; exact w.plain fun T A t q => XT.lconstV A K.hx rfl v (K.dec hd) hv q
theorem WP.aconstNull (K : Ok k l Z n0 rm bytes maxL y ret Q) (pc' : Nat) (hd : decode bytes pc = .ok (.aconst_null, 1)) (hp : pc + 1 = pc') (w : WP k h cells slots pc' ls (.null :: st)) : WP k h cells slots pc ls st := by
  subst hp; exact w.plain fun T A t q => XS.aconstNull A K.hx rfl (K.dec hd) q
theorem WP.iadd (K : Ok k l Z n0 rm bytes maxL y ret Q) {x : Int32} {z : Int32} (pc' : Nat) (hd : decode bytes pc = .ok (.iadd, 1)) (hp : pc + 1 = pc') (w : WP k h cells slots pc' ls (.int (x + z) :: st)) : WP k h cells slots pc ls (.int z :: .int x :: st) := by
  subst hp; exact w.plain fun T A t q => XS.iadd A K.hx rfl (K.dec hd) rfl q
theorem WP.isub (K : Ok k l Z n0 rm bytes maxL y ret Q) {x : Int32} {z : Int32} (pc' : Nat) (hd : decode bytes pc = .ok (.isub, 1)) (hp : pc + 1 = pc') (w : WP k h cells slots pc' ls (.int (x - z) :: st)) : WP k h cells slots pc ls (.int z :: .int x :: st) := by
  subst hp; exact w.plain fun T A t q => XS.isub A K.hx rfl (K.dec hd) rfl q
theorem WP.imul (K : Ok k l Z n0 rm bytes maxL y ret Q) {x : Int32} {z : Int32} (pc' : Nat) (hd : decode bytes pc = .ok (.imul, 1)) (hp : pc + 1 = pc') (w : WP k h cells slots pc' ls (.int (x * z) :: st)) : WP k h cells slots pc ls (.int z :: .int x :: st) := by
  subst hp; exact w.plain fun T A t q => XS.imul A K.hx rfl (K.dec hd) rfl q
theorem WP.iand (K : Ok k l Z n0 rm bytes maxL y ret Q) {x : Int32} {z : Int32} (pc' : Nat) (hd : decode bytes pc = .ok (.iand, 1)) (hp : pc + 1 = pc') (w : WP k h cells slots pc' ls (.int (x &&& z) :: st)) : WP k h cells slots pc ls (.int z :: .int x :: st) := by
  subst hp; exact w.plain fun T A t q => XS.iand A K.hx rfl (K.dec hd) rfl q
theorem WP.ior (K : Ok k l Z n0 rm bytes maxL y ret Q) {x : Int32} {z : Int32} (pc' : Nat) (hd : decode bytes pc = .ok (.ior, 1)) (hp : pc + 1 = pc') (w : WP k h cells slots pc' ls (.int (x ||| z) :: st)) : WP k h cells slots pc ls (.int z :: .int x :: st) := by
  subst hp; exact w.plain fun T A t q => XT.ior A K.hx rfl (K.dec hd) rfl q
theorem WP.ixor (K : Ok k l Z n0 rm bytes maxL y ret Q) {x : Int32} {z : Int32} (pc' : Nat) (hd : decode bytes pc = .ok (.ixor, 1)) (hp : pc + 1 = pc') (w : WP k h cells slots pc' ls (.int (x ^^^ z) :: st)) : WP k h cells slots pc ls (.int z :: .int x :: st) := by
  subst hp; exact w.plain fun T A t q => XT.ixor A K.hx rfl (K.dec hd) rfl q
theorem WP.ishl (K : Ok k l Z n0 rm bytes maxL y ret Q) {x : Int32} {z : Int32} (pc' : Nat) (hd : decode bytes pc = .ok (.ishl, 1)) (hp : pc + 1 = pc') (w : WP k h cells slots pc' ls (.int (x <<< (z &&& 31)) :: st)) : WP k h cells slots pc ls (.int z :: .int x :: st) := by
  subst hp; exact w.plain fun T A t q => XT.ishl A K.hx rfl (K.dec hd) rfl q
theorem WP.ishr (K : Ok k l Z n0 rm bytes maxL y ret Q) {x : Int32} {z : Int32} (pc' : Nat) (hd : decode bytes pc = .ok (.ishr, 1)) (hp : pc + 1 = pc') (w : WP k h cells slots pc' ls (.int (x >>> (z &&& 31)) :: st)) : WP k h cells slots pc ls (.int z :: .int x :: st) := by
  subst hp; exact w.plain fun T A t q => XT.ishr A K.hx rfl (K.dec hd) rfl q
theorem WP.iushr (K : Ok k l Z n0 rm bytes maxL y ret Q) {x : Int32} {z : Int32} (pc' : Nat) (hd : decode bytes pc = .ok (.iushr, 1)) (hp : pc + 1 = pc') (w : WP k h cells slots pc' ls (.int (XT.ushr x z) :: st)) : WP k h cells slots pc ls (.int z :: .int x :: st) := by
  subst hp; exact w.plain fun T A t q => XT.iushr A K.hx rfl (K.dec hd) rfl q
theorem WP.ladd (K : Ok k l Z n0 rm bytes maxL y ret Q) {x : Int64} {z : Int64} (pc' : Nat) (hd : decode bytes pc = .ok (.ladd, 1)) (hp : pc + 1 = pc') (w : WP k h cells slots pc' ls (.long (x + z) :: st)) : WP k h cells slots pc ls (.long z :: .long x :: st) := by
  subst hp; exact w.plain fun T A t q => XT.ladd A K.hx rfl (K.dec hd) rfl q
theorem WP.lsub (K : Ok k l Z n0 rm bytes maxL y ret Q) {x : Int64} {z : Int64} (pc' : Nat) (hd : decode bytes pc = .ok (.lsub, 1)) (hp : pc + 1 = pc') (w : WP k h cells slots pc' ls (.long (x - z) :: st)) : WP k h cells slots pc ls (.long z :: .long x :: st) := by
  subst hp; exact w.plain fun T A t q => XT.lsub A K.hx rfl (K.dec hd) rfl q
theorem WP.lmul (K : Ok k l Z n0 rm bytes maxL y ret Q) {x : Int64} {z : Int64} (pc' : Nat) (hd : decode bytes pc = .ok (.lmul, 1)) (hp : pc + 1 = pc') (w : WP k h cells slots pc' ls (.long (x * z) :: st)) : WP k h cells slots pc ls (.long z :: .long x :: st) := by
  subst hp; exact w.plain fun T A t q => XT.lmul A K.hx rfl (K.dec hd) rfl q
theorem WP.land (K : Ok k l Z n0 rm bytes maxL y ret Q) {x : Int64} {z : Int64} (pc' : Nat) (hd : decode bytes pc = .ok (.land, 1)) (hp : pc + 1 = pc') (w : WP k h cells slots pc' ls (.long (x &&& z) :: st)) : WP k h cells slots pc ls (.long z :: .long x :: st) := by
  subst hp; exact w.plain fun T A t q => XT.land A K.hx rfl (K.dec hd) rfl q
theorem WP.lor (K : Ok k l Z n0 rm bytes maxL y ret Q) {x : Int64} {z : Int64} (pc' : Nat) (hd : decode bytes pc = .ok (.lor, 1)) (hp : pc + 1 = pc') (w : WP k h cells slots pc' ls (.long (x ||| z) :: st)) : WP k h cells slots pc ls (.long z :: .long x :: st) := by
  subst hp; exact w.plain fun T A t q => XT.lor A K.hx rfl (K.dec hd) rfl q
theorem WP.lxor (K : Ok k l Z n0 rm bytes maxL y ret Q) {x : Int64} {z : Int64} (pc' : Nat) (hd : decode bytes pc = .ok (.lxor, 1)) (hp : pc + 1 = pc') (w : WP k h cells slots pc' ls (.long (x ^^^ z) :: st)) : WP k h cells slots pc ls (.long z :: .long x :: st) := by
  subst hp; exact w.plain fun T A t q => XT.lxor A K.hx rfl (K.dec hd) rfl q
theorem WP.lshl (K : Ok k l Z n0 rm bytes maxL y ret Q) {x : Int64} {z : Int32} (pc' : Nat) (hd : decode bytes pc = .ok (.lshl, 1)) (hp : pc + 1 = pc') (w : WP k h cells slots pc' ls (.long (x <<< (z.toInt64 &&& 63)) :: st)) : WP k h cells slots pc ls (.int z :: .long x :: st) := by
  subst hp; exact w.plain fun T A t q => XT.lshl A K.hx rfl (K.dec hd) rfl q
theorem WP.lshr (K : Ok k l Z n0 rm bytes maxL y ret Q) {x : Int64} {z : Int32} (pc' : Nat) (hd : decode bytes pc = .ok (.lshr, 1)) (hp : pc + 1 = pc') (w : WP k h cells slots pc' ls (.long (x >>> (z.toInt64 &&& 63)) :: st)) : WP k h cells slots pc ls (.int z :: .long x :: st) := by
  subst hp; exact w.plain fun T A t q => XT.lshr A K.hx rfl (K.dec hd) rfl q
theorem WP.lushr (K : Ok k l Z n0 rm bytes maxL y ret Q) {x : Int64} {z : Int32} (pc' : Nat) (hd : decode bytes pc = .ok (.lushr, 1)) (hp : pc + 1 = pc') (w : WP k h cells slots pc' ls (.long (XT.ushrL x z) :: st)) : WP k h cells slots pc ls (.int z :: .long x :: st) := by
  subst hp; exact w.plain fun T A t q => XT.lushr A K.hx rfl (K.dec hd) rfl q
theorem WP.lcmp (K : Ok k l Z n0 rm bytes maxL y ret Q) {x : Int64} {z : Int64} (pc' : Nat) (hd : decode bytes pc = .ok (.lcmp, 1)) (hp : pc + 1 = pc') (w : WP k h cells slots pc' ls (.int (XT.cmpL x z) :: st)) : WP k h cells slots pc ls (.long z :: .long x :: st) := by
  subst hp; exact w.plain fun T A t q => XT.lcmp A K.hx rfl (K.dec hd) rfl q
theorem WP.idiv (K : Ok k l Z n0 rm bytes maxL y ret Q) {x z : Int32} (pc' : Nat) (hd : decode bytes pc = .ok (.idiv, 1)) (hp : pc + 1 = pc') (hz : z ≠ 0) (w : WP k h cells slots pc' ls (.int (x / z) :: st)) : WP k h cells slots pc ls (.int z :: .int x :: st) := by
  subst hp; exact w.plain fun T A t q => XS.idiv A K.hx rfl (K.dec hd) rfl hz q
theorem WP.irem (K : Ok k l Z n0 rm bytes maxL y ret Q) {x z : Int32} (pc' : Nat) (hd : decode bytes pc = .ok (.irem, 1)) (hp : pc + 1 = pc') (hz : z ≠ 0) (w : WP k h cells slots pc' ls (.int (x % z) :: st)) : WP k h cells slots pc ls (.int z :: .int x :: st) := by
  subst hp; rw [← irem_eq_mod] at w; exact w.plain fun T A t q => XS.irem A K.hx rfl (K.dec hd) rfl hz q
theorem WP.ineg (K : Ok k l Z n0 rm bytes maxL y ret Q) {x : Int32} (pc' : Nat) (hd : decode bytes pc = .ok (.ineg, 1)) (hp : pc + 1 = pc') (w : WP k h cells slots pc' ls (.int (-x) :: st)) : WP k h cells slots pc ls (.int x :: st) := by
  subst hp; exact w.plain fun T A t q => XS.ineg A K.hx rfl (K.dec hd) rfl q
theorem WP.lneg (K : Ok k l Z n0 rm bytes maxL y ret Q) {x : Int64} (pc' : Nat) (hd : decode bytes pc = .ok (.lneg, 1)) (hp : pc + 1 = pc') (w : WP k h cells slots pc' ls (.long (-x) :: st)) : WP k h cells slots pc ls (.long x :: st) := by
  subst hp; exact w.plain fun T A t q => XT.lneg A K.hx rfl (K.dec hd) rfl q
theorem WP.i2l (K : Ok k l Z n0 rm bytes maxL y ret Q) {x : Int32} (pc' : Nat) (hd : decode bytes pc = .ok (.i2l, 1)) (hp : pc + 1 = pc') (w : WP k h cells slots pc' ls (.long x.toInt64 :: st)) : WP k h cells slots pc ls (.int x :: st) := by
  subst hp; exact w.plain fun T A t q => XT.i2l A K.hx rfl (K.dec hd) rfl q
theorem WP.l2i (K : Ok k l Z n0 rm bytes maxL y ret Q) {x : Int64} (pc' : Nat) (hd : decode bytes pc = .ok (.l2i, 1)) (hp : pc + 1 = pc') (w : WP k h cells slots pc' ls (.int x.toInt32 :: st)) : WP k h cells slots pc ls (.long x :: st) := by
  subst hp; exact w.plain fun T A t q => XT.l2i A K.hx rfl (K.dec hd) rfl q
theorem WP.i2b (K : Ok k l Z n0 rm bytes maxL y ret Q) {x : Int32} (pc' : Nat) (hd : decode bytes pc = .ok (.i2b, 1)) (hp : pc + 1 = pc') (w : WP k h cells slots pc' ls (.int x.toInt8.toInt32 :: st)) : WP k h cells slots pc ls (.int x :: st) := by
  subst hp; exact w.plain fun T A t q => XT.i2b A K.hx rfl (K.dec hd) rfl q
theorem WP.i2c (K : Ok k l Z n0 rm bytes maxL y ret Q) {x : Int32} (pc' : Nat) (hd : decode bytes pc = .ok (.i2c, 1)) (hp : pc + 1 = pc') (w : WP k h cells slots pc' ls (.int x.toUInt32.toUInt16.toUInt32.toInt32 :: st)) : WP k h cells slots pc ls (.int x :: st) := by
  subst hp; exact w.plain fun T A t q => XT.i2c A K.hx rfl (K.dec hd) rfl q
theorem WP.i2s (K : Ok k l Z n0 rm bytes maxL y ret Q) {x : Int32} (pc' : Nat) (hd : decode bytes pc = .ok (.i2s, 1)) (hp : pc + 1 = pc') (w : WP k h cells slots pc' ls (.int x.toInt16.toInt32 :: st)) : WP k h cells slots pc ls (.int x :: st) := by
  subst hp; exact w.plain fun T A t q => XT.i2s A K.hx rfl (K.dec hd) rfl q
theorem WP.dup (K : Ok k l Z n0 rm bytes maxL y ret Q) {x : Value} (pc' : Nat) (hd : decode bytes pc = .ok (.dup, 1)) (hp : pc + 1 = pc') (hc : x.category = 1) (w : WP k h cells slots pc' ls (x :: x :: st)) : WP k h cells slots pc ls (x :: st) := by
  subst hp; exact w.plain fun T A t q => XS.dup A K.hx rfl (K.dec hd) rfl hc q
theorem WP.pop (K : Ok k l Z n0 rm bytes maxL y ret Q) {x : Value} (pc' : Nat) (hd : decode bytes pc = .ok (.pop, 1)) (hp : pc + 1 = pc') (hc : x.category = 1) (w : WP k h cells slots pc' ls st) : WP k h cells slots pc ls (x :: st) := by
  subst hp; exact w.plain fun T A t q => XT.pop A K.hx rfl (K.dec hd) rfl hc q
theorem WP.dupX1 (K : Ok k l Z n0 rm bytes maxL y ret Q) {x z : Value} (pc' : Nat) (hd : decode bytes pc = .ok (.dup_x1, 1)) (hp : pc + 1 = pc') (hc : x.category = 1) (hc' : z.category = 1) (w : WP k h cells slots pc' ls (x :: z :: x :: st)) : WP k h cells slots pc ls (x :: z :: st) := by
  subst hp; exact w.plain fun T A t q => XT.dupX1 A K.hx rfl (K.dec hd) rfl hc hc' q
theorem WP.dup2 (K : Ok k l Z n0 rm bytes maxL y ret Q) {x z : Value} (pc' : Nat) (hd : decode bytes pc = .ok (.dup2, 1)) (hp : pc + 1 = pc') (hc : x.category = 1) (hc' : z.category = 1) (w : WP k h cells slots pc' ls (x :: z :: x :: z :: st)) : WP k h cells slots pc ls (x :: z :: st) := by
  subst hp; exact w.plain fun T A t q => XT.dup2 A K.hx rfl (K.dec hd) rfl hc hc' q
theorem WP.dup2L (K : Ok k l Z n0 rm bytes maxL y ret Q) {x : Int64} (pc' : Nat) (hd : decode bytes pc = .ok (.dup2, 1)) (hp : pc + 1 = pc') (w : WP k h cells slots pc' ls (.long x :: .long x :: st)) : WP k h cells slots pc ls (.long x :: st) := by
  subst hp; exact w.plain fun T A t q => XT.dup2L A K.hx rfl (K.dec hd) rfl q
theorem WP.iinc (K : Ok k l Z n0 rm bytes maxL y ret Q) {i : Nat} {cst : Int} {x : Int32} (v : Int32) (pc' : Nat) (ls' : List Slot) (hd : decode bytes pc = .ok (.iinc i cst, 3)) (hp : pc + 3 = pc') (hv : Int32.ofInt cst = v) (hl : ls[i]? = some (.val (.int x))) (hl' : storeLocals ls.toArray i (.int (x + v)) = some ls'.toArray) (w : WP k h cells slots pc' ls' st) : WP k h cells slots pc ls st := by
  subst hp; exact w.plain fun T A t q => XT.iincV A K.hx rfl v (K.dec hd) hv (arrGet hl) hl' q
theorem WP.goto (K : Ok k l Z n0 rm bytes maxL y ret Q) {o : Int} (pc' : Nat) (hd : decode bytes pc = .ok (.goto o, 3)) (hp : (pc : Int) + o = pc') (w : WP k h cells slots pc' ls st) : WP k h cells slots pc ls st :=
  w.plain fun T A t q => XS.goto A K.hx rfl (pc0 := pc) (pc' := pc') rfl (K.dec hd) (by omega) (by omega) q
theorem WP.icmp (K : Ok k l Z n0 rm bytes maxL y ret Q) {cd : ClassFile.Cond} {o : Int} {x z : Int32} (tp fp : Nat) (hd : decode bytes pc = .ok (.if_icmp cd o, 3)) (ht : (pc : Int) + o = tp) (hf : pc + 3 = fp)
    (wt : if_icmp.holds cd x z = true → WP k h cells slots tp ls st) (wf : if_icmp.holds cd x z = false → WP k h cells slots fp ls st) : WP k h cells slots pc ls (.int z :: .int x :: st) := by
  subst hf
  cases hh : if_icmp.holds cd x z
  · exact (wf hh).plain fun T A t q => XS.icmpNo A K.hx rfl (K.dec hd) rfl hh q
  · exact (wt hh).plain fun T A t q => XS.icmpYes A K.hx rfl (pc0 := pc) (pc' := tp) rfl (K.dec hd) rfl hh (by omega) (by omega) q
theorem WP.if0 (K : Ok k l Z n0 rm bytes maxL y ret Q) {cd : ClassFile.Cond} {o : Int} {x : Int32} (tp fp : Nat) (hd : decode bytes pc = .ok (.ifCond cd o, 3)) (ht : (pc : Int) + o = tp) (hf : pc + 3 = fp)
    (wt : ifCond.holds cd x = true → WP k h cells slots tp ls st) (wf : ifCond.holds cd x = false → WP k h cells slots fp ls st) : WP k h cells slots pc ls (.int x :: st) := by
  subst hf
  cases hh : ifCond.holds cd x
  · exact (wf hh).plain fun T A t q => XS.ifNo A K.hx rfl (K.dec hd) rfl hh q
  · exact (wt hh).plain fun T A t q => XS.ifYes A K.hx rfl (pc0 := pc) (pc' := tp) rfl (K.dec hd) rfl hh (by omega) (by omega) q
theorem h_lt {x z : Int32} : if_icmp.holds .lt x z = decide (x.toInt < z.toInt) := by simp [if_icmp.holds, Int32.lt_iff_toInt_lt]
theorem h_ge {x z : Int32} : if_icmp.holds .ge x z = decide (z.toInt ≤ x.toInt) := by simp [if_icmp.holds, Int32.le_iff_toInt_le]
theorem h_gt {x z : Int32} : if_icmp.holds .gt x z = decide (z.toInt < x.toInt) := by simp [if_icmp.holds, Int32.lt_iff_toInt_lt]
theorem h_le {x z : Int32} : if_icmp.holds .le x z = decide (x.toInt ≤ z.toInt) := by simp [if_icmp.holds, Int32.le_iff_toInt_le]
theorem h_eq {x z : Int32} : if_icmp.holds .eq x z = decide (x.toInt = z.toInt) := by
  rw [Bool.eq_iff_iff, decide_eq_true_iff, Int32.toInt_inj]; simp [if_icmp.holds]
theorem h_ne {x z : Int32} : if_icmp.holds .ne x z = decide (x.toInt ≠ z.toInt) := by
  by_cases q : x = z <;> simp [if_icmp.holds, Int32.toInt_inj, q]
theorem WP.icmp_lt (K : Ok k l Z n0 rm bytes maxL y ret Q) {o : Int} {x z : Int32} (tp fp : Nat) (hd : decode bytes pc = .ok (.if_icmp .lt o, 3)) (ht : (pc : Int) + o = tp) (hf : pc + 3 = fp)
    (wt : x.toInt < z.toInt → WP k h cells slots tp ls st) (wf : z.toInt ≤ x.toInt → WP k h cells slots fp ls st) : WP k h cells slots pc ls (.int z :: .int x :: st) :=
  WP.icmp K tp fp hd ht hf (fun q => wt (by rw [h_lt] at q; exact of_decide_eq_true q)) (fun q => wf (by rw [h_lt] at q; have q := of_decide_eq_false q; omega))
theorem WP.if_lt (K : Ok k l Z n0 rm bytes maxL y ret Q) {o : Int} {x : Int32} (tp fp : Nat) (hd : decode bytes pc = .ok (.ifCond .lt o, 3)) (ht : (pc : Int) + o = tp) (hf : pc + 3 = fp)
    (wt : x.toInt < 0 → WP k h cells slots tp ls st) (wf : 0 ≤ x.toInt → WP k h cells slots fp ls st) : WP k h cells slots pc ls (.int x :: st) :=
  WP.if0 K tp fp hd ht hf (fun q => wt (by rw [RoadKit.if0, h_lt] at q; exact of_decide_eq_true q)) (fun q => wf (by rw [RoadKit.if0, h_lt] at q; have q := of_decide_eq_false q; rw [show (0 : Int32).toInt = 0 from rfl] at q; omega))
theorem WP.ifl_lt (K : Ok k l Z n0 rm bytes maxL y ret Q) {o : Int} {x z : Int64} (tp fp : Nat) (hd : decode bytes pc = .ok (.ifCond .lt o, 3)) (ht : (pc : Int) + o = tp) (hf : pc + 3 = fp)
    (wt : x.toInt < z.toInt → WP k h cells slots tp ls st) (wf : z.toInt ≤ x.toInt → WP k h cells slots fp ls st) : WP k h cells slots pc ls (.int (XT.cmpL x z) :: st) := by
  refine WP.if0 K tp fp hd ht hf (fun q => ?_) (fun q => ?_)
  · refine wt ?_
    false_or_by_contra
    rename_i c
    rw [XT.ll_lt_f (by simp only [Int64.lt_iff_toInt_lt, ← Int64.toInt_inj]; omega)] at q; cases q
  · refine wf ?_
    false_or_by_contra
    rename_i c
    rw [XT.ll_lt_t (by simp only [Int64.lt_iff_toInt_lt, ← Int64.toInt_inj]; omega)] at q; cases q
theorem WP.icmp_ge (K : Ok k l Z n0 rm bytes maxL y ret Q) {o : Int} {x z : Int32} (tp fp : Nat) (hd : decode bytes pc = .ok (.if_icmp .ge o, 3)) (ht : (pc : Int) + o = tp) (hf : pc + 3 = fp)
    (wt : z.toInt ≤ x.toInt → WP k h cells slots tp ls st) (wf : x.toInt < z.toInt → WP k h cells slots fp ls st) : WP k h cells slots pc ls (.int z :: .int x :: st) :=
  WP.icmp K tp fp hd ht hf (fun q => wt (by rw [h_ge] at q; exact of_decide_eq_true q)) (fun q => wf (by rw [h_ge] at q; have q := of_decide_eq_false q; omega))
theorem WP.if_ge (K : Ok k l Z n0 rm bytes maxL y ret Q) {o : Int} {x : Int32} (tp fp : Nat) (hd : decode bytes pc = .ok (.ifCond .ge o, 3)) (ht : (pc : Int) + o = tp) (hf : pc + 3 = fp)
    (wt : 0 ≤ x.toInt → WP k h cells slots tp ls st) (wf : x.toInt < 0 → WP k h cells slots fp ls st) : WP k h cells slots pc ls (.int x :: st) :=
  WP.if0 K tp fp hd ht hf (fun q => wt (by rw [RoadKit.if0, h_ge] at q; exact of_decide_eq_true q)) (fun q => wf (by rw [RoadKit.if0, h_ge] at q; have q := of_decide_eq_false q; rw [show (0 : Int32).toInt = 0 from rfl] at q; omega))
theorem WP.ifl_ge (K : Ok k l Z n0 rm bytes maxL y ret Q) {o : Int} {x z : Int64} (tp fp : Nat) (hd : decode bytes pc = .ok (.ifCond .ge o, 3)) (ht : (pc : Int) + o = tp) (hf : pc + 3 = fp)
    (wt : z.toInt ≤ x.toInt → WP k h cells slots tp ls st) (wf : x.toInt < z.toInt → WP k h cells slots fp ls st) : WP k h cells slots pc ls (.int (XT.cmpL x z) :: st) := by
  refine WP.if0 K tp fp hd ht hf (fun q => ?_) (fun q => ?_)
  · refine wt ?_
    false_or_by_contra
    rename_i c
    rw [XT.ll_ge_f (by simp only [Int64.lt_iff_toInt_lt, ← Int64.toInt_inj]; omega)] at q; cases q
  · refine wf ?_
    false_or_by_contra
    rename_i c
    rw [XT.ll_ge_t (by simp only [Int64.lt_iff_toInt_lt, ← Int64.toInt_inj]; omega)] at q; cases q
theorem WP.icmp_gt (K : Ok k l Z n0 rm bytes maxL y ret Q) {o : Int} {x z : Int32} (tp fp : Nat) (hd : decode bytes pc = .ok (.if_icmp .gt o, 3)) (ht : (pc : Int) + o = tp) (hf : pc + 3 = fp)
    (wt : z.toInt < x.toInt → WP k h cells slots tp ls st) (wf : x.toInt ≤ z.toInt → WP k h cells slots fp ls st) : WP k h cells slots pc ls (.int z :: .int x :: st) :=
  WP.icmp K tp fp hd ht hf (fun q => wt (by rw [h_gt] at q; exact of_decide_eq_true q)) (fun q => wf (by rw [h_gt] at q; have q := of_decide_eq_false q; omega))
theorem WP.if_gt (K : Ok k l Z n0 rm bytes maxL y ret Q) {o : Int} {x : Int32} (tp fp : Nat) (hd : decode bytes pc = .ok (.ifCond .gt o, 3)) (ht : (pc : Int) + o = tp) (hf : pc + 3 = fp)
    (wt : 0 < x.toInt → WP k h cells slots tp ls st) (wf : x.toInt ≤ 0 → WP k h cells slots fp ls st) : WP k h cells slots pc ls (.int x :: st) :=
  WP.if0 K tp fp hd ht hf (fun q => wt (by rw [RoadKit.if0, h_gt] at q; exact of_decide_eq_true q)) (fun q => wf (by rw [RoadKit.if0, h_gt] at q; have q := of_decide_eq_false q; rw [show (0 : Int32).toInt = 0 from rfl] at q; omega))
theorem WP.ifl_gt (K : Ok k l Z n0 rm bytes maxL y ret Q) {o : Int} {x z : Int64} (tp fp : Nat) (hd : decode bytes pc = .ok (.ifCond .gt o, 3)) (ht : (pc : Int) + o = tp) (hf : pc + 3 = fp)
    (wt : z.toInt < x.toInt → WP k h cells slots tp ls st) (wf : x.toInt ≤ z.toInt → WP k h cells slots fp ls st) : WP k h cells slots pc ls (.int (XT.cmpL x z) :: st) := by
  refine WP.if0 K tp fp hd ht hf (fun q => ?_) (fun q => ?_)
  · refine wt ?_
    false_or_by_contra
    rename_i c
    rw [XT.ll_gt_f (by simp only [Int64.lt_iff_toInt_lt, ← Int64.toInt_inj]; omega)] at q; cases q
  · refine wf ?_
    false_or_by_contra
    rename_i c
    rw [XT.ll_gt_t (by simp only [Int64.lt_iff_toInt_lt, ← Int64.toInt_inj]; omega)] at q; cases q
theorem WP.icmp_le (K : Ok k l Z n0 rm bytes maxL y ret Q) {o : Int} {x z : Int32} (tp fp : Nat) (hd : decode bytes pc = .ok (.if_icmp .le o, 3)) (ht : (pc : Int) + o = tp) (hf : pc + 3 = fp)
    (wt : x.toInt ≤ z.toInt → WP k h cells slots tp ls st) (wf : z.toInt < x.toInt → WP k h cells slots fp ls st) : WP k h cells slots pc ls (.int z :: .int x :: st) :=
  WP.icmp K tp fp hd ht hf (fun q => wt (by rw [h_le] at q; exact of_decide_eq_true q)) (fun q => wf (by rw [h_le] at q; have q := of_decide_eq_false q; omega))
theorem WP.if_le (K : Ok k l Z n0 rm bytes maxL y ret Q) {o : Int} {x : Int32} (tp fp : Nat) (hd : decode bytes pc = .ok (.ifCond .le o, 3)) (ht : (pc : Int) + o = tp) (hf : pc + 3 = fp)
    (wt : x.toInt ≤ 0 → WP k h cells slots tp ls st) (wf : 0 < x.toInt → WP k h cells slots fp ls st) : WP k h cells slots pc ls (.int x :: st) :=
  WP.if0 K tp fp hd ht hf (fun q => wt (by rw [RoadKit.if0, h_le] at q; exact of_decide_eq_true q)) (fun q => wf (by rw [RoadKit.if0, h_le] at q; have q := of_decide_eq_false q; rw [show (0 : Int32).toInt = 0 from rfl] at q; omega))
theorem WP.ifl_le (K : Ok k l Z n0 rm bytes maxL y ret Q) {o : Int} {x z : Int64} (tp fp : Nat) (hd : decode bytes pc = .ok (.ifCond .le o, 3)) (ht : (pc : Int) + o = tp) (hf : pc + 3 = fp)
    (wt : x.toInt ≤ z.toInt → WP k h cells slots tp ls st) (wf : z.toInt < x.toInt → WP k h cells slots fp ls st) : WP k h cells slots pc ls (.int (XT.cmpL x z) :: st) := by
  refine WP.if0 K tp fp hd ht hf (fun q => ?_) (fun q => ?_)
  · refine wt ?_
    false_or_by_contra
    rename_i c
    rw [XT.ll_le_f (by simp only [Int64.lt_iff_toInt_lt, ← Int64.toInt_inj]; omega)] at q; cases q
  · refine wf ?_
    false_or_by_contra
    rename_i c
    rw [XT.ll_le_t (by simp only [Int64.lt_iff_toInt_lt, ← Int64.toInt_inj]; omega)] at q; cases q
theorem WP.icmp_eq (K : Ok k l Z n0 rm bytes maxL y ret Q) {o : Int} {x z : Int32} (tp fp : Nat) (hd : decode bytes pc = .ok (.if_icmp .eq o, 3)) (ht : (pc : Int) + o = tp) (hf : pc + 3 = fp)
    (wt : x.toInt = z.toInt → WP k h cells slots tp ls st) (wf : x.toInt ≠ z.toInt → WP k h cells slots fp ls st) : WP k h cells slots pc ls (.int z :: .int x :: st) :=
  WP.icmp K tp fp hd ht hf (fun q => wt (by rw [h_eq] at q; exact of_decide_eq_true q)) (fun q => wf (by rw [h_eq] at q; have q := of_decide_eq_false q; omega))
theorem WP.if_eq (K : Ok k l Z n0 rm bytes maxL y ret Q) {o : Int} {x : Int32} (tp fp : Nat) (hd : decode bytes pc = .ok (.ifCond .eq o, 3)) (ht : (pc : Int) + o = tp) (hf : pc + 3 = fp)
    (wt : x.toInt = 0 → WP k h cells slots tp ls st) (wf : x.toInt ≠ 0 → WP k h cells slots fp ls st) : WP k h cells slots pc ls (.int x :: st) :=
  WP.if0 K tp fp hd ht hf (fun q => wt (by rw [RoadKit.if0, h_eq] at q; exact of_decide_eq_true q)) (fun q => wf (by rw [RoadKit.if0, h_eq] at q; have q := of_decide_eq_false q; rw [show (0 : Int32).toInt = 0 from rfl] at q; omega))
theorem WP.ifl_eq (K : Ok k l Z n0 rm bytes maxL y ret Q) {o : Int} {x z : Int64} (tp fp : Nat) (hd : decode bytes pc = .ok (.ifCond .eq o, 3)) (ht : (pc : Int) + o = tp) (hf : pc + 3 = fp)
    (wt : x.toInt = z.toInt → WP k h cells slots tp ls st) (wf : x.toInt ≠ z.toInt → WP k h cells slots fp ls st) : WP k h cells slots pc ls (.int (XT.cmpL x z) :: st) := by
  refine WP.if0 K tp fp hd ht hf (fun q => ?_) (fun q => ?_)
  · refine wt ?_
    false_or_by_contra
    rename_i c
    rw [XT.ll_eq_f (by simp only [Int64.lt_iff_toInt_lt, ← Int64.toInt_inj]; omega)] at q; cases q
  · refine wf ?_
    false_or_by_contra
    rename_i c
    rw [XT.ll_eq_t (by simp only [Int64.lt_iff_toInt_lt, ← Int64.toInt_inj]; omega)] at q; cases q
theorem WP.icmp_ne (K : Ok k l Z n0 rm bytes maxL y ret Q) {o : Int} {x z : Int32} (tp fp : Nat) (hd : decode bytes pc = .ok (.if_icmp .ne o, 3)) (ht : (pc : Int) + o = tp) (hf : pc + 3 = fp)
    (wt : x.toInt ≠ z.toInt → WP k h cells slots tp ls st) (wf : x.toInt = z.toInt → WP k h cells slots fp ls st) : WP k h cells slots pc ls (.int z :: .int x :: st) :=
  WP.icmp K tp fp hd ht hf (fun q => wt (by rw [h_ne] at q; exact of_decide_eq_true q)) (fun q => wf (by rw [h_ne] at q; have q := of_decide_eq_false q; omega))
theorem WP.if_ne (K : Ok k l Z n0 rm bytes maxL y ret Q) {o : Int} {x : Int32} (tp fp : Nat) (hd : decode bytes pc = .ok (.ifCond .ne o, 3)) (ht : (pc : Int) + o = tp) (hf : pc + 3 = fp)
    (wt : x.toInt ≠ 0 → WP k h cells slots tp ls st) (wf : x.toInt = 0 → WP k h cells slots fp ls st) : WP k h cells slots pc ls (.int x :: st) :=
  WP.if0 K tp fp hd ht hf (fun q => wt (by rw [RoadKit.if0, h_ne] at q; exact of_decide_eq_true q)) (fun q => wf (by rw [RoadKit.if0, h_ne] at q; have q := of_decide_eq_false q; rw [show (0 : Int32).toInt = 0 from rfl] at q; omega))
theorem WP.ifl_ne (K : Ok k l Z n0 rm bytes maxL y ret Q) {o : Int} {x z : Int64} (tp fp : Nat) (hd : decode bytes pc = .ok (.ifCond .ne o, 3)) (ht : (pc : Int) + o = tp) (hf : pc + 3 = fp)
    (wt : x.toInt ≠ z.toInt → WP k h cells slots tp ls st) (wf : x.toInt = z.toInt → WP k h cells slots fp ls st) : WP k h cells slots pc ls (.int (XT.cmpL x z) :: st) := by
  refine WP.if0 K tp fp hd ht hf (fun q => ?_) (fun q => ?_)
  · refine wt ?_
    false_or_by_contra
    rename_i c
    rw [XT.ll_ne_f (by simp only [Int64.lt_iff_toInt_lt, ← Int64.toInt_inj]; omega)] at q; cases q
  · refine wf ?_
    false_or_by_contra
    rename_i c
    rw [XT.ll_ne_t (by simp only [Int64.lt_iff_toInt_lt, ← Int64.toInt_inj]; omega)] at q; cases q
theorem WP.ifnull_n (K : Ok k l Z n0 rm bytes maxL y ret Q) {o : Int} (tp : Nat) (hd : decode bytes pc = .ok (.ifnull o, 3)) (ht : (pc : Int) + o = tp) (w : WP k h cells slots tp ls st) : WP k h cells slots pc ls (.null :: st) :=
  w.plain fun T A t q => XS.ifnullYes A K.hx rfl (pc0 := pc) (pc' := tp) rfl (K.dec hd) rfl (by omega) (by omega) q
theorem WP.ifnull_r (K : Ok k l Z n0 rm bytes maxL y ret Q) {o : Int} {b : Addr} (fp : Nat) (hd : decode bytes pc = .ok (.ifnull o, 3)) (hf : pc + 3 = fp) (w : WP k h cells slots fp ls st) : WP k h cells slots pc ls (.ref b :: st) := by
  subst hf; exact w.plain fun T A t q => XS.ifnullNo A K.hx rfl (K.dec hd) rfl q
theorem WP.ifnonnull_r (K : Ok k l Z n0 rm bytes maxL y ret Q) {o : Int} {b : Addr} (tp : Nat) (hd : decode bytes pc = .ok (.ifnonnull o, 3)) (ht : (pc : Int) + o = tp) (w : WP k h cells slots tp ls st) : WP k h cells slots pc ls (.ref b :: st) :=
  w.plain fun T A t q => XT.ifnonnullYes A K.hx rfl (pc0 := pc) (pc' := tp) rfl (K.dec hd) rfl (by omega) (by omega) q
theorem WP.ifnonnull_n (K : Ok k l Z n0 rm bytes maxL y ret Q) {o : Int} (fp : Nat) (hd : decode bytes pc = .ok (.ifnonnull o, 3)) (hf : pc + 3 = fp) (w : WP k h cells slots fp ls st) : WP k h cells slots pc ls (.null :: st) := by
  subst hf; exact w.plain fun T A t q => XT.ifnonnullNo A K.hx rfl (K.dec hd) rfl q
theorem WP.acmp_eq (K : Ok k l Z n0 rm bytes maxL y ret Q) {o : Int} {x z : Value} (tp fp : Nat) (hd : decode bytes pc = .ok (.if_acmp .eq o, 3)) (ht : (pc : Int) + o = tp) (hf : pc + 3 = fp) (hx : x.isRef = true) (hz : z.isRef = true)
    (wt : x = z → WP k h cells slots tp ls st) (wf : x ≠ z → WP k h cells slots fp ls st) : WP k h cells slots pc ls (z :: x :: st) := by
  subst hf
  by_cases c : x = z
  · exact (wt c).plain fun T A t q => XT.acmpYes A K.hx rfl (pc0 := pc) (pc' := tp) rfl (K.dec hd) rfl hx hz (XT.aa_eq_t c) (by omega) (by omega) q
  · exact (wf c).plain fun T A t q => XT.acmpNo A K.hx rfl (K.dec hd) rfl hx hz (XT.aa_eq_f c) q
theorem WP.acmp_ne (K : Ok k l Z n0 rm bytes maxL y ret Q) {o : Int} {x z : Value} (tp fp : Nat) (hd : decode bytes pc = .ok (.if_acmp .ne o, 3)) (ht : (pc : Int) + o = tp) (hf : pc + 3 = fp) (hx : x.isRef = true) (hz : z.isRef = true)
    (wt : x ≠ z → WP k h cells slots tp ls st) (wf : x = z → WP k h cells slots fp ls st) : WP k h cells slots pc ls (z :: x :: st) := by
  subst hf
  by_cases c : x = z
  · exact (wf c).plain fun T A t q => XT.acmpNo A K.hx rfl (K.dec hd) rfl hx hz (XT.aa_ne_f c) q
  · exact (wt c).plain fun T A t q => XT.acmpYes A K.hx rfl (pc0 := pc) (pc' := tp) rfl (K.dec hd) rfl hx hz (XT.aa_ne_t c) (by omega) (by omega) q
theorem WP.tsw (K : Ok k l Z n0 rm bytes maxL y ret Q) {d lo hi : Int} {offs : Array Int} {len : Nat} {i : Int32} (dp : Nat) (hd : decode bytes pc = .ok (.tableswitch d lo hi offs, len)) (hdp : (pc : Int) + d = dp)
    (win : ∀ j o, i.toInt = lo + (j : Nat) → i.toInt ≤ hi → offs[j]? = some o → 0 ≤ (pc : Int) + o ∧ WP k h cells slots ((pc : Int) + o).toNat ls st) (hsz : hi - lo < offs.size) (wout : i.toInt < lo ∨ hi < i.toInt → WP k h cells slots dp ls st) : WP k h cells slots pc ls (.int i :: st) := by
  by_cases c : i.toInt < lo ∨ i.toInt > hi
  · exact (wout c).plain fun T A t q => XS.tswOut A K.hx rfl (pc0 := pc) (pc' := dp) rfl (K.dec hd) rfl c (by omega) (by omega) q
  · have hj : (i.toInt - lo).toNat < offs.size := by omega
    obtain ⟨h0, w⟩ := win (i.toInt - lo).toNat _ (by omega) (by omega) (Array.getElem?_eq_getElem hj)
    exact w.plain fun T A t q => XS.tswIn A K.hx rfl (pc0 := pc) rfl (K.dec hd) rfl c (Array.getElem?_eq_getElem hj) h0 rfl q
theorem WP.ldcI (K : Ok k l Z n0 rm bytes maxL y ret Q) {a0 : Array Value} {i : Nat} {v : Int32} (pc' : Nat) (hw : (Jvm.Cond.constant y.cls i v).before a0 Z = true) (hd : decode bytes pc = .ok (.ldc i, 2)) (hp : pc + 2 = pc') (w : WP k h cells slots pc' ls (.int v :: st)) : WP k h cells slots pc ls st := by
  subst hp; exact fun T locs X e N => End.back (fun t q => Stand.ldcI X K.hx K.hown (mvT K.hZ hw) rfl (K.dec hd) q) (w T locs X e N)
theorem WP.ldcWI (K : Ok k l Z n0 rm bytes maxL y ret Q) {a0 : Array Value} {i : Nat} {v : Int32} (pc' : Nat) (hw : (Jvm.Cond.constant y.cls i v).before a0 Z = true) (hd : decode bytes pc = .ok (.ldc_w i, 3)) (hp : pc + 3 = pc') (w : WP k h cells slots pc' ls (.int v :: st)) : WP k h cells slots pc ls st := by
  subst hp; exact fun T locs X e N => End.back (fun t q => Stand.ldcWI X K.hx K.hown (mvT K.hZ hw) rfl (K.dec hd) q) (w T locs X e N)
theorem WP.ldc2J (K : Ok k l Z n0 rm bytes maxL y ret Q) {a0 : Array Value} {i : Nat} {v : Int64} (pc' : Nat) (hw : (Jvm.Cond.constantLong y.cls i v).before a0 Z = true) (hd : decode bytes pc = .ok (.ldc2_w i, 3)) (hp : pc + 3 = pc') (w : WP k h cells slots pc' ls (.long v :: st)) : WP k h cells slots pc ls st := by
  subst hp; exact fun T locs X e N => End.back (fun t q => Stand.ldc2J X K.hx K.hown (mvT K.hZ hw) rfl (K.dec hd) q) (w T locs X e N)
theorem WP.leave (K : Ok k l Z n0 rm bytes maxL y ret Q) (v : Option Value) (hv : k.meth.sig.returnType = none → v = none) (hq : Q v h) (hc : cells ≤ rm.cells) (hs : slots ≤ rm.slots)
    (st' : ∀ (T : State) (locs : List Loc), k.St T locs cells slots → ∀ fs, (∀ (f : JFrame) (acts : List Action), f.method = k.m → f.locked = none → f.entered = [] → (doReturn k.e (T.setTop f) acts v).1 = T.setFrames fs) → Steps k.p.tables k.e k.below (T.setTop (mkF k.m pc ls.toArray st)) (T.setFrames fs)) : WP k h cells slots pc ls st := by
  intro T locs X e N
  obtain ⟨fs, hr, hrun, hended, hW, hsame⟩ := Stand.leave X (v := v) hv K.hlk
  have hq' : Q v (T.setFrames fs).heap := by show Q v T.heap; rw [e]; exact hq
  refine ⟨_, _, st' T locs X fs hr, hrun, hended, v, locs, rfl, ⟨K.hQ _ _ hq', N⟩, K.hfin v _ locs hq' ⟨⟨_, rfl⟩, hW, hsame.mono (by rw [K.hR]; exact hc) (by rw [K.hR]; exact hs)⟩⟩
theorem WP.retV (K : Ok k l Z n0 rm bytes maxL y ret Q) (hr : ret = none) (hd : decode bytes pc = .ok (.return_, 1)) (hq : Q none h) (hc : cells ≤ rm.cells) (hs : slots ≤ rm.slots) : WP k h cells slots pc ls [] :=
  WP.leave K none (fun _ => rfl) hq hc hs fun T locs X fs hl => Stand.returnOut X K.hx (K.hret.trans hr) (K.dec hd) hl
theorem WP.iret (K : Ok k l Z n0 rm bytes maxL y ret Q) {z : Int32} {t : FieldType} (hr : ret = some t) (ht : t = .int ∨ t = .boolean ∨ t = .byte ∨ t = .char ∨ t = .short) (hn : narrow t (.int z) = .int z) (hd : decode bytes pc = .ok (.ireturn, 1)) (hq : Q (some (.int z)) h) (hc : cells ≤ rm.cells) (hs : slots ≤ rm.slots) : WP k h cells slots pc ls (.int z :: st) :=
  WP.leave K (some (.int z)) (fun q => by rw [K.hret, hr] at q; cases q) hq hc hs fun T locs X fs hl => RoadKit.retOut X K.hx (K.hret.trans hr) hn (Or.inl ⟨rfl, ht, z, rfl⟩) (K.dec hd) hl
theorem WP.lret (K : Ok k l Z n0 rm bytes maxL y ret Q) {z : Int64} (hr : ret = some .long) (hd : decode bytes pc = .ok (.lreturn, 1)) (hq : Q (some (.long z)) h) (hc : cells ≤ rm.cells) (hs : slots ≤ rm.slots) : WP k h cells slots pc ls (.long z :: st) :=
  WP.leave K (some (.long z)) (fun q => by rw [K.hret, hr] at q; cases q) hq hc hs fun T locs X fs hl => RoadKit.retOut X K.hx (K.hret.trans hr) rfl (Or.inr (Or.inl ⟨rfl, rfl, z, rfl⟩)) (K.dec hd) hl
theorem WP.aret (K : Ok k l Z n0 rm bytes maxL y ret Q) {v : Value} {t : FieldType} (hr : ret = some t) (ht : t.isReference = true) (hn : narrow t v = v) (hv : v.isRef = true) (hd : decode bytes pc = .ok (.areturn, 1)) (hq : Q (some v) h) (hc : cells ≤ rm.cells) (hs : slots ≤ rm.slots) : WP k h cells slots pc ls (v :: st) :=
  WP.leave K (some v) (fun q => by rw [K.hret, hr] at q; cases q) hq hc hs fun T locs X fs hl => RoadKit.retOut X K.hx (K.hret.trans hr) hn (Or.inr (Or.inr (Or.inr (Or.inr ⟨rfl, ht, hv⟩)))) (K.dec hd) hl
theorem nar_bit {z : Int32} (q : z = 0 ∨ z = 1) : narrow .boolean (.int z) = .int z := by rcases q with rfl | rfl <;> rfl
end Plain
section HeapSteps
variable {k : Cx} {l : Launch} {Z : State} {n0 : Nat} {rm : Room} {bytes : ByteArray} {maxL : Nat} {y : MethodName} {ret : Option FieldType} {Q : Option Value → Heap → Prop} {h h' : Heap} {cells slots pc : Nat} {ls : List Slot} {st : List Value} {a0 : Array Value} {a b : Addr}
theorem ne_addr {a b : Nat} (h : a ≠ b) : @Ne Addr a b := h
theorem nm0 {a : Nat} (h : (0 : Nat) = 0) : a ∉ ([] : List Addr) := List.not_mem_nil
theorem ks0 {n : Nat} {ws : List Addr} : ∀ x ∈ ([] : List Addr), x ∈ ws ∨ n ≤ x := fun x hx => absurd hx List.not_mem_nil
theorem nm1 {a b : Nat} (h : a ≠ b) : a ∉ ([b] : List Addr) := by intro q; exact h (List.mem_singleton.mp q)
theorem nm2 {a b c : Nat} (h : a ≠ b ∧ a ≠ c) : a ∉ ([b, c] : List Addr) := by
  intro q
  rcases List.mem_cons.mp q with q | q
  · exact h.1 q
  · exact h.2 (List.mem_singleton.mp q)
theorem ks1 {b n : Nat} {ws : List Addr} (h : b ∈ ws ∨ n ≤ b) : ∀ x ∈ ([b] : List Addr), x ∈ ws ∨ n ≤ x := fun x hx => by cases List.mem_singleton.mp hx; exact h
theorem ks2 {b c n : Nat} {ws : List Addr} (h : b ∈ ws ∨ n ≤ b) (h' : c ∈ ws ∨ n ≤ c) : ∀ x ∈ ([b, c] : List Addr), x ∈ ws ∨ n ≤ x := fun x hx => by
  rcases List.mem_cons.mp hx with q | q
  · rw [q]; exact h
  · cases List.mem_singleton.mp q; exact h'
theorem ext_keep (E : Ext h h') (ws : List Addr) : Keep h h' ws := (Keep.refl h ws).ext E
theorem keep_sub {ws ws' : List Addr} (K : Keep h h' ws) (q : ∀ x ∈ ws, x ∈ ws') : Keep h h' ws' := ⟨K.1, fun x c e r => K.2.1 x c e fun z => r (q x z), K.2.2⟩
theorem keep_trans {h'' : Heap} {ws : List Addr} (K : Keep h h' ws) (K' : Keep h' h'' ws) : Keep h h'' ws := K.trans K' fun x hx => Or.inl hx
theorem WP.getfield (K : Ok k l Z n0 rm bytes maxL y ret Q) {i : Nat} {R0 O n d host : String} {v : Value} (pc' : Nat) (hw : (Jvm.Cond.fieldLink y.cls i R0 n d).before a0 Z = true ∨ (Jvm.Cond.fieldLinkNest y.cls i R0 n d host).before a0 Z = true) (via : Via Z R0 O n d) (F : Fld Z h a O n d v) (hd : decode bytes pc = .ok (.getfield i, 3)) (hp : pc + 3 = pc')
    (w : WP k h cells slots pc' ls (v :: st)) : WP k h cells slots pc ls (.ref a :: st) := by
  subst hp
  intro T locs X e N
  obtain ⟨T', X', e', stp⟩ := getF X K.hx K.hZ K.hown hw via e F (g := mkF k.m pc ls.toArray (.ref a :: st)) rfl rfl (K.dec hd)
  exact End.back stp (w T' locs X' e' N)
theorem WP.getstatic (K : Ok k l Z n0 rm bytes maxL y ret Q) {i : Nat} {R0 O n d : String} {v : Value} (pc' : Nat) (hw : (Jvm.Cond.fieldLink y.cls i R0 n d).before a0 Z = true) (via : Via Z R0 O n d) (F : Sta Z h O n d v) (hd : decode bytes pc = .ok (.getstatic i, 3)) (hp : pc + 3 = pc')
    (w : WP k h cells slots pc' ls (v :: st)) : WP k h cells slots pc ls st := by
  subst hp
  intro T locs X e N
  obtain ⟨T', X', e', stp⟩ := getS X K.hx K.hZ K.hown (host := "") hw via e F (g := mkF k.m pc ls.toArray st) rfl (K.dec hd)
  exact End.back stp (w T' locs X' e' N)
theorem WP.putfield (K : Ok k l Z n0 rm bytes maxL y ret Q) {i kk : Nat} {R0 O n d host C : String} {v old : Value} {ty : FieldType} (pc' : Nat) (hw : (Jvm.Cond.fieldLink y.cls i R0 n d).before a0 Z = true ∨ (Jvm.Cond.fieldLinkNest y.cls i R0 n d host).before a0 Z = true) (via : Via Z R0 O n d) (F : Fld Z h a O n d old) (E : Exa Z h a C)
    (L : (Jvm.Cond.lays C O n d).before a0 Z = true ∨ ((Jvm.Cond.laysFinal C O n d).before a0 Z = true ∧ y.cls = O ∧ y.name = "<init>")) (wi : (Jvm.Cond.instantiable C kk).before a0 Z = true)
    (hty : parseFieldDescriptor d = some ty) (hn : narrow ty v = v) (hf : fits ty v = true) (hd : decode bytes pc = .ok (.putfield i, 3)) (hp : pc + 3 = pc') (ha : n0 ≤ a)
    (w : ∀ h', Wr h h' a (RoadKit.slotOf Z O n d) v → WP k h' cells slots pc' ls st) : WP k h cells slots pc ls (v :: .ref a :: st) := by
  subst hp
  intro T locs X e N
  obtain ⟨T', h', X', e', W', stp⟩ := putF X K.hx K.hZ K.hown hw via e F E (L.imp id fun q => ⟨q.1, q.2.1, by rw [K.hnm]; exact q.2.2⟩) wi hty hn hf (g := mkF k.m pc ls.toArray (v :: .ref a :: st)) rfl rfl (K.dec hd)
  exact End.back stp (w h' W' T' _ X' e' (Fr.snoc X' N (by rw [K.hn0]; exact ha)))
theorem WP.new (K : Ok k l Z n0 rm bytes maxL y ret Q) {i n : Nat} {C : String} (pc' cells' slots' : Nat) (h1 : (Jvm.Cond.classLink y.cls i C).before a0 Z = true) (h2 : (Jvm.Cond.instantiable C n).before a0 Z = true) (h3 : (Jvm.Cond.initialized C).before a0 Z = true) (hd : decode bytes pc = .ok (.new i, 3)) (hp : pc + 3 = pc')
    (hc : cells + 1 = cells') (hs : slots + n = slots') (hc' : cells' ≤ rm.cells) (hs' : slots' ≤ rm.slots)
    (w : ∀ h' a, a = h.size → Ext h h' → Exa Z h' a C → (∀ {O nm d : String} {ty : FieldType}, Laid Z a0 C O nm d → parseFieldDescriptor d = some ty → Fld Z h' a O nm d (defaultValue ty)) → WP k h' cells' slots' pc' ls (.ref a :: st)) : WP k h cells slots pc ls st := by
  subst hp hc hs
  intro T locs X e N
  obtain ⟨T', h', X', e', E', A', D', -, stp⟩ := newO X K.hx K.hZ K.hown h1 h2 h3 e (g := mkF k.m pc ls.toArray st) rfl (K.dec hd) (by rw [K.hR]; exact hc') (by rw [K.hR]; exact hs')
  exact End.back stp (w h' _ rfl E' A' D' T' locs X' e' N)
/-- Object.<init> -/
theorem WP.initO (K : Ok k l Z n0 rm bytes maxL y ret Q) {i : Nat} (pc' W : Nat) (h1 : (Jvm.Cond.methodLink y.cls i Lib.objectInit).before a0 Z = true) (h2 : (Jvm.Cond.instanceMethod Lib.objectInit).before a0 Z = true) (h3 : (Jvm.Cond.code Lib.objectInit ⟨#[0xb1]⟩ 1 none).before a0 Z = true) (hd : decode bytes pc = .ok (.invokespecial i, 3)) (hp : pc + 3 = pc')
    (hsz : ls.length = maxL) (hf : 1 ≤ rm.frames) (hW : (st.map fun v => v.category).sum ≤ W) (hl : W + 12 ≤ rm.locals) (w : WP k h cells slots pc' ls st) : WP k h cells slots pc ls (.ref a :: st) := by
  subst hp
  intro T locs X e N
  obtain ⟨T', X', e', stp⟩ := RoadKit.initO X K.hx K.hZ K.hown h1 h2 h3 e (g := mkF k.m pc ls.toArray (.ref a :: st)) rfl (by rw [K.hml]; simpa using hsz) rfl (K.dec hd) (by rw [K.hR]; exact hf) (W := W) (by show 2 * 0 + _ ≤ _; omega) (by rw [K.hR]; exact hl)
  exact End.back stp (w T' locs X' e' N)
/-! arrays -/
def ArV (Z : State) (h : Heap) (a : Addr) (ty : FieldType) (vs : List Value) : Prop := ∃ c : Cell, Arr Z h a c ty ∧ c.slots.toList = vs ∧ vs.length < 2 ^ 31 ∧ ∀ v ∈ vs, fits ty v = true
def ArI (Z : State) (h : Heap) (a : Addr) (xs : List Int32) : Prop := ArV Z h a .int (xs.map Value.int)
def ArJ (Z : State) (h : Heap) (a : Addr) (xs : List Int64) : Prop := ArV Z h a .long (xs.map Value.long)
def ArB (Z : State) (h : Heap) (a : Addr) (xs : List Int8) : Prop := ArV Z h a .byte (xs.map fun x => Value.int x.toInt32)
variable {ty : FieldType} {vs : List Value}
theorem ArV.lt (A : ArV Z h a ty vs) : a < h.size := by obtain ⟨c, A, -⟩ := A; exact A.lt
theorem ArV.keep {ws : List Addr} (A : ArV Z h a ty vs) (K : Keep h h' ws) (q : a ∉ ws) : ArV Z h' a ty vs := by
  obtain ⟨c, A, r⟩ := A
  exact ⟨c, ⟨K.2.1 a c A.1 q, A.2⟩, r⟩
theorem ArV.ext (A : ArV Z h a ty vs) (E : Ext h h') : ArV Z h' a ty vs := by
  obtain ⟨c, A, r⟩ := A
  exact ⟨c, A.ext E, r⟩
theorem ArV.set {i : Nat} {v : Value} (A : ArV Z h a ty vs) (W : Wr h h' a i v) (hf : fits ty v = true) : ArV Z h' a ty (vs.set i v) := by
  obtain ⟨c, A, q1, q2, q3⟩ := A
  refine ⟨c.setSlot i v, A.same W, ?_, by simpa using q2, fun u hu => ?_⟩
  · simp [Cell.setSlot, q1]
  · rcases List.mem_or_eq_of_mem_set hu with z | rfl
    · exact q3 u z
    · exact hf
theorem ArV.other {i : Nat} {v : Value} (A : ArV Z h a ty vs) (W : Wr h h' b i v) (q : a ≠ b) : ArV Z h' a ty vs := by
  obtain ⟨c, A, r⟩ := A
  exact ⟨c, A.other W q, r⟩
theorem ArV.new {cA : ClassId} {n : Int32} {m : Nat} (A : Arr Z h a (newA cA ty n) ty) (hn : n.toInt = (m : Nat)) (hf : fits ty (defaultValue ty) = true) : ArV Z h a ty (List.replicate m (defaultValue ty)) := by
  have e : n.toNatClampNeg = m := by simp only [Int32.toNatClampNeg]; omega
  refine ⟨_, A, ?_, ?_, fun v hv => ?_⟩
  · simp [newA, e]
  · have := n.toInt_lt; simp; omega
  · rw [List.eq_of_mem_replicate hv]; exact hf
theorem idx_ok {j : Int32} {i n : Nat} (hj : j.toInt = (i : Nat)) (hi : i < n) : ¬ (j < 0 ∨ n ≤ j.toNatClampNeg) ∧ j.toNatClampNeg = i := by
  have e : j.toNatClampNeg = i := by simp only [Int32.toNatClampNeg]; omega
  refine ⟨?_, e⟩
  rw [e, Int32.lt_iff_toInt_lt, show (0 : Int32).toInt = 0 from rfl]; omega
theorem size_eq {z : Int32} {n : Nat} (hz : z.toInt = (n : Nat)) : n.toInt32 = z := by
  have e : n = z.toNatClampNeg := by simp only [Int32.toNatClampNeg]; omega
  have := (back32 (n := z) (by rw [Int32.lt_iff_toInt_lt, show (0 : Int32).toInt = 0 from rfl]; omega)).1
  rw [← e] at this; exact this
theorem ArV.parts {i : Nat} {v : Value} (A : ArV Z h a ty vs) (hv : vs[i]? = some v) : ∃ c : Cell, Arr Z h a c ty ∧ i < c.slots.size ∧ c.slots[i]? = some v := by
  obtain ⟨c, A, q1, -⟩ := A
  have : i < vs.length := (List.getElem?_eq_some_iff.mp hv).1
  refine ⟨c, A, ?_, ?_⟩
  · rw [← q1] at this; simpa using this
  · rw [← q1] at hv; simpa using hv
theorem WP.arraylength (K : Ok k l Z n0 rm bytes maxL y ret Q) (z : Int32) (pc' : Nat) (A : ArV Z h a ty vs) (hz : z.toInt = (vs.length : Nat)) (hd : decode bytes pc = .ok (.arraylength, 1)) (hp : pc + 1 = pc') (w : WP k h cells slots pc' ls (.int z :: st)) : WP k h cells slots pc ls (.ref a :: st) := by
  subst hp
  intro T locs X e N
  obtain ⟨c, A, q1, -⟩ := A
  have es : c.slots.size.toInt32 = z := size_eq (by rw [hz, ← q1]; simp)
  refine End.back (fun t q => ?_) (w T locs X e N)
  exact Stand.arraylength X K.hx (cell := c) (by rw [e]; exact A.1) (State.isArrayOf_alike K.hZ.alike A.2.1) (g := mkF k.m pc ls.toArray (.ref a :: st)) rfl rfl (K.dec hd) _ (by rw [es]; exact q)
theorem WP.iaload (K : Ok k l Z n0 rm bytes maxL y ret Q) {xs : List Int32} {j x : Int32} (pc' i : Nat) (A : ArI Z h a xs) (hj : j.toInt = (i : Nat)) (hx : xs[i]? = some x) (hd : decode bytes pc = .ok (.iaload, 1)) (hp : pc + 1 = pc') (w : WP k h cells slots pc' ls (.int x :: st)) : WP k h cells slots pc ls (.int j :: .ref a :: st) := by
  subst hp
  intro T locs X e N
  obtain ⟨c, A, q1, q2⟩ := ArV.parts A (i := i) (v := .int x) (by simp [hx])
  obtain ⟨r1, r2⟩ := idx_ok hj q1
  refine End.back (fun t q => ?_) (w T locs X e N)
  exact Stand.iaload X K.hx (j := j) (v := .int x) (by rw [e]; exact A.1) (State.isArrayOf_alike K.hZ.alike A.2.1) A.2.2 r1 (by rw [r2]; exact q2) (g := mkF k.m pc ls.toArray (.int j :: .ref a :: st)) rfl rfl (K.dec hd) _ q
theorem WP.laload (K : Ok k l Z n0 rm bytes maxL y ret Q) {xs : List Int64} {j : Int32} {x : Int64} (pc' i : Nat) (A : ArJ Z h a xs) (hj : j.toInt = (i : Nat)) (hx : xs[i]? = some x) (hd : decode bytes pc = .ok (.laload, 1)) (hp : pc + 1 = pc') (w : WP k h cells slots pc' ls (.long x :: st)) : WP k h cells slots pc ls (.int j :: .ref a :: st) := by
  subst hp
  intro T locs X e N
  obtain ⟨c, A, q1, q2⟩ := ArV.parts A (i := i) (v := .long x) (by simp [hx])
  obtain ⟨r1, r2⟩ := idx_ok hj q1
  refine End.back (fun t q => ?_) (w T locs X e N)
  exact Stand.laload X K.hx (j := j) (v := .long x) (by rw [e]; exact A.1) (State.isArrayOf_alike K.hZ.alike A.2.1) A.2.2 r1 (by rw [r2]; exact q2) (g := mkF k.m pc ls.toArray (.int j :: .ref a :: st)) rfl rfl (K.dec hd) _ q
theorem WP.baload (K : Ok k l Z n0 rm bytes maxL y ret Q) {xs : List Int8} {j : Int32} {x : Int8} (pc' i : Nat) (A : ArB Z h a xs) (hj : j.toInt = (i : Nat)) (hx : xs[i]? = some x) (hd : decode bytes pc = .ok (.baload, 1)) (hp : pc + 1 = pc') (w : WP k h cells slots pc' ls (.int x.toInt32 :: st)) : WP k h cells slots pc ls (.int j :: .ref a :: st) := by
  subst hp
  intro T locs X e N
  obtain ⟨c, A, q1, q2⟩ := ArV.parts A (i := i) (v := .int x.toInt32) (by simp [hx])
  obtain ⟨r1, r2⟩ := idx_ok hj q1
  refine End.back (fun t q => ?_) (w T locs X e N)
  exact Stand.baloadBytes X K.hx (j := j) (v := .int x.toInt32) (by rw [e]; exact A.1) (State.isArrayOf_alike K.hZ.alike A.2.1) A.2.2 r1 (by rw [r2]; exact q2) (g := mkF k.m pc ls.toArray (.int j :: .ref a :: st)) rfl rfl (K.dec hd) _ q
theorem WP.aaload (K : Ok k l Z n0 rm bytes maxL y ret Q) {j : Int32} {x : Value} (pc' i : Nat) (A : ArV Z h a ty vs) (hty : ty.isReference = true) (hj : j.toInt = (i : Nat)) (hx : vs[i]? = some x) (hd : decode bytes pc = .ok (.aaload, 1)) (hp : pc + 1 = pc') (w : WP k h cells slots pc' ls (x :: st)) : WP k h cells slots pc ls (.int j :: .ref a :: st) := by
  subst hp
  intro T locs X e N
  obtain ⟨c, A, q1, q2⟩ := ArV.parts A (i := i) hx
  obtain ⟨r1, r2⟩ := idx_ok hj q1
  refine End.back (fun t q => ?_) (w T locs X e N)
  exact Stand.aaload X K.hx (j := j) (v := x) (by rw [e]; exact A.1) (State.isArrayOf_alike K.hZ.alike A.2.1) hty A.2.2 r1 (by rw [r2]; exact q2) (g := mkF k.m pc ls.toArray (.int j :: .ref a :: st)) rfl rfl (K.dec hd) _ q
theorem WP.iastore (K : Ok k l Z n0 rm bytes maxL y ret Q) {xs : List Int32} {j x : Int32} (pc' i : Nat) (A : ArI Z h a xs) (hj : j.toInt = (i : Nat)) (hi : i < xs.length) (hd : decode bytes pc = .ok (.iastore, 1)) (hp : pc + 1 = pc') (ha : n0 ≤ a)
    (w : ∀ h', Keep h h' [a] → ArI Z h' a (xs.set i x) → WP k h' cells slots pc' ls st) : WP k h cells slots pc ls (.int x :: .int j :: .ref a :: st) := by
  subst hp
  intro T locs X e N
  have A0 := A
  obtain ⟨c, A', q1, -⟩ := A
  obtain ⟨r1, r2⟩ := idx_ok hj (show i < c.slots.size by have := congrArg List.length q1; simp at this; omega)
  obtain ⟨T', h', X', e', W', stp⟩ := stI X K.hx K.hZ e A' r1 (x := x) (g := mkF k.m pc ls.toArray (.int x :: .int j :: .ref a :: st)) rfl rfl (K.dec hd)
  rw [r2] at W'
  have A2 := ArV.set A0 W' rfl
  rw [← List.map_set] at A2
  exact End.back stp (w h' (Keep.of_wr W') A2 T' _ X' e' (Fr.snoc X' N (by rw [K.hn0]; exact ha)))
theorem WP.lastore (K : Ok k l Z n0 rm bytes maxL y ret Q) {xs : List Int64} {j : Int32} {x : Int64} (pc' i : Nat) (A : ArJ Z h a xs) (hj : j.toInt = (i : Nat)) (hi : i < xs.length) (hd : decode bytes pc = .ok (.lastore, 1)) (hp : pc + 1 = pc') (ha : n0 ≤ a)
    (w : ∀ h', Keep h h' [a] → ArJ Z h' a (xs.set i x) → WP k h' cells slots pc' ls st) : WP k h cells slots pc ls (.long x :: .int j :: .ref a :: st) := by
  subst hp
  intro T locs X e N
  have A0 := A
  obtain ⟨c, A', q1, -⟩ := A
  obtain ⟨r1, r2⟩ := idx_ok hj (show i < c.slots.size by have := congrArg List.length q1; simp at this; omega)
  obtain ⟨T', h', X', e', W', stp⟩ := stJ X K.hx K.hZ e A' r1 (x := x) (g := mkF k.m pc ls.toArray (.long x :: .int j :: .ref a :: st)) rfl rfl (K.dec hd)
  rw [r2] at W'
  have A2 := ArV.set A0 W' rfl
  rw [← List.map_set] at A2
  exact End.back stp (w h' (Keep.of_wr W') A2 T' _ X' e' (Fr.snoc X' N (by rw [K.hn0]; exact ha)))
theorem WP.bastore (K : Ok k l Z n0 rm bytes maxL y ret Q) {xs : List Int8} {j x : Int32} (pc' i : Nat) (A : ArB Z h a xs) (hj : j.toInt = (i : Nat)) (hi : i < xs.length) (hd : decode bytes pc = .ok (.bastore, 1)) (hp : pc + 1 = pc') (ha : n0 ≤ a)
    (w : ∀ h', Keep h h' [a] → ArB Z h' a (xs.set i x.toInt8) → WP k h' cells slots pc' ls st) : WP k h cells slots pc ls (.int x :: .int j :: .ref a :: st) := by
  subst hp
  intro T locs X e N
  have A0 := A
  obtain ⟨c, A', q1, -⟩ := A
  obtain ⟨r1, r2⟩ := idx_ok hj (show i < c.slots.size by have := congrArg List.length q1; simp at this; omega)
  obtain ⟨T', h', X', e', W', stp⟩ := stB X K.hx K.hZ e A' r1 (x := x) (g := mkF k.m pc ls.toArray (.int x :: .int j :: .ref a :: st)) rfl rfl (K.dec hd)
  rw [r2] at W'
  have A2 : ArB Z h' a (xs.set i x.toInt8) := by
    have := ArV.set A0 W' (fits_nar_byte x)
    rw [show Value.int (nar .byte x) = (fun z : Int8 => Value.int z.toInt32) x.toInt8 from rfl, ← List.map_set] at this
    exact this
  exact End.back stp (w h' (Keep.of_wr W') A2 T' _ X' e' (Fr.snoc X' N (by rw [K.hn0]; exact ha)))
theorem WP.newarray (K : Ok k l Z n0 rm bytes maxL y ret Q) {aty : ArrayType} {n : Int32} (pc' m cap cells' slots' : Nat) (hw : (Jvm.Cond.arrayClass (newarray.typeOf aty)).before a0 Z = true) (hd : decode bytes pc = .ok (.newarray aty, 2)) (hp : pc + 2 = pc') (hn : n.toInt = (m : Nat)) (hcap : m ≤ cap) (hb : cap * 8 ≤ 536870912)
    (hc : cells + 1 = cells') (hs : slots + cap = slots') (hc' : cells' ≤ rm.cells) (hs' : slots' ≤ rm.slots)
    (w : ∀ h' a, a = h.size → Ext h h' → ArV Z h' a (newarray.typeOf aty) (List.replicate m (defaultValue (newarray.typeOf aty))) → WP k h' cells' slots' pc' ls (.ref a :: st)) : WP k h cells slots pc ls (.int n :: st) := by
  subst hp hc hs
  intro T locs X e N
  have hn' : ¬ n < 0 := by rw [Int32.lt_iff_toInt_lt, show (0 : Int32).toInt = 0 from rfl]; omega
  obtain ⟨T', h', cA, X', e', E', A', stp⟩ := newP X K.hx K.hZ hw e (g := mkF k.m pc ls.toArray (.int n :: st)) rfl (K.dec hd) rfl hn' (cap := cap) (by simp only [Int32.toNatClampNeg]; omega) hb (by rw [K.hR]; exact hc') (by rw [K.hR]; exact hs')
  exact End.back stp (w h' _ rfl E' (ArV.new A' hn (by cases aty <;> rfl)) T' locs X' e' N)
theorem WP.newarrayE (K : Ok k l Z n0 rm bytes maxL y ret Q) {aty : ArrayType} {n : Int32} {ad : String} (pc' m cap cells' slots' : Nat) (hw : (Jvm.Cond.arrayClass (newarray.typeOf aty)).before a0 Z = true) (hd : decode bytes pc = .ok (.newarray aty, 2)) (hp : pc + 2 = pc') (hn : n.toInt = (m : Nat)) (hcap : m ≤ cap) (hb : cap * 8 ≤ 536870912)
    (hc : cells + 1 = cells') (hs : slots + cap = slots') (hc' : cells' ≤ rm.cells) (hs' : slots' ≤ rm.slots) (had : "[" ++ (newarray.typeOf aty).toString = ad)
    (w : ∀ h' a, a = h.size → Ext h h' → ArV Z h' a (newarray.typeOf aty) (List.replicate m (defaultValue (newarray.typeOf aty))) → Exa Z h' a ad → WP k h' cells' slots' pc' ls (.ref a :: st)) : WP k h cells slots pc ls (.int n :: st) := by
  subst hp hc hs
  intro T locs X e N
  have hn' : ¬ n < 0 := by rw [Int32.lt_iff_toInt_lt, show (0 : Int32).toInt = 0 from rfl]; omega
  obtain ⟨T', h', cA, X', e', E', A', XA, stp⟩ := newPE X K.hx K.hZ hw e (g := mkF k.m pc ls.toArray (.int n :: st)) rfl (K.dec hd) rfl hn' (cap := cap) (by simp only [Int32.toNatClampNeg]; omega) hb (by rw [K.hR]; exact hc') (by rw [K.hR]; exact hs') had
  exact End.back stp (w h' _ rfl E' (ArV.new A' hn (by cases aty <;> rfl)) XA T' locs X' e' N)
/-! arrays of references -/
def ArR (Z : State) (h : Heap) (a : Addr) (ty : FieldType) (C : String) (vs : List Value) : Prop := ∃ c : Cell, Arr Z h a c ty ∧ c.slots.toList = vs ∧ vs.length < 2 ^ 31 ∧ (∀ v ∈ vs, fits ty v = true) ∧ ∃ (kk : Class) (comp : ClassId) (t : FieldType), Z.vm.classes[c.cls]? = some kk ∧ kk.kind = .array comp t ∧ Z.vm.findClass C = some comp
variable {C : String}
theorem ArR.v (A : ArR Z h a ty C vs) : ArV Z h a ty vs := by obtain ⟨c, q1, q2, q3, q4, -⟩ := A; exact ⟨c, q1, q2, q3, q4⟩
theorem ArR.lt (A : ArR Z h a ty C vs) : a < h.size := A.v.lt
theorem ArR.len (A : ArR Z h a ty C vs) : vs.length < 2 ^ 31 := by obtain ⟨c, -, -, q, -⟩ := A; exact q
theorem ArR.keep {ws : List Addr} (A : ArR Z h a ty C vs) (K : Keep h h' ws) (q : a ∉ ws) : ArR Z h' a ty C vs := by
  obtain ⟨c, A, r⟩ := A
  exact ⟨c, ⟨K.2.1 a c A.1 q, A.2⟩, r⟩
theorem ArR.ext (A : ArR Z h a ty C vs) (E : Ext h h') : ArR Z h' a ty C vs := by
  obtain ⟨c, A, r⟩ := A
  exact ⟨c, A.ext E, r⟩
theorem ArR.other {i : Nat} {v : Value} (A : ArR Z h a ty C vs) (W : Wr h h' b i v) (q : a ≠ b) : ArR Z h' a ty C vs := by
  obtain ⟨c, A, r⟩ := A
  exact ⟨c, A.other W q, r⟩
theorem ArR.sto {x : Addr} (A : ArR Z h a ty C vs) (I : Ins Z h x C true) : Sto Z h a (.ref x) := by
  obtain ⟨c, A, -, -, -, kk, comp, t, o1, o2, o3⟩ := A
  obtain ⟨cv, cT, i1, i2, i3⟩ := I
  cases o3.symm.trans i2
  simp only [Bool.and_eq_true, Bool.not_eq_true'] at i3
  obtain ⟨kc, q⟩ := Vm.classAt_of_findClass o3
  obtain ⟨kv, q2⟩ := Vm.classAt_of_assignable i3.2 ⟨kc, q⟩
  exact Or.inr ⟨c, cv, kk, kv, kc, _, _, x, A.1, o1, o2, q, rfl, i1, i3.1, q2, i3.2⟩
theorem WP.aastore (K : Ok k l Z n0 rm bytes maxL y ret Q) {j : Int32} {v : Value} (pc' i : Nat) (A : ArR Z h a ty C vs) (hty : ty.isReference = true) (F : Sto Z h a v) (hf : fits ty v = true) (hj : j.toInt = (i : Nat)) (hi : i < vs.length) (hd : decode bytes pc = .ok (.aastore, 1)) (hp : pc + 1 = pc') (ha : n0 ≤ a)
    (w : ∀ h', Keep h h' [a] → ArR Z h' a ty C (vs.set i v) → WP k h' cells slots pc' ls st) : WP k h cells slots pc ls (v :: .int j :: .ref a :: st) := by
  subst hp
  intro T locs X e N
  obtain ⟨c, A', q1, q2, q3, q4⟩ := A
  obtain ⟨r1, r2⟩ := idx_ok hj (show i < c.slots.size by have := congrArg List.length q1; simp at this; omega)
  obtain ⟨T', h', X', e', W', stp⟩ := stR X K.hx K.hZ e A' r1 hty F (g := mkF k.m pc ls.toArray (v :: .int j :: .ref a :: st)) rfl rfl (K.dec hd)
  rw [r2] at W'
  have A2 : ArR Z h' a ty C (vs.set i v) := by
    refine ⟨c.setSlot i v, A'.same W', by simp [Cell.setSlot, q1], by simpa using q2, fun u hu => ?_, q4⟩
    rcases List.mem_or_eq_of_mem_set hu with z | rfl
    · exact q3 u z
    · exact hf
  exact End.back stp (w h' (Keep.of_wr W') A2 T' _ X' e' (Fr.snoc X' N (by rw [K.hn0]; exact ha)))
theorem new_ref {cA : ClassId} {n : Int32} {m : Nat} (A : Arr Z h a (newA cA ty n) ty) (hr : ty.isReference = true) (hn : n.toInt = (m : Nat)) (O : ∃ (kk : Class) (comp : ClassId) (t : FieldType), Z.vm.classes[cA]? = some kk ∧ kk.kind = .array comp t ∧ Z.vm.findClass C = some comp) : ArR Z h a ty C (List.replicate m .null) := by
  have e : n.toNatClampNeg = m := by simp only [Int32.toNatClampNeg]; omega
  have d : defaultValue ty = .null := by cases ty <;> simp [FieldType.isReference] at hr <;> rfl
  refine ⟨_, A, ?_, ?_, fun v hv => ?_, O⟩
  · simp [newA, e, d]
  · have := n.toInt_lt; simp; omega
  · rw [List.eq_of_mem_replicate hv]; cases ty <;> simp [FieldType.isReference] at hr <;> rfl
theorem WP.anewarrayA (K : Ok k l Z n0 rm bytes maxL y ret Q) {i : Nat} {et : FieldType} {n : Int32} (pc' m cap cells' slots' : Nat) (hC : (FieldType.array et).toString = C) (h1 : (Jvm.Cond.classLink y.cls i C).before a0 Z = true) (h2 : (Jvm.Cond.arrayOver (.array et)).before a0 Z = true) (hd : decode bytes pc = .ok (.anewarray i, 3)) (hp : pc + 3 = pc') (hn : n.toInt = (m : Nat)) (hcap : m ≤ cap) (hb : cap * 8 ≤ 536870912)
    (hc : cells + 1 = cells') (hs : slots + cap = slots') (hc' : cells' ≤ rm.cells) (hs' : slots' ≤ rm.slots)
    (w : ∀ h' a, a = h.size → Ext h h' → ArR Z h' a (.array et) C (List.replicate m .null) → WP k h' cells' slots' pc' ls (.ref a :: st)) : WP k h cells slots pc ls (.int n :: st) := by
  subst hp hc hs
  intro T locs X e N
  have hn' : ¬ n < 0 := by rw [Int32.lt_iff_toInt_lt, show (0 : Int32).toInt = 0 from rfl]; omega
  obtain ⟨T', h', cA, X', e', E', A', -, O, stp⟩ := newRA X K.hx K.hZ K.hown hC h1 h2 e (g := mkF k.m pc ls.toArray (.int n :: st)) rfl (K.dec hd) rfl hn' (cap := cap) (by simp only [Int32.toNatClampNeg]; omega) hb (by rw [K.hR]; exact hc') (by rw [K.hR]; exact hs') (ad := "[" ++ C) rfl
  obtain ⟨kk, comp, o1, o2, o3⟩ := O
  exact End.back stp (w h' _ rfl E' (new_ref A' rfl hn ⟨kk, comp, _, o1, o2, o3⟩) T' locs X' e' N)
theorem WP.anewarrayO (K : Ok k l Z n0 rm bytes maxL y ret Q) {i : Nat} {n : Int32} (pc' m cap cells' slots' : Nat) (h1 : (Jvm.Cond.classLink y.cls i C).before a0 Z = true) (h2 : (Jvm.Cond.arrayOver (.object C)).before a0 Z = true) (hd : decode bytes pc = .ok (.anewarray i, 3)) (hp : pc + 3 = pc') (hn : n.toInt = (m : Nat)) (hcap : m ≤ cap) (hb : cap * 8 ≤ 536870912)
    (hc : cells + 1 = cells') (hs : slots + cap = slots') (hc' : cells' ≤ rm.cells) (hs' : slots' ≤ rm.slots)
    (w : ∀ h' a, a = h.size → Ext h h' → ArR Z h' a (.object C) C (List.replicate m .null) → WP k h' cells' slots' pc' ls (.ref a :: st)) : WP k h cells slots pc ls (.int n :: st) := by
  subst hp hc hs
  intro T locs X e N
  have hn' : ¬ n < 0 := by rw [Int32.lt_iff_toInt_lt, show (0 : Int32).toInt = 0 from rfl]; omega
  obtain ⟨T', h', cA, X', e', E', A', O, stp⟩ := newR X K.hx K.hZ K.hown h1 h2 e (g := mkF k.m pc ls.toArray (.int n :: st)) rfl (K.dec hd) rfl hn' (cap := cap) (by simp only [Int32.toNatClampNeg]; omega) hb (by rw [K.hR]; exact hc') (by rw [K.hR]; exact hs')
  obtain ⟨kk, comp, o1, o2, o3⟩ := O
  exact End.back stp (w h' _ rfl E' (new_ref A' rfl hn ⟨kk, comp, _, o1, o2, o3⟩) T' locs X' e' N)
theorem ArI.of_new {m : Nat} (A : ArV Z h a (newarray.typeOf .int) (List.replicate m (defaultValue (newarray.typeOf .int)))) : ArI Z h a (List.replicate m 0) := by
  unfold ArI; rw [List.map_replicate]; exact A
theorem ArJ.of_new {m : Nat} (A : ArV Z h a (newarray.typeOf .long) (List.replicate m (defaultValue (newarray.typeOf .long)))) : ArJ Z h a (List.replicate m 0) := by
  unfold ArJ; rw [List.map_replicate]; exact A
theorem ArB.of_new {m : Nat} (A : ArV Z h a (newarray.typeOf .byte) (List.replicate m (defaultValue (newarray.typeOf .byte)))) : ArB Z h a (List.replicate m 0) := by
  unfold ArB; rw [List.map_replicate]; exact A
theorem ArI.len {xs : List Int32} (A : ArI Z h a xs) : xs.length < 2 ^ 31 := by obtain ⟨c, -, -, q, -⟩ := A; simpa using q
theorem ArJ.len {xs : List Int64} (A : ArJ Z h a xs) : xs.length < 2 ^ 31 := by obtain ⟨c, -, -, q, -⟩ := A; simpa using q
theorem ArB.len {xs : List Int8} (A : ArB Z h a xs) : xs.length < 2 ^ 31 := by obtain ⟨c, -, -, q, -⟩ := A; simpa using q
theorem ArI.lt {xs : List Int32} (A : ArI Z h a xs) : a < h.size := ArV.lt A
theorem ArI.keep {xs : List Int32} {ws : List Addr} (A : ArI Z h a xs) (K : Keep h h' ws) (q : a ∉ ws) : ArI Z h' a xs := ArV.keep A K q
theorem ArI.ext {xs : List Int32} (A : ArI Z h a xs) (E : Ext h h') : ArI Z h' a xs := ArV.ext A E
theorem ArI.other {xs : List Int32} {i : Nat} {v : Value} (A : ArI Z h a xs) (W : Wr h h' b i v) (q : a ≠ b) : ArI Z h' a xs := ArV.other A W q
theorem ArJ.lt {xs : List Int64} (A : ArJ Z h a xs) : a < h.size := ArV.lt A
theorem ArJ.keep {xs : List Int64} {ws : List Addr} (A : ArJ Z h a xs) (K : Keep h h' ws) (q : a ∉ ws) : ArJ Z h' a xs := ArV.keep A K q
theorem ArJ.ext {xs : List Int64} (A : ArJ Z h a xs) (E : Ext h h') : ArJ Z h' a xs := ArV.ext A E
theorem ArJ.other {xs : List Int64} {i : Nat} {v : Value} (A : ArJ Z h a xs) (W : Wr h h' b i v) (q : a ≠ b) : ArJ Z h' a xs := ArV.other A W q
theorem ArB.lt {xs : List Int8} (A : ArB Z h a xs) : a < h.size := ArV.lt A
theorem ArB.keep {xs : List Int8} {ws : List Addr} (A : ArB Z h a xs) (K : Keep h h' ws) (q : a ∉ ws) : ArB Z h' a xs := ArV.keep A K q
theorem ArB.ext {xs : List Int8} (A : ArB Z h a xs) (E : Ext h h') : ArB Z h' a xs := ArV.ext A E
theorem ArB.other {xs : List Int8} {i : Nat} {v : Value} (A : ArB Z h a xs) (W : Wr h h' b i v) (q : a ≠ b) : ArB Z h' a xs := ArV.other A W q
/-! calls by contract -/
theorem WP.callS (K : Ok k l Z n0 rm bytes maxL y ret Q) {i maxL' : Nat} {y' : MethodName} {bytes' : ByteArray} {ret' : Option FieldType} {rm' : Room} {as : Array Value} {Q' : Option Value → Heap → Prop} {ps : List FieldType} {rt : Option FieldType} (pc' cells' slots' W : Nat) (argsL rest : List Value)
    (h1 : (Jvm.Cond.methodLink y.cls i y').before a0 Z = true) (h2 : (Jvm.Cond.static y').before a0 Z = true) (h3 : (Jvm.Cond.initialized y'.cls).before a0 Z = true) (h4 : (Jvm.Cond.code y' bytes' maxL' ret').before a0 Z = true)
    (hy : y'.cls ≠ "java/lang/invoke/MethodHandle" ∧ y'.cls ≠ "java/lang/invoke/VarHandle") (hpd : parseMethodDescriptor y'.desc = some ⟨ps, rt⟩) (hlen : argsL.length = ps.length) (has : argsL.toArray = as) (hst : argsL.reverse ++ rest = st)
    (hf : rm'.frames + 1 ≤ rm.frames) (hl : W + (maxL' + 11) + rm'.locals ≤ rm.locals) (hW : (rest.map fun v => v.category).sum ≤ W) (hsz : ls.length = maxL) (hd : decode bytes pc = .ok (.invokestatic i, 3)) (hp : pc + 3 = pc')
    (hc : cells + rm'.cells = cells') (hs : slots + rm'.slots = slots') (hc' : cells' ≤ rm.cells) (hs' : slots' ≤ rm.slots) (C : Con l Z y' bytes' maxL' ret' rm' n0 as h Q')
    (w : ∀ v h', Q' v h' → WP k h' cells' slots' pc' ls (v.toList ++ rest)) : WP k h cells slots pc ls st := by
  subst hp hc hs hst has
  obtain ⟨hx, hZ, rfl, hby, hml, hown, hret, hlk, hnm, rfl, rfl, rfl, hQ0, hfin⟩ := K
  intro T locs X e N
  obtain ⟨v, vm1, ⟨T', L', k', n'⟩, -, X', ⟨Lc, ⟨hQ, hN⟩, l', y'', z'⟩, stp⟩ := Jvm.LawKit.callS X hx hown (mvT hZ h1) (mvT hZ h2) (mvT hZ h3) (mvT hZ h4) hy (backOf (W := W) (Q := fun v h L => Q' v h ∧ Fr k.n0 L) (C []) hZ h4 h3 hf hl) (g := mkF k.m pc ls.toArray (argsL.reverse ++ rest)) rfl (by rw [hml]; simpa using hsz) (lenOf hpd hlen) rfl (by show 2 * 0 + _ ≤ _; omega) (hb hby hd) (fun _ _ => ⟨rfl, e, hc', hs'⟩)
  dsimp only [Pt.U, Pt.locs, Pt.cells, Pt.slots] at X' l' y'' z' stp hQ
  subst l' y'' z'
  exact End.back stp (w v _ hQ T' _ X' rfl (Fr.app N hN))
theorem WP.callI (K : Ok k l Z n0 rm bytes maxL y ret Q) {i maxL' : Nat} {y' : MethodName} {bytes' : ByteArray} {rm' : Room} {as : Array Value} {Q' : Option Value → Heap → Prop} {ps : List FieldType} {rt : Option FieldType} (pc' cells' slots' W : Nat) (argsL rest : List Value)
    (h1 : (Jvm.Cond.methodLink y.cls i y').before a0 Z = true) (h2 : (Jvm.Cond.instanceMethod y').before a0 Z = true) (h3 : (Jvm.Cond.initialized y'.cls).before a0 Z = true) (h4 : (Jvm.Cond.code y' bytes' maxL' none).before a0 Z = true) (hy1 : y'.name = "<init>")
    (hy : y'.cls ≠ "java/lang/invoke/MethodHandle" ∧ y'.cls ≠ "java/lang/invoke/VarHandle") (hpd : parseMethodDescriptor y'.desc = some ⟨ps, rt⟩) (hlen : argsL.length = ps.length) (has : (.ref a :: argsL).toArray = as) (hst : argsL.reverse ++ .ref a :: rest = st)
    (hf : rm'.frames + 1 ≤ rm.frames) (hl : W + (maxL' + 11) + rm'.locals ≤ rm.locals) (hW : (rest.map fun v => v.category).sum ≤ W) (hsz : ls.length = maxL) (hd : decode bytes pc = .ok (.invokespecial i, 3)) (hp : pc + 3 = pc')
    (hc : cells + rm'.cells = cells') (hs : slots + rm'.slots = slots') (hc' : cells' ≤ rm.cells) (hs' : slots' ≤ rm.slots) (C : Con l Z y' bytes' maxL' none rm' n0 as h Q')
    (w : ∀ v h', Q' v h' → WP k h' cells' slots' pc' ls (v.toList ++ rest)) : WP k h cells slots pc ls st := by
  subst hp hc hs hst has
  obtain ⟨hx, hZ, rfl, hby, hml, hown, hret, hlk, hnm, rfl, rfl, rfl, hQ0, hfin⟩ := K
  intro T locs X e N
  obtain ⟨v, vm1, ⟨T', L', k', n'⟩, -, X', ⟨Lc, ⟨hQ, hN⟩, l', y'', z'⟩, stp⟩ := Stand.specialBack X hx hy1 hown (mvT hZ h1) (mvT hZ h2) (mvT hZ h4) hy (backOf (W := W) (Q := fun v h L => Q' v h ∧ Fr k.n0 L) (C []) hZ h4 h3 hf hl) (g := mkF k.m pc ls.toArray (argsL.reverse ++ .ref a :: rest)) rfl (by rw [hml]; simpa using hsz) (Steps.refl _) (a := a) (argsL := argsL) (rest := rest) (lenOf hpd hlen) rfl (by show 2 * 0 + _ ≤ _; omega) (hb hby hd) (fun _ _ => ⟨rfl, e, hc', hs'⟩)
  dsimp only [Pt.U, Pt.locs, Pt.cells, Pt.slots] at X' l' y'' z' stp hQ
  subst l' y'' z'
  exact End.back (fun t q => stp.trans q) (w v _ hQ T' _ X' rfl (Fr.app N hN))
theorem WP.callV (K : Ok k l Z n0 rm bytes maxL y ret Q) {i maxL' : Nat} {y' z : MethodName} {C : String} {bytes' : ByteArray} {ret' : Option FieldType} {rm' : Room} {as : Array Value} {Q' : Option Value → Heap → Prop} {ps : List FieldType} {rt : Option FieldType} (pc' cells' slots' W : Nat) (argsL rest : List Value)
    (h1 : (Jvm.Cond.methodLink y.cls i y').before a0 Z = true) (h2 : (Jvm.Cond.declares y').before a0 Z = true) (hzy : z = y') (h5 : (Jvm.Cond.selects C y' z).before a0 Z = true) (h6 : (Jvm.Cond.instanceMethod z).before a0 Z = true) (h3 : (Jvm.Cond.initialized z.cls).before a0 Z = true) (h4 : (Jvm.Cond.code z bytes' maxL' ret').before a0 Z = true)
    (hy : y'.cls ≠ "java/lang/invoke/MethodHandle" ∧ y'.cls ≠ "java/lang/invoke/VarHandle") (hpd : parseMethodDescriptor y'.desc = some ⟨ps, rt⟩) (hlen : argsL.length = ps.length) (has : (.ref a :: argsL).toArray = as) (hst : argsL.reverse ++ .ref a :: rest = st)
    (hf : rm'.frames + 1 ≤ rm.frames) (hl : W + (maxL' + 11) + rm'.locals ≤ rm.locals) (hW : (rest.map fun v => v.category).sum ≤ W) (hsz : ls.length = maxL) (hd : decode bytes pc = .ok (.invokevirtual i, 3)) (hp : pc + 3 = pc')
    (hc : cells + rm'.cells = cells') (hs : slots + rm'.slots = slots') (hc' : cells' ≤ rm.cells) (hs' : slots' ≤ rm.slots) (E : Exa Z h a C) (Cn : Con l Z z bytes' maxL' ret' rm' n0 as h Q')
    (w : ∀ v h', Q' v h' → WP k h' cells' slots' pc' ls (v.toList ++ rest)) : WP k h cells slots pc ls st := by
  subst hzy hp hc hs hst has
  obtain ⟨hx, hZ, rfl, hby, hml, hown, hret, hlk, hnm, rfl, rfl, rfl, hQ0, hfin⟩ := K
  intro T locs X e N
  obtain ⟨cq, kq, qa, qb, qc⟩ := isOf hZ e E
  obtain ⟨v, vm1, ⟨T', L', k', n'⟩, -, X', ⟨Lc, ⟨hQ, hN⟩, l', y'', z'⟩, stp⟩ := Stand.virtualBack X hx hown (mvT hZ h1) (mvT hZ h2) (notFace_of_selects (args := #[]) (mvT hZ h5)) (mvT hZ h5) (mvT hZ h6) hy (backOf (W := W) (Q := fun v h L => Q' v h ∧ Fr k.n0 L) (Cn []) hZ h4 h3 hf hl) qa qc (g := mkF k.m pc ls.toArray (argsL.reverse ++ .ref a :: rest)) rfl (by rw [hml]; simpa using hsz) (Steps.refl _) (argsL := argsL) (rest := rest) (lenOf hpd hlen) rfl (by show 2 * 0 + _ ≤ _; omega) (hb hby hd) (fun _ _ => ⟨rfl, e, hc', hs'⟩)
  dsimp only [Pt.U, Pt.locs, Pt.cells, Pt.slots] at X' l' y'' z' stp hQ
  subst l' y'' z'
  exact End.back (fun t q => stp.trans q) (w v _ hQ T' _ X' rfl (Fr.app N hN))
theorem r1_next {Q' : Value → Heap → Prop} {cells' slots' pc' : Nat} {rest : List Value} (w : ∀ r h', Q' r h' → WP k h' cells' slots' pc' ls (r :: rest)) : ∀ v h', R1 Q' v h' → WP k h' cells' slots' pc' ls (v.toList ++ rest) := fun v h' q => by
  obtain ⟨r, rfl, q⟩ := q; exact w r h' q
theorem r0_next {Q' : Heap → Prop} {cells' slots' pc' : Nat} {rest : List Value} (w : ∀ h', Q' h' → WP k h' cells' slots' pc' ls rest) : ∀ v h', R0 Q' v h' → WP k h' cells' slots' pc' ls (v.toList ++ rest) := fun v h' q => by
  obtain ⟨rfl, q⟩ := q; exact w h' q
end HeapSteps
end Jvm.OwnWP
namespace Jvm.OwnWP
theorem i32_of {n : Nat} (h : n < 2 ^ 31) : ∃ z : Int32, z.toInt = (n : Nat) := ⟨Int32.ofNat n, Int32.toInt_ofNat_of_lt h⟩
theorem i32_rng (x : Int32) : -2147483648 ≤ x.toInt ∧ x.toInt < 2147483648 := ⟨x.le_toInt, x.toInt_lt⟩
theorem i64_rng (x : Int64) : -9223372036854775808 ≤ x.toInt ∧ x.toInt < 9223372036854775808 := ⟨x.le_toInt, x.toInt_lt⟩
theorem i32_add {x y : Int32} (h1 : -2147483648 ≤ x.toInt + y.toInt) (h2 : x.toInt + y.toInt < 2147483648) : (x + y).toInt = x.toInt + y.toInt := Jvm.Free.XT.add32 ⟨by omega, by omega⟩
theorem i32_sub {x y : Int32} (h1 : -2147483648 ≤ x.toInt - y.toInt) (h2 : x.toInt - y.toInt < 2147483648) : (x - y).toInt = x.toInt - y.toInt := Jvm.Free.XT.sub32 ⟨by omega, by omega⟩
theorem i64_add {x y : Int64} (h1 : -9223372036854775808 ≤ x.toInt + y.toInt) (h2 : x.toInt + y.toInt < 9223372036854775808) : (x + y).toInt = x.toInt + y.toInt := Jvm.Free.XT.add64 ⟨by omega, by omega⟩
theorem i64_sub {x y : Int64} (h1 : -9223372036854775808 ≤ x.toInt - y.toInt) (h2 : x.toInt - y.toInt < 9223372036854775808) : (x - y).toInt = x.toInt - y.toInt := Jvm.Free.XT.sub64 ⟨by omega, by omega⟩
theorem inc32 {x : Int32} {n : Nat} (h : x.toInt = (n : Nat)) (hn : n < 2147483647) : (x + (1 : Int32)).toInt = ((n + 1 : Nat) : Int) := by
  have e1 : (1 : Int32).toInt = 1 := rfl
  rw [i32_add (by omega) (by omega)]; omega
theorem i32_eq {x y : Int32} (h : x.toInt = y.toInt) : x = y := Int32.toInt_inj.mp h
theorem i64_eq {x y : Int64} (h : x.toInt = y.toInt) : x = y := Int64.toInt_inj.mp h
theorem ite01 (P : Prop) [Decidable P] : ∃ t : Int, (if P then (1 : Int) else 0) = t ∧ (P → t = 1) ∧ (¬ P → t = 0) := by
  by_cases h : P
  · exact ⟨1, by simp [h], fun _ => rfl, fun q => absurd h q⟩
  · exact ⟨0, by simp [h], fun q => absurd q h, fun _ => rfl⟩
theorem i32_mul {x y : Int32} (h1 : -2147483648 ≤ x.toInt * y.toInt) (h2 : x.toInt * y.toInt < 2147483648) : (x * y).toInt = x.toInt * y.toInt := Jvm.Free.XT.mul32 ⟨by omega, by omega⟩
theorem st1 {ls : List Slot} {i : Nat} {o : Slot} {v : Value} (h : ls[i]? = some o) (ho : Jvm.RoadKit.One o) (hv : v.category = 1) : storeLocals ls.toArray i v = some (ls.set i (.val v)).toArray := by
  rw [Jvm.Free.XS.store1 (o := o) (by simpa using h) ho hv]; simp
theorem ushr1 {x : Int32} (h : 0 ≤ x.toInt) : (Jvm.Free.XT.ushr x 1).toInt = x.toInt / 2 := by
  have := Jvm.RoadKit.c_iushr x 1 1 rfl (by decide)
  have r := i32_rng x
  unfold Jvm.Free.XT.ushr
  rw [this]; omega
def min32 (x y : Int32) : Int32 := if x.toInt ≤ y.toInt then x else y
def max32 (x y : Int32) : Int32 := if x.toInt ≤ y.toInt then y else x
theorem min32_spec (x y : Int32) : (x.toInt ≤ y.toInt → (min32 x y).toInt = x.toInt) ∧ (y.toInt < x.toInt → (min32 x y).toInt = y.toInt) := by
  unfold min32; split <;> constructor <;> intro <;> first | rfl | omega
theorem max32_spec (x y : Int32) : (x.toInt ≤ y.toInt → (max32 x y).toInt = y.toInt) ∧ (y.toInt < x.toInt → (max32 x y).toInt = x.toInt) := by
  unfold max32; split <;> constructor <;> intro <;> first | rfl | omega
def min64 (x y : Int64) : Int64 := if x.toInt ≤ y.toInt then x else y
def max64 (x y : Int64) : Int64 := if x.toInt ≤ y.toInt then y else x
theorem min64_spec (x y : Int64) : (x.toInt ≤ y.toInt → (min64 x y).toInt = x.toInt) ∧ (y.toInt < x.toInt → (min64 x y).toInt = y.toInt) := by
  unfold min64; split <;> constructor <;> intro <;> first | rfl | omega
theorem max64_spec (x y : Int64) : (x.toInt ≤ y.toInt → (max64 x y).toInt = y.toInt) ∧ (y.toInt < x.toInt → (max64 x y).toInt = x.toInt) := by
  unfold max64; split <;> constructor <;> intro <;> first | rfl | omega
end Jvm.OwnWP
namespace Jvm.OwnWP
open Sem ClassFile Op Lib Jvm.Stand Jvm.Free Jvm.LawKit Jvm.RoadKit
theorem pop2L_step {tb : Tables} [Ours tb] {e : Env} {below : List Frame} {T target : State} {m : MethodId} {c : Code} {g : JFrame} (h : At T m c below) (hx : tb.exec = Jvm.exec) (hg : g.method = m) {x : Int64} {rest : List Value} (hd : decode c.code g.pc = .ok (.pop2, 1)) (hs : g.stack = .long x :: rest)
    (hr : Steps tb e below (T.setTop { g with pc := g.pc + 1, stack := rest }) target) : Steps tb e below (T.setTop g) target := by
  subst hg
  have hc : (Value.long x).category = 2 := rfl
  jvm_step h [h.top, hx, hd, Op.pop2.wp_sem, hs, hc]
  exact hr
section More
variable {k : Cx} {l : Launch} {Z : State} {n0 : Nat} {rm : Room} {bytes : ByteArray} {maxL : Nat} {y : MethodName} {ret : Option FieldType} {Q : Option Value → Heap → Prop} {h h' : Heap} {cells slots pc : Nat} {ls : List Slot} {st : List Value} {a0 : Array Value} {a b : Addr}
theorem WP.callP (K : Ok k l Z n0 rm bytes maxL y ret Q) {i maxL' : Nat} {y' : MethodName} {C : String} {bytes' : ByteArray} {ret' : Option FieldType} {rm' : Room} {as : Array Value} {Q' : Option Value → Heap → Prop} {ps : List FieldType} {rt : Option FieldType} (pc' cells' slots' W : Nat) (argsL rest : List Value)
    (h1 : (Jvm.Cond.methodLink y.cls i y').before a0 Z = true) (h2 : (Jvm.Cond.instanceMethod y').before a0 Z = true) {C0 : String} {u0 u : MethodName} (hu : u.cls = y'.cls) (h5 : (Jvm.Cond.selects C0 u0 u).before a0 Z = true) (h6 : (Jvm.Cond.privateMethod y').before a0 Z = true) (h3 : (Jvm.Cond.initialized y'.cls).before a0 Z = true) (h4 : (Jvm.Cond.code y' bytes' maxL' ret').before a0 Z = true)
    (hy : y'.cls ≠ "java/lang/invoke/MethodHandle" ∧ y'.cls ≠ "java/lang/invoke/VarHandle") (hpd : parseMethodDescriptor y'.desc = some ⟨ps, rt⟩) (hlen : argsL.length = ps.length) (has : (.ref a :: argsL).toArray = as) (hst : argsL.reverse ++ .ref a :: rest = st)
    (hf : rm'.frames + 1 ≤ rm.frames) (hl : W + (maxL' + 11) + rm'.locals ≤ rm.locals) (hW : (rest.map fun v => v.category).sum ≤ W) (hsz : ls.length = maxL) (hd : decode bytes pc = .ok (.invokevirtual i, 3)) (hp : pc + 3 = pc')
    (hc : cells + rm'.cells = cells') (hs : slots + rm'.slots = slots') (hc' : cells' ≤ rm.cells) (hs' : slots' ≤ rm.slots) (E : Exa Z h a C) (Cn : Con l Z y' bytes' maxL' ret' rm' n0 as h Q')
    (w : ∀ v h', Q' v h' → WP k h' cells' slots' pc' ls (v.toList ++ rest)) : WP k h cells slots pc ls st := by
  subst hp hc hs hst has
  obtain ⟨hx, hZ, rfl, hby, hml, hown, hret, hlk, hnm, rfl, rfl, rfl, hQ0, hfin⟩ := K
  intro T locs X e N
  obtain ⟨cq, qc, qo⟩ := E.cell
  have hsel : (Jvm.Cond.selects y'.cls y' y').before k.args k.s = true := by
    obtain ⟨-, -, mm, -, -, q3, -, kP, hkP, hkPi⟩ := Cond.selects_spec (mvT hZ h5 (args := k.args))
    exact Stand.selects_self_of_private (by rw [← hu]; exact findClass_of_methodNamed q3) hkP hkPi (Cond.privateMethod_at (mvP hZ h6 (args := #[]))) (mvT hZ h2) hy
  obtain ⟨v, vm1, ⟨T', L', k', n'⟩, -, X', ⟨Lc, ⟨hQ, hN⟩, l', y'', z'⟩, stp⟩ := Stand.privateBack X hx hown (mvT hZ h1) (mvT hZ h2) hsel (Cond.privateMethod_at (mvP hZ h6 (args := #[]))) (mvT hZ h4) hy (backOf (W := W) (Q := fun v h L => Q' v h ∧ Fr k.n0 L) (Cn []) hZ h4 h3 hf hl) (g := mkF k.m pc ls.toArray (argsL.reverse ++ .ref a :: rest)) rfl (by rw [hml]; simpa using hsz) (Steps.refl _) (a := a) (by rw [e]; exact qc) qo (argsL := argsL) (rest := rest) (lenOf hpd hlen) rfl (by show 2 * 0 + _ ≤ _; omega) (hb hby hd) (fun _ _ => ⟨rfl, e, hc', hs'⟩)
  dsimp only [Pt.U, Pt.locs, Pt.cells, Pt.slots] at X' l' y'' z' stp hQ
  subst l' y'' z'
  exact End.back (fun t q => stp.trans q) (w v _ hQ T' _ X' rfl (Fr.app N hN))
theorem WP.callF (K : Ok k l Z n0 rm bytes maxL y ret Q) {i cnt maxL' : Nat} {y' z : MethodName} {C : String} {bytes' : ByteArray} {ret' : Option FieldType} {rm' : Room} {as : Array Value} {Q' : Option Value → Heap → Prop} {ps : List FieldType} {rt : Option FieldType} (pc' cells' slots' W : Nat) (argsL rest : List Value)
    (h1 : (Jvm.Cond.methodLink y.cls i y').before a0 Z = true) (h2 : (Jvm.Cond.declares y').before a0 Z = true) (h7 : (Jvm.Cond.interfaceMethod y'.cls y'.cls y'.name y'.desc).before a0 Z = true) (hfa : ((Jvm.Cond.interfaceMethod y'.cls y'.cls y'.name y'.desc).onTables && (Jvm.Cond.interfaceMethod y'.cls y'.cls y'.name y'.desc).keepsFace) = true) (h5 : (Jvm.Cond.selects C y' z).before a0 Z = true) (h6 : (Jvm.Cond.instanceMethod z).before a0 Z = true)
    (h8 : (Jvm.Cond.publicMethod z).before a0 Z = true) (h9 : (Jvm.Cond.unhidden C y'.name y'.desc).before a0 Z = true) (h10 : (Jvm.Cond.castable C y'.cls).before a0 Z = true) (h3 : (Jvm.Cond.initialized z.cls).before a0 Z = true) (h4 : (Jvm.Cond.code z bytes' maxL' ret').before a0 Z = true)
    (hy : y'.cls ≠ "java/lang/invoke/MethodHandle" ∧ y'.cls ≠ "java/lang/invoke/VarHandle") (hpd : parseMethodDescriptor y'.desc = some ⟨ps, rt⟩) (hlen : argsL.length = ps.length) (has : (.ref a :: argsL).toArray = as) (hst : argsL.reverse ++ .ref a :: rest = st)
    (hf : rm'.frames + 1 ≤ rm.frames) (hl : W + (maxL' + 11) + rm'.locals ≤ rm.locals) (hW : (rest.map fun v => v.category).sum ≤ W) (hsz : ls.length = maxL) (hd : decode bytes pc = .ok (.invokeinterface i cnt, 5)) (hp : pc + 5 = pc')
    (hc : cells + rm'.cells = cells') (hs : slots + rm'.slots = slots') (hc' : cells' ≤ rm.cells) (hs' : slots' ≤ rm.slots) (E : Exa Z h a C) (Cn : Con l Z z bytes' maxL' ret' rm' n0 as h Q')
    (w : ∀ v h', Q' v h' → WP k h' cells' slots' pc' ls (v.toList ++ rest)) : WP k h cells slots pc ls st := by
  subst hp hc hs hst has
  obtain ⟨hx, hZ, rfl, hby, hml, hown, hret, hlk, hnm, rfl, rfl, rfl, hQ0, hfin⟩ := K
  intro T locs X e N
  obtain ⟨cq, kq, qa, qb, qc⟩ := isOf hZ e E
  obtain ⟨v, vm1, ⟨T', L', k', n'⟩, -, X', ⟨Lc, ⟨hQ, hN⟩, l', y'', z'⟩, stp⟩ := Stand.interfaceBack X hx hown (mvT hZ h1) (mvT hZ h2) (mvT hZ h7 hfa) (mvT hZ h5) (mvT hZ h6) (mvT hZ h8) (mvT hZ h9) (mvT hZ h10) hy (backOf (W := W) (Q := fun v h L => Q' v h ∧ Fr k.n0 L) (Cn []) hZ h4 h3 hf hl) qa qb qc (g := mkF k.m pc ls.toArray (argsL.reverse ++ .ref a :: rest)) rfl (by rw [hml]; simpa using hsz) (Steps.refl _) (argsL := argsL) (rest := rest) (lenOf hpd hlen) rfl (by show 2 * 0 + _ ≤ _; omega) (hb hby hd) (fun _ _ => ⟨rfl, e, hc', hs'⟩)
  dsimp only [Pt.U, Pt.locs, Pt.cells, Pt.slots] at X' l' y'' z' stp hQ
  subst l' y'' z'
  exact End.back (fun t q => stp.trans q) (w v _ hQ T' _ X' rfl (Fr.app N hN))
theorem WP.callSN (K : Ok k l Z n0 rm bytes maxL y ret Q) {i maxL' : Nat} {host : String} {y' : MethodName} {bytes' : ByteArray} {ret' : Option FieldType} {rm' : Room} {as : Array Value} {Q' : Option Value → Heap → Prop} {ps : List FieldType} {rt : Option FieldType} (pc' cells' slots' W : Nat) (argsL rest : List Value)
    (h1 : (Jvm.Cond.methodLinkNest y.cls i y' host).before a0 Z = true) (h2 : (Jvm.Cond.static y').before a0 Z = true) (h3 : (Jvm.Cond.initialized y'.cls).before a0 Z = true) (h4 : (Jvm.Cond.code y' bytes' maxL' ret').before a0 Z = true)
    (hy : y'.cls ≠ "java/lang/invoke/MethodHandle" ∧ y'.cls ≠ "java/lang/invoke/VarHandle") (hpd : parseMethodDescriptor y'.desc = some ⟨ps, rt⟩) (hlen : argsL.length = ps.length) (has : argsL.toArray = as) (hst : argsL.reverse ++ rest = st)
    (hf : rm'.frames + 1 ≤ rm.frames) (hl : W + (maxL' + 11) + rm'.locals ≤ rm.locals) (hW : (rest.map fun v => v.category).sum ≤ W) (hsz : ls.length = maxL) (hd : decode bytes pc = .ok (.invokestatic i, 3)) (hp : pc + 3 = pc')
    (hc : cells + rm'.cells = cells') (hs : slots + rm'.slots = slots') (hc' : cells' ≤ rm.cells) (hs' : slots' ≤ rm.slots) (C : Con l Z y' bytes' maxL' ret' rm' n0 as h Q')
    (w : ∀ v h', Q' v h' → WP k h' cells' slots' pc' ls (v.toList ++ rest)) : WP k h cells slots pc ls st := by
  subst hp hc hs hst has
  obtain ⟨hx, hZ, rfl, hby, hml, hown, hret, hlk, hnm, rfl, rfl, rfl, hQ0, hfin⟩ := K
  intro T locs X e N
  obtain ⟨v, vm1, ⟨T', L', k', n'⟩, -, X', ⟨Lc, ⟨hQ, hN⟩, l', y'', z'⟩, stp⟩ := RoadKit.callSN X hx hown (Cond.methodLinkNest_wide hZ h1 :) (mvT hZ h2) (mvT hZ h3) (mvT hZ h4) hy (backOf (W := W) (Q := fun v h L => Q' v h ∧ Fr k.n0 L) (C []) hZ h4 h3 hf hl) (g := mkF k.m pc ls.toArray (argsL.reverse ++ rest)) rfl (by rw [hml]; simpa using hsz) (lenOf hpd hlen) rfl (by show 2 * 0 + _ ≤ _; omega) (hb hby hd) (fun _ _ => ⟨rfl, e, hc', hs'⟩)
  dsimp only [Pt.U, Pt.locs, Pt.cells, Pt.slots] at X' l' y'' z' stp hQ
  subst l' y'' z'
  exact End.back (fun t q => stp.trans q) (w v _ hQ T' _ X' rfl (Fr.app N hN))
theorem WP.getstaticN (K : Ok k l Z n0 rm bytes maxL y ret Q) {i : Nat} {R0 O n d host : String} {v : Value} (pc' : Nat) (hw : (Jvm.Cond.fieldLinkNest y.cls i R0 n d host).before a0 Z = true) (via : Via Z R0 O n d) (F : Sta Z h O n d v) (hd : decode bytes pc = .ok (.getstatic i, 3)) (hp : pc + 3 = pc')
    (w : WP k h cells slots pc' ls (v :: st)) : WP k h cells slots pc ls st := by
  subst hp
  intro T locs X e N
  obtain ⟨T', X', e', stp⟩ := getS2 X K.hx K.hZ K.hown (Or.inr hw) via e F (g := mkF k.m pc ls.toArray st) rfl (K.dec hd)
  exact End.back stp (w T' locs X' e' N)
theorem WP.pop2L (K : Ok k l Z n0 rm bytes maxL y ret Q) {x : Int64} (pc' : Nat) (hd : decode bytes pc = .ok (.pop2, 1)) (hp : pc + 1 = pc') (w : WP k h cells slots pc' ls st) : WP k h cells slots pc ls (.long x :: st) := by
  subst hp; exact w.plain fun T A t q => pop2L_step A K.hx rfl (K.dec hd) rfl q
/-! System.arraycopy -/
variable {ty : FieldType} {vs : List Value}
theorem ArV.arv (A : ArV Z h a ty vs) (d : Value) : ∃ (kk : ClassId) (z : Int32), Arv Z h a kk ty z vs d ∧ z.toNatClampNeg = vs.length := by
  obtain ⟨c, A, q1, q2, q3⟩ := A
  have hz : (Int32.ofNat vs.length).toInt = (vs.length : Nat) := Int32.toInt_ofNat_of_lt q2
  have e : (Int32.ofNat vs.length).toNatClampNeg = vs.length := by simp only [Int32.toNatClampNeg]; omega
  have es : c.slots.size = vs.length := by rw [← q1]; simp
  have hg : ∀ i, i < c.slots.size → c.slots[i]? = some (vs.getD i d) := fun i hi => by
    rw [List.getD_eq_getElem?_getD, ← q1]; simp [hi]
  refine ⟨c.cls, Int32.ofNat vs.length, ⟨c, A, rfl, by rw [e, es], by rw [Int32.lt_iff_toInt_lt, show (0 : Int32).toInt = 0 from rfl]; omega, hg, fun i hi => ?_⟩, e⟩
  have := hg i hi
  refine q3 _ ?_
  obtain ⟨h1, h2⟩ := Array.getElem?_eq_some_iff.mp this
  rw [← h2, ← q1]; simp
theorem ArV.of_arv {kk : ClassId} {z : Int32} {d : Value} (B : Arv Z h a kk ty z vs d) (hl : z.toNatClampNeg = vs.length) : ArV Z h a ty vs := by
  obtain ⟨c, A, -, S, hz, H, G⟩ := B
  have es : c.slots.size = vs.length := by rw [S, hl]
  have hr := z.toInt_lt
  have e : c.slots.toList = vs := by
    apply List.ext_getElem?
    intro i
    by_cases q : i < vs.length
    · have := H i (by omega)
      rw [List.getD_eq_getElem?_getD, List.getElem?_eq_getElem q] at this
      rw [Array.getElem?_toList, this, List.getElem?_eq_getElem q]; rfl
    · rw [List.getElem?_eq_none (by simpa [es] using q), List.getElem?_eq_none (by omega)]
  refine ⟨c, A, e, by rw [← hl]; simp only [Int32.toNatClampNeg]; omega, fun v hv => ?_⟩
  obtain ⟨i, h1, h2⟩ := List.mem_iff_getElem.mp hv
  have := G i (by omega)
  rw [List.getD_eq_getElem?_getD, List.getElem?_eq_getElem h1] at this
  rw [← h2]; exact this
theorem seg_eq {α : Type} (xs : List α) (d : α) (s n : Nat) (h : s + n ≤ xs.length) : (List.range n).map (fun i => xs.getD (s + i) d) = (xs.drop s).take n := by
  apply List.ext_getElem?
  intro i
  by_cases q : i < n
  · rw [List.getElem?_map, List.getElem?_range q, List.getElem?_take_of_lt q, List.getElem?_drop, List.getElem?_eq_getElem (by omega)]
    simp [List.getD_eq_getElem?_getD, List.getElem?_eq_getElem (show s + i < xs.length by omega)]
  · rw [List.getElem?_eq_none (by simp; omega), List.getElem?_eq_none (by simp; omega)]
theorem WP.acopyV (K : Ok k l Z n0 rm bytes maxL y ret Q) {i : Nat} {xs ys : List Value} {sp dp nn : Int32} (pc' W s d n : Nat) (h1 : (Jvm.Cond.methodLink y.cls i Jvm.Stand.acN).before a0 Z = true) (h2 : (Jvm.Cond.native Jvm.Stand.acN).before a0 Z = true) (h3 : (Jvm.Cond.static Jvm.Stand.acN).before a0 Z = true) (h4 : (Jvm.Cond.initialized "java/lang/System").before a0 Z = true)
    (A : ArV Z h a ty xs) (B : ArV Z h b ty ys) (hty : refKind ty = false ∨ (refKind ty = true ∧ n = 0)) (hs : sp.toInt = (s : Nat)) (hdp : dp.toInt = (d : Nat)) (hn : nn.toInt = (n : Nat)) (hsn : s + n ≤ xs.length) (hdn : d + n ≤ ys.length) (ha : n0 ≤ b) (hsz : ls.length = maxL) (hf : 1 ≤ rm.frames)
    (hW : (st.map fun v => v.category).sum ≤ W) (hlo : W + (nativeFrameWords "java/lang/System" "arraycopy" 5 + 11) ≤ rm.locals) (hd : decode bytes pc = .ok (.invokestatic i, 3)) (hp : pc + 3 = pc')
    (w : ∀ h', Keep h h' [b] → ArV Z h' b ty (ys.take d ++ (xs.drop s).take n ++ ys.drop (d + n)) → WP k h' cells slots pc' ls st) : WP k h cells slots pc ls (.int nn :: .int dp :: .ref b :: .int sp :: .ref a :: st) := by
  subst hp
  obtain ⟨hx, hZ, rfl, hby, hml, hown, hret, hlk, hnm, rfl, rfl, rfl, hQ0, hfin⟩ := K
  intro T locs X e N
  obtain ⟨ka, za, Aa, ea⟩ := A.arv .null
  obtain ⟨kb, zb, Bb, eb⟩ := B.arv .null
  have neg : ∀ {x : Int32} {m : Nat}, x.toInt = (m : Nat) → ¬ x < 0 ∧ x.toNatClampNeg = m := fun {x m} q => ⟨by rw [Int32.lt_iff_toInt_lt, show (0 : Int32).toInt = 0 from rfl]; omega, by simp only [Int32.toNatClampNeg]; omega⟩
  obtain ⟨s1, s2⟩ := neg hs
  obtain ⟨d1, d2⟩ := neg hdp
  obtain ⟨n1, n2⟩ := neg hn
  obtain ⟨T', h', L', X', e', N', K', B', stp⟩ := cpA X hx hZ hown h1 h2 h3 h4 e Aa Bb (us := (xs.drop s).take n) (by rcases hty with q | ⟨q, rfl⟩; exact Or.inl ⟨rfl, q⟩; exact Or.inr ⟨q, q, by simp [StoL]⟩) s1 d1 n1 (by rw [s2, n2, ea]; exact hsn) (by rw [d2, n2, eb]; exact hdn) (by rw [s2, n2]; exact (seg_eq xs .null s n hsn).symm) (by rw [d2, n2]; exact hdn) N ha
    (g := mkF k.m pc ls.toArray (.int nn :: .int dp :: .ref b :: .int sp :: .ref a :: st)) rfl (by rw [hml]; simpa using hsz) rfl (hb hby hd) hf (W := W) (by show 2 * 0 + _ ≤ _; omega) hlo
  rw [d2, n2] at B'
  refine End.back stp (w h' K' (ArV.of_arv B' ?_) T' L' X' e' N')
  rw [eb]; simp only [List.length_append, List.length_take, List.length_drop]; omega
theorem WP.acopyB (K : Ok k l Z n0 rm bytes maxL y ret Q) {i : Nat} {xs ys : List Int8} {sp dp nn : Int32} (pc' W s d n : Nat) (h1 : (Jvm.Cond.methodLink y.cls i Jvm.Stand.acN).before a0 Z = true) (h2 : (Jvm.Cond.native Jvm.Stand.acN).before a0 Z = true) (h3 : (Jvm.Cond.static Jvm.Stand.acN).before a0 Z = true) (h4 : (Jvm.Cond.initialized "java/lang/System").before a0 Z = true)
    (A : ArB Z h a xs) (B : ArB Z h b ys) (hs : sp.toInt = (s : Nat)) (hdp : dp.toInt = (d : Nat)) (hn : nn.toInt = (n : Nat)) (hsn : s + n ≤ xs.length) (hdn : d + n ≤ ys.length) (ha : n0 ≤ b) (hsz : ls.length = maxL) (hf : 1 ≤ rm.frames)
    (hW : (st.map fun v => v.category).sum ≤ W) (hlo : W + (nativeFrameWords "java/lang/System" "arraycopy" 5 + 11) ≤ rm.locals) (hd : decode bytes pc = .ok (.invokestatic i, 3)) (hp : pc + 3 = pc')
    (w : ∀ h', Keep h h' [b] → ArB Z h' b (ys.take d ++ (xs.drop s).take n ++ ys.drop (d + n)) → WP k h' cells slots pc' ls st) : WP k h cells slots pc ls (.int nn :: .int dp :: .ref b :: .int sp :: .ref a :: st) :=
  WP.acopyV K pc' W s d n h1 h2 h3 h4 A B (Or.inl rfl) hs hdp hn (by simpa using hsn) (by simpa using hdn) ha hsz hf hW hlo hd hp fun h' K' B' => w h' K' (by unfold ArB; rw [List.map_append, List.map_append, List.map_take, List.map_take, List.map_drop, List.map_drop]; exact B')
end More
end Jvm.OwnWP
namespace Jvm.OwnWP
open Sem ClassFile Op Lib Jvm.Stand Jvm.Free Jvm.LawKit Jvm.RoadKit
/-- the context over another start -/
def Cx.re (k : Cx) (s1 : State) : Cx := (k.p, k.l, k.e, k.R, s1, k.m, k.args, k.below, k.meth, k.c, k.Z, k.n0, k.Q, k.Fin)
def OkW (k : Cx) (s0 : State) (k0 : Nat) (l : Launch) (Z : State) (n0 : Nat) (rm : Room) (bytes : ByteArray) (maxL : Nat) (y : MethodName) (ret : Option FieldType) (Q : Option Value → Heap → Prop) : Prop :=
  Ok k l Z n0 rm bytes maxL y ret (fun v h => Q v h ∧ k0 ≤ h.size) ∧ (∃ vm0, k.s = s0.setVm vm0 ∧ s0.Since vm0 k0) ∧ (k.Fin = fun o s₂ L => ReturnedEndW s0 o s₂ L rm.cells rm.slots) ∧ ∀ v h, Q v h → k.Q v h
/-- the contract of a body that may intern -/
def ConW (l : Launch) (Z : State) (y : MethodName) (bytes : ByteArray) (maxL : Nat) (ret : Option FieldType) (rm : Room) (n0 : Nat) (as : Array Value) (h0 : Heap) (Q : Option Value → Heap → Prop) : Prop :=
  ∀ ws, MetFree l y (head1 (Jvm.Cond.code y bytes maxL ret :: ws) rm) (fun a U => a = as ∧ Z.Warmed39 U.vm ∧ U.heap = h0) (fun _ _ _ _ _ => True) (fun _ U o U' => ∃ v L, o = .returned v ∧ (Q v U'.heap ∧ Fr n0 L) ∧ ReturnedEndW U o U' L rm.cells rm.slots)
section WideBase
variable {k : Cx} {s0 : State} {k0 : Nat} {l : Launch} {Z : State} {n0 : Nat} {rm : Room} {bytes : ByteArray} {maxL : Nat} {y : MethodName} {ret : Option FieldType} {Q : Option Value → Heap → Prop} {h h' : Heap} {cells slots pc : Nat} {ls : List Slot} {st : List Value} {a0 : Array Value} {a b : Addr}
theorem OkW.re (K : OkW k s0 k0 l Z n0 rm bytes maxL y ret Q) {vm1 : Vm} {n1 : Nat} (hS : s0.Since vm1 n1) (hZ : Z.Warmed39 vm1) (hown : vm1.findClass y.cls = some k.m.cls) : OkW (k.re (s0.setVm vm1)) s0 n1 l Z n0 rm bytes maxL y ret Q := by
  obtain ⟨K, -, hF, hQ⟩ := K
  refine ⟨⟨K.hx, hZ, K.hR, K.hby, K.hml, hown, K.hret, K.hlk, K.hnm, K.hl, K.hZe, K.hn0, fun v h q => hQ v h q.1, fun v s₂ L q F => ?_⟩, ⟨vm1, rfl, hS⟩, hF, hQ⟩
  show k.Fin (.returned v) s₂ L
  rw [hF]
  have F' : FrameEnd (s0.setVm vm1) (.returned v) s₂ L k.R.cells k.R.slots := F
  rw [K.hR] at F'
  obtain ⟨a, b, c⟩ := State.Since.ended hS (U := s₂) F'.2.1 q.2 F'.2.2
  exact ⟨⟨v, rfl⟩, a, b, c⟩
theorem End.re {s1 : State} {a : State} (w : (k.re s1).End a) : k.End a := w
theorem ConW.of {as : Array Value} {h0 : Heap} (hp : plainFor y = true) (he : ∀ m, entryFrame m as maxL = mkF m 0 ls.toArray [])
    (hwp : ∀ k s0, OkW k s0 0 l Z n0 rm bytes maxL y ret Q → WP k h0 0 0 0 ls []) : ConW l Z y bytes maxL ret rm n0 as h0 Q := by
  intro ws
  refine MetFree.of_bodySF hp hisR ?_
  intro p e s m args below meth c s₁ Bd hml0 hP hK
  obtain ⟨rfl, hZ, hh⟩ := hP
  have X0 : Stand p l e rm s m args below meth c s₁ [] 0 0 := Stand.of_body Bd
  have e0 : s₁.heap = h0 := by rw [← hh, Bd.state]; rfl
  have w := hwp (p, l, e, rm, s, m, args, below, meth, c, Z, n0, Q, fun o s₂ L => ReturnedEndW s o s₂ L rm.cells rm.slots) s
    ⟨⟨Bd.exec, hZ, rfl, Bd.bytes, hml0, findClass_of_methodNamed Bd.named, Bd.returns, Bd.notSynchronized, (name_of_methodNamed Bd.named Bd.method).1, rfl, rfl, rfl, fun _ _ q => q.1, fun v s₂ L _ F => ReturnedEndW.of_narrow F.1 F.2.1 F.2.2⟩, ⟨s.vm, rfl, (State.WarmedH.refl s).since 0⟩, rfl, fun _ _ q => q⟩ s₁ [] X0 e0 (Fr.nil n0)
  obtain ⟨s2, o, h1, h2, h3, h4⟩ := w
  exact ⟨s2, o, castTop (he m) h1, h2, h3, h4⟩
theorem ConW.of_con {as : Array Value} {h0 : Heap} (C : Con l Z y bytes maxL ret rm n0 as h0 Q) : ConW l Z y bytes maxL ret rm n0 as h0 Q := by
  intro ws p e ha hc hk s m args below hf happ hP hK
  obtain ⟨n, o, h1, h2, h3, v, L, e1, q, r⟩ := C ws p e ha hc hk s m args below hf happ hP hK
  exact ⟨n, o, h1, h2, h3, v, L, e1, q, ReturnedEndW.of_narrow r.1 r.2.1 r.2.2⟩
theorem OkW.base (K : OkW k s0 k0 l Z n0 rm bytes maxL y ret Q) : ∃ vm0, k.s = s0.setVm vm0 ∧ s0.Since vm0 k0 ∧ Z.Warmed39 vm0 ∧ vm0.findClass y.cls = some k.m.cls := by
  obtain ⟨vm0, hks, hS⟩ := K.2.1
  have hZ := K.1.hZ
  have hown := K.1.hown
  rw [hks] at hZ hown
  exact ⟨vm0, hks, hS, hZ, hown⟩
theorem WP.ldcS (K : OkW k s0 k0 l Z n0 rm bytes maxL y ret Q) {i : Nat} {text : String} (pc' n cells' slots' : Nat) (w1 : (Jvm.Cond.stringLink y.cls i text).before a0 Z = true) (wS : ∀ a ∈ Bundle.stringAtoms, a.before a0 Z = true) (hd : decode bytes pc = .ok (.ldc i, 2)) (hp : pc + 2 = pc') (hn : 4 * text.toList.length ≤ n) (hb : n ≤ 536870912) (hk : k0 ≤ h.size)
    (hc : cells + 2 = cells') (hs : slots + (n + 4) = slots') (hc' : cells' ≤ rm.cells) (hs' : slots' ≤ rm.slots)
    (w : ∀ k' h' a, OkW k' s0 h'.size l Z n0 rm bytes maxL y ret Q → Ext h h' → WP k' h' cells' slots' pc' ls (.ref a :: st)) : WP k h cells slots pc ls st := by
  subst hp hc hs
  intro T locs X e N
  obtain ⟨vm0, hks, hS, hZ, hown⟩ := K.base
  have X1 : Stand k.p k.l k.e k.R k.s k.m k.args k.below k.meth k.c T locs cells slots := X
  rw [hks] at X1
  obtain ⟨a, T', h', k1, X', e', E, hS1, hk1, hZ1, hown1, stp⟩ := RoadKit.ldcS X1 K.1.hx hZ hown w1 wS e hS hk (g := mkF k.m pc ls.toArray st) rfl (K.1.dec hd) hn hb (by rw [K.1.hR]; exact hc') (by rw [K.1.hR]; exact hs')
  have hS2 : s0.Since T'.vm h'.size := ⟨hS1.1, hS1.2.mono hk1⟩
  exact End.re (s1 := s0.setVm T'.vm) (End.back stp (w _ h' a (OkW.re K hS2 hZ1 hown1) E T' locs X' e' N))
theorem WP.callIW (K : OkW k s0 k0 l Z n0 rm bytes maxL y ret Q) {i maxL' : Nat} {y' : MethodName} {bytes' : ByteArray} {rm' : Room} {as : Array Value} {Q' : Option Value → Heap → Prop} {ps : List FieldType} {rt : Option FieldType} (pc' cells' slots' W : Nat) (argsL rest : List Value)
    (h1 : (Jvm.Cond.methodLink y.cls i y').before a0 Z = true) (h2 : (Jvm.Cond.instanceMethod y').before a0 Z = true) (h3 : (Jvm.Cond.initialized y'.cls).before a0 Z = true) (h4 : (Jvm.Cond.code y' bytes' maxL' none).before a0 Z = true) (hy1 : y'.name = "<init>")
    (hy : y'.cls ≠ "java/lang/invoke/MethodHandle" ∧ y'.cls ≠ "java/lang/invoke/VarHandle") (hpd : parseMethodDescriptor y'.desc = some ⟨ps, rt⟩) (hlen : argsL.length = ps.length) (has : (.ref a :: argsL).toArray = as) (hst : argsL.reverse ++ .ref a :: rest = st)
    (hf : rm'.frames + 1 ≤ rm.frames) (hl : W + (maxL' + 11) + rm'.locals ≤ rm.locals) (hW : (rest.map fun v => v.category).sum ≤ W) (hsz : ls.length = maxL) (hd : decode bytes pc = .ok (.invokespecial i, 3)) (hp : pc + 3 = pc')
    (hc : cells + rm'.cells = cells') (hs : slots + rm'.slots = slots') (hc' : cells' ≤ rm.cells) (hs' : slots' ≤ rm.slots) (hk : k0 ≤ h.size) (C : ConW l Z y' bytes' maxL' none rm' n0 as h Q')
    (w : ∀ k' v h', OkW k' s0 h'.size l Z n0 rm bytes maxL y ret Q → h.size ≤ h'.size → Q' v h' → WP k' h' cells' slots' pc' ls (v.toList ++ rest)) : WP k h cells slots pc ls st := by
  subst hp hc hs hst has
  have K0 := K
  obtain ⟨vm0, hks, hS, hZ0, hown0⟩ := K.base
  obtain ⟨⟨hx, hZ, rfl, hby, hml, hown, hret, hlk, hnm, rfl, rfl, rfl, hQ0, hfin⟩, -, hF, hQ9⟩ := K
  intro T locs X e N
  obtain ⟨v, vm1, ⟨T', L', k', n'⟩, -, X', hS2, hgr, ⟨Lc, ⟨hQ, hN⟩, l', y'', z'⟩, stp⟩ := Stand.specialBackS X hx hy1 hown (mvT hZ h1) (mvT hZ h2) (mvT hZ h4) hy (backOfS (W := W) (Q := fun v h L => Q' v h ∧ Fr k.n0 L) (C []) hZ h4 h3 hf hl) (g := mkF k.m pc ls.toArray (argsL.reverse ++ .ref a :: rest)) rfl (by rw [hml]; simpa using hsz) (Steps.refl _) (a := a) (argsL := argsL) (rest := rest) (lenOf hpd hlen) rfl (by show 2 * 0 + _ ≤ _; omega) (hb hby hd) (fun _ _ => ⟨rfl, e, hc', hs'⟩)
  dsimp only [Pt.U, Pt.locs, Pt.cells, Pt.slots] at X' l' y'' z' stp hQ hS2 hgr
  subst l' y'' z'
  rw [e] at hgr
  rw [hks] at hS2 X'
  have hle := Nat.le_trans hk hgr
  have hown1 : T'.vm.findClass y.cls = some k.m.cls := by rw [show T'.vm.findClass y.cls = vm0.findClass y.cls from hS2.1.alike.findClass _ _]; exact hown0
  exact End.re (s1 := s0.setVm T'.vm) (End.back (fun t q => stp.trans q) (w _ v _ (OkW.re K0 (hS.trans hS2 hle) (State.Warmed39.trans (t := s0.setVm vm0) hZ0 hS2.1) hown1) hgr hQ T' _ X' rfl (Fr.app N hN)))
theorem WP.callSW (K : OkW k s0 k0 l Z n0 rm bytes maxL y ret Q) {i maxL' : Nat} {y' : MethodName} {bytes' : ByteArray} {ret' : Option FieldType} {rm' : Room} {as : Array Value} {Q' : Option Value → Heap → Prop} {ps : List FieldType} {rt : Option FieldType} (pc' cells' slots' W : Nat) (argsL rest : List Value)
    (h1 : (Jvm.Cond.methodLink y.cls i y').before a0 Z = true) (h2 : (Jvm.Cond.static y').before a0 Z = true) (h3 : (Jvm.Cond.initialized y'.cls).before a0 Z = true) (h4 : (Jvm.Cond.code y' bytes' maxL' ret').before a0 Z = true)
    (hy : y'.cls ≠ "java/lang/invoke/MethodHandle" ∧ y'.cls ≠ "java/lang/invoke/VarHandle") (hpd : parseMethodDescriptor y'.desc = some ⟨ps, rt⟩) (hlen : argsL.length = ps.length) (has : argsL.toArray = as) (hst : argsL.reverse ++ rest = st)
    (hf : rm'.frames + 1 ≤ rm.frames) (hl : W + (maxL' + 11) + rm'.locals ≤ rm.locals) (hW : (rest.map fun v => v.category).sum ≤ W) (hsz : ls.length = maxL) (hd : decode bytes pc = .ok (.invokestatic i, 3)) (hp : pc + 3 = pc')
    (hc : cells + rm'.cells = cells') (hs : slots + rm'.slots = slots') (hc' : cells' ≤ rm.cells) (hs' : slots' ≤ rm.slots) (hk : k0 ≤ h.size) (C : ConW l Z y' bytes' maxL' ret' rm' n0 as h Q')
    (w : ∀ k' v h', OkW k' s0 h'.size l Z n0 rm bytes maxL y ret Q → h.size ≤ h'.size → Q' v h' → WP k' h' cells' slots' pc' ls (v.toList ++ rest)) : WP k h cells slots pc ls st := by
  subst hp hc hs hst has
  have K0 := K
  obtain ⟨vm0, hks, hS, hZ0, hown0⟩ := K.base
  obtain ⟨⟨hx, hZ, rfl, hby, hml, hown, hret, hlk, hnm, rfl, rfl, rfl, hQ0, hfin⟩, -, hF, hQ9⟩ := K
  intro T locs X e N
  obtain ⟨v, vm1, ⟨T', L', k', n'⟩, -, X', hS2, hgr, ⟨Lc, ⟨hQ, hN⟩, l', y'', z'⟩, stp⟩ := RoadKit.callSS X hx hown (mvT hZ h1) (mvT hZ h2) (mvT hZ h3) (mvT hZ h4) hy (backOfS (W := W) (Q := fun v h L => Q' v h ∧ Fr k.n0 L) (C []) hZ h4 h3 hf hl) (g := mkF k.m pc ls.toArray (argsL.reverse ++ rest)) rfl (by rw [hml]; simpa using hsz) (argsL := argsL) (rest := rest) (lenOf hpd hlen) rfl (by show 2 * 0 + _ ≤ _; omega) (hb hby hd) (fun _ _ => ⟨rfl, e, hc', hs'⟩)
  dsimp only [Pt.U, Pt.locs, Pt.cells, Pt.slots] at X' l' y'' z' stp hQ hS2 hgr
  subst l' y'' z'
  rw [e] at hgr
  rw [hks] at hS2 X'
  have hle := Nat.le_trans hk hgr
  have hown1 : T'.vm.findClass y.cls = some k.m.cls := by rw [show T'.vm.findClass y.cls = vm0.findClass y.cls from hS2.1.alike.findClass _ _]; exact hown0
  exact End.re (s1 := s0.setVm T'.vm) (End.back (fun t q => stp.trans q) (w _ v _ (OkW.re K0 (hS.trans hS2 hle) (State.Warmed39.trans (t := s0.setVm vm0) hZ0 hS2.1) hown1) hgr hQ T' _ X' rfl (Fr.app N hN)))
theorem w1_next {Q' : Value → Heap → Prop} {cells' slots' pc' : Nat} {rest : List Value} (w : ∀ k' r h', OkW k' s0 h'.size l Z n0 rm bytes maxL y ret Q → h.size ≤ h'.size → Q' r h' → WP k' h' cells' slots' pc' ls (r :: rest)) :
    ∀ k' v h', OkW k' s0 h'.size l Z n0 rm bytes maxL y ret Q → h.size ≤ h'.size → R1 Q' v h' → WP k' h' cells' slots' pc' ls (v.toList ++ rest) := fun k' v h' o z q => by
  obtain ⟨r, rfl, q⟩ := q; exact w k' r h' o z q
theorem w0_next {Q' : Heap → Prop} {cells' slots' pc' : Nat} {rest : List Value} (w : ∀ k' h', OkW k' s0 h'.size l Z n0 rm bytes maxL y ret Q → h.size ≤ h'.size → Q' h' → WP k' h' cells' slots' pc' ls rest) :
    ∀ k' v h', OkW k' s0 h'.size l Z n0 rm bytes maxL y ret Q → h.size ≤ h'.size → R0 Q' v h' → WP k' h' cells' slots' pc' ls (v.toList ++ rest) := fun k' v h' o z q => by
  obtain ⟨rfl, q⟩ := q; exact w k' h' o z q
end WideBase
section Chars
variable {k : Cx} {l : Launch} {Z : State} {n0 : Nat} {rm : Room} {bytes : ByteArray} {maxL : Nat} {y : MethodName} {ret : Option FieldType} {Q : Option Value → Heap → Prop} {h h' : Heap} {cells slots pc : Nat} {ls : List Slot} {st : List Value} {a0 : Array Value} {a b : Addr}
/-! char arrays: the values as ints -/
def c16 (x : Int32) : Int32 := x.toUInt32.toUInt16.toUInt32.toInt32
def ArC (Z : State) (h : Heap) (a : Addr) (xs : List Int32) : Prop := ArV Z h a .char (xs.map Value.int)
theorem ArC.lt {xs : List Int32} (A : ArC Z h a xs) : a < h.size := ArV.lt A
theorem ArC.len {xs : List Int32} (A : ArC Z h a xs) : xs.length < 2 ^ 31 := by obtain ⟨c, -, -, q, -⟩ := A; simpa using q
theorem ArC.keep {xs : List Int32} {ws : List Addr} (A : ArC Z h a xs) (K : Keep h h' ws) (q : a ∉ ws) : ArC Z h' a xs := ArV.keep A K q
theorem ArC.ext {xs : List Int32} (A : ArC Z h a xs) (E : Ext h h') : ArC Z h' a xs := ArV.ext A E
theorem ArC.other {xs : List Int32} {i : Nat} {v : Value} (A : ArC Z h a xs) (W : Wr h h' b i v) (q : a ≠ b) : ArC Z h' a xs := ArV.other A W q
theorem ArC.of_new {m : Nat} (A : ArV Z h a (newarray.typeOf .char) (List.replicate m (defaultValue (newarray.typeOf .char)))) : ArC Z h a (List.replicate m 0) := by
  unfold ArC; rw [List.map_replicate]; exact A
theorem ArC.rng {xs : List Int32} (A : ArC Z h a xs) {x : Int32} (hx : x ∈ xs) : 0 ≤ x.toInt ∧ x.toInt ≤ 65535 := by
  obtain ⟨c, -, -, -, q⟩ := A
  have := q (.int x) (List.mem_map.mpr ⟨x, hx, rfl⟩)
  simp only [fits, Bool.and_eq_true, decide_eq_true_iff, Int32.le_iff_toInt_le] at this
  exact this
theorem c16_spec (x : Int32) : (c16 x).toInt = x.toInt % 65536 := by
  have h := c_i2c x
  have e : (c16 x).toInt = x.toUInt32.toUInt16.toUInt32.toInt32.toInt := rfl
  omega
theorem c16_rng (x : Int32) : 0 ≤ (c16 x).toInt ∧ (c16 x).toInt ≤ 65535 := by rw [c16_spec]; omega
theorem c16_id {x : Int32} (h : 0 ≤ x.toInt ∧ x.toInt ≤ 65535) : c16 x = x := i32_eq (by rw [c16_spec]; omega)
theorem WP.i2cC (K : Ok k l Z n0 rm bytes maxL y ret Q) {x : Int32} (pc' : Nat) (hd : decode bytes pc = .ok (.i2c, 1)) (hp : pc + 1 = pc') (w : WP k h cells slots pc' ls (.int (c16 x) :: st)) : WP k h cells slots pc ls (.int x :: st) := WP.i2c K pc' hd hp w
theorem nar_b (x : Int32) : narrow .byte (.int x.toInt8.toInt32) = .int x.toInt8.toInt32 := by
  show Value.int x.toInt8.toInt32.toInt8.toInt32 = _
  congr 1
  simp
theorem nar_c (x : Int32) : narrow .char (.int (c16 x)) = .int (c16 x) := by
  show Value.int (c16 (c16 x)) = _
  rw [c16_id (c16_rng x)]
/-! statics of the start -/
def StB (Z : State) (h : Heap) (n0 : Nat) (C n d : String) (v : Value) : Prop := ∃ (cf i : Nat) (k : Class) (f : Field) (st : Addr) (cell : Cell), Z.fieldFound? C n d = some (cf, k, i, f) ∧ f.isStatic = true ∧ k.init = .initialized ∧ k.statics = some st ∧ h[st]? = some cell ∧ cell.vm.isStatics = true ∧ cell.slots[f.slot]? = some v ∧ @LT.lt Nat _ st n0
theorem StB.sta {C n d : String} {v : Value} (F : StB Z h n0 C n d v) : Sta Z h C n d v := by
  obtain ⟨cf, i, k, f, st, cell, h1, h2, h3, h4, h5, h6, h7, -⟩ := F; exact ⟨cf, i, k, f, st, cell, h1, h2, h3, h4, h5, h6, h7⟩
theorem StB.of {C n d : String} {v : Value} (F : Sta Z h C n d v) : StB Z h h.size C n d v := by
  obtain ⟨cf, i, k, f, st, cell, h1, h2, h3, h4, h5, h6, h7⟩ := F; exact ⟨cf, i, k, f, st, cell, h1, h2, h3, h4, h5, h6, h7, (Array.getElem?_eq_some_iff.mp h5).1⟩
theorem StB.keep {C n d : String} {v : Value} {ws : List Addr} (F : StB Z h n0 C n d v) (K : Keep h h' ws) (q : ∀ x ∈ ws, @LE.le Nat _ n0 x) : StB Z h' n0 C n d v := by
  obtain ⟨cf, i, k, f, st, cell, h1, h2, h3, h4, h5, h6, h7, h8⟩ := F
  exact ⟨cf, i, k, f, st, cell, h1, h2, h3, h4, K.2.1 st cell h5 (fun m => absurd h8 (Nat.not_lt.mpr (q st m))), h6, h7, h8⟩
theorem StB.ext {C n d : String} {v : Value} (F : StB Z h n0 C n d v) (E : Ext h h') : StB Z h' n0 C n d v := by
  obtain ⟨cf, i, k, f, st, cell, h1, h2, h3, h4, h5, r⟩ := F; exact ⟨cf, i, k, f, st, cell, h1, h2, h3, h4, E.2 _ _ h5, r⟩
theorem kn0 {n : Nat} : ∀ x ∈ ([] : List Addr), @LE.le Nat _ n x := fun x hx => absurd hx List.not_mem_nil
theorem kn1 {n b : Nat} (h : n ≤ b) : ∀ x ∈ ([b] : List Addr), @LE.le Nat _ n x := fun x hx => by cases List.mem_singleton.mp hx; exact h
theorem kn2 {n b c : Nat} (h : n ≤ b) (h' : n ≤ c) : ∀ x ∈ ([b, c] : List Addr), @LE.le Nat _ n x := fun x hx => by
  rcases List.mem_cons.mp hx with q | q
  · rw [q]; exact h
  · cases List.mem_singleton.mp q; exact h'
theorem nm3 {a b c d : Nat} (h : a ≠ b ∧ a ≠ c ∧ a ≠ d) : a ∉ ([b, c, d] : List Addr) := by
  intro q
  rcases List.mem_cons.mp q with q | q
  · exact h.1 q
  · exact nm2 h.2 q
theorem nm4 {a b c d e : Nat} (h : a ≠ b ∧ a ≠ c ∧ a ≠ d ∧ a ≠ e) : a ∉ ([b, c, d, e] : List Addr) := by
  intro q
  rcases List.mem_cons.mp q with q | q
  · exact h.1 q
  · exact nm3 h.2 q
theorem ks3 {b c d n : Nat} {ws : List Addr} (h : b ∈ ws ∨ n ≤ b) (h' : c ∈ ws ∨ n ≤ c) (h'' : d ∈ ws ∨ n ≤ d) : ∀ x ∈ ([b, c, d] : List Addr), x ∈ ws ∨ n ≤ x := fun x hx => by
  rcases List.mem_cons.mp hx with q | q
  · rw [q]; exact h
  · exact ks2 h' h'' x q
theorem ks4 {b c d e n : Nat} {ws : List Addr} (h : b ∈ ws ∨ n ≤ b) (h' : c ∈ ws ∨ n ≤ c) (h'' : d ∈ ws ∨ n ≤ d) (h3 : e ∈ ws ∨ n ≤ e) : ∀ x ∈ ([b, c, d, e] : List Addr), x ∈ ws ∨ n ≤ x := fun x hx => by
  rcases List.mem_cons.mp hx with q | q
  · rw [q]; exact h
  · exact ks3 h' h'' h3 x q
theorem kn3 {n b c d : Nat} (h : n ≤ b) (h' : n ≤ c) (h'' : n ≤ d) : ∀ x ∈ ([b, c, d] : List Addr), @LE.le Nat _ n x := fun x hx => by
  rcases List.mem_cons.mp hx with q | q
  · rw [q]; exact h
  · exact kn2 h' h'' x q
theorem kn4 {n b c d e : Nat} (h : n ≤ b) (h' : n ≤ c) (h'' : n ≤ d) (h3 : n ≤ e) : ∀ x ∈ ([b, c, d, e] : List Addr), @LE.le Nat _ n x := fun x hx => by
  rcases List.mem_cons.mp hx with q | q
  · rw [q]; exact h
  · exact kn3 h' h'' h3 x q
theorem kn_mem {n b : Nat} {ws : List Addr} (h : n ≤ b) (q : ∀ x ∈ ws, @LE.le Nat _ n x) : b ∈ ws → @LE.le Nat _ n b := fun _ => h
theorem emptyV {s : State} {args : Array Value} {t : Term} {no : Nat} {c : Cell} {ty : FieldType} (ev : t.eval args s none [] s = some (.ref no)) (A : Arr s s.heap no c ty) (n3 : (Jvm.Cond.eq (.length t) (.int (0 : Int32))).value args s none s [] = some true) : ArV s s.heap no ty [] := by
  have ha : s.arrayAt? no = some c := Jvm.RoadKit.Arr.fin (Vm.Alike.refl _) A
  have hz : c.slots.size = 0 := by
    by_cases hl : c.slots.size < 2 ^ 31
    · have e := len_f (first := s) (o := none) (idx := []) ev ha hl
      have e2 : (Term.int (0 : Int32)).eval args s none [] s = some (.int 0) := rfl
      simp only [Cond.value, e, e2] at n3
      have := congrArg Int32.toInt (of_decide_eq_true (Option.some.inj n3))
      rw [show c.slots.size.toInt32.toInt = (c.slots.size : Nat) from Int32.toInt_ofNat_of_lt hl] at this
      have z : (0 : Int32).toInt = 0 := rfl
      omega
    · simp [Cond.value, Term.eval, ev, ha, hl] at n3
  exact ⟨c, A, by simpa using hz, by decide, fun v hv => by cases hv⟩
theorem ne0_of {args : Array Value} {s : State} {t : Term} {z : Int32} (ev : t.eval args s none [] s = some (.int z)) (h : (Jvm.Cond.not (.eq t (.int (0 : Int32)))).value args s none s [] = some true) : z.toInt ≠ 0 := by
  intro q
  obtain rfl : z = 0 := i32_eq q
  have e2 : (Term.int (0 : Int32)).eval args s none [] s = some (.int 0) := rfl
  simp [Cond.value, ev, e2] at h
theorem eqi_of {args : Array Value} {s : State} {t : Term} {z : Int32} (h : (Jvm.Cond.eq t (.int z)).value args s none s [] = some true) : t.eval args s none [] s = some (.int z) := by
  have e2 : (Term.int z).eval args s none [] s = some (.int z) := rfl
  simp only [Cond.value, e2] at h
  cases q : t.eval args s none [] s with
  | none => simp [q] at h
  | some v => cases v <;> simp [q] at h ⊢ <;> exact h
theorem WP.caload (K : Ok k l Z n0 rm bytes maxL y ret Q) {xs : List Int32} {j x : Int32} (pc' i : Nat) (A : ArC Z h a xs) (hj : j.toInt = (i : Nat)) (hx : xs[i]? = some x) (hd : decode bytes pc = .ok (.caload, 1)) (hp : pc + 1 = pc') (w : WP k h cells slots pc' ls (.int x :: st)) : WP k h cells slots pc ls (.int j :: .ref a :: st) := by
  subst hp
  intro T locs X e N
  obtain ⟨c, A, q1, q2⟩ := ArV.parts A (i := i) (v := .int x) (by simp [hx])
  obtain ⟨r1, r2⟩ := idx_ok hj q1
  refine End.back (fun t q => ?_) (w T locs X e N)
  exact Stand.caload X K.hx (j := j) (v := .int x) (by rw [e]; exact A.1) (State.isArrayOf_alike K.hZ.alike A.2.1) A.2.2 r1 (by rw [r2]; exact q2) (g := mkF k.m pc ls.toArray (.int j :: .ref a :: st)) rfl rfl (K.dec hd) _ q
theorem WP.castore (K : Ok k l Z n0 rm bytes maxL y ret Q) {xs : List Int32} {j x : Int32} (pc' i : Nat) (A : ArC Z h a xs) (hj : j.toInt = (i : Nat)) (hi : i < xs.length) (hd : decode bytes pc = .ok (.castore, 1)) (hp : pc + 1 = pc') (ha : n0 ≤ a)
    (w : ∀ h', Keep h h' [a] → ArC Z h' a (xs.set i (c16 x)) → WP k h' cells slots pc' ls st) : WP k h cells slots pc ls (.int x :: .int j :: .ref a :: st) := by
  subst hp
  intro T locs X e N
  have A0 := A
  obtain ⟨c, A', q1, -⟩ := A
  obtain ⟨r1, r2⟩ := idx_ok hj (show i < c.slots.size by have := congrArg List.length q1; simp at this; omega)
  obtain ⟨T', h', X', e', W', stp⟩ := stC X K.hx K.hZ e A' r1 (x := x) (g := mkF k.m pc ls.toArray (.int x :: .int j :: .ref a :: st)) rfl rfl (K.dec hd)
  rw [r2] at W'
  have A2 : ArC Z h' a (xs.set i (c16 x)) := by
    have := ArV.set A0 W' (fits_nar_char x)
    rw [show Value.int (nar .char x) = Value.int (c16 x) from rfl, ← List.map_set] at this
    exact this
  exact End.back stp (w h' (Keep.of_wr W') A2 T' _ X' e' (Fr.snoc X' N (by rw [K.hn0]; exact ha)))
end Chars
end Jvm.OwnWP

namespace Jvm.Pilot.@@N@@
open Jvm Jvm.ClassFile Sem Op Lib Jvm.Free Jvm.Stand Jvm.LawKit Jvm.RoadKit Bundle Jvm.OwnWP Jvm.Pilot.@@N@@.Jvm.D
def STS (Z : State) (h : Heap) (n0 : Nat) (cs : Int32) (de el : Nat) : Prop := StB Z h n0 "java/lang/String" "COMPACT_STRINGS" "Z" (.int cs) ∧ StB Z h n0 "java/util/ArrayList" "DEFAULTCAPACITY_EMPTY_ELEMENTDATA" "[Ljava/lang/Object;" (.ref de) ∧ StB Z h n0 "java/util/ImmutableCollections" "EMPTY_LIST" "Ljava/util/ImmutableCollections$ListN;" (.ref el) ∧ ArV Z h de (.object "java/lang/Object") [] ∧ de < n0 ∧ cs.toInt ≠ 0
theorem STS.keep {Z : State} {h h' : Heap} {n0 : Nat} {cs : Int32} {de el : Nat} {ws : List Nat} (F : STS Z h n0 cs de el) (K : Keep h h' ws) (q : ∀ x ∈ ws, @LE.le Nat _ n0 x) : STS Z h' n0 cs de el := by
  obtain ⟨a, b, c, d, e, f⟩ := F
  exact ⟨a.keep K q, b.keep K q, c.keep K q, d.keep K (fun m => absurd e (Nat.not_lt.mpr (q de m))), e, f⟩
theorem STS.ext {Z : State} {h h' : Heap} {n0 : Nat} {cs : Int32} {de el : Nat} (F : STS Z h n0 cs de el) (E : Ext h h') : STS Z h' n0 cs de el := by
  obtain ⟨a, b, c, d, e, f⟩ := F
  exact ⟨a.ext E, b.ext E, c.ext E, d.ext E, e, f⟩
theorem own_narrow_ref {v : Value} {t : FieldType} (hv : v.isRef = true) (ht : t.isReference = true) : narrow t v = v := by
  rcases ref_cases hv with rfl | ⟨a, rfl⟩ <;> cases t <;> simp [FieldType.isReference] at ht <;> rfl
theorem own_c255 (x : Int32) : 0 ≤ (c16 (x &&& (255 : Int32))).toInt ∧ (c16 (x &&& (255 : Int32))).toInt ≤ 255 := by
  have := c_and x (255 : Int32) (by decide)
  have e : (255 : Int32).toInt = 255 := rfl
  rw [c16_spec]; omega
theorem own_c255' (x : Int32) : (c16 (c16 (x &&& (255 : Int32)))).toInt ≤ 255 := by
  have := own_c255 x
  rw [c16_spec]; omega
theorem own_b21_0 : decode jdk_29_method_65_code 0 = .ok (.iload_n 0, 1) := by decide +kernel
theorem own_b21_1 : decode jdk_29_method_65_code 1 = .ok (.iload_n 1, 1) := by decide +kernel
theorem own_b21_2 : decode jdk_29_method_65_code 2 = .ok (.if_icmp .lt 7, 3) := by decide +kernel
theorem own_b21_5 : decode jdk_29_method_65_code 5 = .ok (.iload_n 0, 1) := by decide +kernel
theorem own_b21_6 : decode jdk_29_method_65_code 6 = .ok (.goto 4, 3) := by decide +kernel
theorem own_b21_9 : decode jdk_29_method_65_code 9 = .ok (.iload_n 1, 1) := by decide +kernel
theorem own_b21_10 : decode jdk_29_method_65_code 10 = .ok (.ireturn, 1) := by decide +kernel
theorem own_pf_b21 : plainFor (⟨"java/lang/Math", "max", "(II)I"⟩ : MethodName) = true := by first | exact plainFor_of_name (by first | (simp [plainName, overriddenIn, x]; done) | decide +kernel) | decide +kernel
set_option maxRecDepth 65536 in
set_option maxHeartbeats 40000000 in
theorem own_max (l : Launch) (Z : State) (a0 : Array Value) (hw : ∀ d ∈ tables_1, d.before a0 Z = true) (n0 : Nat) (h : Heap) (x z : Int32) :
    Con l Z (⟨"java/lang/Math", "max", "(II)I"⟩ : MethodName) jdk_29_method_65_code 2 (some .int) ({ frames := 0, cells := 0, slots := 0, locals := 0 } : Room) n0 #[(.int x), (.int z)] h (R1 fun r h' => r = .int (max32 x z) ∧ h = h') := by
  refine Con.of (ls := [.val (.int x), .val (.int z)]) own_pf_b21 (fun m => by first | (simp [entryFrame, mkF, argsToLocals, Value.category]; done) | rfl) fun k K => ?_
  refine WP.iloadN K 1 own_b21_0 rfl rfl ?_
  refine WP.iloadN K 2 own_b21_1 rfl rfl ?_
  refine WP.icmp_lt K 9 5 own_b21_2 (by decide) rfl (fun c2 => ?_) (fun c2 => ?_)
  · skip
    refine WP.iloadN K 10 own_b21_9 rfl rfl ?_
    refine WP.iret K rfl (Or.inl rfl) rfl own_b21_10 ?_ (by decide) (by decide)
    refine ⟨_, rfl, ?_, rfl⟩
    simp only [max32]; congr 1; split <;> first | rfl | exact i32_eq (by omega) | (exfalso; omega)
  · skip
    refine WP.iloadN K 6 own_b21_5 rfl rfl ?_
    refine WP.goto K 10 own_b21_6 (by decide) ?_
    refine WP.iret K rfl (Or.inl rfl) rfl own_b21_10 ?_ (by decide) (by decide)
    refine ⟨_, rfl, ?_, rfl⟩
    simp only [max32]; congr 1; split <;> first | rfl | exact i32_eq (by omega) | (exfalso; omega)
theorem own_b12_0 : decode jdk_30_method_1_code 0 = .ok (.aload_n 0, 1) := by decide +kernel
theorem own_b12_1 : decode jdk_30_method_1_code 1 = .ok (.invokespecial 1, 3) := by decide +kernel
theorem own_b12_4 : decode jdk_30_method_1_code 4 = .ok (.return_, 1) := by decide +kernel
theorem own_pf_b12 : plainFor (⟨"java/lang/Record", "<init>", "()V"⟩ : MethodName) = true := by first | exact plainFor_of_name (by first | (simp [plainName, overriddenIn, x]; done) | decide +kernel) | decide +kernel
set_option maxRecDepth 65536 in
set_option maxHeartbeats 40000000 in
theorem own_recinit (l : Launch) (Z : State) (a0 : Array Value) (hw : ∀ d ∈ tables_1, d.before a0 Z = true) (n0 : Nat) (h : Heap) (o : Nat) :
    Con l Z (⟨"java/lang/Record", "<init>", "()V"⟩ : MethodName) jdk_30_method_1_code 1 none ({ frames := 1, cells := 0, slots := 0, locals := 12 } : Room) n0 #[(.ref o)] h (R0 fun h' => h = h') := by
  refine Con.of (ls := [.val (.ref o)]) own_pf_b12 (fun m => by first | (simp [entryFrame, mkF, argsToLocals, Value.category]; done) | rfl) fun k K => ?_
  refine WP.aloadN K 1 own_b12_0 rfl rfl rfl ?_
  refine WP.initO K 4 0 (hw _ (List.mem_of_getElem? (i := 55) rfl)) (hw _ (List.mem_of_getElem? (i := 12) rfl)) (hw _ (List.mem_of_getElem? (i := 13) rfl)) own_b12_1 rfl rfl (by decide) (Nat.le_of_eq rfl) (by decide) ?_
  refine WP.retV K rfl own_b12_4 ?_ (by decide) (by decide)
  exact ⟨rfl, rfl⟩
theorem own_b6_0 : decode jdk_52_method_15_code 0 = .ok (.iload_n 1, 1) := by decide +kernel
theorem own_b6_1 : decode jdk_52_method_15_code 1 = .ok (.aload_n 0, 1) := by decide +kernel
theorem own_b6_2 : decode jdk_52_method_15_code 2 = .ok (.arraylength, 1) := by decide +kernel
theorem own_b6_3 : decode jdk_52_method_15_code 3 = .ok (.isub, 1) := by decide +kernel
theorem own_b6_4 : decode jdk_52_method_15_code 4 = .ok (.bipush 31, 2) := by decide +kernel
theorem own_b6_6 : decode jdk_52_method_15_code 6 = .ok (.iushr, 1) := by decide +kernel
theorem own_b6_7 : decode jdk_52_method_15_code 7 = .ok (.i2b, 1) := by decide +kernel
theorem own_b6_8 : decode jdk_52_method_15_code 8 = .ok (.ireturn, 1) := by decide +kernel
theorem own_pf_b6 : plainFor (⟨"java/lang/StringUTF16", "coderFromArrayLen", "([BI)B"⟩ : MethodName) = true := by first | exact plainFor_of_name (by first | (simp [plainName, overriddenIn, x]; done) | decide +kernel) | decide +kernel
set_option maxRecDepth 65536 in
set_option maxHeartbeats 40000000 in
theorem own_coder (l : Launch) (Z : State) (a0 : Array Value) (hw : ∀ d ∈ tables_1, d.before a0 Z = true) (n0 : Nat) (h : Heap) (b : Nat) (n : Int32) (y0 y1 : Int8) (A_b : ArB Z h b [y0, y1]) :
    Con l Z (⟨"java/lang/StringUTF16", "coderFromArrayLen", "([BI)B"⟩ : MethodName) jdk_52_method_15_code 2 (some .byte) ({ frames := 0, cells := 0, slots := 0, locals := 0 } : Room) n0 #[(.ref b), (.int n)] h (R1 fun r h' => (∃ z : Int32, r = .int z.toInt8.toInt32) ∧ h = h') := by
  refine Con.of (ls := [.val (.ref b), .val (.int n)]) own_pf_b6 (fun m => by first | (simp [entryFrame, mkF, argsToLocals, Value.category]; done) | rfl) fun k K => ?_
  have k_31 : (31 : Int32).toInt = 31 := rfl
  refine WP.iloadN K 1 own_b6_0 rfl rfl ?_
  refine WP.aloadN K 2 own_b6_1 rfl rfl rfl ?_
  refine WP.arraylength K (2 : Int32) 3 A_b rfl own_b6_2 rfl ?_
  refine WP.isub K 4 own_b6_3 rfl ?_
  refine WP.bipush K (31 : Int32) 6 own_b6_4 rfl rfl ?_
  refine WP.iushr K 7 own_b6_6 rfl ?_
  refine WP.i2b K 8 own_b6_7 rfl ?_
  refine WP.iret K rfl (Or.inr (Or.inr (Or.inl rfl))) (nar_b _) own_b6_8 ?_ (by decide) (by decide)
  exact ⟨_, rfl, ⟨_, rfl⟩, rfl⟩
theorem own_b5_0 : decode jdk_52_method_21_code 0 = .ok (.iconst 0, 1) := by decide +kernel
theorem own_b5_1 : decode jdk_52_method_21_code 1 = .ok (.istore 5, 2) := by decide +kernel
theorem own_b5_3 : decode jdk_52_method_21_code 3 = .ok (.iload 5, 2) := by decide +kernel
theorem own_b5_5 : decode jdk_52_method_21_code 5 = .ok (.iload 4, 2) := by decide +kernel
theorem own_b5_7 : decode jdk_52_method_21_code 7 = .ok (.if_icmp .ge 37, 3) := by decide +kernel
theorem own_b5_10 : decode jdk_52_method_21_code 10 = .ok (.aload_n 0, 1) := by decide +kernel
theorem own_b5_11 : decode jdk_52_method_21_code 11 = .ok (.iload_n 1, 1) := by decide +kernel
theorem own_b5_12 : decode jdk_52_method_21_code 12 = .ok (.caload, 1) := by decide +kernel
theorem own_b5_13 : decode jdk_52_method_21_code 13 = .ok (.istore 6, 2) := by decide +kernel
theorem own_b5_15 : decode jdk_52_method_21_code 15 = .ok (.iload 6, 2) := by decide +kernel
theorem own_b5_17 : decode jdk_52_method_21_code 17 = .ok (.sipush 255, 3) := by decide +kernel
theorem own_b5_20 : decode jdk_52_method_21_code 20 = .ok (.if_icmp .le 6, 3) := by decide +kernel
theorem own_b5_23 : decode jdk_52_method_21_code 23 = .ok (.iload 5, 2) := by decide +kernel
theorem own_b5_25 : decode jdk_52_method_21_code 25 = .ok (.ireturn, 1) := by decide +kernel
theorem own_b5_26 : decode jdk_52_method_21_code 26 = .ok (.aload_n 2, 1) := by decide +kernel
theorem own_b5_27 : decode jdk_52_method_21_code 27 = .ok (.iload_n 3, 1) := by decide +kernel
theorem own_b5_28 : decode jdk_52_method_21_code 28 = .ok (.iload 6, 2) := by decide +kernel
theorem own_b5_30 : decode jdk_52_method_21_code 30 = .ok (.i2b, 1) := by decide +kernel
theorem own_b5_31 : decode jdk_52_method_21_code 31 = .ok (.bastore, 1) := by decide +kernel
theorem own_b5_32 : decode jdk_52_method_21_code 32 = .ok (.iinc 1 1, 3) := by decide +kernel
theorem own_b5_35 : decode jdk_52_method_21_code 35 = .ok (.iinc 3 1, 3) := by decide +kernel
theorem own_b5_38 : decode jdk_52_method_21_code 38 = .ok (.iinc 5 1, 3) := by decide +kernel
theorem own_b5_41 : decode jdk_52_method_21_code 41 = .ok (.goto (-38), 3) := by decide +kernel
theorem own_b5_44 : decode jdk_52_method_21_code 44 = .ok (.iload 4, 2) := by decide +kernel
theorem own_b5_46 : decode jdk_52_method_21_code 46 = .ok (.ireturn, 1) := by decide +kernel
theorem own_pf_b5 : plainFor (⟨"java/lang/StringUTF16", "compress", "([CI[BII)I"⟩ : MethodName) = true := by first | exact plainFor_of_name (by first | (simp [plainName, overriddenIn, x]; done) | decide +kernel) | decide +kernel
set_option maxRecDepth 65536 in
set_option maxHeartbeats 40000000 in
theorem own_comp5 (l : Launch) (Z : State) (a0 : Array Value) (hw : ∀ d ∈ tables_1, d.before a0 Z = true) (n0 : Nat) (h : Heap) (x b : Nat) (x0 x1 : Int32) (A_x : ArC Z h x [x0, x1]) (A_b : ArB Z h b [(0 : Int8), (0 : Int8)]) (hx0 : x0.toInt ≤ 255) (hx1 : x1.toInt ≤ 255) (n0_b : n0 ≤ b) (ne : x < b) :
    Con l Z (⟨"java/lang/StringUTF16", "compress", "([CI[BII)I"⟩ : MethodName) jdk_52_method_21_code 7 (some .int) ({ frames := 0, cells := 0, slots := 0, locals := 0 } : Room) n0 #[(.ref x), (.int (0 : Int32)), (.ref b), (.int (0 : Int32)), (.int (2 : Int32))] h (R1 fun r h' => r = .int 2 ∧ Keep h h' [b] ∧ ∃ y0 y1, ArB Z h' b [y0, y1]) := by
  refine Con.of (ls := [.val (.ref x), .val (.int (0 : Int32)), .val (.ref b), .val (.int (0 : Int32)), .val (.int (2 : Int32)), .unset, .unset]) own_pf_b5 (fun m => by first | (simp [entryFrame, mkF, argsToLocals, Value.category]; done) | rfl) fun k K => ?_
  have k_0 : (0 : Int32).toInt = 0 := rfl
  have k_1 : (1 : Int32).toInt = 1 := rfl
  have k_255 : (255 : Int32).toInt = 255 := rfl
  have Kp := Keep.refl h [b]
  refine WP.iconst K (0 : Int32) 1 own_b5_0 rfl rfl ?_
  refine WP.istore K 3 [.val (.ref x), .val (.int (0 : Int32)), .val (.ref b), .val (.int (0 : Int32)), .val (.int (2 : Int32)), .val (.int (0 : Int32)), .unset] own_b5_1 rfl rfl ?_
  refine WP.iload K 5 own_b5_3 rfl rfl ?_
  refine WP.iload K 7 own_b5_5 rfl rfl ?_
  refine WP.icmp_ge K 44 10 own_b5_7 (by decide) rfl (fun c7 => ?_) (fun c7 => ?_)
  · skip
    exact absurd c7 (by decide)
  · skip
    refine WP.aloadN K 11 own_b5_10 rfl rfl rfl ?_
    refine WP.iloadN K 12 own_b5_11 rfl rfl ?_
    refine WP.caload K 13 0 A_x rfl rfl own_b5_12 rfl ?_
    refine WP.istore K 15 [.val (.ref x), .val (.int (0 : Int32)), .val (.ref b), .val (.int (0 : Int32)), .val (.int (2 : Int32)), .val (.int (0 : Int32)), .val (.int x0)] own_b5_13 rfl rfl ?_
    refine WP.iload K 17 own_b5_15 rfl rfl ?_
    refine WP.sipush K (255 : Int32) 20 own_b5_17 rfl rfl ?_
    refine WP.icmp_le K 26 23 own_b5_20 (by decide) rfl (fun c20 => ?_) (fun c20 => ?_)
    · skip
      refine WP.aloadN K 27 own_b5_26 rfl rfl rfl ?_
      refine WP.iloadN K 28 own_b5_27 rfl rfl ?_
      refine WP.iload K 30 own_b5_28 rfl rfl ?_
      refine WP.i2b K 31 own_b5_30 rfl ?_
      refine WP.bastore K 32 0 A_b rfl (by simp) own_b5_31 rfl n0_b (fun h1 K2 A_b => ?_)
      have A_x := A_x.keep K2 (nm1 (by omega))
      have Kp := Kp.trans K2 (ks1 (by first | (refine Or.inl ?_; simp; done) | (refine Or.inr ?_; omega)))
      have A_b : ArB Z h1 b [x0.toInt8.toInt32.toInt8, (0 : Int8)] := A_b
      refine WP.iinc K (1 : Int32) 35 [.val (.ref x), .val (.int ((0 : Int32) + (1 : Int32))), .val (.ref b), .val (.int (0 : Int32)), .val (.int (2 : Int32)), .val (.int (0 : Int32)), .val (.int x0)] own_b5_32 rfl rfl rfl rfl ?_
      refine WP.iinc K (1 : Int32) 38 [.val (.ref x), .val (.int ((0 : Int32) + (1 : Int32))), .val (.ref b), .val (.int ((0 : Int32) + (1 : Int32))), .val (.int (2 : Int32)), .val (.int (0 : Int32)), .val (.int x0)] own_b5_35 rfl rfl rfl rfl ?_
      refine WP.iinc K (1 : Int32) 41 [.val (.ref x), .val (.int ((0 : Int32) + (1 : Int32))), .val (.ref b), .val (.int ((0 : Int32) + (1 : Int32))), .val (.int (2 : Int32)), .val (.int ((0 : Int32) + (1 : Int32))), .val (.int x0)] own_b5_38 rfl rfl rfl rfl ?_
      rw [show ((0 : Int32) + (1 : Int32)) = (1 : Int32) from rfl]
      refine WP.goto K 3 own_b5_41 (by decide) ?_
      refine WP.iload K 5 own_b5_3 rfl rfl ?_
      refine WP.iload K 7 own_b5_5 rfl rfl ?_
      refine WP.icmp_ge K 44 10 own_b5_7 (by decide) rfl (fun c7 => ?_) (fun c7 => ?_)
      · skip
        exact absurd c7 (by decide)
      · skip
        refine WP.aloadN K 11 own_b5_10 rfl rfl rfl ?_
        refine WP.iloadN K 12 own_b5_11 rfl rfl ?_
        refine WP.caload K 13 1 A_x rfl rfl own_b5_12 rfl ?_
        refine WP.istore K 15 [.val (.ref x), .val (.int (1 : Int32)), .val (.ref b), .val (.int (1 : Int32)), .val (.int (2 : Int32)), .val (.int (1 : Int32)), .val (.int x1)] own_b5_13 rfl rfl ?_
        refine WP.iload K 17 own_b5_15 rfl rfl ?_
        refine WP.sipush K (255 : Int32) 20 own_b5_17 rfl rfl ?_
        refine WP.icmp_le K 26 23 own_b5_20 (by decide) rfl (fun c20 => ?_) (fun c20 => ?_)
        · skip
          refine WP.aloadN K 27 own_b5_26 rfl rfl rfl ?_
          refine WP.iloadN K 28 own_b5_27 rfl rfl ?_
          refine WP.iload K 30 own_b5_28 rfl rfl ?_
          refine WP.i2b K 31 own_b5_30 rfl ?_
          refine WP.bastore K 32 1 A_b rfl (by simp) own_b5_31 rfl n0_b (fun h3 K4 A_b => ?_)
          have A_x := A_x.keep K4 (nm1 (by omega))
          have Kp := Kp.trans K4 (ks1 (by first | (refine Or.inl ?_; simp; done) | (refine Or.inr ?_; omega)))
          have A_b : ArB Z h3 b [x0.toInt8.toInt32.toInt8, x1.toInt8.toInt32.toInt8] := A_b
          refine WP.iinc K (1 : Int32) 35 [.val (.ref x), .val (.int ((1 : Int32) + (1 : Int32))), .val (.ref b), .val (.int (1 : Int32)), .val (.int (2 : Int32)), .val (.int (1 : Int32)), .val (.int x1)] own_b5_32 rfl rfl rfl rfl ?_
          refine WP.iinc K (1 : Int32) 38 [.val (.ref x), .val (.int ((1 : Int32) + (1 : Int32))), .val (.ref b), .val (.int ((1 : Int32) + (1 : Int32))), .val (.int (2 : Int32)), .val (.int (1 : Int32)), .val (.int x1)] own_b5_35 rfl rfl rfl rfl ?_
          refine WP.iinc K (1 : Int32) 41 [.val (.ref x), .val (.int ((1 : Int32) + (1 : Int32))), .val (.ref b), .val (.int ((1 : Int32) + (1 : Int32))), .val (.int (2 : Int32)), .val (.int ((1 : Int32) + (1 : Int32))), .val (.int x1)] own_b5_38 rfl rfl rfl rfl ?_
          rw [show ((1 : Int32) + (1 : Int32)) = (2 : Int32) from rfl]
          refine WP.goto K 3 own_b5_41 (by decide) ?_
          refine WP.iload K 5 own_b5_3 rfl rfl ?_
          refine WP.iload K 7 own_b5_5 rfl rfl ?_
          refine WP.icmp_ge K 44 10 own_b5_7 (by decide) rfl (fun c7 => ?_) (fun c7 => ?_)
          · skip
            refine WP.iload K 46 own_b5_44 rfl rfl ?_
            refine WP.iret K rfl (Or.inl rfl) rfl own_b5_46 ?_ (by decide) (by decide)
            exact ⟨_, rfl, rfl, Kp, _, _, A_b⟩
          · skip
            exact absurd c7 (by decide)
        · skip
          exfalso; omega
    · skip
      exfalso; omega
theorem own_b4_0 : decode jdk_52_method_16_code 0 = .ok (.iload_n 2, 1) := by decide +kernel
theorem own_b4_1 : decode jdk_52_method_16_code 1 = .ok (.newarray .byte, 2) := by decide +kernel
theorem own_b4_3 : decode jdk_52_method_16_code 3 = .ok (.astore_n 3, 1) := by decide +kernel
theorem own_b4_4 : decode jdk_52_method_16_code 4 = .ok (.aload_n 0, 1) := by decide +kernel
theorem own_b4_5 : decode jdk_52_method_16_code 5 = .ok (.iload_n 1, 1) := by decide +kernel
theorem own_b4_6 : decode jdk_52_method_16_code 6 = .ok (.aload_n 3, 1) := by decide +kernel
theorem own_b4_7 : decode jdk_52_method_16_code 7 = .ok (.iconst 0, 1) := by decide +kernel
theorem own_b4_8 : decode jdk_52_method_16_code 8 = .ok (.iload_n 2, 1) := by decide +kernel
theorem own_b4_9 : decode jdk_52_method_16_code 9 = .ok (.invokestatic 115, 3) := by decide +kernel
theorem own_b4_12 : decode jdk_52_method_16_code 12 = .ok (.istore 4, 2) := by decide +kernel
theorem own_b4_14 : decode jdk_52_method_16_code 14 = .ok (.iload 4, 2) := by decide +kernel
theorem own_b4_16 : decode jdk_52_method_16_code 16 = .ok (.iload_n 2, 1) := by decide +kernel
theorem own_b4_17 : decode jdk_52_method_16_code 17 = .ok (.if_icmp .eq 40, 3) := by decide +kernel
theorem own_b4_20 : decode jdk_52_method_16_code 20 = .ok (.aload_n 0, 1) := by decide +kernel
theorem own_b4_21 : decode jdk_52_method_16_code 21 = .ok (.iload_n 1, 1) := by decide +kernel
theorem own_b4_22 : decode jdk_52_method_16_code 22 = .ok (.iload_n 2, 1) := by decide +kernel
theorem own_b4_23 : decode jdk_52_method_16_code 23 = .ok (.invokestatic 119, 3) := by decide +kernel
theorem own_b4_26 : decode jdk_52_method_16_code 26 = .ok (.astore 5, 2) := by decide +kernel
theorem own_b4_28 : decode jdk_52_method_16_code 28 = .ok (.aload 5, 2) := by decide +kernel
theorem own_b4_30 : decode jdk_52_method_16_code 30 = .ok (.iload 4, 2) := by decide +kernel
theorem own_b4_32 : decode jdk_52_method_16_code 32 = .ok (.invokestatic 71, 3) := by decide +kernel
theorem own_b4_35 : decode jdk_52_method_16_code 35 = .ok (.sipush 255, 3) := by decide +kernel
theorem own_b4_38 : decode jdk_52_method_16_code 38 = .ok (.if_icmp .gt 16, 3) := by decide +kernel
theorem own_b4_41 : decode jdk_52_method_16_code 41 = .ok (.aload 5, 2) := by decide +kernel
theorem own_b4_43 : decode jdk_52_method_16_code 43 = .ok (.iconst 0, 1) := by decide +kernel
theorem own_b4_44 : decode jdk_52_method_16_code 44 = .ok (.aload_n 3, 1) := by decide +kernel
theorem own_b4_45 : decode jdk_52_method_16_code 45 = .ok (.iconst 0, 1) := by decide +kernel
theorem own_b4_46 : decode jdk_52_method_16_code 46 = .ok (.iload_n 2, 1) := by decide +kernel
theorem own_b4_47 : decode jdk_52_method_16_code 47 = .ok (.invokestatic 123, 3) := by decide +kernel
theorem own_b4_50 : decode jdk_52_method_16_code 50 = .ok (.iload_n 2, 1) := by decide +kernel
theorem own_b4_51 : decode jdk_52_method_16_code 51 = .ok (.if_icmp .eq 6, 3) := by decide +kernel
theorem own_b4_54 : decode jdk_52_method_16_code 54 = .ok (.aload 5, 2) := by decide +kernel
theorem own_b4_56 : decode jdk_52_method_16_code 56 = .ok (.areturn, 1) := by decide +kernel
theorem own_b4_57 : decode jdk_52_method_16_code 57 = .ok (.aload_n 3, 1) := by decide +kernel
theorem own_b4_58 : decode jdk_52_method_16_code 58 = .ok (.areturn, 1) := by decide +kernel
theorem own_pf_b4 : plainFor (⟨"java/lang/StringUTF16", "compress", "([CII)[B"⟩ : MethodName) = true := by first | exact plainFor_of_name (by first | (simp [plainName, overriddenIn, x]; done) | decide +kernel) | decide +kernel
theorem own_pd_0 : parseMethodDescriptor "([CI[BII)I" = some ⟨[(.array .char), .int, (.array .byte), .int, .int], some .int⟩ := by decide +kernel
set_option maxRecDepth 65536 in
set_option maxHeartbeats 40000000 in
theorem own_comp3 (l : Launch) (Z : State) (a0 : Array Value) (hw : ∀ d ∈ tables_1, d.before a0 Z = true) (n0 : Nat) (h : Heap) (x : Nat) (x0 x1 : Int32) (A_x : ArC Z h x [x0, x1]) (hx0 : x0.toInt ≤ 255) (hx1 : x1.toInt ≤ 255) (Z0 : n0 ≤ h.size) :
    Con l Z (⟨"java/lang/StringUTF16", "compress", "([CII)[B"⟩ : MethodName) jdk_52_method_16_code 6 (some (.array .byte)) ({ frames := 1, cells := 1, slots := 2, locals := 18 } : Room) n0 #[(.ref x), (.int (0 : Int32)), (.int (2 : Int32))] h (R1 fun r h' => ∃ b : Nat, r = .ref b ∧ Keep h h' [] ∧ h.size ≤ b ∧ ∃ y0 y1, ArB Z h' b [y0, y1]) := by
  refine Con.of (ls := [.val (.ref x), .val (.int (0 : Int32)), .val (.int (2 : Int32)), .unset, .unset, .unset]) own_pf_b4 (fun m => by first | (simp [entryFrame, mkF, argsToLocals, Value.category]; done) | rfl) fun k K => ?_
  have k_0 : (0 : Int32).toInt = 0 := rfl
  have k_255 : (255 : Int32).toInt = 255 := rfl
  have Kp := Keep.refl h []
  refine WP.iloadN K 1 own_b4_0 rfl rfl ?_
  refine WP.newarray K 3 2 2 1 2 (hw _ (List.mem_of_getElem? (i := 19) rfl)) own_b4_1 rfl rfl (Nat.le_refl _) (by decide) rfl rfl (by decide) (by decide) (fun h1 b z_b E2 V3 => ?_)
  have l_x_b : @LT.lt Nat _ x b := z_b ▸ A_x.lt
  have n0_b : @LE.le Nat _ n0 b := z_b ▸ Z0
  have Z0 : n0 ≤ (h1).size := Nat.le_trans Z0 E2.1
  have A_x := A_x.ext E2
  have Kp := Kp.ext E2
  have A_b := ArB.of_new V3
  have A_b : ArB Z h1 b [(0 : Int8), (0 : Int8)] := A_b
  refine WP.astoreN K 4 [.val (.ref x), .val (.int (0 : Int32)), .val (.int (2 : Int32)), .val (.ref b), .unset, .unset] own_b4_3 rfl rfl rfl ?_
  refine WP.aloadN K 5 own_b4_4 rfl rfl rfl ?_
  refine WP.iloadN K 6 own_b4_5 rfl rfl ?_
  refine WP.aloadN K 7 own_b4_6 rfl rfl rfl ?_
  refine WP.iconst K (0 : Int32) 8 own_b4_7 rfl rfl ?_
  refine WP.iloadN K 9 own_b4_8 rfl rfl ?_
  refine WP.callS K 12 1 2 0 [(.ref x), (.int (0 : Int32)), (.ref b), (.int (0 : Int32)), (.int (2 : Int32))] [] (hw _ (List.mem_of_getElem? (i := 20) rfl)) (hw _ (List.mem_of_getElem? (i := 21) rfl)) (hw _ (List.mem_of_getElem? (i := 17) rfl)) (hw _ (List.mem_of_getElem? (i := 22) rfl)) (by decide) own_pd_0 rfl rfl rfl (by decide) (by decide) (Nat.le_of_eq rfl) rfl own_b4_9 rfl rfl rfl (by decide) (by decide) (own_comp5 l Z a0 hw n0 h1 x b x0 x1 A_x A_b hx0 hx1 n0_b (by omega)) (r1_next fun r6 h4 q5 => ?_)
  obtain ⟨rfl, Kc, y0, y1, A_b⟩ := q5
  have Z0 : n0 ≤ (h4).size := Nat.le_trans Z0 Kc.1
  have A_x := A_x.keep Kc (nm1 (by omega))
  have Kp := Kp.trans Kc (ks1 (by first | (refine Or.inl ?_; simp; done) | (refine Or.inr ?_; omega)))
  refine WP.istore K 14 [.val (.ref x), .val (.int (0 : Int32)), .val (.int (2 : Int32)), .val (.ref b), .val (.int (2 : Int32)), .unset] own_b4_12 rfl rfl ?_
  refine WP.iload K 16 own_b4_14 rfl rfl ?_
  refine WP.iloadN K 17 own_b4_16 rfl rfl ?_
  refine WP.icmp_eq K 57 20 own_b4_17 (by decide) rfl (fun c17 => ?_) (fun c17 => ?_)
  · skip
    refine WP.aloadN K 58 own_b4_57 rfl rfl rfl ?_
    refine WP.aret K rfl rfl rfl rfl own_b4_58 ?_ (by decide) (by decide)
    exact ⟨_, rfl, b, rfl, Kp, Nat.le_of_eq z_b.symm, _, _, A_b⟩
  · skip
    exact absurd c17 (by decide)
theorem own_b2_0 : decode jdk_42_method_149_code 0 = .ok (.aload_n 0, 1) := by decide +kernel
theorem own_b2_1 : decode jdk_42_method_149_code 1 = .ok (.invokespecial 1, 3) := by decide +kernel
theorem own_b2_4 : decode jdk_42_method_149_code 4 = .ok (.iload_n 3, 1) := by decide +kernel
theorem own_b2_5 : decode jdk_42_method_149_code 5 = .ok (.ifCond .ne 22, 3) := by decide +kernel
theorem own_b2_8 : decode jdk_42_method_149_code 8 = .ok (.aload_n 0, 1) := by decide +kernel
theorem own_b2_9 : decode jdk_42_method_149_code 9 = .ok (.ldc 7, 2) := by decide +kernel
theorem own_b2_11 : decode jdk_42_method_149_code 11 = .ok (.getfield 9, 3) := by decide +kernel
theorem own_b2_14 : decode jdk_42_method_149_code 14 = .ok (.putfield 9, 3) := by decide +kernel
theorem own_b2_17 : decode jdk_42_method_149_code 17 = .ok (.aload_n 0, 1) := by decide +kernel
theorem own_b2_18 : decode jdk_42_method_149_code 18 = .ok (.ldc 7, 2) := by decide +kernel
theorem own_b2_20 : decode jdk_42_method_149_code 20 = .ok (.getfield 15, 3) := by decide +kernel
theorem own_b2_23 : decode jdk_42_method_149_code 23 = .ok (.putfield 15, 3) := by decide +kernel
theorem own_b2_26 : decode jdk_42_method_149_code 26 = .ok (.return_, 1) := by decide +kernel
theorem own_b2_27 : decode jdk_42_method_149_code 27 = .ok (.getstatic 38, 3) := by decide +kernel
theorem own_b2_30 : decode jdk_42_method_149_code 30 = .ok (.ifCond .eq 28, 3) := by decide +kernel
theorem own_b2_33 : decode jdk_42_method_149_code 33 = .ok (.aload_n 1, 1) := by decide +kernel
theorem own_b2_34 : decode jdk_42_method_149_code 34 = .ok (.iload_n 2, 1) := by decide +kernel
theorem own_b2_35 : decode jdk_42_method_149_code 35 = .ok (.iload_n 3, 1) := by decide +kernel
theorem own_b2_36 : decode jdk_42_method_149_code 36 = .ok (.invokestatic 177, 3) := by decide +kernel
theorem own_b2_39 : decode jdk_42_method_149_code 39 = .ok (.astore 5, 2) := by decide +kernel
theorem own_b2_41 : decode jdk_42_method_149_code 41 = .ok (.aload_n 0, 1) := by decide +kernel
theorem own_b2_42 : decode jdk_42_method_149_code 42 = .ok (.aload 5, 2) := by decide +kernel
theorem own_b2_44 : decode jdk_42_method_149_code 44 = .ok (.iload_n 3, 1) := by decide +kernel
theorem own_b2_45 : decode jdk_42_method_149_code 45 = .ok (.invokestatic 47, 3) := by decide +kernel
theorem own_b2_48 : decode jdk_42_method_149_code 48 = .ok (.putfield 15, 3) := by decide +kernel
theorem own_b2_51 : decode jdk_42_method_149_code 51 = .ok (.aload_n 0, 1) := by decide +kernel
theorem own_b2_52 : decode jdk_42_method_149_code 52 = .ok (.aload 5, 2) := by decide +kernel
theorem own_b2_54 : decode jdk_42_method_149_code 54 = .ok (.putfield 9, 3) := by decide +kernel
theorem own_b2_57 : decode jdk_42_method_149_code 57 = .ok (.return_, 1) := by decide +kernel
theorem own_b2_58 : decode jdk_42_method_149_code 58 = .ok (.aload_n 0, 1) := by decide +kernel
theorem own_b2_59 : decode jdk_42_method_149_code 59 = .ok (.iconst 1, 1) := by decide +kernel
theorem own_b2_60 : decode jdk_42_method_149_code 60 = .ok (.putfield 15, 3) := by decide +kernel
theorem own_b2_63 : decode jdk_42_method_149_code 63 = .ok (.aload_n 0, 1) := by decide +kernel
theorem own_b2_64 : decode jdk_42_method_149_code 64 = .ok (.aload_n 1, 1) := by decide +kernel
theorem own_b2_65 : decode jdk_42_method_149_code 65 = .ok (.iload_n 2, 1) := by decide +kernel
theorem own_b2_66 : decode jdk_42_method_149_code 66 = .ok (.iload_n 3, 1) := by decide +kernel
theorem own_b2_67 : decode jdk_42_method_149_code 67 = .ok (.invokestatic 180, 3) := by decide +kernel
theorem own_b2_70 : decode jdk_42_method_149_code 70 = .ok (.putfield 9, 3) := by decide +kernel
theorem own_b2_73 : decode jdk_42_method_149_code 73 = .ok (.return_, 1) := by decide +kernel
theorem own_pf_b2 : plainFor (⟨"java/lang/String", "<init>", "([CIILjava/lang/Void;)V"⟩ : MethodName) = true := by first | exact plainFor_of_name (by first | (simp [plainName, overriddenIn, x]; done) | decide +kernel) | decide +kernel
theorem own_pd_1 : parseMethodDescriptor "([CII)[B" = some ⟨[(.array .char), .int, .int], some (.array .byte)⟩ := by decide +kernel
theorem own_pd_2 : parseMethodDescriptor "([BI)B" = some ⟨[(.array .byte), .int], some .byte⟩ := by decide +kernel
set_option maxRecDepth 65536 in
set_option maxHeartbeats 40000000 in
theorem own_str4 (l : Launch) (Z : State) (a0 : Array Value) (hw : ∀ d ∈ tables_1, d.before a0 Z = true) (n0 : Nat) (h : Heap) (o x : Nat) (x0 x1 : Int32) (A_x : ArC Z h x [x0, x1]) (hx0 : x0.toInt ≤ 255) (hx1 : x1.toInt ≤ 255) (u1 u2 : Value) (Ex : Exa Z h o "java/lang/String") (Fv : Fld Z h o "java/lang/String" "value" "[B" u1) (Fc : Fld Z h o "java/lang/String" "coder" "B" u2) (n0_o : n0 ≤ o) (Z0 : n0 ≤ h.size) (cs : Int32) (de el : Nat) (SS : STS Z h n0 cs de el) (ne : o ≠ x) :
    Con l Z (⟨"java/lang/String", "<init>", "([CIILjava/lang/Void;)V"⟩ : MethodName) jdk_42_method_149_code 6 none ({ frames := 2, cells := 1, slots := 2, locals := 35 } : Room) n0 #[(.ref o), (.ref x), (.int (0 : Int32)), (.int (2 : Int32)), .null] h (R0 fun h' => Keep h h' [o]) := by
  refine Con.of (ls := [.val (.ref o), .val (.ref x), .val (.int (0 : Int32)), .val (.int (2 : Int32)), .val .null, .unset]) own_pf_b2 (fun m => by first | (simp [entryFrame, mkF, argsToLocals, Value.category]; done) | rfl) fun k K => ?_
  have k_1 : (1 : Int32).toInt = 1 := rfl
  have Kp := Keep.refl h [o]
  have hcs := SS.2.2.2.2.2
  refine WP.aloadN K 1 own_b2_0 rfl rfl rfl ?_
  refine WP.initO K 4 0 (hw _ (List.mem_of_getElem? (i := 11) rfl)) (hw _ (List.mem_of_getElem? (i := 12) rfl)) (hw _ (List.mem_of_getElem? (i := 13) rfl)) own_b2_1 rfl rfl (by decide) (Nat.le_of_eq rfl) (by decide) ?_
  refine WP.iloadN K 5 own_b2_4 rfl rfl ?_
  refine WP.if_ne K 27 8 own_b2_5 (by decide) rfl (fun c5 => ?_) (fun c5 => ?_)
  · skip
    refine WP.getstatic K 30 (hw _ (List.mem_of_getElem? (i := 14) rfl)) Via.refl SS.1.sta own_b2_27 rfl ?_
    refine WP.if_eq K 58 33 own_b2_30 (by decide) rfl (fun c30 => ?_) (fun c30 => ?_)
    · skip
      exfalso; omega
    · skip
      refine WP.aloadN K 34 own_b2_33 rfl rfl rfl ?_
      refine WP.iloadN K 35 own_b2_34 rfl rfl ?_
      refine WP.iloadN K 36 own_b2_35 rfl rfl ?_
      refine WP.callS K 39 1 2 0 [(.ref x), (.int (0 : Int32)), (.int (2 : Int32))] [] (hw _ (List.mem_of_getElem? (i := 15) rfl)) (hw _ (List.mem_of_getElem? (i := 16) rfl)) (hw _ (List.mem_of_getElem? (i := 17) rfl)) (hw _ (List.mem_of_getElem? (i := 18) rfl)) (by decide) own_pd_1 rfl rfl rfl (by decide) (by decide) (Nat.le_of_eq rfl) rfl own_b2_36 rfl rfl rfl (by decide) (by decide) (own_comp3 l Z a0 hw n0 h x x0 x1 A_x hx0 hx1 Z0) (r1_next fun r3 h1 q2 => ?_)
      obtain ⟨b, rfl, Kc, sz_b, y0, y1, A_b⟩ := q2
      have l_x_b : @LT.lt Nat _ x b := Nat.lt_of_lt_of_le A_x.lt sz_b
      have l_o_b : @LT.lt Nat _ o b := Nat.lt_of_lt_of_le Ex.lt sz_b
      have n0_b : @LE.le Nat _ n0 b := Nat.le_trans Z0 sz_b
      have Z0 : n0 ≤ (h1).size := Nat.le_trans Z0 Kc.1
      have SS := SS.keep Kc (kn0)
      have A_x := A_x.keep Kc (nm0 (by omega))
      have Kp := Kp.trans Kc (ks0 )
      have Ex := Ex.keep Kc
      have Fv := Fv.keep Kc (nm0 (by omega))
      have Fc := Fc.keep Kc (nm0 (by omega))
      refine WP.astore K 41 [.val (.ref o), .val (.ref x), .val (.int (0 : Int32)), .val (.int (2 : Int32)), .val .null, .val (.ref b)] own_b2_39 rfl rfl rfl ?_
      refine WP.aloadN K 42 own_b2_41 rfl rfl rfl ?_
      refine WP.aload K 44 own_b2_42 rfl rfl rfl ?_
      refine WP.iloadN K 45 own_b2_44 rfl rfl ?_
      refine WP.callS K 48 1 2 1 [(.ref b), (.int (2 : Int32))] [(.ref o)] (hw _ (List.mem_of_getElem? (i := 23) rfl)) (hw _ (List.mem_of_getElem? (i := 24) rfl)) (hw _ (List.mem_of_getElem? (i := 17) rfl)) (hw _ (List.mem_of_getElem? (i := 25) rfl)) (by decide) own_pd_2 rfl rfl rfl (by decide) (by decide) (Nat.le_of_eq rfl) rfl own_b2_45 rfl rfl rfl (by decide) (by decide) (own_coder l Z a0 hw n0 h1 b (2 : Int32) y0 y1 A_b) (r1_next fun r6 h4 q5 => ?_)
      obtain ⟨⟨zc, rfl⟩, rfl⟩ := q5
      refine WP.putfield K (host := "") (a := o) 51 (Or.inl (hw _ (List.mem_of_getElem? (i := 26) rfl))) Via.refl Fc Ex (Or.inr ⟨(hw _ (List.mem_of_getElem? (i := 27) rfl)), rfl, rfl⟩) (hw _ (List.mem_of_getElem? (i := 2) rfl)) (ty := .byte) (by decide) (nar_b _) (fits_nar_byte _) own_b2_48 rfl n0_o (fun h7 W8 => ?_)
      have Z0 : n0 ≤ (h7).size := by rw [W8.size]; exact Z0
      have SS := SS.keep (Keep.of_wr W8) (kn1 (by omega))
      have A_x := A_x.other W8 (ne_addr (by omega))
      have Kp := Kp.wr W8 (by first | (refine Or.inl ?_; simp; done) | (refine Or.inr ?_; omega))
      have Ex := Ex.wr W8
      have Fv := Fv.other W8 (Or.inr (slot_ne (Or.inr (hw _ (List.mem_of_getElem? (i := 29) rfl))) (Or.inr (hw _ (List.mem_of_getElem? (i := 27) rfl))) (by decide) (t := (.array .byte)) (t' := .byte) (by decide) (by decide)))
      have Fc := Fc.same W8
      have A_b := A_b.other W8 (ne_addr (by omega))
      refine WP.aloadN K 52 own_b2_51 rfl rfl rfl ?_
      refine WP.aload K 54 own_b2_52 rfl rfl rfl ?_
      refine WP.putfield K (host := "") (a := o) 57 (Or.inl (hw _ (List.mem_of_getElem? (i := 28) rfl))) Via.refl Fv Ex (Or.inr ⟨(hw _ (List.mem_of_getElem? (i := 29) rfl)), rfl, rfl⟩) (hw _ (List.mem_of_getElem? (i := 2) rfl)) (ty := (.array .byte)) (by decide) rfl rfl own_b2_54 rfl n0_o (fun h9 W10 => ?_)
      have Z0 : n0 ≤ (h9).size := by rw [W10.size]; exact Z0
      have SS := SS.keep (Keep.of_wr W10) (kn1 (by omega))
      have A_x := A_x.other W10 (ne_addr (by omega))
      have Kp := Kp.wr W10 (by first | (refine Or.inl ?_; simp; done) | (refine Or.inr ?_; omega))
      have Ex := Ex.wr W10
      have Fv := Fv.same W10
      have Fc := Fc.other W10 (Or.inr (slot_ne (Or.inr (hw _ (List.mem_of_getElem? (i := 27) rfl))) (Or.inr (hw _ (List.mem_of_getElem? (i := 29) rfl))) (by decide) (t := .byte) (t' := (.array .byte)) (by decide) (by decide)))
      have A_b := A_b.other W10 (ne_addr (by omega))
      refine WP.retV K rfl own_b2_57 ?_ (by decide) (by decide)
      exact ⟨rfl, Kp⟩
  · skip
    exact absurd c5 (by decide)
theorem own_b1_0 : decode jdk_42_method_3_code 0 = .ok (.aload_n 0, 1) := by decide +kernel
theorem own_b1_1 : decode jdk_42_method_3_code 1 = .ok (.aload_n 1, 1) := by decide +kernel
theorem own_b1_2 : decode jdk_42_method_3_code 2 = .ok (.iconst 0, 1) := by decide +kernel
theorem own_b1_3 : decode jdk_42_method_3_code 3 = .ok (.aload_n 1, 1) := by decide +kernel
theorem own_b1_4 : decode jdk_42_method_3_code 4 = .ok (.arraylength, 1) := by decide +kernel
theorem own_b1_5 : decode jdk_42_method_3_code 5 = .ok (.aconst_null, 1) := by decide +kernel
theorem own_b1_6 : decode jdk_42_method_3_code 6 = .ok (.invokespecial 27, 3) := by decide +kernel
theorem own_b1_9 : decode jdk_42_method_3_code 9 = .ok (.return_, 1) := by decide +kernel
theorem own_pf_b1 : plainFor (⟨"java/lang/String", "<init>", "([C)V"⟩ : MethodName) = true := by first | exact plainFor_of_name (by first | (simp [plainName, overriddenIn, x]; done) | decide +kernel) | decide +kernel
theorem own_pd_3 : parseMethodDescriptor "([CIILjava/lang/Void;)V" = some ⟨[(.array .char), .int, .int, (.object "java/lang/Void")], none⟩ := by decide +kernel
set_option maxRecDepth 65536 in
set_option maxHeartbeats 40000000 in
theorem own_str1 (l : Launch) (Z : State) (a0 : Array Value) (hw : ∀ d ∈ tables_1, d.before a0 Z = true) (n0 : Nat) (h : Heap) (o x : Nat) (x0 x1 : Int32) (A_x : ArC Z h x [x0, x1]) (hx0 : x0.toInt ≤ 255) (hx1 : x1.toInt ≤ 255) (u1 u2 : Value) (Ex : Exa Z h o "java/lang/String") (Fv : Fld Z h o "java/lang/String" "value" "[B" u1) (Fc : Fld Z h o "java/lang/String" "coder" "B" u2) (n0_o : n0 ≤ o) (Z0 : n0 ≤ h.size) (cs : Int32) (de el : Nat) (SS : STS Z h n0 cs de el) (ne : o ≠ x) :
    Con l Z (⟨"java/lang/String", "<init>", "([C)V"⟩ : MethodName) jdk_42_method_3_code 2 none ({ frames := 3, cells := 1, slots := 2, locals := 52 } : Room) n0 #[(.ref o), (.ref x)] h (R0 fun h' => Keep h h' [o]) := by
  refine Con.of (ls := [.val (.ref o), .val (.ref x)]) own_pf_b1 (fun m => by first | (simp [entryFrame, mkF, argsToLocals, Value.category]; done) | rfl) fun k K => ?_
  have k_0 : (0 : Int32).toInt = 0 := rfl
  refine WP.aloadN K 1 own_b1_0 rfl rfl rfl ?_
  refine WP.aloadN K 2 own_b1_1 rfl rfl rfl ?_
  refine WP.iconst K (0 : Int32) 3 own_b1_2 rfl rfl ?_
  refine WP.aloadN K 4 own_b1_3 rfl rfl rfl ?_
  refine WP.arraylength K (2 : Int32) 5 A_x rfl own_b1_4 rfl ?_
  refine WP.aconstNull K 6 own_b1_5 rfl ?_
  refine WP.callI K (a := o) 9 1 2 0 [(.ref x), (.int (0 : Int32)), (.int (2 : Int32)), .null] [] (hw _ (List.mem_of_getElem? (i := 7) rfl)) (hw _ (List.mem_of_getElem? (i := 8) rfl)) (hw _ (List.mem_of_getElem? (i := 3) rfl)) (hw _ (List.mem_of_getElem? (i := 10) rfl)) rfl (by decide) own_pd_3 rfl rfl rfl (by decide) (by decide) (Nat.le_of_eq rfl) rfl own_b1_6 rfl rfl rfl (by decide) (by decide) (own_str4 l Z a0 hw n0 h o x x0 x1 A_x hx0 hx1 _ _ Ex Fv Fc n0_o Z0 cs de el SS ne) (r0_next fun h1 q2 => ?_)
  have Kc : Keep _ _ _ := q2
  refine WP.retV K rfl own_b1_9 ?_ (by decide) (by decide)
  exact ⟨rfl, Kc⟩
theorem own_b8_0 : decode jdk_43_method_3_code 0 = .ok (.iload_n 0, 1) := by decide +kernel
theorem own_b8_1 : decode jdk_43_method_3_code 1 = .ok (.sipush 255, 3) := by decide +kernel
theorem own_b8_4 : decode jdk_43_method_3_code 4 = .ok (.if_icmp .gt 7, 3) := by decide +kernel
theorem own_b8_7 : decode jdk_43_method_3_code 7 = .ok (.iconst 1, 1) := by decide +kernel
theorem own_b8_8 : decode jdk_43_method_3_code 8 = .ok (.goto 4, 3) := by decide +kernel
theorem own_b8_11 : decode jdk_43_method_3_code 11 = .ok (.iconst 0, 1) := by decide +kernel
theorem own_b8_12 : decode jdk_43_method_3_code 12 = .ok (.ireturn, 1) := by decide +kernel
theorem own_pf_b8 : plainFor (⟨"java/lang/StringLatin1", "canEncode", "(C)Z"⟩ : MethodName) = true := by first | exact plainFor_of_name (by first | (simp [plainName, overriddenIn, x]; done) | decide +kernel) | decide +kernel
set_option maxRecDepth 65536 in
set_option maxHeartbeats 40000000 in
theorem own_can (l : Launch) (Z : State) (a0 : Array Value) (hw : ∀ d ∈ tables_1, d.before a0 Z = true) (n0 : Nat) (h : Heap) (x : Int32) (hx : x.toInt ≤ 255) :
    Con l Z (⟨"java/lang/StringLatin1", "canEncode", "(C)Z"⟩ : MethodName) jdk_43_method_3_code 1 (some .boolean) ({ frames := 0, cells := 0, slots := 0, locals := 0 } : Room) n0 #[(.int x)] h (R1 fun r h' => r = .int 1 ∧ h = h') := by
  refine Con.of (ls := [.val (.int x)]) own_pf_b8 (fun m => by first | (simp [entryFrame, mkF, argsToLocals, Value.category]; done) | rfl) fun k K => ?_
  have k_0 : (0 : Int32).toInt = 0 := rfl
  have k_1 : (1 : Int32).toInt = 1 := rfl
  have k_255 : (255 : Int32).toInt = 255 := rfl
  refine WP.iloadN K 1 own_b8_0 rfl rfl ?_
  refine WP.sipush K (255 : Int32) 4 own_b8_1 rfl rfl ?_
  refine WP.icmp_gt K 11 7 own_b8_4 (by decide) rfl (fun c4 => ?_) (fun c4 => ?_)
  · skip
    exfalso; omega
  · skip
    refine WP.iconst K (1 : Int32) 8 own_b8_7 rfl rfl ?_
    refine WP.goto K 12 own_b8_8 (by decide) ?_
    refine WP.iret K rfl (Or.inr (Or.inl rfl)) rfl own_b8_12 ?_ (by decide) (by decide)
    exact ⟨_, rfl, rfl, rfl⟩
theorem own_b9_0 : decode jdk_43_method_46_code 0 = .ok (.iconst 1, 1) := by decide +kernel
theorem own_b9_1 : decode jdk_43_method_46_code 1 = .ok (.newarray .byte, 2) := by decide +kernel
theorem own_b9_3 : decode jdk_43_method_46_code 3 = .ok (.dup, 1) := by decide +kernel
theorem own_b9_4 : decode jdk_43_method_46_code 4 = .ok (.iconst 0, 1) := by decide +kernel
theorem own_b9_5 : decode jdk_43_method_46_code 5 = .ok (.iload_n 0, 1) := by decide +kernel
theorem own_b9_6 : decode jdk_43_method_46_code 6 = .ok (.i2b, 1) := by decide +kernel
theorem own_b9_7 : decode jdk_43_method_46_code 7 = .ok (.bastore, 1) := by decide +kernel
theorem own_b9_8 : decode jdk_43_method_46_code 8 = .ok (.areturn, 1) := by decide +kernel
theorem own_pf_b9 : plainFor (⟨"java/lang/StringLatin1", "toBytes", "(C)[B"⟩ : MethodName) = true := by first | exact plainFor_of_name (by first | (simp [plainName, overriddenIn, x]; done) | decide +kernel) | decide +kernel
set_option maxRecDepth 65536 in
set_option maxHeartbeats 40000000 in
theorem own_tob (l : Launch) (Z : State) (a0 : Array Value) (hw : ∀ d ∈ tables_1, d.before a0 Z = true) (n0 : Nat) (h : Heap) (x : Int32) (Z0 : n0 ≤ h.size) :
    Con l Z (⟨"java/lang/StringLatin1", "toBytes", "(C)[B"⟩ : MethodName) jdk_43_method_46_code 1 (some (.array .byte)) ({ frames := 0, cells := 1, slots := 1, locals := 0 } : Room) n0 #[(.int x)] h (R1 fun r h' => ∃ b : Nat, r = .ref b ∧ Keep h h' [] ∧ h.size ≤ b) := by
  refine Con.of (ls := [.val (.int x)]) own_pf_b9 (fun m => by first | (simp [entryFrame, mkF, argsToLocals, Value.category]; done) | rfl) fun k K => ?_
  have k_0 : (0 : Int32).toInt = 0 := rfl
  have k_1 : (1 : Int32).toInt = 1 := rfl
  have Kp := Keep.refl h []
  refine WP.iconst K (1 : Int32) 1 own_b9_0 rfl rfl ?_
  refine WP.newarray K 3 1 1 1 1 (hw _ (List.mem_of_getElem? (i := 19) rfl)) own_b9_1 rfl rfl (Nat.le_refl _) (by decide) rfl rfl (by decide) (by decide) (fun h1 b z_b E2 V3 => ?_)
  have n0_b : @LE.le Nat _ n0 b := z_b ▸ Z0
  have Z0 : n0 ≤ (h1).size := Nat.le_trans Z0 E2.1
  have Kp := Kp.ext E2
  have A_b := ArB.of_new V3
  have A_b : ArB Z h1 b [(0 : Int8)] := A_b
  refine WP.dup K 4 own_b9_3 rfl rfl ?_
  refine WP.iconst K (0 : Int32) 5 own_b9_4 rfl rfl ?_
  refine WP.iloadN K 6 own_b9_5 rfl rfl ?_
  refine WP.i2b K 7 own_b9_6 rfl ?_
  refine WP.bastore K 8 0 A_b rfl (by simp) own_b9_7 rfl n0_b (fun h4 K5 A_b => ?_)
  have Z0 : n0 ≤ (h4).size := Nat.le_trans Z0 K5.1
  have Kp := Kp.trans K5 (ks1 (by first | (refine Or.inl ?_; simp; done) | (refine Or.inr ?_; omega)))
  have A_b : ArB Z h4 b [x.toInt8.toInt32.toInt8] := A_b
  refine WP.aret K rfl rfl rfl rfl own_b9_8 ?_ (by decide) (by decide)
  exact ⟨_, rfl, b, rfl, Kp, Nat.le_of_eq z_b.symm⟩
theorem own_b10_0 : decode jdk_42_method_151_code 0 = .ok (.aload_n 0, 1) := by decide +kernel
theorem own_b10_1 : decode jdk_42_method_151_code 1 = .ok (.invokespecial 1, 3) := by decide +kernel
theorem own_b10_4 : decode jdk_42_method_151_code 4 = .ok (.aload_n 0, 1) := by decide +kernel
theorem own_b10_5 : decode jdk_42_method_151_code 5 = .ok (.aload_n 1, 1) := by decide +kernel
theorem own_b10_6 : decode jdk_42_method_151_code 6 = .ok (.putfield 9, 3) := by decide +kernel
theorem own_b10_9 : decode jdk_42_method_151_code 9 = .ok (.aload_n 0, 1) := by decide +kernel
theorem own_b10_10 : decode jdk_42_method_151_code 10 = .ok (.iload_n 2, 1) := by decide +kernel
theorem own_b10_11 : decode jdk_42_method_151_code 11 = .ok (.putfield 15, 3) := by decide +kernel
theorem own_b10_14 : decode jdk_42_method_151_code 14 = .ok (.return_, 1) := by decide +kernel
theorem own_pf_b10 : plainFor (⟨"java/lang/String", "<init>", "([BB)V"⟩ : MethodName) = true := by first | exact plainFor_of_name (by first | (simp [plainName, overriddenIn, x]; done) | decide +kernel) | decide +kernel
set_option maxRecDepth 65536 in
set_option maxHeartbeats 40000000 in
theorem own_strb (l : Launch) (Z : State) (a0 : Array Value) (hw : ∀ d ∈ tables_1, d.before a0 Z = true) (n0 : Nat) (h : Heap) (o b : Nat) (u1 u2 : Value) (Ex : Exa Z h o "java/lang/String") (Fv : Fld Z h o "java/lang/String" "value" "[B" u1) (Fc : Fld Z h o "java/lang/String" "coder" "B" u2) (n0_o : n0 ≤ o) :
    Con l Z (⟨"java/lang/String", "<init>", "([BB)V"⟩ : MethodName) jdk_42_method_151_code 3 none ({ frames := 1, cells := 0, slots := 0, locals := 12 } : Room) n0 #[(.ref o), (.ref b), (.int (0 : Int32))] h (R0 fun h' => Keep h h' [o]) := by
  refine Con.of (ls := [.val (.ref o), .val (.ref b), .val (.int (0 : Int32))]) own_pf_b10 (fun m => by first | (simp [entryFrame, mkF, argsToLocals, Value.category]; done) | rfl) fun k K => ?_
  have Kp := Keep.refl h [o]
  refine WP.aloadN K 1 own_b10_0 rfl rfl rfl ?_
  refine WP.initO K 4 0 (hw _ (List.mem_of_getElem? (i := 11) rfl)) (hw _ (List.mem_of_getElem? (i := 12) rfl)) (hw _ (List.mem_of_getElem? (i := 13) rfl)) own_b10_1 rfl rfl (by decide) (Nat.le_of_eq rfl) (by decide) ?_
  refine WP.aloadN K 5 own_b10_4 rfl rfl rfl ?_
  refine WP.aloadN K 6 own_b10_5 rfl rfl rfl ?_
  refine WP.putfield K (host := "") (a := o) 9 (Or.inl (hw _ (List.mem_of_getElem? (i := 28) rfl))) Via.refl Fv Ex (Or.inr ⟨(hw _ (List.mem_of_getElem? (i := 29) rfl)), rfl, rfl⟩) (hw _ (List.mem_of_getElem? (i := 2) rfl)) (ty := (.array .byte)) (by decide) rfl rfl own_b10_6 rfl n0_o (fun h1 W2 => ?_)
  have Kp := Kp.wr W2 (Or.inl (by simp))
  have Ex := Ex.wr W2
  have Fv := Fv.same W2
  have Fc := Fc.other W2 (Or.inr (slot_ne (Or.inr (hw _ (List.mem_of_getElem? (i := 27) rfl))) (Or.inr (hw _ (List.mem_of_getElem? (i := 29) rfl))) (by decide) (t := .byte) (t' := (.array .byte)) (by decide) (by decide)))
  refine WP.aloadN K 10 own_b10_9 rfl rfl rfl ?_
  refine WP.iloadN K 11 own_b10_10 rfl rfl ?_
  refine WP.putfield K (host := "") (a := o) 14 (Or.inl (hw _ (List.mem_of_getElem? (i := 26) rfl))) Via.refl Fc Ex (Or.inr ⟨(hw _ (List.mem_of_getElem? (i := 27) rfl)), rfl, rfl⟩) (hw _ (List.mem_of_getElem? (i := 2) rfl)) (ty := .byte) (by decide) rfl rfl own_b10_11 rfl n0_o (fun h3 W4 => ?_)
  have Kp := Kp.wr W4 (Or.inl (by simp))
  have Ex := Ex.wr W4
  have Fv := Fv.other W4 (Or.inr (slot_ne (Or.inr (hw _ (List.mem_of_getElem? (i := 29) rfl))) (Or.inr (hw _ (List.mem_of_getElem? (i := 27) rfl))) (by decide) (t := (.array .byte)) (t' := .byte) (by decide) (by decide)))
  have Fc := Fc.same W4
  refine WP.retV K rfl own_b10_14 ?_ (by decide) (by decide)
  exact ⟨rfl, Kp⟩
theorem own_b7_0 : decode jdk_42_method_139_code 0 = .ok (.getstatic 38, 3) := by decide +kernel
theorem own_b7_3 : decode jdk_42_method_139_code 3 = .ok (.ifCond .eq 23, 3) := by decide +kernel
theorem own_b7_6 : decode jdk_42_method_139_code 6 = .ok (.iload_n 0, 1) := by decide +kernel
theorem own_b7_7 : decode jdk_42_method_139_code 7 = .ok (.invokestatic 1015, 3) := by decide +kernel
theorem own_b7_10 : decode jdk_42_method_139_code 10 = .ok (.ifCond .eq 16, 3) := by decide +kernel
theorem own_b7_13 : decode jdk_42_method_139_code 13 = .ok (.new 10, 3) := by decide +kernel
theorem own_b7_16 : decode jdk_42_method_139_code 16 = .ok (.dup, 1) := by decide +kernel
theorem own_b7_17 : decode jdk_42_method_139_code 17 = .ok (.iload_n 0, 1) := by decide +kernel
theorem own_b7_18 : decode jdk_42_method_139_code 18 = .ok (.invokestatic 1018, 3) := by decide +kernel
theorem own_b7_21 : decode jdk_42_method_139_code 21 = .ok (.iconst 0, 1) := by decide +kernel
theorem own_b7_22 : decode jdk_42_method_139_code 22 = .ok (.invokespecial 209, 3) := by decide +kernel
theorem own_b7_25 : decode jdk_42_method_139_code 25 = .ok (.areturn, 1) := by decide +kernel
theorem own_b7_26 : decode jdk_42_method_139_code 26 = .ok (.new 10, 3) := by decide +kernel
theorem own_b7_29 : decode jdk_42_method_139_code 29 = .ok (.dup, 1) := by decide +kernel
theorem own_b7_30 : decode jdk_42_method_139_code 30 = .ok (.iload_n 0, 1) := by decide +kernel
theorem own_b7_31 : decode jdk_42_method_139_code 31 = .ok (.invokestatic 1021, 3) := by decide +kernel
theorem own_b7_34 : decode jdk_42_method_139_code 34 = .ok (.iconst 1, 1) := by decide +kernel
theorem own_b7_35 : decode jdk_42_method_139_code 35 = .ok (.invokespecial 209, 3) := by decide +kernel
theorem own_b7_38 : decode jdk_42_method_139_code 38 = .ok (.areturn, 1) := by decide +kernel
theorem own_pf_b7 : plainFor (⟨"java/lang/String", "valueOf", "(C)Ljava/lang/String;"⟩ : MethodName) = true := by first | exact plainFor_of_name (by first | (simp [plainName, overriddenIn, x]; done) | decide +kernel) | decide +kernel
theorem own_pd_4 : parseMethodDescriptor "(C)Z" = some ⟨[.char], some .boolean⟩ := by decide +kernel
theorem own_pd_5 : parseMethodDescriptor "(C)[B" = some ⟨[.char], some (.array .byte)⟩ := by decide +kernel
theorem own_pd_6 : parseMethodDescriptor "([BB)V" = some ⟨[(.array .byte), .byte], none⟩ := by decide +kernel
set_option maxRecDepth 65536 in
set_option maxHeartbeats 40000000 in
theorem own_valof (l : Launch) (Z : State) (a0 : Array Value) (hw : ∀ d ∈ tables_1, d.before a0 Z = true) (n0 : Nat) (h : Heap) (x : Int32) (hx : x.toInt ≤ 255) (Z0 : n0 ≤ h.size) (cs : Int32) (de el : Nat) (SS : STS Z h n0 cs de el) :
    Con l Z (⟨"java/lang/String", "valueOf", "(C)Ljava/lang/String;"⟩ : MethodName) jdk_42_method_139_code 1 (some (.object "java/lang/String")) ({ frames := 2, cells := 2, slots := 5, locals := 27 } : Room) n0 #[(.int x)] h (R1 fun r h' => ∃ o : Nat, r = .ref o ∧ Keep h h' [] ∧ h.size ≤ o ∧ Exa Z h' o "java/lang/String") := by
  refine Con.of (ls := [.val (.int x)]) own_pf_b7 (fun m => by first | (simp [entryFrame, mkF, argsToLocals, Value.category]; done) | rfl) fun k K => ?_
  have k_0 : (0 : Int32).toInt = 0 := rfl
  have k_1 : (1 : Int32).toInt = 1 := rfl
  have Kp := Keep.refl h []
  have hcs := SS.2.2.2.2.2
  refine WP.getstatic K 3 (hw _ (List.mem_of_getElem? (i := 14) rfl)) Via.refl SS.1.sta own_b7_0 rfl ?_
  refine WP.if_eq K 26 6 own_b7_3 (by decide) rfl (fun c3 => ?_) (fun c3 => ?_)
  · skip
    exfalso; omega
  · skip
    refine WP.iloadN K 7 own_b7_6 rfl rfl ?_
    refine WP.callS K 10 0 0 0 [(.int x)] [] (hw _ (List.mem_of_getElem? (i := 33) rfl)) (hw _ (List.mem_of_getElem? (i := 34) rfl)) (hw _ (List.mem_of_getElem? (i := 35) rfl)) (hw _ (List.mem_of_getElem? (i := 36) rfl)) (by decide) own_pd_4 rfl rfl rfl (by decide) (by decide) (Nat.le_of_eq rfl) rfl own_b7_7 rfl rfl rfl (by decide) (by decide) (own_can l Z a0 hw n0 h x hx) (r1_next fun r3 h1 q2 => ?_)
    obtain ⟨rfl, rfl⟩ := q2
    refine WP.if_eq K 26 13 own_b7_10 (by decide) rfl (fun c10 => ?_) (fun c10 => ?_)
    · skip
      exact absurd c10 (by decide)
    · skip
      refine WP.new K 16 1 4 (hw _ (List.mem_of_getElem? (i := 37) rfl)) (hw _ (List.mem_of_getElem? (i := 2) rfl)) (hw _ (List.mem_of_getElem? (i := 3) rfl)) own_b7_13 rfl rfl rfl (by decide) (by decide) (fun h4 o z_o E5 X_o D6 => ?_)
      have n0_o : @LE.le Nat _ n0 o := z_o ▸ Z0
      have Z0 : n0 ≤ (h4).size := Nat.le_trans Z0 E5.1
      have SS := SS.ext E5
      have Kp := Kp.ext E5
      have F_coder_o : Fld Z h4 o "java/lang/String" "coder" "B" (.int (0 : Int32)) := D6 (Or.inr (hw _ (List.mem_of_getElem? (i := 27) rfl))) (ty := .byte) (by decide)
      have F_value_o : Fld Z h4 o "java/lang/String" "value" "[B" .null := D6 (Or.inr (hw _ (List.mem_of_getElem? (i := 29) rfl))) (ty := (.array .byte)) (by decide)
      refine WP.dup K 17 own_b7_16 rfl rfl ?_
      refine WP.iloadN K 18 own_b7_17 rfl rfl ?_
      refine WP.callS K 21 2 5 2 [(.int x)] [(.ref o), (.ref o)] (hw _ (List.mem_of_getElem? (i := 38) rfl)) (hw _ (List.mem_of_getElem? (i := 39) rfl)) (hw _ (List.mem_of_getElem? (i := 35) rfl)) (hw _ (List.mem_of_getElem? (i := 40) rfl)) (by decide) own_pd_5 rfl rfl rfl (by decide) (by decide) (Nat.le_of_eq rfl) rfl own_b7_18 rfl rfl rfl (by decide) (by decide) (own_tob l Z a0 hw n0 h4 x Z0) (r1_next fun r9 h7 q8 => ?_)
      obtain ⟨b, rfl, Kc, sz_b⟩ := q8
      have l_o_b : @LT.lt Nat _ o b := Nat.lt_of_lt_of_le X_o.lt sz_b
      have n0_b : @LE.le Nat _ n0 b := Nat.le_trans Z0 sz_b
      have Z0 : n0 ≤ (h7).size := Nat.le_trans Z0 Kc.1
      have SS := SS.keep Kc (kn0)
      have Kp := Kp.trans Kc (ks0 )
      have X_o := X_o.keep Kc
      have F_coder_o := F_coder_o.keep Kc (nm0 (by omega))
      have F_value_o := F_value_o.keep Kc (nm0 (by omega))
      refine WP.iconst K (0 : Int32) 22 own_b7_21 rfl rfl ?_
      refine WP.callI K (a := o) 25 2 5 1 [(.ref b), (.int (0 : Int32))] [(.ref o)] (hw _ (List.mem_of_getElem? (i := 41) rfl)) (hw _ (List.mem_of_getElem? (i := 42) rfl)) (hw _ (List.mem_of_getElem? (i := 3) rfl)) (hw _ (List.mem_of_getElem? (i := 43) rfl)) rfl (by decide) own_pd_6 rfl rfl rfl (by decide) (by decide) (Nat.le_of_eq rfl) rfl own_b7_22 rfl rfl rfl (by decide) (by decide) (own_strb l Z a0 hw n0 h7 o b _ _ X_o F_value_o F_coder_o n0_o) (r0_next fun h10 q11 => ?_)
      have Kc : Keep _ _ _ := q11
      have Z0 : n0 ≤ (h10).size := Nat.le_trans Z0 Kc.1
      have SS := SS.keep Kc (kn1 (by omega))
      have Kp := Kp.trans Kc (ks1 (by first | (refine Or.inl ?_; simp; done) | (refine Or.inr ?_; omega)))
      have X_o := X_o.keep Kc
      refine WP.aret K rfl rfl rfl rfl own_b7_25 ?_ (by decide) (by decide)
      exact ⟨_, rfl, o, rfl, Kp, Nat.le_of_eq z_o.symm, X_o⟩
theorem own_b13_0 : decode jdk_31_method_11_code 0 = .ok (.aload_n 0, 1) := by decide +kernel
theorem own_b13_1 : decode jdk_31_method_11_code 1 = .ok (.ifnonnull 12, 3) := by decide +kernel
theorem own_b13_4 : decode jdk_31_method_11_code 4 = .ok (.new 84, 3) := by decide +kernel
theorem own_b13_7 : decode jdk_31_method_11_code 7 = .ok (.dup, 1) := by decide +kernel
theorem own_b13_8 : decode jdk_31_method_11_code 8 = .ok (.aload_n 1, 1) := by decide +kernel
theorem own_b13_9 : decode jdk_31_method_11_code 9 = .ok (.invokespecial 87, 3) := by decide +kernel
theorem own_b13_12 : decode jdk_31_method_11_code 12 = .ok (.athrow, 1) := by decide +kernel
theorem own_b13_13 : decode jdk_31_method_11_code 13 = .ok (.aload_n 0, 1) := by decide +kernel
theorem own_b13_14 : decode jdk_31_method_11_code 14 = .ok (.areturn, 1) := by decide +kernel
theorem own_pf_b13 : plainFor (⟨"java/util/Objects", "requireNonNull", "(Ljava/lang/Object;Ljava/lang/String;)Ljava/lang/Object;"⟩ : MethodName) = true := by first | exact plainFor_of_name (by first | (simp [plainName, overriddenIn, x]; done) | decide +kernel) | decide +kernel
set_option maxRecDepth 65536 in
set_option maxHeartbeats 40000000 in
theorem own_req (l : Launch) (Z : State) (a0 : Array Value) (hw : ∀ d ∈ tables_1, d.before a0 Z = true) (n0 : Nat) (h : Heap) (a b : Nat) :
    Con l Z (⟨"java/util/Objects", "requireNonNull", "(Ljava/lang/Object;Ljava/lang/String;)Ljava/lang/Object;"⟩ : MethodName) jdk_31_method_11_code 2 (some (.object "java/lang/Object")) ({ frames := 0, cells := 0, slots := 0, locals := 0 } : Room) n0 #[(.ref a), (.ref b)] h (R1 fun r h' => r = .ref a ∧ h = h') := by
  refine Con.of (ls := [.val (.ref a), .val (.ref b)]) own_pf_b13 (fun m => by first | (simp [entryFrame, mkF, argsToLocals, Value.category]; done) | rfl) fun k K => ?_
  refine WP.aloadN K 1 own_b13_0 rfl rfl rfl ?_
  refine WP.ifnonnull_r K 13 own_b13_1 (by decide) ?_
  refine WP.aloadN K 14 own_b13_13 rfl rfl rfl ?_
  refine WP.aret K rfl rfl rfl rfl own_b13_14 ?_ (by decide) (by decide)
  exact ⟨_, rfl, rfl, rfl⟩
theorem own_strAtoms {Z : State} {a0 : Array Value} (hw : ∀ d ∈ tables_1, d.before a0 Z = true) : ∀ a ∈ Bundle.stringAtoms, a.before a0 Z = true := by
  intro a ha
  simp only [Bundle.stringAtoms, List.mem_cons, List.not_mem_nil, or_false] at ha
  rcases ha with rfl | rfl | rfl | rfl | rfl | rfl | rfl
  · exact (hw _ (List.mem_of_getElem? (i := 3) rfl))
  · exact (hw _ (List.mem_of_getElem? (i := 2) rfl))
  · exact (hw _ (List.mem_of_getElem? (i := 19) rfl))
  · exact (hw _ (List.mem_of_getElem? (i := 29) rfl))
  · exact (hw _ (List.mem_of_getElem? (i := 27) rfl))
  · exact (hw _ (List.mem_of_getElem? (i := 57) rfl))
  · exact (hw _ (List.mem_of_getElem? (i := 58) rfl))
theorem own_b11_0 : decode prog_120_method_1_code 0 = .ok (.aload_n 0, 1) := by decide +kernel
theorem own_b11_1 : decode prog_120_method_1_code 1 = .ok (.invokespecial 1, 3) := by decide +kernel
theorem own_b11_4 : decode prog_120_method_1_code 4 = .ok (.aload_n 2, 1) := by decide +kernel
theorem own_b11_5 : decode prog_120_method_1_code 5 = .ok (.ldc 7, 2) := by decide +kernel
theorem own_b11_7 : decode prog_120_method_1_code 7 = .ok (.invokestatic 9, 3) := by decide +kernel
theorem own_b11_10 : decode prog_120_method_1_code 10 = .ok (.pop, 1) := by decide +kernel
theorem own_b11_11 : decode prog_120_method_1_code 11 = .ok (.aload_n 0, 1) := by decide +kernel
theorem own_b11_12 : decode prog_120_method_1_code 12 = .ok (.iload_n 1, 1) := by decide +kernel
theorem own_b11_13 : decode prog_120_method_1_code 13 = .ok (.putfield 15, 3) := by decide +kernel
theorem own_b11_16 : decode prog_120_method_1_code 16 = .ok (.aload_n 0, 1) := by decide +kernel
theorem own_b11_17 : decode prog_120_method_1_code 17 = .ok (.aload_n 2, 1) := by decide +kernel
theorem own_b11_18 : decode prog_120_method_1_code 18 = .ok (.putfield 21, 3) := by decide +kernel
theorem own_b11_21 : decode prog_120_method_1_code 21 = .ok (.return_, 1) := by decide +kernel
theorem own_pf_b11 : plainFor (⟨"com/example/vestline/vestline/model/VestingResult$YearsOfService", "<init>", "(ILjava/lang/String;)V"⟩ : MethodName) = true := by first | exact plainFor_of_name (by first | (simp [plainName, overriddenIn, x]; done) | decide +kernel) | decide +kernel
theorem own_pd_7 : parseMethodDescriptor "()V" = some ⟨[], none⟩ := by decide +kernel
theorem own_pd_8 : parseMethodDescriptor "(Ljava/lang/Object;Ljava/lang/String;)Ljava/lang/Object;" = some ⟨[(.object "java/lang/Object"), (.object "java/lang/String")], some (.object "java/lang/Object")⟩ := by decide +kernel
set_option maxRecDepth 65536 in
set_option maxHeartbeats 40000000 in
theorem own_ys (l : Launch) (Z : State) (a0 : Array Value) (hw : ∀ d ∈ tables_1, d.before a0 Z = true) (n0 : Nat) (h : Heap) (o : Nat) (yr : Int32) (sc : Nat) (u1 u2 : Value) (Ex : Exa Z h o "com/example/vestline/vestline/model/VestingResult$YearsOfService") (Fy : Fld Z h o "com/example/vestline/vestline/model/VestingResult$YearsOfService" "years" "I" u1) (Fs : Fld Z h o "com/example/vestline/vestline/model/VestingResult$YearsOfService" "section" "Ljava/lang/String;" u2) (n0_o : n0 ≤ o) :
    ConW l Z (⟨"com/example/vestline/vestline/model/VestingResult$YearsOfService", "<init>", "(ILjava/lang/String;)V"⟩ : MethodName) prog_120_method_1_code 3 none ({ frames := 2, cells := 2, slots := 32, locals := 24 } : Room) n0 #[(.ref o), (.int yr), (.ref sc)] h (R0 fun h' => Keep h h' [o]) := by
  refine ConW.of (ls := [.val (.ref o), .val (.int yr), .val (.ref sc)]) own_pf_b11 (fun m => by first | (simp [entryFrame, mkF, argsToLocals, Value.category]; done) | rfl) fun k s0 KW => ?_
  have Kp := Keep.refl h [o]
  refine WP.aloadN KW.1 1 own_b11_0 rfl rfl rfl ?_
  refine WP.callI KW.1 (a := o) 4 0 0 0 [] [] (hw _ (List.mem_of_getElem? (i := 50) rfl)) (hw _ (List.mem_of_getElem? (i := 51) rfl)) (hw _ (List.mem_of_getElem? (i := 53) rfl)) (hw _ (List.mem_of_getElem? (i := 54) rfl)) rfl (by decide) own_pd_7 rfl rfl rfl (by decide) (by decide) (Nat.le_of_eq rfl) rfl own_b11_1 rfl rfl rfl (by decide) (by decide) (own_recinit l Z a0 hw n0 h o) (r0_next fun h1 q2 => ?_)
  obtain rfl := q2
  refine WP.aloadN KW.1 5 own_b11_4 rfl rfl rfl ?_
  refine WP.ldcS KW 7 28 2 32 (hw _ (List.mem_of_getElem? (i := 56) rfl)) (own_strAtoms hw) own_b11_5 rfl (by decide) (by decide) (Nat.zero_le _) rfl rfl (by decide) (by decide) (fun k4 h5 lit6 KW7 E8 => ?_)
  have Ex := Ex.ext E8
  have Fy := Fy.ext E8
  have Fs := Fs.ext E8
  have Kp := Kp.ext E8
  have SW : h5.size ≤ h5.size := Nat.le_refl _
  refine WP.callS KW7.1 10 2 32 0 [(.ref sc), (.ref lit6)] [] (hw _ (List.mem_of_getElem? (i := 59) rfl)) (hw _ (List.mem_of_getElem? (i := 60) rfl)) (hw _ (List.mem_of_getElem? (i := 61) rfl)) (hw _ (List.mem_of_getElem? (i := 62) rfl)) (by decide) own_pd_8 rfl rfl rfl (by decide) (by decide) (Nat.le_of_eq rfl) rfl own_b11_7 rfl rfl rfl (by decide) (by decide) (own_req l Z a0 hw n0 h5 sc lit6 ) (r1_next fun r11 h9 q10 => ?_)
  obtain ⟨rfl, rfl⟩ := q10
  refine WP.pop KW7.1 11 own_b11_10 rfl rfl ?_
  refine WP.aloadN KW7.1 12 own_b11_11 rfl rfl rfl ?_
  refine WP.iloadN KW7.1 13 own_b11_12 rfl rfl ?_
  refine WP.putfield KW7.1 (host := "") (a := o) 16 (Or.inl (hw _ (List.mem_of_getElem? (i := 63) rfl))) Via.refl Fy Ex (Or.inr ⟨(hw _ (List.mem_of_getElem? (i := 64) rfl)), rfl, rfl⟩) (hw _ (List.mem_of_getElem? (i := 45) rfl)) (ty := .int) (by decide) rfl rfl own_b11_13 rfl n0_o (fun h12 W13 => ?_)
  have Ex := Ex.wr W13
  have Fy := Fy.same W13
  have Fs := Fs.other W13 (Or.inr (slot_ne (Or.inr (hw _ (List.mem_of_getElem? (i := 66) rfl))) (Or.inr (hw _ (List.mem_of_getElem? (i := 64) rfl))) (by decide) (t := (.object "java/lang/String")) (t' := .int) (by decide) (by decide)))
  have Kp := Kp.wr W13 (Or.inl (by simp))
  have SW : h5.size ≤ (h12).size := by rw [W13.size]; exact SW
  refine WP.aloadN KW7.1 17 own_b11_16 rfl rfl rfl ?_
  refine WP.aloadN KW7.1 18 own_b11_17 rfl rfl rfl ?_
  refine WP.putfield KW7.1 (host := "") (a := o) 21 (Or.inl (hw _ (List.mem_of_getElem? (i := 65) rfl))) Via.refl Fs Ex (Or.inr ⟨(hw _ (List.mem_of_getElem? (i := 66) rfl)), rfl, rfl⟩) (hw _ (List.mem_of_getElem? (i := 45) rfl)) (ty := (.object "java/lang/String")) (by decide) rfl rfl own_b11_18 rfl n0_o (fun h14 W15 => ?_)
  have Ex := Ex.wr W15
  have Fy := Fy.other W15 (Or.inr (slot_ne (Or.inr (hw _ (List.mem_of_getElem? (i := 64) rfl))) (Or.inr (hw _ (List.mem_of_getElem? (i := 66) rfl))) (by decide) (t := .int) (t' := (.object "java/lang/String")) (by decide) (by decide)))
  have Fs := Fs.same W15
  have Kp := Kp.wr W15 (Or.inl (by simp))
  have SW : h5.size ≤ (h14).size := by rw [W15.size]; exact SW
  refine WP.retV KW7.1 rfl own_b11_21 ?_ (by decide) (by decide)
  exact ⟨⟨rfl, Kp⟩, SW⟩
theorem own_b16_0 : decode jdk_22_method_1_code 0 = .ok (.aload_n 0, 1) := by decide +kernel
theorem own_b16_1 : decode jdk_22_method_1_code 1 = .ok (.invokespecial 1, 3) := by decide +kernel
theorem own_b16_4 : decode jdk_22_method_1_code 4 = .ok (.return_, 1) := by decide +kernel
theorem own_pf_b16 : plainFor (⟨"java/util/AbstractCollection", "<init>", "()V"⟩ : MethodName) = true := by first | exact plainFor_of_name (by first | (simp [plainName, overriddenIn, x]; done) | decide +kernel) | decide +kernel
set_option maxRecDepth 65536 in
set_option maxHeartbeats 40000000 in
theorem own_acinit (l : Launch) (Z : State) (a0 : Array Value) (hw : ∀ d ∈ tables_1, d.before a0 Z = true) (n0 : Nat) (h : Heap) (o : Nat)  :
    Con l Z (⟨"java/util/AbstractCollection", "<init>", "()V"⟩ : MethodName) jdk_22_method_1_code 1 none ({ frames := 1, cells := 0, slots := 0, locals := 12 } : Room) n0 #[(.ref o)] h (R0 fun h' => h = h') := by
  refine Con.of (ls := [.val (.ref o)]) own_pf_b16 (fun m => by first | (simp [entryFrame, mkF, argsToLocals, Value.category]; done) | rfl) fun k K => ?_
  refine WP.aloadN K 1 own_b16_0 rfl rfl rfl ?_
  refine WP.initO K 4 0 (hw _ (List.mem_of_getElem? (i := 85) rfl)) (hw _ (List.mem_of_getElem? (i := 12) rfl)) (hw _ (List.mem_of_getElem? (i := 13) rfl)) own_b16_1 rfl rfl (by decide) (Nat.le_of_eq rfl) (by decide) ?_
  refine WP.retV K rfl own_b16_4 ?_ (by decide) (by decide)
  exact ⟨rfl, rfl⟩
theorem own_b15_0 : decode jdk_39_method_1_code 0 = .ok (.aload_n 0, 1) := by decide +kernel
theorem own_b15_1 : decode jdk_39_method_1_code 1 = .ok (.invokespecial 1, 3) := by decide +kernel
theorem own_b15_4 : decode jdk_39_method_1_code 4 = .ok (.aload_n 0, 1) := by decide +kernel
theorem own_b15_5 : decode jdk_39_method_1_code 5 = .ok (.iconst 0, 1) := by decide +kernel
theorem own_b15_6 : decode jdk_39_method_1_code 6 = .ok (.putfield 7, 3) := by decide +kernel
theorem own_b15_9 : decode jdk_39_method_1_code 9 = .ok (.return_, 1) := by decide +kernel
theorem own_pf_b15 : plainFor (⟨"java/util/AbstractList", "<init>", "()V"⟩ : MethodName) = true := by first | exact plainFor_of_name (by first | (simp [plainName, overriddenIn, x]; done) | decide +kernel) | decide +kernel
set_option maxRecDepth 65536 in
set_option maxHeartbeats 40000000 in
theorem own_alinit (l : Launch) (Z : State) (a0 : Array Value) (hw : ∀ d ∈ tables_1, d.before a0 Z = true) (n0 : Nat) (h : Heap) (o : Nat) (u1 : Value) (Ex : Exa Z h o "java/util/ArrayList") (Fm : Fld Z h o "java/util/AbstractList" "modCount" "I" u1) (n0_o : n0 ≤ o) (u2 u3 : Value) (Fd : Fld Z h o "java/util/ArrayList" "elementData" "[Ljava/lang/Object;" u2) (Fz : Fld Z h o "java/util/ArrayList" "size" "I" u3) :
    Con l Z (⟨"java/util/AbstractList", "<init>", "()V"⟩ : MethodName) jdk_39_method_1_code 1 none ({ frames := 2, cells := 0, slots := 0, locals := 24 } : Room) n0 #[(.ref o)] h (R0 fun h' => Keep h h' [o] ∧ Fld Z h' o "java/util/AbstractList" "modCount" "I" (.int 0) ∧ Fld Z h' o "java/util/ArrayList" "elementData" "[Ljava/lang/Object;" u2 ∧ Fld Z h' o "java/util/ArrayList" "size" "I" u3) := by
  refine Con.of (ls := [.val (.ref o)]) own_pf_b15 (fun m => by first | (simp [entryFrame, mkF, argsToLocals, Value.category]; done) | rfl) fun k K => ?_
  have k_0 : (0 : Int32).toInt = 0 := rfl
  have Kp := Keep.refl h [o]
  refine WP.aloadN K 1 own_b15_0 rfl rfl rfl ?_
  refine WP.callI K (a := o) 4 0 0 0 [] [] (hw _ (List.mem_of_getElem? (i := 79) rfl)) (hw _ (List.mem_of_getElem? (i := 80) rfl)) (hw _ (List.mem_of_getElem? (i := 83) rfl)) (hw _ (List.mem_of_getElem? (i := 84) rfl)) rfl (by decide) own_pd_7 rfl rfl rfl (by decide) (by decide) (Nat.le_of_eq rfl) rfl own_b15_1 rfl rfl rfl (by decide) (by decide) (own_acinit l Z a0 hw n0 h o) (r0_next fun h1 q2 => ?_)
  obtain rfl := q2
  refine WP.aloadN K 5 own_b15_4 rfl rfl rfl ?_
  refine WP.iconst K (0 : Int32) 6 own_b15_5 rfl rfl ?_
  refine WP.putfield K (host := "") (a := o) 9 (Or.inl (hw _ (List.mem_of_getElem? (i := 86) rfl))) Via.refl Fm Ex (Or.inl (hw _ (List.mem_of_getElem? (i := 87) rfl))) (hw _ (List.mem_of_getElem? (i := 68) rfl)) (ty := .int) (by decide) rfl rfl own_b15_6 rfl n0_o (fun h4 W5 => ?_)
  have Ex := Ex.wr W5
  have Fm := Fm.same W5
  have Fd := Fd.other W5 (Or.inr (slot_ne (Or.inl (hw _ (List.mem_of_getElem? (i := 90) rfl))) (Or.inl (hw _ (List.mem_of_getElem? (i := 87) rfl))) (by decide) (t := (.array (.object "java/lang/Object"))) (t' := .int) (by decide) (by decide)))
  have Fz := Fz.other W5 (Or.inr (slot_ne (Or.inl (hw _ (List.mem_of_getElem? (i := 103) rfl))) (Or.inl (hw _ (List.mem_of_getElem? (i := 87) rfl))) (by decide) (t := .int) (t' := .int) (by decide) (by decide)))
  have Kp := Kp.wr W5 (Or.inl (by simp))
  refine WP.retV K rfl own_b15_9 ?_ (by decide) (by decide)
  exact ⟨rfl, Kp, Fm, Fd, Fz⟩
theorem own_b14_0 : decode jdk_38_method_2_code 0 = .ok (.aload_n 0, 1) := by decide +kernel
theorem own_b14_1 : decode jdk_38_method_2_code 1 = .ok (.invokespecial 1, 3) := by decide +kernel
theorem own_b14_4 : decode jdk_38_method_2_code 4 = .ok (.aload_n 0, 1) := by decide +kernel
theorem own_b14_5 : decode jdk_38_method_2_code 5 = .ok (.getstatic 39, 3) := by decide +kernel
theorem own_b14_8 : decode jdk_38_method_2_code 8 = .ok (.putfield 9, 3) := by decide +kernel
theorem own_b14_11 : decode jdk_38_method_2_code 11 = .ok (.return_, 1) := by decide +kernel
theorem own_pf_b14 : plainFor (⟨"java/util/ArrayList", "<init>", "()V"⟩ : MethodName) = true := by first | exact plainFor_of_name (by first | (simp [plainName, overriddenIn, x]; done) | decide +kernel) | decide +kernel
set_option maxRecDepth 65536 in
set_option maxHeartbeats 40000000 in
theorem own_alctor (l : Launch) (Z : State) (a0 : Array Value) (hw : ∀ d ∈ tables_1, d.before a0 Z = true) (n0 : Nat) (h : Heap) (o : Nat) (u1 : Value) (Ex : Exa Z h o "java/util/ArrayList") (Fm : Fld Z h o "java/util/AbstractList" "modCount" "I" u1) (n0_o : n0 ≤ o) (u2 : Value) (Fd : Fld Z h o "java/util/ArrayList" "elementData" "[Ljava/lang/Object;" u2) (Fz : Fld Z h o "java/util/ArrayList" "size" "I" (.int 0)) (cs : Int32) (de el : Nat) (SS : STS Z h n0 cs de el) :
    Con l Z (⟨"java/util/ArrayList", "<init>", "()V"⟩ : MethodName) jdk_38_method_2_code 1 none ({ frames := 3, cells := 0, slots := 0, locals := 36 } : Room) n0 #[(.ref o)] h (R0 fun h' => Keep h h' [o] ∧ Fld Z h' o "java/util/AbstractList" "modCount" "I" (.int 0) ∧ Fld Z h' o "java/util/ArrayList" "elementData" "[Ljava/lang/Object;" (.ref de) ∧ Fld Z h' o "java/util/ArrayList" "size" "I" (.int 0)) := by
  refine Con.of (ls := [.val (.ref o)]) own_pf_b14 (fun m => by first | (simp [entryFrame, mkF, argsToLocals, Value.category]; done) | rfl) fun k K => ?_
  have Kp := Keep.refl h [o]
  refine WP.aloadN K 1 own_b14_0 rfl rfl rfl ?_
  refine WP.callI K (a := o) 4 0 0 0 [] [] (hw _ (List.mem_of_getElem? (i := 73) rfl)) (hw _ (List.mem_of_getElem? (i := 74) rfl)) (hw _ (List.mem_of_getElem? (i := 77) rfl)) (hw _ (List.mem_of_getElem? (i := 78) rfl)) rfl (by decide) own_pd_7 rfl rfl rfl (by decide) (by decide) (Nat.le_of_eq rfl) rfl own_b14_1 rfl rfl rfl (by decide) (by decide) (own_alinit l Z a0 hw n0 h o _ Ex Fm n0_o _ _ Fd Fz) (r0_next fun h1 q2 => ?_)
  obtain ⟨Kc, Fm, Fd, Fz⟩ := q2
  have Ex := Ex.keep Kc
  have Kp := Kp.trans Kc (ks1 (by first | (refine Or.inl ?_; simp; done) | (refine Or.inr ?_; omega)))
  have SS := SS.keep Kc (kn1 (by omega))
  refine WP.aloadN K 5 own_b14_4 rfl rfl rfl ?_
  refine WP.getstatic K 8 (hw _ (List.mem_of_getElem? (i := 88) rfl)) Via.refl SS.2.1.sta own_b14_5 rfl ?_
  refine WP.putfield K (host := "") (a := o) 11 (Or.inl (hw _ (List.mem_of_getElem? (i := 89) rfl))) Via.refl Fd Ex (Or.inl (hw _ (List.mem_of_getElem? (i := 90) rfl))) (hw _ (List.mem_of_getElem? (i := 68) rfl)) (ty := (.array (.object "java/lang/Object"))) (by decide) rfl rfl own_b14_8 rfl n0_o (fun h4 W5 => ?_)
  have Ex := Ex.wr W5
  have Kp := Kp.wr W5 (Or.inl (by simp))
  have SS := SS.keep (Keep.of_wr W5) (kn1 (by omega))
  have Fm := Fm.other W5 (Or.inr (slot_ne (Or.inl (hw _ (List.mem_of_getElem? (i := 87) rfl))) (Or.inl (hw _ (List.mem_of_getElem? (i := 90) rfl))) (by decide) (t := .int) (t' := (.array (.object "java/lang/Object"))) (by decide) (by decide)))
  have Fd := Fd.same W5
  have Fz := Fz.other W5 (Or.inr (slot_ne (Or.inl (hw _ (List.mem_of_getElem? (i := 103) rfl))) (Or.inl (hw _ (List.mem_of_getElem? (i := 90) rfl))) (by decide) (t := .int) (t' := (.array (.object "java/lang/Object"))) (by decide) (by decide)))
  refine WP.retV K rfl own_b14_11 ?_ (by decide) (by decide)
  exact ⟨rfl, Kp, Fm, Fd, Fz⟩
theorem own_b20_0 : decode jdk_38_method_6_code 0 = .ok (.aload_n 0, 1) := by decide +kernel
theorem own_b20_1 : decode jdk_38_method_6_code 1 = .ok (.getfield 9, 3) := by decide +kernel
theorem own_b20_4 : decode jdk_38_method_6_code 4 = .ok (.arraylength, 1) := by decide +kernel
theorem own_b20_5 : decode jdk_38_method_6_code 5 = .ok (.istore_n 2, 1) := by decide +kernel
theorem own_b20_6 : decode jdk_38_method_6_code 6 = .ok (.iload_n 2, 1) := by decide +kernel
theorem own_b20_7 : decode jdk_38_method_6_code 7 = .ok (.ifCond .gt 13, 3) := by decide +kernel
theorem own_b20_10 : decode jdk_38_method_6_code 10 = .ok (.aload_n 0, 1) := by decide +kernel
theorem own_b20_11 : decode jdk_38_method_6_code 11 = .ok (.getfield 9, 3) := by decide +kernel
theorem own_b20_14 : decode jdk_38_method_6_code 14 = .ok (.getstatic 39, 3) := by decide +kernel
theorem own_b20_17 : decode jdk_38_method_6_code 17 = .ok (.if_acmp .eq 28, 3) := by decide +kernel
theorem own_b20_20 : decode jdk_38_method_6_code 20 = .ok (.iload_n 2, 1) := by decide +kernel
theorem own_b20_21 : decode jdk_38_method_6_code 21 = .ok (.iload_n 1, 1) := by decide +kernel
theorem own_b20_22 : decode jdk_38_method_6_code 22 = .ok (.iload_n 2, 1) := by decide +kernel
theorem own_b20_23 : decode jdk_38_method_6_code 23 = .ok (.isub, 1) := by decide +kernel
theorem own_b20_24 : decode jdk_38_method_6_code 24 = .ok (.iload_n 2, 1) := by decide +kernel
theorem own_b20_25 : decode jdk_38_method_6_code 25 = .ok (.iconst 1, 1) := by decide +kernel
theorem own_b20_26 : decode jdk_38_method_6_code 26 = .ok (.ishr, 1) := by decide +kernel
theorem own_b20_27 : decode jdk_38_method_6_code 27 = .ok (.invokestatic 73, 3) := by decide +kernel
theorem own_b20_30 : decode jdk_38_method_6_code 30 = .ok (.istore_n 3, 1) := by decide +kernel
theorem own_b20_31 : decode jdk_38_method_6_code 31 = .ok (.aload_n 0, 1) := by decide +kernel
theorem own_b20_32 : decode jdk_38_method_6_code 32 = .ok (.aload_n 0, 1) := by decide +kernel
theorem own_b20_33 : decode jdk_38_method_6_code 33 = .ok (.getfield 9, 3) := by decide +kernel
theorem own_b20_36 : decode jdk_38_method_6_code 36 = .ok (.iload_n 3, 1) := by decide +kernel
theorem own_b20_37 : decode jdk_38_method_6_code 37 = .ok (.invokestatic 66, 3) := by decide +kernel
theorem own_b20_40 : decode jdk_38_method_6_code 40 = .ok (.dup_x1, 1) := by decide +kernel
theorem own_b20_41 : decode jdk_38_method_6_code 41 = .ok (.putfield 9, 3) := by decide +kernel
theorem own_b20_44 : decode jdk_38_method_6_code 44 = .ok (.areturn, 1) := by decide +kernel
theorem own_b20_45 : decode jdk_38_method_6_code 45 = .ok (.aload_n 0, 1) := by decide +kernel
theorem own_b20_46 : decode jdk_38_method_6_code 46 = .ok (.bipush 10, 2) := by decide +kernel
theorem own_b20_48 : decode jdk_38_method_6_code 48 = .ok (.iload_n 1, 1) := by decide +kernel
theorem own_b20_49 : decode jdk_38_method_6_code 49 = .ok (.invokestatic 79, 3) := by decide +kernel
theorem own_b20_52 : decode jdk_38_method_6_code 52 = .ok (.anewarray 7, 3) := by decide +kernel
theorem own_b20_55 : decode jdk_38_method_6_code 55 = .ok (.dup_x1, 1) := by decide +kernel
theorem own_b20_56 : decode jdk_38_method_6_code 56 = .ok (.putfield 9, 3) := by decide +kernel
theorem own_b20_59 : decode jdk_38_method_6_code 59 = .ok (.areturn, 1) := by decide +kernel
theorem own_pf_b20 : plainFor (⟨"java/util/ArrayList", "grow", "(I)[Ljava/lang/Object;"⟩ : MethodName) = true := by first | exact plainFor_of_name (by first | (simp [plainName, overriddenIn, x]; done) | decide +kernel) | decide +kernel
theorem own_pd_9 : parseMethodDescriptor "(II)I" = some ⟨[.int, .int], some .int⟩ := by decide +kernel
set_option maxRecDepth 65536 in
set_option maxHeartbeats 40000000 in
theorem own_growI (l : Launch) (Z : State) (a0 : Array Value) (hw : ∀ d ∈ tables_1, d.before a0 Z = true) (n0 : Nat) (h : Heap) (o : Nat) (cs : Int32) (de el : Nat) (SS : STS Z h n0 cs de el) (Ex : Exa Z h o "java/util/ArrayList") (Fd : Fld Z h o "java/util/ArrayList" "elementData" "[Ljava/lang/Object;" (.ref de)) (Fz : Fld Z h o "java/util/ArrayList" "size" "I" (.int 0)) (n0_o : n0 ≤ o) (Z0 : n0 ≤ h.size) :
    Con l Z (⟨"java/util/ArrayList", "grow", "(I)[Ljava/lang/Object;"⟩ : MethodName) jdk_38_method_6_code 4 (some (.array (.object "java/lang/Object"))) ({ frames := 1, cells := 1, slots := 10, locals := 14 } : Room) n0 #[(.ref o), (.int (1 : Int32))] h (R1 fun r h' => ∃ g : Nat, r = .ref g ∧ Keep h h' [o] ∧ h.size ≤ g ∧ ArR Z h' g (.object "java/lang/Object") "java/lang/Object" (List.replicate 10 .null) ∧ Fld Z h' o "java/util/ArrayList" "size" "I" (.int 0)) := by
  refine Con.of (ls := [.val (.ref o), .val (.int (1 : Int32)), .unset, .unset]) own_pf_b20 (fun m => by first | (simp [entryFrame, mkF, argsToLocals, Value.category]; done) | rfl) fun k K => ?_
  have k_1 : (1 : Int32).toInt = 1 := rfl
  have k_10 : (10 : Int32).toInt = 10 := rfl
  have Kp := Keep.refl h [o]
  have A_de := SS.2.2.2.1
  have hde := SS.2.2.2.2.1
  refine WP.aloadN K 1 own_b20_0 rfl rfl rfl ?_
  refine WP.getfield K (host := "") 4 (Or.inl (hw _ (List.mem_of_getElem? (i := 89) rfl))) Via.refl Fd own_b20_1 rfl ?_
  refine WP.arraylength K (0 : Int32) 5 A_de rfl own_b20_4 rfl ?_
  refine WP.istoreN K 6 [.val (.ref o), .val (.int (1 : Int32)), .val (.int (0 : Int32)), .unset] own_b20_5 rfl rfl ?_
  refine WP.iloadN K 7 own_b20_6 rfl rfl ?_
  refine WP.if_gt K 20 10 own_b20_7 (by decide) rfl (fun c7 => ?_) (fun c7 => ?_)
  · skip
    exact absurd c7 (by decide)
  · skip
    refine WP.aloadN K 11 own_b20_10 rfl rfl rfl ?_
    refine WP.getfield K (host := "") 14 (Or.inl (hw _ (List.mem_of_getElem? (i := 89) rfl))) Via.refl Fd own_b20_11 rfl ?_
    refine WP.getstatic K 17 (hw _ (List.mem_of_getElem? (i := 88) rfl)) Via.refl SS.2.1.sta own_b20_14 rfl ?_
    refine WP.acmp_eq K 45 20 own_b20_17 (by decide) rfl rfl rfl (fun c17 => ?_) (fun c17 => ?_)
    · skip
      refine WP.aloadN K 46 own_b20_45 rfl rfl rfl ?_
      refine WP.bipush K (10 : Int32) 48 own_b20_46 rfl rfl ?_
      refine WP.iloadN K 49 own_b20_48 rfl rfl ?_
      refine WP.callS K 52 0 0 1 [(.int (10 : Int32)), (.int (1 : Int32))] [(.ref o)] (hw _ (List.mem_of_getElem? (i := 119) rfl)) (hw _ (List.mem_of_getElem? (i := 120) rfl)) (hw _ (List.mem_of_getElem? (i := 121) rfl)) (hw _ (List.mem_of_getElem? (i := 122) rfl)) (by decide) own_pd_9 rfl rfl rfl (by decide) (by decide) (Nat.le_of_eq rfl) rfl own_b20_49 rfl rfl rfl (by decide) (by decide) (own_max l Z a0 hw n0 h (10 : Int32) (1 : Int32) ) (r1_next fun r3 h1 q2 => ?_)
      obtain ⟨rfl, rfl⟩ := q2
      rw [show (max32 (10 : Int32) (1 : Int32)) = (10 : Int32) from rfl]
      refine WP.anewarrayO K 55 10 10 1 10 (C := "java/lang/Object") (hw _ (List.mem_of_getElem? (i := 123) rfl)) (hw _ (List.mem_of_getElem? (i := 124) rfl)) own_b20_52 rfl rfl (Nat.le_refl _) (by decide) rfl rfl (by decide) (by decide) (fun h4 g z_g E5 R_g => ?_)
      have l_o_g : @LT.lt Nat _ o g := z_g ▸ Ex.lt
      have n0_g : @LE.le Nat _ n0 g := z_g ▸ Z0
      have Z0 : n0 ≤ (h4).size := Nat.le_trans Z0 E5.1
      have SS := SS.ext E5
      have Ex := Ex.ext E5
      have Fd := Fd.ext E5
      have Fz := Fz.ext E5
      have Kp := Kp.ext E5
      refine WP.dupX1 K 56 own_b20_55 rfl rfl rfl ?_
      refine WP.putfield K (host := "") (a := o) 59 (Or.inl (hw _ (List.mem_of_getElem? (i := 89) rfl))) Via.refl Fd Ex (Or.inl (hw _ (List.mem_of_getElem? (i := 90) rfl))) (hw _ (List.mem_of_getElem? (i := 68) rfl)) (ty := (.array (.object "java/lang/Object"))) (by decide) rfl rfl own_b20_56 rfl n0_o (fun h6 W7 => ?_)
      have Z0 : n0 ≤ (h6).size := by rw [W7.size]; exact Z0
      have SS := SS.keep (Keep.of_wr W7) (kn1 (by omega))
      have Ex := Ex.wr W7
      have Fd := Fd.same W7
      have Fz := Fz.other W7 (Or.inr (slot_ne (Or.inl (hw _ (List.mem_of_getElem? (i := 103) rfl))) (Or.inl (hw _ (List.mem_of_getElem? (i := 90) rfl))) (by decide) (t := .int) (t' := (.array (.object "java/lang/Object"))) (by decide) (by decide)))
      have Kp := Kp.wr W7 (by first | (refine Or.inl ?_; simp; done) | (refine Or.inr ?_; omega))
      have R_g := R_g.other W7 (ne_addr (by omega))
      refine WP.aret K rfl rfl rfl rfl own_b20_59 ?_ (by decide) (by decide)
      exact ⟨_, rfl, g, rfl, Kp, Nat.le_of_eq z_g.symm, R_g, Fz⟩
    · skip
      exact absurd rfl c17
theorem own_b19_0 : decode jdk_38_method_7_code 0 = .ok (.aload_n 0, 1) := by decide +kernel
theorem own_b19_1 : decode jdk_38_method_7_code 1 = .ok (.aload_n 0, 1) := by decide +kernel
theorem own_b19_2 : decode jdk_38_method_7_code 2 = .ok (.getfield 48, 3) := by decide +kernel
theorem own_b19_5 : decode jdk_38_method_7_code 5 = .ok (.iconst 1, 1) := by decide +kernel
theorem own_b19_6 : decode jdk_38_method_7_code 6 = .ok (.iadd, 1) := by decide +kernel
theorem own_b19_7 : decode jdk_38_method_7_code 7 = .ok (.invokevirtual 69, 3) := by decide +kernel
theorem own_b19_10 : decode jdk_38_method_7_code 10 = .ok (.areturn, 1) := by decide +kernel
theorem own_pf_b19 : plainFor (⟨"java/util/ArrayList", "grow", "()[Ljava/lang/Object;"⟩ : MethodName) = true := by first | exact plainFor_of_name (by first | (simp [plainName, overriddenIn, x]; done) | decide +kernel) | decide +kernel
theorem own_pd_10 : parseMethodDescriptor "(I)[Ljava/lang/Object;" = some ⟨[.int], some (.array (.object "java/lang/Object"))⟩ := by decide +kernel
set_option maxRecDepth 65536 in
set_option maxHeartbeats 40000000 in
theorem own_grow0 (l : Launch) (Z : State) (a0 : Array Value) (hw : ∀ d ∈ tables_1, d.before a0 Z = true) (n0 : Nat) (h : Heap) (o : Nat) (cs : Int32) (de el : Nat) (SS : STS Z h n0 cs de el) (Ex : Exa Z h o "java/util/ArrayList") (Fd : Fld Z h o "java/util/ArrayList" "elementData" "[Ljava/lang/Object;" (.ref de)) (Fz : Fld Z h o "java/util/ArrayList" "size" "I" (.int 0)) (n0_o : n0 ≤ o) (Z0 : n0 ≤ h.size) :
    Con l Z (⟨"java/util/ArrayList", "grow", "()[Ljava/lang/Object;"⟩ : MethodName) jdk_38_method_7_code 1 (some (.array (.object "java/lang/Object"))) ({ frames := 2, cells := 1, slots := 10, locals := 29 } : Room) n0 #[(.ref o)] h (R1 fun r h' => ∃ g : Nat, r = .ref g ∧ Keep h h' [o] ∧ h.size ≤ g ∧ ArR Z h' g (.object "java/lang/Object") "java/lang/Object" (List.replicate 10 .null) ∧ Fld Z h' o "java/util/ArrayList" "size" "I" (.int 0)) := by
  refine Con.of (ls := [.val (.ref o)]) own_pf_b19 (fun m => by first | (simp [entryFrame, mkF, argsToLocals, Value.category]; done) | rfl) fun k K => ?_
  have k_1 : (1 : Int32).toInt = 1 := rfl
  have Kp := Keep.refl h [o]
  refine WP.aloadN K 1 own_b19_0 rfl rfl rfl ?_
  refine WP.aloadN K 2 own_b19_1 rfl rfl rfl ?_
  refine WP.getfield K (host := "") 5 (Or.inl (hw _ (List.mem_of_getElem? (i := 102) rfl))) Via.refl Fz own_b19_2 rfl ?_
  refine WP.iconst K (1 : Int32) 6 own_b19_5 rfl rfl ?_
  refine WP.iadd K 7 own_b19_6 rfl ?_
  rw [show ((0 : Int32) + (1 : Int32)) = (1 : Int32) from rfl]
  refine WP.callP K (a := o) (C := "java/util/ArrayList") 10 1 10 0 [(.int (1 : Int32))] [] (hw _ (List.mem_of_getElem? (i := 114) rfl)) (hw _ (List.mem_of_getElem? (i := 115) rfl)) (u := (⟨"java/util/ArrayList", "add", "(Ljava/lang/Object;[Ljava/lang/Object;I)V"⟩ : MethodName)) rfl (hw _ (List.mem_of_getElem? (i := 107) rfl)) (hw _ (List.mem_of_getElem? (i := 116) rfl)) (hw _ (List.mem_of_getElem? (i := 69) rfl)) (hw _ (List.mem_of_getElem? (i := 118) rfl)) (by decide) own_pd_10 rfl rfl rfl (by decide) (by decide) (Nat.le_of_eq rfl) rfl own_b19_7 rfl rfl rfl (by decide) (by decide) Ex (own_growI l Z a0 hw n0 h o cs de el SS Ex Fd Fz n0_o Z0) (r1_next fun r3 h1 q2 => ?_)
  obtain ⟨g, rfl, Kc, sz_g, R_g, Fz⟩ := q2
  have l_o_g : @LT.lt Nat _ o g := Nat.lt_of_lt_of_le Ex.lt sz_g
  have n0_g : @LE.le Nat _ n0 g := Nat.le_trans Z0 sz_g
  have Z0 : n0 ≤ (h1).size := Nat.le_trans Z0 Kc.1
  have SS := SS.keep Kc (kn1 (by omega))
  have Ex := Ex.keep Kc
  have Kp := Kp.trans Kc (ks1 (by first | (refine Or.inl ?_; simp; done) | (refine Or.inr ?_; omega)))
  refine WP.aret K rfl rfl rfl rfl own_b19_10 ?_ (by decide) (by decide)
  exact ⟨_, rfl, g, rfl, Kp, sz_g, R_g, Fz⟩
theorem own_b18_0 : decode jdk_38_method_24_code 0 = .ok (.iload_n 3, 1) := by decide +kernel
theorem own_b18_1 : decode jdk_38_method_24_code 1 = .ok (.aload_n 2, 1) := by decide +kernel
theorem own_b18_2 : decode jdk_38_method_24_code 2 = .ok (.arraylength, 1) := by decide +kernel
theorem own_b18_3 : decode jdk_38_method_24_code 3 = .ok (.if_icmp .ne 8, 3) := by decide +kernel
theorem own_b18_6 : decode jdk_38_method_24_code 6 = .ok (.aload_n 0, 1) := by decide +kernel
theorem own_b18_7 : decode jdk_38_method_24_code 7 = .ok (.invokevirtual 129, 3) := by decide +kernel
theorem own_b18_10 : decode jdk_38_method_24_code 10 = .ok (.astore_n 2, 1) := by decide +kernel
theorem own_b18_11 : decode jdk_38_method_24_code 11 = .ok (.aload_n 2, 1) := by decide +kernel
theorem own_b18_12 : decode jdk_38_method_24_code 12 = .ok (.iload_n 3, 1) := by decide +kernel
theorem own_b18_13 : decode jdk_38_method_24_code 13 = .ok (.aload_n 1, 1) := by decide +kernel
theorem own_b18_14 : decode jdk_38_method_24_code 14 = .ok (.aastore, 1) := by decide +kernel
theorem own_b18_15 : decode jdk_38_method_24_code 15 = .ok (.aload_n 0, 1) := by decide +kernel
theorem own_b18_16 : decode jdk_38_method_24_code 16 = .ok (.iload_n 3, 1) := by decide +kernel
theorem own_b18_17 : decode jdk_38_method_24_code 17 = .ok (.iconst 1, 1) := by decide +kernel
theorem own_b18_18 : decode jdk_38_method_24_code 18 = .ok (.iadd, 1) := by decide +kernel
theorem own_b18_19 : decode jdk_38_method_24_code 19 = .ok (.putfield 48, 3) := by decide +kernel
theorem own_b18_22 : decode jdk_38_method_24_code 22 = .ok (.return_, 1) := by decide +kernel
theorem own_pf_b18 : plainFor (⟨"java/util/ArrayList", "add", "(Ljava/lang/Object;[Ljava/lang/Object;I)V"⟩ : MethodName) = true := by first | exact plainFor_of_name (by first | (simp [plainName, overriddenIn, x]; done) | decide +kernel) | decide +kernel
theorem own_pd_11 : parseMethodDescriptor "()[Ljava/lang/Object;" = some ⟨[], some (.array (.object "java/lang/Object"))⟩ := by decide +kernel
set_option maxRecDepth 65536 in
set_option maxHeartbeats 40000000 in
theorem own_add3 (l : Launch) (Z : State) (a0 : Array Value) (hw : ∀ d ∈ tables_1, d.before a0 Z = true) (n0 : Nat) (h : Heap) (o e : Nat) (cs : Int32) (de el : Nat) (SS : STS Z h n0 cs de el) (Ex : Exa Z h o "java/util/ArrayList") (Fd : Fld Z h o "java/util/ArrayList" "elementData" "[Ljava/lang/Object;" (.ref de)) (Fz : Fld Z h o "java/util/ArrayList" "size" "I" (.int 0)) (n0_o : n0 ≤ o) (Z0 : n0 ≤ h.size) (Xe : Exa Z h e "java/lang/String") :
    Con l Z (⟨"java/util/ArrayList", "add", "(Ljava/lang/Object;[Ljava/lang/Object;I)V"⟩ : MethodName) jdk_38_method_24_code 4 none ({ frames := 3, cells := 1, slots := 10, locals := 41 } : Room) n0 #[(.ref o), (.ref e), (.ref de), (.int (0 : Int32))] h (R0 fun h' => Keep h h' [o]) := by
  refine Con.of (ls := [.val (.ref o), .val (.ref e), .val (.ref de), .val (.int (0 : Int32))]) own_pf_b18 (fun m => by first | (simp [entryFrame, mkF, argsToLocals, Value.category]; done) | rfl) fun k K => ?_
  have k_1 : (1 : Int32).toInt = 1 := rfl
  have Kp := Keep.refl h [o]
  have A_de := SS.2.2.2.1
  have hde := SS.2.2.2.2.1
  refine WP.iloadN K 1 own_b18_0 rfl rfl ?_
  refine WP.aloadN K 2 own_b18_1 rfl rfl rfl ?_
  refine WP.arraylength K (0 : Int32) 3 A_de rfl own_b18_2 rfl ?_
  refine WP.icmp_ne K 11 6 own_b18_3 (by decide) rfl (fun c3 => ?_) (fun c3 => ?_)
  · skip
    exact absurd c3 (by decide)
  · skip
    refine WP.aloadN K 7 own_b18_6 rfl rfl rfl ?_
    refine WP.callP K (a := o) (C := "java/util/ArrayList") 10 1 10 0 [] [] (hw _ (List.mem_of_getElem? (i := 109) rfl)) (hw _ (List.mem_of_getElem? (i := 110) rfl)) (u := (⟨"java/util/ArrayList", "add", "(Ljava/lang/Object;[Ljava/lang/Object;I)V"⟩ : MethodName)) rfl (hw _ (List.mem_of_getElem? (i := 107) rfl)) (hw _ (List.mem_of_getElem? (i := 111) rfl)) (hw _ (List.mem_of_getElem? (i := 69) rfl)) (hw _ (List.mem_of_getElem? (i := 113) rfl)) (by decide) own_pd_11 rfl rfl rfl (by decide) (by decide) (Nat.le_of_eq rfl) rfl own_b18_7 rfl rfl rfl (by decide) (by decide) Ex (own_grow0 l Z a0 hw n0 h o cs de el SS Ex Fd Fz n0_o Z0) (r1_next fun r3 h1 q2 => ?_)
    obtain ⟨g, rfl, Kc, sz_g, R_g, Fz⟩ := q2
    have l_o_g : @LT.lt Nat _ o g := Nat.lt_of_lt_of_le Ex.lt sz_g
    have l_e_g : @LT.lt Nat _ e g := Nat.lt_of_lt_of_le Xe.lt sz_g
    have n0_g : @LE.le Nat _ n0 g := Nat.le_trans Z0 sz_g
    have Z0 : n0 ≤ (h1).size := Nat.le_trans Z0 Kc.1
    have SS := SS.keep Kc (kn1 (by omega))
    have Ex := Ex.keep Kc
    have Kp := Kp.trans Kc (ks1 (by first | (refine Or.inl ?_; simp; done) | (refine Or.inr ?_; omega)))
    have Xe := Xe.keep Kc
    refine WP.astoreN K 11 [.val (.ref o), .val (.ref e), .val (.ref g), .val (.int (0 : Int32))] own_b18_10 rfl rfl rfl ?_
    refine WP.aloadN K 12 own_b18_11 rfl rfl rfl ?_
    refine WP.iloadN K 13 own_b18_12 rfl rfl ?_
    refine WP.aloadN K 14 own_b18_13 rfl rfl rfl ?_
    refine WP.aastore K 15 0 R_g rfl (R_g.sto (Ins.of_exa Xe (hw _ (List.mem_of_getElem? (i := 125) rfl)))) rfl rfl (by simp) own_b18_14 rfl n0_g (fun h4 K5 R_g => ?_)
    have Z0 : n0 ≤ (h4).size := Nat.le_trans Z0 K5.1
    have SS := SS.keep K5 (kn1 (by omega))
    have Ex := Ex.keep K5
    have Kp := Kp.trans K5 (ks1 (by first | (refine Or.inl ?_; simp; done) | (refine Or.inr ?_; omega)))
    have Xe := Xe.keep K5
    have Fz := Fz.keep K5 (nm1 (by omega))
    refine WP.aloadN K 16 own_b18_15 rfl rfl rfl ?_
    refine WP.iloadN K 17 own_b18_16 rfl rfl ?_
    refine WP.iconst K (1 : Int32) 18 own_b18_17 rfl rfl ?_
    refine WP.iadd K 19 own_b18_18 rfl ?_
    refine WP.putfield K (host := "") (a := o) 22 (Or.inl (hw _ (List.mem_of_getElem? (i := 102) rfl))) Via.refl Fz Ex (Or.inl (hw _ (List.mem_of_getElem? (i := 103) rfl))) (hw _ (List.mem_of_getElem? (i := 68) rfl)) (ty := .int) (by decide) rfl rfl own_b18_19 rfl n0_o (fun h6 W7 => ?_)
    have Z0 : n0 ≤ (h6).size := by rw [W7.size]; exact Z0
    have SS := SS.keep (Keep.of_wr W7) (kn1 (by omega))
    have Ex := Ex.wr W7
    have Kp := Kp.wr W7 (by first | (refine Or.inl ?_; simp; done) | (refine Or.inr ?_; omega))
    have Xe := Xe.wr W7
    have Fz := Fz.same W7
    refine WP.retV K rfl own_b18_22 ?_ (by decide) (by decide)
    exact ⟨rfl, Kp⟩
theorem own_b17_0 : decode jdk_38_method_25_code 0 = .ok (.aload_n 0, 1) := by decide +kernel
theorem own_b17_1 : decode jdk_38_method_25_code 1 = .ok (.dup, 1) := by decide +kernel
theorem own_b17_2 : decode jdk_38_method_25_code 2 = .ok (.getfield 63, 3) := by decide +kernel
theorem own_b17_5 : decode jdk_38_method_25_code 5 = .ok (.iconst 1, 1) := by decide +kernel
theorem own_b17_6 : decode jdk_38_method_25_code 6 = .ok (.iadd, 1) := by decide +kernel
theorem own_b17_7 : decode jdk_38_method_25_code 7 = .ok (.putfield 63, 3) := by decide +kernel
theorem own_b17_10 : decode jdk_38_method_25_code 10 = .ok (.aload_n 0, 1) := by decide +kernel
theorem own_b17_11 : decode jdk_38_method_25_code 11 = .ok (.aload_n 1, 1) := by decide +kernel
theorem own_b17_12 : decode jdk_38_method_25_code 12 = .ok (.aload_n 0, 1) := by decide +kernel
theorem own_b17_13 : decode jdk_38_method_25_code 13 = .ok (.getfield 9, 3) := by decide +kernel
theorem own_b17_16 : decode jdk_38_method_25_code 16 = .ok (.aload_n 0, 1) := by decide +kernel
theorem own_b17_17 : decode jdk_38_method_25_code 17 = .ok (.getfield 48, 3) := by decide +kernel
theorem own_b17_20 : decode jdk_38_method_25_code 20 = .ok (.invokevirtual 131, 3) := by decide +kernel
theorem own_b17_23 : decode jdk_38_method_25_code 23 = .ok (.iconst 1, 1) := by decide +kernel
theorem own_b17_24 : decode jdk_38_method_25_code 24 = .ok (.ireturn, 1) := by decide +kernel
theorem own_pf_b17 : plainFor (⟨"java/util/ArrayList", "add", "(Ljava/lang/Object;)Z"⟩ : MethodName) = true := by first | exact plainFor_of_name (by first | (simp [plainName, overriddenIn, x]; done) | decide +kernel) | decide +kernel
theorem own_pd_12 : parseMethodDescriptor "(Ljava/lang/Object;[Ljava/lang/Object;I)V" = some ⟨[(.object "java/lang/Object"), (.array (.object "java/lang/Object")), .int], none⟩ := by decide +kernel
set_option maxRecDepth 65536 in
set_option maxHeartbeats 40000000 in
theorem own_add1 (l : Launch) (Z : State) (a0 : Array Value) (hw : ∀ d ∈ tables_1, d.before a0 Z = true) (n0 : Nat) (h : Heap) (o e : Nat) (cs : Int32) (de el : Nat) (SS : STS Z h n0 cs de el) (Ex : Exa Z h o "java/util/ArrayList") (Fd : Fld Z h o "java/util/ArrayList" "elementData" "[Ljava/lang/Object;" (.ref de)) (Fz : Fld Z h o "java/util/ArrayList" "size" "I" (.int 0)) (n0_o : n0 ≤ o) (Z0 : n0 ≤ h.size) (Xe : Exa Z h e "java/lang/String") (Fm : Fld Z h o "java/util/AbstractList" "modCount" "I" (.int 0)) :
    Con l Z (⟨"java/util/ArrayList", "add", "(Ljava/lang/Object;)Z"⟩ : MethodName) jdk_38_method_25_code 2 (some .boolean) ({ frames := 4, cells := 1, slots := 10, locals := 56 } : Room) n0 #[(.ref o), (.ref e)] h (R1 fun r h' => r = .int 1 ∧ Keep h h' [o]) := by
  refine Con.of (ls := [.val (.ref o), .val (.ref e)]) own_pf_b17 (fun m => by first | (simp [entryFrame, mkF, argsToLocals, Value.category]; done) | rfl) fun k K => ?_
  have k_1 : (1 : Int32).toInt = 1 := rfl
  have Kp := Keep.refl h [o]
  refine WP.aloadN K 1 own_b17_0 rfl rfl rfl ?_
  refine WP.dup K 2 own_b17_1 rfl rfl ?_
  refine WP.getfield K (host := "") 5 (Or.inl (hw _ (List.mem_of_getElem? (i := 100) rfl))) (Via.of (hw _ (List.mem_of_getElem? (i := 101) rfl))) Fm own_b17_2 rfl ?_
  refine WP.iconst K (1 : Int32) 6 own_b17_5 rfl rfl ?_
  refine WP.iadd K 7 own_b17_6 rfl ?_
  refine WP.putfield K (host := "") (a := o) 10 (Or.inl (hw _ (List.mem_of_getElem? (i := 100) rfl))) (Via.of (hw _ (List.mem_of_getElem? (i := 101) rfl))) Fm Ex (Or.inl (hw _ (List.mem_of_getElem? (i := 87) rfl))) (hw _ (List.mem_of_getElem? (i := 68) rfl)) (ty := .int) (by decide) rfl rfl own_b17_7 rfl n0_o (fun h1 W2 => ?_)
  have Z0 : n0 ≤ (h1).size := by rw [W2.size]; exact Z0
  have SS := SS.keep (Keep.of_wr W2) (kn1 (by omega))
  have Ex := Ex.wr W2
  have Fd := Fd.other W2 (Or.inr (slot_ne (Or.inl (hw _ (List.mem_of_getElem? (i := 90) rfl))) (Or.inl (hw _ (List.mem_of_getElem? (i := 87) rfl))) (by decide) (t := (.array (.object "java/lang/Object"))) (t' := .int) (by decide) (by decide)))
  have Fz := Fz.other W2 (Or.inr (slot_ne (Or.inl (hw _ (List.mem_of_getElem? (i := 103) rfl))) (Or.inl (hw _ (List.mem_of_getElem? (i := 87) rfl))) (by decide) (t := .int) (t' := .int) (by decide) (by decide)))
  have Kp := Kp.wr W2 (by first | (refine Or.inl ?_; simp; done) | (refine Or.inr ?_; omega))
  have Xe := Xe.wr W2
  have Fm := Fm.same W2
  refine WP.aloadN K 11 own_b17_10 rfl rfl rfl ?_
  refine WP.aloadN K 12 own_b17_11 rfl rfl rfl ?_
  refine WP.aloadN K 13 own_b17_12 rfl rfl rfl ?_
  refine WP.getfield K (host := "") 16 (Or.inl (hw _ (List.mem_of_getElem? (i := 89) rfl))) Via.refl Fd own_b17_13 rfl ?_
  refine WP.aloadN K 17 own_b17_16 rfl rfl rfl ?_
  refine WP.getfield K (host := "") 20 (Or.inl (hw _ (List.mem_of_getElem? (i := 102) rfl))) Via.refl Fz own_b17_17 rfl ?_
  refine WP.callP K (a := o) (C := "java/util/ArrayList") 23 1 10 0 [(.ref e), (.ref de), (.int (0 : Int32))] [] (hw _ (List.mem_of_getElem? (i := 104) rfl)) (hw _ (List.mem_of_getElem? (i := 105) rfl)) (u := (⟨"java/util/ArrayList", "add", "(Ljava/lang/Object;[Ljava/lang/Object;I)V"⟩ : MethodName)) rfl (hw _ (List.mem_of_getElem? (i := 107) rfl)) (hw _ (List.mem_of_getElem? (i := 106) rfl)) (hw _ (List.mem_of_getElem? (i := 69) rfl)) (hw _ (List.mem_of_getElem? (i := 108) rfl)) (by decide) own_pd_12 rfl rfl rfl (by decide) (by decide) (Nat.le_of_eq rfl) rfl own_b17_20 rfl rfl rfl (by decide) (by decide) Ex (own_add3 l Z a0 hw n0 h1 o e cs de el SS Ex Fd Fz n0_o Z0 Xe) (r0_next fun h3 q4 => ?_)
  have Kc : Keep _ _ _ := q4
  have Kp := Kp.trans Kc (ks1 (by first | (refine Or.inl ?_; simp; done) | (refine Or.inr ?_; omega)))
  refine WP.iconst K (1 : Int32) 24 own_b17_23 rfl rfl ?_
  refine WP.iret K rfl (Or.inr (Or.inl rfl)) rfl own_b17_24 ?_ (by decide) (by decide)
  exact ⟨_, rfl, rfl, Kp⟩
theorem own_b23_0 : decode jdk_40_method_36_code 0 = .ok (.getstatic 90, 3) := by decide +kernel
theorem own_b23_3 : decode jdk_40_method_36_code 3 = .ok (.areturn, 1) := by decide +kernel
theorem own_pf_b23 : plainFor (⟨"java/util/List", "of", "()Ljava/util/List;"⟩ : MethodName) = true := by first | exact plainFor_of_name (by first | (simp [plainName, overriddenIn, x]; done) | decide +kernel) | decide +kernel
set_option maxRecDepth 65536 in
set_option maxHeartbeats 40000000 in
theorem own_listof (l : Launch) (Z : State) (a0 : Array Value) (hw : ∀ d ∈ tables_1, d.before a0 Z = true) (n0 : Nat) (h : Heap) (cs : Int32) (de el : Nat) (SS : STS Z h n0 cs de el) :
    Con l Z (⟨"java/util/List", "of", "()Ljava/util/List;"⟩ : MethodName) jdk_40_method_36_code 0 (some (.object "java/util/List")) ({ frames := 0, cells := 0, slots := 0, locals := 0 } : Room) n0 #[] h (R1 fun r h' => r = .ref el ∧ h = h') := by
  refine Con.of (ls := []) own_pf_b23 (fun m => by first | (simp [entryFrame, mkF, argsToLocals, Value.category]; done) | rfl) fun k K => ?_
  refine WP.getstatic K 3 (hw _ (List.mem_of_getElem? (i := 137) rfl)) Via.refl SS.2.2.1.sta own_b23_0 rfl ?_
  refine WP.aret K rfl rfl rfl rfl own_b23_3 ?_ (by decide) (by decide)
  exact ⟨_, rfl, rfl, rfl⟩
theorem own_b22_0 : decode prog_36_method_1_code 0 = .ok (.aload_n 0, 1) := by decide +kernel
theorem own_b22_1 : decode prog_36_method_1_code 1 = .ok (.invokespecial 1, 3) := by decide +kernel
theorem own_b22_4 : decode prog_36_method_1_code 4 = .ok (.aload_n 0, 1) := by decide +kernel
theorem own_b22_5 : decode prog_36_method_1_code 5 = .ok (.invokestatic 7, 3) := by decide +kernel
theorem own_b22_8 : decode prog_36_method_1_code 8 = .ok (.putfield 13, 3) := by decide +kernel
theorem own_b22_11 : decode prog_36_method_1_code 11 = .ok (.aload_n 0, 1) := by decide +kernel
theorem own_b22_12 : decode prog_36_method_1_code 12 = .ok (.invokestatic 7, 3) := by decide +kernel
theorem own_b22_15 : decode prog_36_method_1_code 15 = .ok (.putfield 19, 3) := by decide +kernel
theorem own_b22_18 : decode prog_36_method_1_code 18 = .ok (.return_, 1) := by decide +kernel
theorem own_pf_b22 : plainFor (⟨"com/example/vestline/vestline/model/CensusFigures", "<init>", "()V"⟩ : MethodName) = true := by first | exact plainFor_of_name (by first | (simp [plainName, overriddenIn, x]; done) | decide +kernel) | decide +kernel
theorem own_pd_13 : parseMethodDescriptor "()Ljava/util/List;" = some ⟨[], some (.object "java/util/List")⟩ := by decide +kernel
set_option maxRecDepth 65536 in
set_option maxHeartbeats 40000000 in
theorem own_cf (l : Launch) (Z : State) (a0 : Array Value) (hw : ∀ d ∈ tables_1, d.before a0 Z = true) (n0 : Nat) (h : Heap) (o : Nat) (cs : Int32) (de el : Nat) (SS : STS Z h n0 cs de el) (Ex : Exa Z h o "com/example/vestline/vestline/model/CensusFigures") (n0_o : n0 ≤ o) (u0 : Value) (fy : Fld Z h o "com/example/vestline/vestline/model/CensusFigures" "yearsOfService" "Lcom/example/vestline/vestline/model/VestingResult$YearsOfService;" u0) (u1 : Value) (fp : Fld Z h o "com/example/vestline/vestline/model/CensusFigures" "percents" "Ljava/util/List;" u1) (u2 : Value) (fs : Fld Z h o "com/example/vestline/vestline/model/CensusFigures" "sections" "Ljava/util/List;" u2) (u3 : Value) (fv : Fld Z h o "com/example/vestline/vestline/model/CensusFigures" "vested" "J" u3) (u4 : Value) (ff : Fld Z h o "com/example/vestline/vestline/model/CensusFigures" "forfeited" "J" u4) (u5 : Value) (fl : Fld Z h o "com/example/vestline/vestline/model/CensusFigures" "largeVested" "Ljava/math/BigDecimal;" u5) (u6 : Value) (fm : Fld Z h o "com/example/vestline/vestline/model/CensusFigures" "largeForfeited" "Ljava/math/BigDecimal;" u6) :
    Con l Z (⟨"com/example/vestline/vestline/model/CensusFigures", "<init>", "()V"⟩ : MethodName) prog_36_method_1_code 1 none ({ frames := 1, cells := 0, slots := 0, locals := 12 } : Room) n0 #[(.ref o)] h (R0 fun h' => Keep h h' [o] ∧ Fld Z h' o "com/example/vestline/vestline/model/CensusFigures" "yearsOfService" "Lcom/example/vestline/vestline/model/VestingResult$YearsOfService;" u0 ∧ Fld Z h' o "com/example/vestline/vestline/model/CensusFigures" "percents" "Ljava/util/List;" (.ref el) ∧ Fld Z h' o "com/example/vestline/vestline/model/CensusFigures" "sections" "Ljava/util/List;" (.ref el) ∧ Fld Z h' o "com/example/vestline/vestline/model/CensusFigures" "vested" "J" u3 ∧ Fld Z h' o "com/example/vestline/vestline/model/CensusFigures" "forfeited" "J" u4 ∧ Fld Z h' o "com/example/vestline/vestline/model/CensusFigures" "largeVested" "Ljava/math/BigDecimal;" u5 ∧ Fld Z h' o "com/example/vestline/vestline/model/CensusFigures" "largeForfeited" "Ljava/math/BigDecimal;" u6) := by
  refine Con.of (ls := [.val (.ref o)]) own_pf_b22 (fun m => by first | (simp [entryFrame, mkF, argsToLocals, Value.category]; done) | rfl) fun k K => ?_
  have Kp := Keep.refl h [o]
  refine WP.aloadN K 1 own_b22_0 rfl rfl rfl ?_
  refine WP.initO K 4 0 (hw _ (List.mem_of_getElem? (i := 132) rfl)) (hw _ (List.mem_of_getElem? (i := 12) rfl)) (hw _ (List.mem_of_getElem? (i := 13) rfl)) own_b22_1 rfl rfl (by decide) (Nat.le_of_eq rfl) (by decide) ?_
  refine WP.aloadN K 5 own_b22_4 rfl rfl rfl ?_
  refine WP.callS K 8 0 0 1 [] [(.ref o)] (hw _ (List.mem_of_getElem? (i := 133) rfl)) (hw _ (List.mem_of_getElem? (i := 134) rfl)) (hw _ (List.mem_of_getElem? (i := 135) rfl)) (hw _ (List.mem_of_getElem? (i := 136) rfl)) (by decide) own_pd_13 rfl rfl rfl (by decide) (by decide) (Nat.le_of_eq rfl) rfl own_b22_5 rfl rfl rfl (by decide) (by decide) (own_listof l Z a0 hw n0 h cs de el SS) (r1_next fun r3 h1 q2 => ?_)
  obtain ⟨rfl, rfl⟩ := q2
  refine WP.putfield K (host := "") (a := o) 11 (Or.inl (hw _ (List.mem_of_getElem? (i := 139) rfl))) Via.refl fp Ex (Or.inl (hw _ (List.mem_of_getElem? (i := 140) rfl))) (hw _ (List.mem_of_getElem? (i := 127) rfl)) (ty := (.object "java/util/List")) (by decide) rfl rfl own_b22_8 rfl n0_o (fun h4 W5 => ?_)
  have SS := SS.keep (Keep.of_wr W5) (kn1 (by omega))
  have Ex := Ex.wr W5
  have Kp := Kp.wr W5 (Or.inl (by simp))
  have fy := fy.other W5 (Or.inr (slot_ne (Or.inl (hw _ (List.mem_of_getElem? (i := 149) rfl))) (Or.inl (hw _ (List.mem_of_getElem? (i := 140) rfl))) (by decide) (t := (.object "com/example/vestline/vestline/model/VestingResult$YearsOfService")) (t' := (.object "java/util/List")) (by decide) (by decide)))
  have fp := fp.same W5
  have fs := fs.other W5 (Or.inr (slot_ne (Or.inl (hw _ (List.mem_of_getElem? (i := 142) rfl))) (Or.inl (hw _ (List.mem_of_getElem? (i := 140) rfl))) (by decide) (t := (.object "java/util/List")) (t' := (.object "java/util/List")) (by decide) (by decide)))
  have fv := fv.other W5 (Or.inr (slot_ne (Or.inl (hw _ (List.mem_of_getElem? (i := 151) rfl))) (Or.inl (hw _ (List.mem_of_getElem? (i := 140) rfl))) (by decide) (t := .long) (t' := (.object "java/util/List")) (by decide) (by decide)))
  have ff := ff.other W5 (Or.inr (slot_ne (Or.inl (hw _ (List.mem_of_getElem? (i := 153) rfl))) (Or.inl (hw _ (List.mem_of_getElem? (i := 140) rfl))) (by decide) (t := .long) (t' := (.object "java/util/List")) (by decide) (by decide)))
  have fl := fl.other W5 (Or.inr (slot_ne (Or.inl (hw _ (List.mem_of_getElem? (i := 155) rfl))) (Or.inl (hw _ (List.mem_of_getElem? (i := 140) rfl))) (by decide) (t := (.object "java/math/BigDecimal")) (t' := (.object "java/util/List")) (by decide) (by decide)))
  have fm := fm.other W5 (Or.inr (slot_ne (Or.inl (hw _ (List.mem_of_getElem? (i := 157) rfl))) (Or.inl (hw _ (List.mem_of_getElem? (i := 140) rfl))) (by decide) (t := (.object "java/math/BigDecimal")) (t' := (.object "java/util/List")) (by decide) (by decide)))
  refine WP.aloadN K 12 own_b22_11 rfl rfl rfl ?_
  refine WP.callS K 15 0 0 1 [] [(.ref o)] (hw _ (List.mem_of_getElem? (i := 133) rfl)) (hw _ (List.mem_of_getElem? (i := 134) rfl)) (hw _ (List.mem_of_getElem? (i := 135) rfl)) (hw _ (List.mem_of_getElem? (i := 136) rfl)) (by decide) own_pd_13 rfl rfl rfl (by decide) (by decide) (Nat.le_of_eq rfl) rfl own_b22_12 rfl rfl rfl (by decide) (by decide) (own_listof l Z a0 hw n0 h4 cs de el SS) (r1_next fun r8 h6 q7 => ?_)
  obtain ⟨rfl, rfl⟩ := q7
  refine WP.putfield K (host := "") (a := o) 18 (Or.inl (hw _ (List.mem_of_getElem? (i := 141) rfl))) Via.refl fs Ex (Or.inl (hw _ (List.mem_of_getElem? (i := 142) rfl))) (hw _ (List.mem_of_getElem? (i := 127) rfl)) (ty := (.object "java/util/List")) (by decide) rfl rfl own_b22_15 rfl n0_o (fun h9 W10 => ?_)
  have SS := SS.keep (Keep.of_wr W10) (kn1 (by omega))
  have Ex := Ex.wr W10
  have Kp := Kp.wr W10 (Or.inl (by simp))
  have fy := fy.other W10 (Or.inr (slot_ne (Or.inl (hw _ (List.mem_of_getElem? (i := 149) rfl))) (Or.inl (hw _ (List.mem_of_getElem? (i := 142) rfl))) (by decide) (t := (.object "com/example/vestline/vestline/model/VestingResult$YearsOfService")) (t' := (.object "java/util/List")) (by decide) (by decide)))
  have fp := fp.other W10 (Or.inr (slot_ne (Or.inl (hw _ (List.mem_of_getElem? (i := 140) rfl))) (Or.inl (hw _ (List.mem_of_getElem? (i := 142) rfl))) (by decide) (t := (.object "java/util/List")) (t' := (.object "java/util/List")) (by decide) (by decide)))
  have fs := fs.same W10
  have fv := fv.other W10 (Or.inr (slot_ne (Or.inl (hw _ (List.mem_of_getElem? (i := 151) rfl))) (Or.inl (hw _ (List.mem_of_getElem? (i := 142) rfl))) (by decide) (t := .long) (t' := (.object "java/util/List")) (by decide) (by decide)))
  have ff := ff.other W10 (Or.inr (slot_ne (Or.inl (hw _ (List.mem_of_getElem? (i := 153) rfl))) (Or.inl (hw _ (List.mem_of_getElem? (i := 142) rfl))) (by decide) (t := .long) (t' := (.object "java/util/List")) (by decide) (by decide)))
  have fl := fl.other W10 (Or.inr (slot_ne (Or.inl (hw _ (List.mem_of_getElem? (i := 155) rfl))) (Or.inl (hw _ (List.mem_of_getElem? (i := 142) rfl))) (by decide) (t := (.object "java/math/BigDecimal")) (t' := (.object "java/util/List")) (by decide) (by decide)))
  have fm := fm.other W10 (Or.inr (slot_ne (Or.inl (hw _ (List.mem_of_getElem? (i := 157) rfl))) (Or.inl (hw _ (List.mem_of_getElem? (i := 142) rfl))) (by decide) (t := (.object "java/math/BigDecimal")) (t' := (.object "java/util/List")) (by decide) (by decide)))
  refine WP.retV K rfl own_b22_18 ?_ (by decide) (by decide)
  exact ⟨rfl, Kp, fy, fp, fs, fv, ff, fl, fm⟩
theorem own_b24_0 : decode prog_36_method_2_code 0 = .ok (.aload_n 0, 1) := by decide +kernel
theorem own_b24_1 : decode prog_36_method_2_code 1 = .ok (.aload_n 1, 1) := by decide +kernel
theorem own_b24_2 : decode prog_36_method_2_code 2 = .ok (.putfield 22, 3) := by decide +kernel
theorem own_b24_5 : decode prog_36_method_2_code 5 = .ok (.aload_n 0, 1) := by decide +kernel
theorem own_b24_6 : decode prog_36_method_2_code 6 = .ok (.aload_n 2, 1) := by decide +kernel
theorem own_b24_7 : decode prog_36_method_2_code 7 = .ok (.putfield 13, 3) := by decide +kernel
theorem own_b24_10 : decode prog_36_method_2_code 10 = .ok (.aload_n 0, 1) := by decide +kernel
theorem own_b24_11 : decode prog_36_method_2_code 11 = .ok (.aload_n 3, 1) := by decide +kernel
theorem own_b24_12 : decode prog_36_method_2_code 12 = .ok (.putfield 19, 3) := by decide +kernel
theorem own_b24_15 : decode prog_36_method_2_code 15 = .ok (.aload_n 0, 1) := by decide +kernel
theorem own_b24_16 : decode prog_36_method_2_code 16 = .ok (.lload 4, 2) := by decide +kernel
theorem own_b24_18 : decode prog_36_method_2_code 18 = .ok (.putfield 26, 3) := by decide +kernel
theorem own_b24_21 : decode prog_36_method_2_code 21 = .ok (.aload_n 0, 1) := by decide +kernel
theorem own_b24_22 : decode prog_36_method_2_code 22 = .ok (.lload 6, 2) := by decide +kernel
theorem own_b24_24 : decode prog_36_method_2_code 24 = .ok (.putfield 30, 3) := by decide +kernel
theorem own_b24_27 : decode prog_36_method_2_code 27 = .ok (.aload_n 0, 1) := by decide +kernel
theorem own_b24_28 : decode prog_36_method_2_code 28 = .ok (.aconst_null, 1) := by decide +kernel
theorem own_b24_29 : decode prog_36_method_2_code 29 = .ok (.putfield 33, 3) := by decide +kernel
theorem own_b24_32 : decode prog_36_method_2_code 32 = .ok (.aload_n 0, 1) := by decide +kernel
theorem own_b24_33 : decode prog_36_method_2_code 33 = .ok (.aconst_null, 1) := by decide +kernel
theorem own_b24_34 : decode prog_36_method_2_code 34 = .ok (.putfield 37, 3) := by decide +kernel
theorem own_b24_37 : decode prog_36_method_2_code 37 = .ok (.return_, 1) := by decide +kernel
theorem own_pf_b24 : plainFor (⟨"com/example/vestline/vestline/model/CensusFigures", "set", "(Lcom/example/vestline/vestline/model/VestingResult$YearsOfService;Ljava/util/List;Ljava/util/List;JJ)V"⟩ : MethodName) = true := by first | exact plainFor_of_name (by first | (simp [plainName, overriddenIn, x]; done) | decide +kernel) | decide +kernel
set_option maxRecDepth 65536 in
set_option maxHeartbeats 40000000 in
theorem own_set (l : Launch) (Z : State) (a0 : Array Value) (hw : ∀ d ∈ tables_1, d.before a0 Z = true) (n0 : Nat) (h : Heap) (o y p t : Nat) (v f : Int64) (Ex : Exa Z h o "com/example/vestline/vestline/model/CensusFigures") (n0_o : n0 ≤ o) (u0 : Value) (fy : Fld Z h o "com/example/vestline/vestline/model/CensusFigures" "yearsOfService" "Lcom/example/vestline/vestline/model/VestingResult$YearsOfService;" u0) (u1 : Value) (fp : Fld Z h o "com/example/vestline/vestline/model/CensusFigures" "percents" "Ljava/util/List;" u1) (u2 : Value) (fs : Fld Z h o "com/example/vestline/vestline/model/CensusFigures" "sections" "Ljava/util/List;" u2) (u3 : Value) (fv : Fld Z h o "com/example/vestline/vestline/model/CensusFigures" "vested" "J" u3) (u4 : Value) (ff : Fld Z h o "com/example/vestline/vestline/model/CensusFigures" "forfeited" "J" u4) (u5 : Value) (fl : Fld Z h o "com/example/vestline/vestline/model/CensusFigures" "largeVested" "Ljava/math/BigDecimal;" u5) (u6 : Value) (fm : Fld Z h o "com/example/vestline/vestline/model/CensusFigures" "largeForfeited" "Ljava/math/BigDecimal;" u6) :
    Con l Z (⟨"com/example/vestline/vestline/model/CensusFigures", "set", "(Lcom/example/vestline/vestline/model/VestingResult$YearsOfService;Ljava/util/List;Ljava/util/List;JJ)V"⟩ : MethodName) prog_36_method_2_code 8 none ({ frames := 0, cells := 0, slots := 0, locals := 0 } : Room) n0 #[(.ref o), (.ref y), (.ref p), (.ref t), (.long v), (.long f)] h (R0 fun h' => Keep h h' [o] ∧ Fld Z h' o "com/example/vestline/vestline/model/CensusFigures" "yearsOfService" "Lcom/example/vestline/vestline/model/VestingResult$YearsOfService;" (.ref y) ∧ Fld Z h' o "com/example/vestline/vestline/model/CensusFigures" "percents" "Ljava/util/List;" (.ref p) ∧ Fld Z h' o "com/example/vestline/vestline/model/CensusFigures" "sections" "Ljava/util/List;" (.ref t) ∧ Fld Z h' o "com/example/vestline/vestline/model/CensusFigures" "vested" "J" (.long v) ∧ Fld Z h' o "com/example/vestline/vestline/model/CensusFigures" "forfeited" "J" (.long f) ∧ Fld Z h' o "com/example/vestline/vestline/model/CensusFigures" "largeVested" "Ljava/math/BigDecimal;" .null ∧ Fld Z h' o "com/example/vestline/vestline/model/CensusFigures" "largeForfeited" "Ljava/math/BigDecimal;" .null) := by
  refine Con.of (ls := [.val (.ref o), .val (.ref y), .val (.ref p), .val (.ref t), .val (.long v), .second, .val (.long f), .second]) own_pf_b24 (fun m => by first | (simp [entryFrame, mkF, argsToLocals, Value.category]; done) | rfl) fun k K => ?_
  have Kp := Keep.refl h [o]
  refine WP.aloadN K 1 own_b24_0 rfl rfl rfl ?_
  refine WP.aloadN K 2 own_b24_1 rfl rfl rfl ?_
  refine WP.putfield K (host := "") (a := o) 5 (Or.inl (hw _ (List.mem_of_getElem? (i := 148) rfl))) Via.refl fy Ex (Or.inl (hw _ (List.mem_of_getElem? (i := 149) rfl))) (hw _ (List.mem_of_getElem? (i := 127) rfl)) (ty := (.object "com/example/vestline/vestline/model/VestingResult$YearsOfService")) (by decide) rfl rfl own_b24_2 rfl n0_o (fun h1 W2 => ?_)
  have Ex := Ex.wr W2
  have Kp := Kp.wr W2 (Or.inl (by simp))
  have fy := fy.same W2
  have fp := fp.other W2 (Or.inr (slot_ne (Or.inl (hw _ (List.mem_of_getElem? (i := 140) rfl))) (Or.inl (hw _ (List.mem_of_getElem? (i := 149) rfl))) (by decide) (t := (.object "java/util/List")) (t' := (.object "com/example/vestline/vestline/model/VestingResult$YearsOfService")) (by decide) (by decide)))
  have fs := fs.other W2 (Or.inr (slot_ne (Or.inl (hw _ (List.mem_of_getElem? (i := 142) rfl))) (Or.inl (hw _ (List.mem_of_getElem? (i := 149) rfl))) (by decide) (t := (.object "java/util/List")) (t' := (.object "com/example/vestline/vestline/model/VestingResult$YearsOfService")) (by decide) (by decide)))
  have fv := fv.other W2 (Or.inr (slot_ne (Or.inl (hw _ (List.mem_of_getElem? (i := 151) rfl))) (Or.inl (hw _ (List.mem_of_getElem? (i := 149) rfl))) (by decide) (t := .long) (t' := (.object "com/example/vestline/vestline/model/VestingResult$YearsOfService")) (by decide) (by decide)))
  have ff := ff.other W2 (Or.inr (slot_ne (Or.inl (hw _ (List.mem_of_getElem? (i := 153) rfl))) (Or.inl (hw _ (List.mem_of_getElem? (i := 149) rfl))) (by decide) (t := .long) (t' := (.object "com/example/vestline/vestline/model/VestingResult$YearsOfService")) (by decide) (by decide)))
  have fl := fl.other W2 (Or.inr (slot_ne (Or.inl (hw _ (List.mem_of_getElem? (i := 155) rfl))) (Or.inl (hw _ (List.mem_of_getElem? (i := 149) rfl))) (by decide) (t := (.object "java/math/BigDecimal")) (t' := (.object "com/example/vestline/vestline/model/VestingResult$YearsOfService")) (by decide) (by decide)))
  have fm := fm.other W2 (Or.inr (slot_ne (Or.inl (hw _ (List.mem_of_getElem? (i := 157) rfl))) (Or.inl (hw _ (List.mem_of_getElem? (i := 149) rfl))) (by decide) (t := (.object "java/math/BigDecimal")) (t' := (.object "com/example/vestline/vestline/model/VestingResult$YearsOfService")) (by decide) (by decide)))
  refine WP.aloadN K 6 own_b24_5 rfl rfl rfl ?_
  refine WP.aloadN K 7 own_b24_6 rfl rfl rfl ?_
  refine WP.putfield K (host := "") (a := o) 10 (Or.inl (hw _ (List.mem_of_getElem? (i := 139) rfl))) Via.refl fp Ex (Or.inl (hw _ (List.mem_of_getElem? (i := 140) rfl))) (hw _ (List.mem_of_getElem? (i := 127) rfl)) (ty := (.object "java/util/List")) (by decide) rfl rfl own_b24_7 rfl n0_o (fun h3 W4 => ?_)
  have Ex := Ex.wr W4
  have Kp := Kp.wr W4 (Or.inl (by simp))
  have fy := fy.other W4 (Or.inr (slot_ne (Or.inl (hw _ (List.mem_of_getElem? (i := 149) rfl))) (Or.inl (hw _ (List.mem_of_getElem? (i := 140) rfl))) (by decide) (t := (.object "com/example/vestline/vestline/model/VestingResult$YearsOfService")) (t' := (.object "java/util/List")) (by decide) (by decide)))
  have fp := fp.same W4
  have fs := fs.other W4 (Or.inr (slot_ne (Or.inl (hw _ (List.mem_of_getElem? (i := 142) rfl))) (Or.inl (hw _ (List.mem_of_getElem? (i := 140) rfl))) (by decide) (t := (.object "java/util/List")) (t' := (.object "java/util/List")) (by decide) (by decide)))
  have fv := fv.other W4 (Or.inr (slot_ne (Or.inl (hw _ (List.mem_of_getElem? (i := 151) rfl))) (Or.inl (hw _ (List.mem_of_getElem? (i := 140) rfl))) (by decide) (t := .long) (t' := (.object "java/util/List")) (by decide) (by decide)))
  have ff := ff.other W4 (Or.inr (slot_ne (Or.inl (hw _ (List.mem_of_getElem? (i := 153) rfl))) (Or.inl (hw _ (List.mem_of_getElem? (i := 140) rfl))) (by decide) (t := .long) (t' := (.object "java/util/List")) (by decide) (by decide)))
  have fl := fl.other W4 (Or.inr (slot_ne (Or.inl (hw _ (List.mem_of_getElem? (i := 155) rfl))) (Or.inl (hw _ (List.mem_of_getElem? (i := 140) rfl))) (by decide) (t := (.object "java/math/BigDecimal")) (t' := (.object "java/util/List")) (by decide) (by decide)))
  have fm := fm.other W4 (Or.inr (slot_ne (Or.inl (hw _ (List.mem_of_getElem? (i := 157) rfl))) (Or.inl (hw _ (List.mem_of_getElem? (i := 140) rfl))) (by decide) (t := (.object "java/math/BigDecimal")) (t' := (.object "java/util/List")) (by decide) (by decide)))
  refine WP.aloadN K 11 own_b24_10 rfl rfl rfl ?_
  refine WP.aloadN K 12 own_b24_11 rfl rfl rfl ?_
  refine WP.putfield K (host := "") (a := o) 15 (Or.inl (hw _ (List.mem_of_getElem? (i := 141) rfl))) Via.refl fs Ex (Or.inl (hw _ (List.mem_of_getElem? (i := 142) rfl))) (hw _ (List.mem_of_getElem? (i := 127) rfl)) (ty := (.object "java/util/List")) (by decide) rfl rfl own_b24_12 rfl n0_o (fun h5 W6 => ?_)
  have Ex := Ex.wr W6
  have Kp := Kp.wr W6 (Or.inl (by simp))
  have fy := fy.other W6 (Or.inr (slot_ne (Or.inl (hw _ (List.mem_of_getElem? (i := 149) rfl))) (Or.inl (hw _ (List.mem_of_getElem? (i := 142) rfl))) (by decide) (t := (.object "com/example/vestline/vestline/model/VestingResult$YearsOfService")) (t' := (.object "java/util/List")) (by decide) (by decide)))
  have fp := fp.other W6 (Or.inr (slot_ne (Or.inl (hw _ (List.mem_of_getElem? (i := 140) rfl))) (Or.inl (hw _ (List.mem_of_getElem? (i := 142) rfl))) (by decide) (t := (.object "java/util/List")) (t' := (.object "java/util/List")) (by decide) (by decide)))
  have fs := fs.same W6
  have fv := fv.other W6 (Or.inr (slot_ne (Or.inl (hw _ (List.mem_of_getElem? (i := 151) rfl))) (Or.inl (hw _ (List.mem_of_getElem? (i := 142) rfl))) (by decide) (t := .long) (t' := (.object "java/util/List")) (by decide) (by decide)))
  have ff := ff.other W6 (Or.inr (slot_ne (Or.inl (hw _ (List.mem_of_getElem? (i := 153) rfl))) (Or.inl (hw _ (List.mem_of_getElem? (i := 142) rfl))) (by decide) (t := .long) (t' := (.object "java/util/List")) (by decide) (by decide)))
  have fl := fl.other W6 (Or.inr (slot_ne (Or.inl (hw _ (List.mem_of_getElem? (i := 155) rfl))) (Or.inl (hw _ (List.mem_of_getElem? (i := 142) rfl))) (by decide) (t := (.object "java/math/BigDecimal")) (t' := (.object "java/util/List")) (by decide) (by decide)))
  have fm := fm.other W6 (Or.inr (slot_ne (Or.inl (hw _ (List.mem_of_getElem? (i := 157) rfl))) (Or.inl (hw _ (List.mem_of_getElem? (i := 142) rfl))) (by decide) (t := (.object "java/math/BigDecimal")) (t' := (.object "java/util/List")) (by decide) (by decide)))
  refine WP.aloadN K 16 own_b24_15 rfl rfl rfl ?_
  refine WP.lload K 18 own_b24_16 rfl rfl ?_
  refine WP.putfield K (host := "") (a := o) 21 (Or.inl (hw _ (List.mem_of_getElem? (i := 150) rfl))) Via.refl fv Ex (Or.inl (hw _ (List.mem_of_getElem? (i := 151) rfl))) (hw _ (List.mem_of_getElem? (i := 127) rfl)) (ty := .long) (by decide) rfl rfl own_b24_18 rfl n0_o (fun h7 W8 => ?_)
  have Ex := Ex.wr W8
  have Kp := Kp.wr W8 (Or.inl (by simp))
  have fy := fy.other W8 (Or.inr (slot_ne (Or.inl (hw _ (List.mem_of_getElem? (i := 149) rfl))) (Or.inl (hw _ (List.mem_of_getElem? (i := 151) rfl))) (by decide) (t := (.object "com/example/vestline/vestline/model/VestingResult$YearsOfService")) (t' := .long) (by decide) (by decide)))
  have fp := fp.other W8 (Or.inr (slot_ne (Or.inl (hw _ (List.mem_of_getElem? (i := 140) rfl))) (Or.inl (hw _ (List.mem_of_getElem? (i := 151) rfl))) (by decide) (t := (.object "java/util/List")) (t' := .long) (by decide) (by decide)))
  have fs := fs.other W8 (Or.inr (slot_ne (Or.inl (hw _ (List.mem_of_getElem? (i := 142) rfl))) (Or.inl (hw _ (List.mem_of_getElem? (i := 151) rfl))) (by decide) (t := (.object "java/util/List")) (t' := .long) (by decide) (by decide)))
  have fv := fv.same W8
  have ff := ff.other W8 (Or.inr (slot_ne (Or.inl (hw _ (List.mem_of_getElem? (i := 153) rfl))) (Or.inl (hw _ (List.mem_of_getElem? (i := 151) rfl))) (by decide) (t := .long) (t' := .long) (by decide) (by decide)))
  have fl := fl.other W8 (Or.inr (slot_ne (Or.inl (hw _ (List.mem_of_getElem? (i := 155) rfl))) (Or.inl (hw _ (List.mem_of_getElem? (i := 151) rfl))) (by decide) (t := (.object "java/math/BigDecimal")) (t' := .long) (by decide) (by decide)))
  have fm := fm.other W8 (Or.inr (slot_ne (Or.inl (hw _ (List.mem_of_getElem? (i := 157) rfl))) (Or.inl (hw _ (List.mem_of_getElem? (i := 151) rfl))) (by decide) (t := (.object "java/math/BigDecimal")) (t' := .long) (by decide) (by decide)))
  refine WP.aloadN K 22 own_b24_21 rfl rfl rfl ?_
  refine WP.lload K 24 own_b24_22 rfl rfl ?_
  refine WP.putfield K (host := "") (a := o) 27 (Or.inl (hw _ (List.mem_of_getElem? (i := 152) rfl))) Via.refl ff Ex (Or.inl (hw _ (List.mem_of_getElem? (i := 153) rfl))) (hw _ (List.mem_of_getElem? (i := 127) rfl)) (ty := .long) (by decide) rfl rfl own_b24_24 rfl n0_o (fun h9 W10 => ?_)
  have Ex := Ex.wr W10
  have Kp := Kp.wr W10 (Or.inl (by simp))
  have fy := fy.other W10 (Or.inr (slot_ne (Or.inl (hw _ (List.mem_of_getElem? (i := 149) rfl))) (Or.inl (hw _ (List.mem_of_getElem? (i := 153) rfl))) (by decide) (t := (.object "com/example/vestline/vestline/model/VestingResult$YearsOfService")) (t' := .long) (by decide) (by decide)))
  have fp := fp.other W10 (Or.inr (slot_ne (Or.inl (hw _ (List.mem_of_getElem? (i := 140) rfl))) (Or.inl (hw _ (List.mem_of_getElem? (i := 153) rfl))) (by decide) (t := (.object "java/util/List")) (t' := .long) (by decide) (by decide)))
  have fs := fs.other W10 (Or.inr (slot_ne (Or.inl (hw _ (List.mem_of_getElem? (i := 142) rfl))) (Or.inl (hw _ (List.mem_of_getElem? (i := 153) rfl))) (by decide) (t := (.object "java/util/List")) (t' := .long) (by decide) (by decide)))
  have fv := fv.other W10 (Or.inr (slot_ne (Or.inl (hw _ (List.mem_of_getElem? (i := 151) rfl))) (Or.inl (hw _ (List.mem_of_getElem? (i := 153) rfl))) (by decide) (t := .long) (t' := .long) (by decide) (by decide)))
  have ff := ff.same W10
  have fl := fl.other W10 (Or.inr (slot_ne (Or.inl (hw _ (List.mem_of_getElem? (i := 155) rfl))) (Or.inl (hw _ (List.mem_of_getElem? (i := 153) rfl))) (by decide) (t := (.object "java/math/BigDecimal")) (t' := .long) (by decide) (by decide)))
  have fm := fm.other W10 (Or.inr (slot_ne (Or.inl (hw _ (List.mem_of_getElem? (i := 157) rfl))) (Or.inl (hw _ (List.mem_of_getElem? (i := 153) rfl))) (by decide) (t := (.object "java/math/BigDecimal")) (t' := .long) (by decide) (by decide)))
  refine WP.aloadN K 28 own_b24_27 rfl rfl rfl ?_
  refine WP.aconstNull K 29 own_b24_28 rfl ?_
  refine WP.putfield K (host := "") (a := o) 32 (Or.inl (hw _ (List.mem_of_getElem? (i := 154) rfl))) Via.refl fl Ex (Or.inl (hw _ (List.mem_of_getElem? (i := 155) rfl))) (hw _ (List.mem_of_getElem? (i := 127) rfl)) (ty := (.object "java/math/BigDecimal")) (by decide) rfl rfl own_b24_29 rfl n0_o (fun h11 W12 => ?_)
  have Ex := Ex.wr W12
  have Kp := Kp.wr W12 (Or.inl (by simp))
  have fy := fy.other W12 (Or.inr (slot_ne (Or.inl (hw _ (List.mem_of_getElem? (i := 149) rfl))) (Or.inl (hw _ (List.mem_of_getElem? (i := 155) rfl))) (by decide) (t := (.object "com/example/vestline/vestline/model/VestingResult$YearsOfService")) (t' := (.object "java/math/BigDecimal")) (by decide) (by decide)))
  have fp := fp.other W12 (Or.inr (slot_ne (Or.inl (hw _ (List.mem_of_getElem? (i := 140) rfl))) (Or.inl (hw _ (List.mem_of_getElem? (i := 155) rfl))) (by decide) (t := (.object "java/util/List")) (t' := (.object "java/math/BigDecimal")) (by decide) (by decide)))
  have fs := fs.other W12 (Or.inr (slot_ne (Or.inl (hw _ (List.mem_of_getElem? (i := 142) rfl))) (Or.inl (hw _ (List.mem_of_getElem? (i := 155) rfl))) (by decide) (t := (.object "java/util/List")) (t' := (.object "java/math/BigDecimal")) (by decide) (by decide)))
  have fv := fv.other W12 (Or.inr (slot_ne (Or.inl (hw _ (List.mem_of_getElem? (i := 151) rfl))) (Or.inl (hw _ (List.mem_of_getElem? (i := 155) rfl))) (by decide) (t := .long) (t' := (.object "java/math/BigDecimal")) (by decide) (by decide)))
  have ff := ff.other W12 (Or.inr (slot_ne (Or.inl (hw _ (List.mem_of_getElem? (i := 153) rfl))) (Or.inl (hw _ (List.mem_of_getElem? (i := 155) rfl))) (by decide) (t := .long) (t' := (.object "java/math/BigDecimal")) (by decide) (by decide)))
  have fl := fl.same W12
  have fm := fm.other W12 (Or.inr (slot_ne (Or.inl (hw _ (List.mem_of_getElem? (i := 157) rfl))) (Or.inl (hw _ (List.mem_of_getElem? (i := 155) rfl))) (by decide) (t := (.object "java/math/BigDecimal")) (t' := (.object "java/math/BigDecimal")) (by decide) (by decide)))
  refine WP.aloadN K 33 own_b24_32 rfl rfl rfl ?_
  refine WP.aconstNull K 34 own_b24_33 rfl ?_
  refine WP.putfield K (host := "") (a := o) 37 (Or.inl (hw _ (List.mem_of_getElem? (i := 156) rfl))) Via.refl fm Ex (Or.inl (hw _ (List.mem_of_getElem? (i := 157) rfl))) (hw _ (List.mem_of_getElem? (i := 127) rfl)) (ty := (.object "java/math/BigDecimal")) (by decide) rfl rfl own_b24_34 rfl n0_o (fun h13 W14 => ?_)
  have Ex := Ex.wr W14
  have Kp := Kp.wr W14 (Or.inl (by simp))
  have fy := fy.other W14 (Or.inr (slot_ne (Or.inl (hw _ (List.mem_of_getElem? (i := 149) rfl))) (Or.inl (hw _ (List.mem_of_getElem? (i := 157) rfl))) (by decide) (t := (.object "com/example/vestline/vestline/model/VestingResult$YearsOfService")) (t' := (.object "java/math/BigDecimal")) (by decide) (by decide)))
  have fp := fp.other W14 (Or.inr (slot_ne (Or.inl (hw _ (List.mem_of_getElem? (i := 140) rfl))) (Or.inl (hw _ (List.mem_of_getElem? (i := 157) rfl))) (by decide) (t := (.object "java/util/List")) (t' := (.object "java/math/BigDecimal")) (by decide) (by decide)))
  have fs := fs.other W14 (Or.inr (slot_ne (Or.inl (hw _ (List.mem_of_getElem? (i := 142) rfl))) (Or.inl (hw _ (List.mem_of_getElem? (i := 157) rfl))) (by decide) (t := (.object "java/util/List")) (t' := (.object "java/math/BigDecimal")) (by decide) (by decide)))
  have fv := fv.other W14 (Or.inr (slot_ne (Or.inl (hw _ (List.mem_of_getElem? (i := 151) rfl))) (Or.inl (hw _ (List.mem_of_getElem? (i := 157) rfl))) (by decide) (t := .long) (t' := (.object "java/math/BigDecimal")) (by decide) (by decide)))
  have ff := ff.other W14 (Or.inr (slot_ne (Or.inl (hw _ (List.mem_of_getElem? (i := 153) rfl))) (Or.inl (hw _ (List.mem_of_getElem? (i := 157) rfl))) (by decide) (t := .long) (t' := (.object "java/math/BigDecimal")) (by decide) (by decide)))
  have fl := fl.other W14 (Or.inr (slot_ne (Or.inl (hw _ (List.mem_of_getElem? (i := 155) rfl))) (Or.inl (hw _ (List.mem_of_getElem? (i := 157) rfl))) (by decide) (t := (.object "java/math/BigDecimal")) (t' := (.object "java/math/BigDecimal")) (by decide) (by decide)))
  have fm := fm.same W14
  refine WP.retV K rfl own_b24_37 ?_ (by decide) (by decide)
  exact ⟨rfl, Kp, fy, fp, fs, fv, ff, fl, fm⟩
theorem own_b25_0 : decode prog_36_method_4_code 0 = .ok (.aload_n 0, 1) := by decide +kernel
theorem own_b25_1 : decode prog_36_method_4_code 1 = .ok (.getfield 22, 3) := by decide +kernel
theorem own_b25_4 : decode prog_36_method_4_code 4 = .ok (.areturn, 1) := by decide +kernel
theorem own_pf_b25 : plainFor (⟨"com/example/vestline/vestline/model/CensusFigures", "yearsOfService", "()Lcom/example/vestline/vestline/model/VestingResult$YearsOfService;"⟩ : MethodName) = true := by first | exact plainFor_of_name (by first | (simp [plainName, overriddenIn, x]; done) | decide +kernel) | decide +kernel
set_option maxRecDepth 65536 in
set_option maxHeartbeats 40000000 in
theorem own_get_yearsOfService (l : Launch) (Z : State) (a0 : Array Value) (hw : ∀ d ∈ tables_1, d.before a0 Z = true) (n0 : Nat) (h : Heap) (o : Nat) (v : Value) (F : Fld Z h o "com/example/vestline/vestline/model/CensusFigures" "yearsOfService" "Lcom/example/vestline/vestline/model/VestingResult$YearsOfService;" v) (hv : v.isRef = true) :
    Con l Z (⟨"com/example/vestline/vestline/model/CensusFigures", "yearsOfService", "()Lcom/example/vestline/vestline/model/VestingResult$YearsOfService;"⟩ : MethodName) prog_36_method_4_code 1 (some (.object "com/example/vestline/vestline/model/VestingResult$YearsOfService")) ({ frames := 0, cells := 0, slots := 0, locals := 0 } : Room) n0 #[(.ref o)] h (R1 fun r h' => r = v ∧ h = h') := by
  refine Con.of (ls := [.val (.ref o)]) own_pf_b25 (fun m => by first | (simp [entryFrame, mkF, argsToLocals, Value.category]; done) | rfl) fun k K => ?_
  refine WP.aloadN K 1 own_b25_0 rfl rfl rfl ?_
  refine WP.getfield K (host := "") 4 (Or.inl (hw _ (List.mem_of_getElem? (i := 148) rfl))) Via.refl F own_b25_1 rfl ?_
  refine WP.aret K rfl rfl (own_narrow_ref hv rfl) hv own_b25_4 ?_ (by decide) (by decide)
  exact ⟨_, rfl, rfl, rfl⟩
theorem own_b26_0 : decode prog_36_method_5_code 0 = .ok (.aload_n 0, 1) := by decide +kernel
theorem own_b26_1 : decode prog_36_method_5_code 1 = .ok (.getfield 13, 3) := by decide +kernel
theorem own_b26_4 : decode prog_36_method_5_code 4 = .ok (.areturn, 1) := by decide +kernel
theorem own_pf_b26 : plainFor (⟨"com/example/vestline/vestline/model/CensusFigures", "percents", "()Ljava/util/List;"⟩ : MethodName) = true := by first | exact plainFor_of_name (by first | (simp [plainName, overriddenIn, x]; done) | decide +kernel) | decide +kernel
set_option maxRecDepth 65536 in
set_option maxHeartbeats 40000000 in
theorem own_get_percents (l : Launch) (Z : State) (a0 : Array Value) (hw : ∀ d ∈ tables_1, d.before a0 Z = true) (n0 : Nat) (h : Heap) (o : Nat) (v : Value) (F : Fld Z h o "com/example/vestline/vestline/model/CensusFigures" "percents" "Ljava/util/List;" v) (hv : v.isRef = true) :
    Con l Z (⟨"com/example/vestline/vestline/model/CensusFigures", "percents", "()Ljava/util/List;"⟩ : MethodName) prog_36_method_5_code 1 (some (.object "java/util/List")) ({ frames := 0, cells := 0, slots := 0, locals := 0 } : Room) n0 #[(.ref o)] h (R1 fun r h' => r = v ∧ h = h') := by
  refine Con.of (ls := [.val (.ref o)]) own_pf_b26 (fun m => by first | (simp [entryFrame, mkF, argsToLocals, Value.category]; done) | rfl) fun k K => ?_
  refine WP.aloadN K 1 own_b26_0 rfl rfl rfl ?_
  refine WP.getfield K (host := "") 4 (Or.inl (hw _ (List.mem_of_getElem? (i := 139) rfl))) Via.refl F own_b26_1 rfl ?_
  refine WP.aret K rfl rfl (own_narrow_ref hv rfl) hv own_b26_4 ?_ (by decide) (by decide)
  exact ⟨_, rfl, rfl, rfl⟩
theorem own_b27_0 : decode prog_36_method_6_code 0 = .ok (.aload_n 0, 1) := by decide +kernel
theorem own_b27_1 : decode prog_36_method_6_code 1 = .ok (.getfield 19, 3) := by decide +kernel
theorem own_b27_4 : decode prog_36_method_6_code 4 = .ok (.areturn, 1) := by decide +kernel
theorem own_pf_b27 : plainFor (⟨"com/example/vestline/vestline/model/CensusFigures", "sections", "()Ljava/util/List;"⟩ : MethodName) = true := by first | exact plainFor_of_name (by first | (simp [plainName, overriddenIn, x]; done) | decide +kernel) | decide +kernel
set_option maxRecDepth 65536 in
set_option maxHeartbeats 40000000 in
theorem own_get_sections (l : Launch) (Z : State) (a0 : Array Value) (hw : ∀ d ∈ tables_1, d.before a0 Z = true) (n0 : Nat) (h : Heap) (o : Nat) (v : Value) (F : Fld Z h o "com/example/vestline/vestline/model/CensusFigures" "sections" "Ljava/util/List;" v) (hv : v.isRef = true) :
    Con l Z (⟨"com/example/vestline/vestline/model/CensusFigures", "sections", "()Ljava/util/List;"⟩ : MethodName) prog_36_method_6_code 1 (some (.object "java/util/List")) ({ frames := 0, cells := 0, slots := 0, locals := 0 } : Room) n0 #[(.ref o)] h (R1 fun r h' => r = v ∧ h = h') := by
  refine Con.of (ls := [.val (.ref o)]) own_pf_b27 (fun m => by first | (simp [entryFrame, mkF, argsToLocals, Value.category]; done) | rfl) fun k K => ?_
  refine WP.aloadN K 1 own_b27_0 rfl rfl rfl ?_
  refine WP.getfield K (host := "") 4 (Or.inl (hw _ (List.mem_of_getElem? (i := 141) rfl))) Via.refl F own_b27_1 rfl ?_
  refine WP.aret K rfl rfl (own_narrow_ref hv rfl) hv own_b27_4 ?_ (by decide) (by decide)
  exact ⟨_, rfl, rfl, rfl⟩
theorem own_b28_0 : decode prog_36_method_7_code 0 = .ok (.aload_n 0, 1) := by decide +kernel
theorem own_b28_1 : decode prog_36_method_7_code 1 = .ok (.getfield 26, 3) := by decide +kernel
theorem own_b28_4 : decode prog_36_method_7_code 4 = .ok (.lreturn, 1) := by decide +kernel
theorem own_pf_b28 : plainFor (⟨"com/example/vestline/vestline/model/CensusFigures", "vested", "()J"⟩ : MethodName) = true := by first | exact plainFor_of_name (by first | (simp [plainName, overriddenIn, x]; done) | decide +kernel) | decide +kernel
set_option maxRecDepth 65536 in
set_option maxHeartbeats 40000000 in
theorem own_get_vested (l : Launch) (Z : State) (a0 : Array Value) (hw : ∀ d ∈ tables_1, d.before a0 Z = true) (n0 : Nat) (h : Heap) (o : Nat) (v : Int64) (F : Fld Z h o "com/example/vestline/vestline/model/CensusFigures" "vested" "J" (.long v)) :
    Con l Z (⟨"com/example/vestline/vestline/model/CensusFigures", "vested", "()J"⟩ : MethodName) prog_36_method_7_code 1 (some .long) ({ frames := 0, cells := 0, slots := 0, locals := 0 } : Room) n0 #[(.ref o)] h (R1 fun r h' => r = (.long v) ∧ h = h') := by
  refine Con.of (ls := [.val (.ref o)]) own_pf_b28 (fun m => by first | (simp [entryFrame, mkF, argsToLocals, Value.category]; done) | rfl) fun k K => ?_
  refine WP.aloadN K 1 own_b28_0 rfl rfl rfl ?_
  refine WP.getfield K (host := "") 4 (Or.inl (hw _ (List.mem_of_getElem? (i := 150) rfl))) Via.refl F own_b28_1 rfl ?_
  refine WP.lret K rfl own_b28_4 ?_ (by decide) (by decide)
  exact ⟨_, rfl, rfl, rfl⟩
theorem own_b29_0 : decode prog_36_method_8_code 0 = .ok (.aload_n 0, 1) := by decide +kernel
theorem own_b29_1 : decode prog_36_method_8_code 1 = .ok (.getfield 30, 3) := by decide +kernel
theorem own_b29_4 : decode prog_36_method_8_code 4 = .ok (.lreturn, 1) := by decide +kernel
theorem own_pf_b29 : plainFor (⟨"com/example/vestline/vestline/model/CensusFigures", "forfeited", "()J"⟩ : MethodName) = true := by first | exact plainFor_of_name (by first | (simp [plainName, overriddenIn, x]; done) | decide +kernel) | decide +kernel
set_option maxRecDepth 65536 in
set_option maxHeartbeats 40000000 in
theorem own_get_forfeited (l : Launch) (Z : State) (a0 : Array Value) (hw : ∀ d ∈ tables_1, d.before a0 Z = true) (n0 : Nat) (h : Heap) (o : Nat) (v : Int64) (F : Fld Z h o "com/example/vestline/vestline/model/CensusFigures" "forfeited" "J" (.long v)) :
    Con l Z (⟨"com/example/vestline/vestline/model/CensusFigures", "forfeited", "()J"⟩ : MethodName) prog_36_method_8_code 1 (some .long) ({ frames := 0, cells := 0, slots := 0, locals := 0 } : Room) n0 #[(.ref o)] h (R1 fun r h' => r = (.long v) ∧ h = h') := by
  refine Con.of (ls := [.val (.ref o)]) own_pf_b29 (fun m => by first | (simp [entryFrame, mkF, argsToLocals, Value.category]; done) | rfl) fun k K => ?_
  refine WP.aloadN K 1 own_b29_0 rfl rfl rfl ?_
  refine WP.getfield K (host := "") 4 (Or.inl (hw _ (List.mem_of_getElem? (i := 152) rfl))) Via.refl F own_b29_1 rfl ?_
  refine WP.lret K rfl own_b29_4 ?_ (by decide) (by decide)
  exact ⟨_, rfl, rfl, rfl⟩
theorem own_b30_0 : decode prog_36_method_9_code 0 = .ok (.aload_n 0, 1) := by decide +kernel
theorem own_b30_1 : decode prog_36_method_9_code 1 = .ok (.getfield 33, 3) := by decide +kernel
theorem own_b30_4 : decode prog_36_method_9_code 4 = .ok (.areturn, 1) := by decide +kernel
theorem own_pf_b30 : plainFor (⟨"com/example/vestline/vestline/model/CensusFigures", "largeVested", "()Ljava/math/BigDecimal;"⟩ : MethodName) = true := by first | exact plainFor_of_name (by first | (simp [plainName, overriddenIn, x]; done) | decide +kernel) | decide +kernel
set_option maxRecDepth 65536 in
set_option maxHeartbeats 40000000 in
theorem own_get_largeVested (l : Launch) (Z : State) (a0 : Array Value) (hw : ∀ d ∈ tables_1, d.before a0 Z = true) (n0 : Nat) (h : Heap) (o : Nat) (v : Value) (F : Fld Z h o "com/example/vestline/vestline/model/CensusFigures" "largeVested" "Ljava/math/BigDecimal;" v) (hv : v.isRef = true) :
    Con l Z (⟨"com/example/vestline/vestline/model/CensusFigures", "largeVested", "()Ljava/math/BigDecimal;"⟩ : MethodName) prog_36_method_9_code 1 (some (.object "java/math/BigDecimal")) ({ frames := 0, cells := 0, slots := 0, locals := 0 } : Room) n0 #[(.ref o)] h (R1 fun r h' => r = v ∧ h = h') := by
  refine Con.of (ls := [.val (.ref o)]) own_pf_b30 (fun m => by first | (simp [entryFrame, mkF, argsToLocals, Value.category]; done) | rfl) fun k K => ?_
  refine WP.aloadN K 1 own_b30_0 rfl rfl rfl ?_
  refine WP.getfield K (host := "") 4 (Or.inl (hw _ (List.mem_of_getElem? (i := 154) rfl))) Via.refl F own_b30_1 rfl ?_
  refine WP.aret K rfl rfl (own_narrow_ref hv rfl) hv own_b30_4 ?_ (by decide) (by decide)
  exact ⟨_, rfl, rfl, rfl⟩
theorem own_b31_0 : decode prog_36_method_10_code 0 = .ok (.aload_n 0, 1) := by decide +kernel
theorem own_b31_1 : decode prog_36_method_10_code 1 = .ok (.getfield 37, 3) := by decide +kernel
theorem own_b31_4 : decode prog_36_method_10_code 4 = .ok (.areturn, 1) := by decide +kernel
theorem own_pf_b31 : plainFor (⟨"com/example/vestline/vestline/model/CensusFigures", "largeForfeited", "()Ljava/math/BigDecimal;"⟩ : MethodName) = true := by first | exact plainFor_of_name (by first | (simp [plainName, overriddenIn, x]; done) | decide +kernel) | decide +kernel
set_option maxRecDepth 65536 in
set_option maxHeartbeats 40000000 in
theorem own_get_largeForfeited (l : Launch) (Z : State) (a0 : Array Value) (hw : ∀ d ∈ tables_1, d.before a0 Z = true) (n0 : Nat) (h : Heap) (o : Nat) (v : Value) (F : Fld Z h o "com/example/vestline/vestline/model/CensusFigures" "largeForfeited" "Ljava/math/BigDecimal;" v) (hv : v.isRef = true) :
    Con l Z (⟨"com/example/vestline/vestline/model/CensusFigures", "largeForfeited", "()Ljava/math/BigDecimal;"⟩ : MethodName) prog_36_method_10_code 1 (some (.object "java/math/BigDecimal")) ({ frames := 0, cells := 0, slots := 0, locals := 0 } : Room) n0 #[(.ref o)] h (R1 fun r h' => r = v ∧ h = h') := by
  refine Con.of (ls := [.val (.ref o)]) own_pf_b31 (fun m => by first | (simp [entryFrame, mkF, argsToLocals, Value.category]; done) | rfl) fun k K => ?_
  refine WP.aloadN K 1 own_b31_0 rfl rfl rfl ?_
  refine WP.getfield K (host := "") 4 (Or.inl (hw _ (List.mem_of_getElem? (i := 156) rfl))) Via.refl F own_b31_1 rfl ?_
  refine WP.aret K rfl rfl (own_narrow_ref hv rfl) hv own_b31_4 ?_ (by decide) (by decide)
  exact ⟨_, rfl, rfl, rfl⟩
theorem own_pf_law : plainFor x = true := by first | exact plainFor_of_name (by first | (simp [plainName, overriddenIn, x]; done) | decide +kernel) | decide +kernel
theorem own_pd_14 : parseMethodDescriptor "([C)V" = some ⟨[(.array .char)], none⟩ := by decide +kernel
theorem own_pd_15 : parseMethodDescriptor "(C)Ljava/lang/String;" = some ⟨[.char], some (.object "java/lang/String")⟩ := by decide +kernel
theorem own_pd_16 : parseMethodDescriptor "(ILjava/lang/String;)V" = some ⟨[.int, (.object "java/lang/String")], none⟩ := by decide +kernel
theorem own_pd_17 : parseMethodDescriptor "(Ljava/lang/Object;)Z" = some ⟨[(.object "java/lang/Object")], some .boolean⟩ := by decide +kernel
theorem own_pd_18 : parseMethodDescriptor "(Lcom/example/vestline/vestline/model/VestingResult$YearsOfService;Ljava/util/List;Ljava/util/List;JJ)V" = some ⟨[(.object "com/example/vestline/vestline/model/VestingResult$YearsOfService"), (.object "java/util/List"), (.object "java/util/List"), .long, .long], none⟩ := by decide +kernel
theorem own_pd_19 : parseMethodDescriptor "()Lcom/example/vestline/vestline/model/VestingResult$YearsOfService;" = some ⟨[], some (.object "com/example/vestline/vestline/model/VestingResult$YearsOfService")⟩ := by decide +kernel
theorem own_pd_20 : parseMethodDescriptor "()J" = some ⟨[], some .long⟩ := by decide +kernel
theorem own_pd_21 : parseMethodDescriptor "()Ljava/math/BigDecimal;" = some ⟨[], some (.object "java/math/BigDecimal")⟩ := by decide +kernel
set_option maxRecDepth 65536 in
set_option maxHeartbeats 40000000 in
theorem own_law (l : Launch) (Z : State) (a0 : Array Value) (hw : ∀ d ∈ tables_1, d.before a0 Z = true) (n0 : Nat) (h : Heap) (yr ch : Int32) (v f : Int64) (md : Int32) (cs : Int32) (de el : Nat) (SS : STS Z h n0 cs de el) (Z0 : n0 ≤ h.size) :
    ConW l Z x code maxLocals ret room_1 n0 #[(.int yr), (.int ch), (.long v), (.long f), (.int md)] h (R1 fun r h' => r = .int 1) := by
  refine ConW.of (ls := [.val (.int yr), .val (.int ch), .val (.long v), .second, .val (.long f), .second, .val (.int md), .unset, .unset, .unset, .unset, .unset, .unset, .unset, .unset, .unset, .unset, .unset]) own_pf_law (fun m => by first | (simp [entryFrame, mkF, argsToLocals, Value.category, maxLocals]; done) | rfl) fun k s0 KW => ?_
  have k_m1 : ((-1) : Int32).toInt = -1 := rfl
  have k_0 : (0 : Int32).toInt = 0 := rfl
  have k_1 : (1 : Int32).toInt = 1 := rfl
  have k_16 : (16 : Int32).toInt = 16 := rfl
  have k_2 : (2 : Int32).toInt = 2 := rfl
  have k_255 : (255 : Int32).toInt = 255 := rfl
  have k_8 : (8 : Int32).toInt = 8 := rfl
  refine WP.iconst KW.1 (2 : Int32) 1 at_0 rfl rfl ?_
  refine WP.newarray KW.1 3 2 2 1 2 (hw _ (List.mem_of_getElem? (i := 0) rfl)) at_1 rfl rfl (Nat.le_refl _) (by decide) rfl rfl (by decide) (by decide) (fun h1 x z_x E2 V3 => ?_)
  have n0_x : @LE.le Nat _ n0 x := z_x ▸ Z0
  have Z0 : n0 ≤ (h1).size := Nat.le_trans Z0 E2.1
  have SS := SS.ext E2
  have A_x := ArC.of_new V3
  have A_x : ArC Z h1 x [(0 : Int32), (0 : Int32)] := A_x
  refine WP.astore KW.1 5 [.val (.int yr), .val (.int ch), .val (.long v), .second, .val (.long f), .second, .val (.int md), .val (.ref x), .unset, .unset, .unset, .unset, .unset, .unset, .unset, .unset, .unset, .unset] at_3 rfl rfl rfl ?_
  refine WP.aload KW.1 7 at_5 rfl rfl rfl ?_
  refine WP.iconst KW.1 (0 : Int32) 8 at_7 rfl rfl ?_
  refine WP.iloadN KW.1 9 at_8 rfl rfl ?_
  refine WP.sipush KW.1 (255 : Int32) 12 at_9 rfl rfl ?_
  refine WP.iand KW.1 13 at_12 rfl ?_
  refine WP.i2cC KW.1 14 at_13 rfl ?_
  refine WP.castore KW.1 15 0 A_x rfl (by simp) at_14 rfl n0_x (fun h4 K5 A_x => ?_)
  have Z0 : n0 ≤ (h4).size := Nat.le_trans Z0 K5.1
  have SS := SS.keep K5 (kn1 (by omega))
  have A_x : ArC Z h4 x [(c16 (c16 (ch &&& (255 : Int32)))), (0 : Int32)] := A_x
  refine WP.aload KW.1 17 at_15 rfl rfl rfl ?_
  refine WP.iconst KW.1 (1 : Int32) 18 at_17 rfl rfl ?_
  refine WP.iloadN KW.1 19 at_18 rfl rfl ?_
  refine WP.bipush KW.1 (8 : Int32) 21 at_19 rfl rfl ?_
  refine WP.iushr KW.1 22 at_21 rfl ?_
  refine WP.sipush KW.1 (255 : Int32) 25 at_22 rfl rfl ?_
  refine WP.iand KW.1 26 at_25 rfl ?_
  refine WP.i2cC KW.1 27 at_26 rfl ?_
  refine WP.castore KW.1 28 1 A_x rfl (by simp) at_27 rfl n0_x (fun h6 K7 A_x => ?_)
  have Z0 : n0 ≤ (h6).size := Nat.le_trans Z0 K7.1
  have SS := SS.keep K7 (kn1 (by omega))
  have A_x : ArC Z h6 x [(c16 (c16 (ch &&& (255 : Int32)))), (c16 (c16 ((XT.ushr ch (8 : Int32)) &&& (255 : Int32))))] := A_x
  have hx0 : (c16 (c16 (ch &&& (255 : Int32)))).toInt ≤ 255 := own_c255' _
  have hx1 : (c16 (c16 ((XT.ushr ch (8 : Int32)) &&& (255 : Int32)))).toInt ≤ 255 := own_c255' _
  refine WP.new KW.1 31 2 6 (hw _ (List.mem_of_getElem? (i := 1) rfl)) (hw _ (List.mem_of_getElem? (i := 2) rfl)) (hw _ (List.mem_of_getElem? (i := 3) rfl)) at_28 rfl rfl rfl (by decide) (by decide) (fun h8 s1 z_s1 E9 X_s1 D10 => ?_)
  have l_x_s1 : @LT.lt Nat _ x s1 := z_s1 ▸ A_x.lt
  have n0_s1 : @LE.le Nat _ n0 s1 := z_s1 ▸ Z0
  have Z0 : n0 ≤ (h8).size := Nat.le_trans Z0 E9.1
  have SS := SS.ext E9
  have A_x := A_x.ext E9
  have F_coder_s1 : Fld Z h8 s1 "java/lang/String" "coder" "B" (.int (0 : Int32)) := D10 (Or.inr (hw _ (List.mem_of_getElem? (i := 27) rfl))) (ty := .byte) (by decide)
  have F_value_s1 : Fld Z h8 s1 "java/lang/String" "value" "[B" .null := D10 (Or.inr (hw _ (List.mem_of_getElem? (i := 29) rfl))) (ty := (.array .byte)) (by decide)
  refine WP.dup KW.1 32 at_31 rfl rfl ?_
  refine WP.aload KW.1 34 at_32 rfl rfl rfl ?_
  refine WP.callI KW.1 (a := s1) 37 3 8 1 [(.ref x)] [(.ref s1)] (hw _ (List.mem_of_getElem? (i := 4) rfl)) (hw _ (List.mem_of_getElem? (i := 5) rfl)) (hw _ (List.mem_of_getElem? (i := 3) rfl)) (hw _ (List.mem_of_getElem? (i := 6) rfl)) rfl (by decide) own_pd_14 rfl rfl rfl (by decide) (by decide) (Nat.le_of_eq rfl) rfl at_34 rfl rfl rfl (by decide) (by decide) (own_str1 l Z a0 hw n0 h8 s1 x (c16 (c16 (ch &&& (255 : Int32)))) (c16 (c16 ((XT.ushr ch (8 : Int32)) &&& (255 : Int32)))) A_x hx0 hx1 _ _ X_s1 F_value_s1 F_coder_s1 n0_s1 Z0 cs de el SS (by omega)) (r0_next fun h11 q12 => ?_)
  have Kc : Keep _ _ _ := q12
  have Z0 : n0 ≤ (h11).size := Nat.le_trans Z0 Kc.1
  have SS := SS.keep Kc (kn1 (by omega))
  have A_x := A_x.keep Kc (nm1 (by omega))
  have X_s1 := X_s1.keep Kc
  refine WP.astore KW.1 39 [.val (.int yr), .val (.int ch), .val (.long v), .second, .val (.long f), .second, .val (.int md), .val (.ref x), .val (.ref s1), .unset, .unset, .unset, .unset, .unset, .unset, .unset, .unset, .unset] at_37 rfl rfl rfl ?_
  refine WP.iloadN KW.1 40 at_39 rfl rfl ?_
  refine WP.bipush KW.1 (16 : Int32) 42 at_40 rfl rfl ?_
  refine WP.iushr KW.1 43 at_42 rfl ?_
  refine WP.sipush KW.1 (255 : Int32) 46 at_43 rfl rfl ?_
  refine WP.iand KW.1 47 at_46 rfl ?_
  refine WP.i2cC KW.1 48 at_47 rfl ?_
  refine WP.callS KW.1 51 5 13 0 [(.int (c16 ((XT.ushr ch (16 : Int32)) &&& (255 : Int32))))] [] (hw _ (List.mem_of_getElem? (i := 30) rfl)) (hw _ (List.mem_of_getElem? (i := 31) rfl)) (hw _ (List.mem_of_getElem? (i := 3) rfl)) (hw _ (List.mem_of_getElem? (i := 32) rfl)) (by decide) own_pd_15 rfl rfl rfl (by decide) (by decide) (Nat.le_of_eq rfl) rfl at_48 rfl rfl rfl (by decide) (by decide) (own_valof l Z a0 hw n0 h11 (c16 ((XT.ushr ch (16 : Int32)) &&& (255 : Int32))) (own_c255 _).2 Z0 cs de el SS) (r1_next fun r16 h14 q15 => ?_)
  obtain ⟨s2, rfl, Kc, sz_s2, X_s2⟩ := q15
  have l_s1_s2 : @LT.lt Nat _ s1 s2 := Nat.lt_of_lt_of_le X_s1.lt sz_s2
  have n0_s2 : @LE.le Nat _ n0 s2 := Nat.le_trans Z0 sz_s2
  have Z0 : n0 ≤ (h14).size := Nat.le_trans Z0 Kc.1
  have SS := SS.keep Kc (kn0)
  have X_s1 := X_s1.keep Kc
  refine WP.astore KW.1 53 [.val (.int yr), .val (.int ch), .val (.long v), .second, .val (.long f), .second, .val (.int md), .val (.ref x), .val (.ref s1), .val (.ref s2), .unset, .unset, .unset, .unset, .unset, .unset, .unset, .unset] at_51 rfl rfl rfl ?_
  refine WP.new KW.1 56 6 15 (hw _ (List.mem_of_getElem? (i := 44) rfl)) (hw _ (List.mem_of_getElem? (i := 45) rfl)) (hw _ (List.mem_of_getElem? (i := 46) rfl)) at_53 rfl rfl rfl (by decide) (by decide) (fun h17 y1 z_y1 E18 X_y1 D19 => ?_)
  have l_s1_y1 : @LT.lt Nat _ s1 y1 := z_y1 ▸ X_s1.lt
  have l_s2_y1 : @LT.lt Nat _ s2 y1 := z_y1 ▸ X_s2.lt
  have n0_y1 : @LE.le Nat _ n0 y1 := z_y1 ▸ Z0
  have Z0 : n0 ≤ (h17).size := Nat.le_trans Z0 E18.1
  have SS := SS.ext E18
  have X_s1 := X_s1.ext E18
  have X_s2 := X_s2.ext E18
  have F_years_y1 : Fld Z h17 y1 "com/example/vestline/vestline/model/VestingResult$YearsOfService" "years" "I" (.int (0 : Int32)) := D19 (Or.inr (hw _ (List.mem_of_getElem? (i := 64) rfl))) (ty := .int) (by decide)
  have F_section_y1 : Fld Z h17 y1 "com/example/vestline/vestline/model/VestingResult$YearsOfService" "section" "Ljava/lang/String;" .null := D19 (Or.inr (hw _ (List.mem_of_getElem? (i := 66) rfl))) (ty := (.object "java/lang/String")) (by decide)
  refine WP.dup KW.1 57 at_56 rfl rfl ?_
  refine WP.iloadN KW.1 58 at_57 rfl rfl ?_
  refine WP.aload KW.1 60 at_58 rfl rfl rfl ?_
  refine WP.callIW KW (a := y1) 63 8 47 1 [(.int yr), (.ref s1)] [(.ref y1)] (hw _ (List.mem_of_getElem? (i := 47) rfl)) (hw _ (List.mem_of_getElem? (i := 48) rfl)) (hw _ (List.mem_of_getElem? (i := 46) rfl)) (hw _ (List.mem_of_getElem? (i := 49) rfl)) rfl (by decide) own_pd_16 rfl rfl rfl (by decide) (by decide) (Nat.le_of_eq rfl) rfl at_60 rfl rfl rfl (by decide) (by decide) (Nat.zero_le _) (own_ys l Z a0 hw n0 h17 y1 yr s1 _ _ X_y1 F_years_y1 F_section_y1 n0_y1) (w0_next fun k23 h20 KW24 sz25 q21 => ?_)
  have Kc : Keep _ _ _ := q21
  have Z0 : n0 ≤ (h20).size := Nat.le_trans Z0 Kc.1
  have SS := SS.keep Kc (kn1 (by omega))
  have X_s1 := X_s1.keep Kc
  have X_s2 := X_s2.keep Kc
  have X_y1 := X_y1.keep Kc
  have SW : h20.size ≤ h20.size := Nat.le_refl _
  refine WP.astore KW24.1 65 [.val (.int yr), .val (.int ch), .val (.long v), .second, .val (.long f), .second, .val (.int md), .val (.ref x), .val (.ref s1), .val (.ref s2), .val (.ref y1), .unset, .unset, .unset, .unset, .unset, .unset, .unset] at_63 rfl rfl rfl ?_
  refine WP.new KW24.1 68 9 49 (hw _ (List.mem_of_getElem? (i := 44) rfl)) (hw _ (List.mem_of_getElem? (i := 45) rfl)) (hw _ (List.mem_of_getElem? (i := 46) rfl)) at_65 rfl rfl rfl (by decide) (by decide) (fun h26 y2 z_y2 E27 X_y2 D28 => ?_)
  have l_s1_y2 : @LT.lt Nat _ s1 y2 := z_y2 ▸ X_s1.lt
  have l_s2_y2 : @LT.lt Nat _ s2 y2 := z_y2 ▸ X_s2.lt
  have l_y1_y2 : @LT.lt Nat _ y1 y2 := z_y2 ▸ X_y1.lt
  have n0_y2 : @LE.le Nat _ n0 y2 := z_y2 ▸ Z0
  have Z0 : n0 ≤ (h26).size := Nat.le_trans Z0 E27.1
  have SS := SS.ext E27
  have X_s1 := X_s1.ext E27
  have X_s2 := X_s2.ext E27
  have X_y1 := X_y1.ext E27
  have SW : h20.size ≤ (h26).size := Nat.le_trans SW E27.1
  have F_years_y2 : Fld Z h26 y2 "com/example/vestline/vestline/model/VestingResult$YearsOfService" "years" "I" (.int (0 : Int32)) := D28 (Or.inr (hw _ (List.mem_of_getElem? (i := 64) rfl))) (ty := .int) (by decide)
  have F_section_y2 : Fld Z h26 y2 "com/example/vestline/vestline/model/VestingResult$YearsOfService" "section" "Ljava/lang/String;" .null := D28 (Or.inr (hw _ (List.mem_of_getElem? (i := 66) rfl))) (ty := (.object "java/lang/String")) (by decide)
  refine WP.dup KW24.1 69 at_68 rfl rfl ?_
  refine WP.iloadN KW24.1 70 at_69 rfl rfl ?_
  refine WP.iconst KW24.1 ((-1) : Int32) 71 at_70 rfl rfl ?_
  refine WP.ixor KW24.1 72 at_71 rfl ?_
  refine WP.aload KW24.1 74 at_72 rfl rfl rfl ?_
  refine WP.callIW KW24 (a := y2) 77 11 81 1 [(.int (yr ^^^ ((-1) : Int32))), (.ref s2)] [(.ref y2)] (hw _ (List.mem_of_getElem? (i := 47) rfl)) (hw _ (List.mem_of_getElem? (i := 48) rfl)) (hw _ (List.mem_of_getElem? (i := 46) rfl)) (hw _ (List.mem_of_getElem? (i := 49) rfl)) rfl (by decide) own_pd_16 rfl rfl rfl (by decide) (by decide) (Nat.le_of_eq rfl) rfl at_74 rfl rfl rfl (by decide) (by decide) SW (own_ys l Z a0 hw n0 h26 y2 (yr ^^^ ((-1) : Int32)) s2 _ _ X_y2 F_years_y2 F_section_y2 n0_y2) (w0_next fun k32 h29 KW33 sz34 q30 => ?_)
  have Kc : Keep _ _ _ := q30
  have Z0 : n0 ≤ (h29).size := Nat.le_trans Z0 Kc.1
  have SS := SS.keep Kc (kn1 (by omega))
  have X_s1 := X_s1.keep Kc
  have X_s2 := X_s2.keep Kc
  have X_y1 := X_y1.keep Kc
  have X_y2 := X_y2.keep Kc
  have SW : h29.size ≤ h29.size := Nat.le_refl _
  refine WP.astore KW33.1 79 [.val (.int yr), .val (.int ch), .val (.long v), .second, .val (.long f), .second, .val (.int md), .val (.ref x), .val (.ref s1), .val (.ref s2), .val (.ref y1), .val (.ref y2), .unset, .unset, .unset, .unset, .unset, .unset] at_77 rfl rfl rfl ?_
  refine WP.new KW33.1 82 12 84 (hw _ (List.mem_of_getElem? (i := 67) rfl)) (hw _ (List.mem_of_getElem? (i := 68) rfl)) (hw _ (List.mem_of_getElem? (i := 69) rfl)) at_79 rfl rfl rfl (by decide) (by decide) (fun h35 p1 z_p1 E36 X_p1 D37 => ?_)
  have l_s1_p1 : @LT.lt Nat _ s1 p1 := z_p1 ▸ X_s1.lt
  have l_s2_p1 : @LT.lt Nat _ s2 p1 := z_p1 ▸ X_s2.lt
  have l_y1_p1 : @LT.lt Nat _ y1 p1 := z_p1 ▸ X_y1.lt
  have l_y2_p1 : @LT.lt Nat _ y2 p1 := z_p1 ▸ X_y2.lt
  have n0_p1 : @LE.le Nat _ n0 p1 := z_p1 ▸ Z0
  have Z0 : n0 ≤ (h35).size := Nat.le_trans Z0 E36.1
  have SS := SS.ext E36
  have X_s1 := X_s1.ext E36
  have X_s2 := X_s2.ext E36
  have X_y1 := X_y1.ext E36
  have X_y2 := X_y2.ext E36
  have SW : h29.size ≤ (h35).size := Nat.le_trans SW E36.1
  have F_modCount_p1 : Fld Z h35 p1 "java/util/AbstractList" "modCount" "I" (.int (0 : Int32)) := D37 (Or.inl (hw _ (List.mem_of_getElem? (i := 87) rfl))) (ty := .int) (by decide)
  have F_elementData_p1 : Fld Z h35 p1 "java/util/ArrayList" "elementData" "[Ljava/lang/Object;" .null := D37 (Or.inl (hw _ (List.mem_of_getElem? (i := 90) rfl))) (ty := (.array (.object "java/lang/Object"))) (by decide)
  have F_size_p1 : Fld Z h35 p1 "java/util/ArrayList" "size" "I" (.int (0 : Int32)) := D37 (Or.inl (hw _ (List.mem_of_getElem? (i := 103) rfl))) (ty := .int) (by decide)
  refine WP.dup KW33.1 83 at_82 rfl rfl ?_
  refine WP.callI KW33.1 (a := p1) 86 12 84 1 [] [(.ref p1)] (hw _ (List.mem_of_getElem? (i := 70) rfl)) (hw _ (List.mem_of_getElem? (i := 71) rfl)) (hw _ (List.mem_of_getElem? (i := 69) rfl)) (hw _ (List.mem_of_getElem? (i := 72) rfl)) rfl (by decide) own_pd_7 rfl rfl rfl (by decide) (by decide) (Nat.le_of_eq rfl) rfl at_83 rfl rfl rfl (by decide) (by decide) (own_alctor l Z a0 hw n0 h35 p1 _ X_p1 F_modCount_p1 n0_p1 _ F_elementData_p1 F_size_p1 cs de el SS) (r0_next fun h38 q39 => ?_)
  obtain ⟨Kc, F_modCount_p1, F_elementData_p1, F_size_p1⟩ := q39
  have Z0 : n0 ≤ (h38).size := Nat.le_trans Z0 Kc.1
  have SS := SS.keep Kc (kn1 (by omega))
  have X_s1 := X_s1.keep Kc
  have X_s2 := X_s2.keep Kc
  have X_y1 := X_y1.keep Kc
  have X_y2 := X_y2.keep Kc
  have SW : h29.size ≤ (h38).size := Nat.le_trans SW Kc.1
  have X_p1 := X_p1.keep Kc
  refine WP.astore KW33.1 88 [.val (.int yr), .val (.int ch), .val (.long v), .second, .val (.long f), .second, .val (.int md), .val (.ref x), .val (.ref s1), .val (.ref s2), .val (.ref y1), .val (.ref y2), .val (.ref p1), .unset, .unset, .unset, .unset, .unset] at_86 rfl rfl rfl ?_
  refine WP.new KW33.1 91 13 87 (hw _ (List.mem_of_getElem? (i := 67) rfl)) (hw _ (List.mem_of_getElem? (i := 68) rfl)) (hw _ (List.mem_of_getElem? (i := 69) rfl)) at_88 rfl rfl rfl (by decide) (by decide) (fun h41 p2 z_p2 E42 X_p2 D43 => ?_)
  have l_s1_p2 : @LT.lt Nat _ s1 p2 := z_p2 ▸ X_s1.lt
  have l_s2_p2 : @LT.lt Nat _ s2 p2 := z_p2 ▸ X_s2.lt
  have l_y1_p2 : @LT.lt Nat _ y1 p2 := z_p2 ▸ X_y1.lt
  have l_y2_p2 : @LT.lt Nat _ y2 p2 := z_p2 ▸ X_y2.lt
  have l_p1_p2 : @LT.lt Nat _ p1 p2 := z_p2 ▸ X_p1.lt
  have n0_p2 : @LE.le Nat _ n0 p2 := z_p2 ▸ Z0
  have Z0 : n0 ≤ (h41).size := Nat.le_trans Z0 E42.1
  have SS := SS.ext E42
  have X_s1 := X_s1.ext E42
  have X_s2 := X_s2.ext E42
  have X_y1 := X_y1.ext E42
  have X_y2 := X_y2.ext E42
  have SW : h29.size ≤ (h41).size := Nat.le_trans SW E42.1
  have X_p1 := X_p1.ext E42
  have F_modCount_p2 : Fld Z h41 p2 "java/util/AbstractList" "modCount" "I" (.int (0 : Int32)) := D43 (Or.inl (hw _ (List.mem_of_getElem? (i := 87) rfl))) (ty := .int) (by decide)
  have F_elementData_p2 : Fld Z h41 p2 "java/util/ArrayList" "elementData" "[Ljava/lang/Object;" .null := D43 (Or.inl (hw _ (List.mem_of_getElem? (i := 90) rfl))) (ty := (.array (.object "java/lang/Object"))) (by decide)
  have F_size_p2 : Fld Z h41 p2 "java/util/ArrayList" "size" "I" (.int (0 : Int32)) := D43 (Or.inl (hw _ (List.mem_of_getElem? (i := 103) rfl))) (ty := .int) (by decide)
  refine WP.dup KW33.1 92 at_91 rfl rfl ?_
  refine WP.callI KW33.1 (a := p2) 95 13 87 1 [] [(.ref p2)] (hw _ (List.mem_of_getElem? (i := 70) rfl)) (hw _ (List.mem_of_getElem? (i := 71) rfl)) (hw _ (List.mem_of_getElem? (i := 69) rfl)) (hw _ (List.mem_of_getElem? (i := 72) rfl)) rfl (by decide) own_pd_7 rfl rfl rfl (by decide) (by decide) (Nat.le_of_eq rfl) rfl at_92 rfl rfl rfl (by decide) (by decide) (own_alctor l Z a0 hw n0 h41 p2 _ X_p2 F_modCount_p2 n0_p2 _ F_elementData_p2 F_size_p2 cs de el SS) (r0_next fun h44 q45 => ?_)
  obtain ⟨Kc, F_modCount_p2, F_elementData_p2, F_size_p2⟩ := q45
  have Z0 : n0 ≤ (h44).size := Nat.le_trans Z0 Kc.1
  have SS := SS.keep Kc (kn1 (by omega))
  have X_s1 := X_s1.keep Kc
  have X_s2 := X_s2.keep Kc
  have X_y1 := X_y1.keep Kc
  have X_y2 := X_y2.keep Kc
  have SW : h29.size ≤ (h44).size := Nat.le_trans SW Kc.1
  have X_p1 := X_p1.keep Kc
  have X_p2 := X_p2.keep Kc
  refine WP.astore KW33.1 97 [.val (.int yr), .val (.int ch), .val (.long v), .second, .val (.long f), .second, .val (.int md), .val (.ref x), .val (.ref s1), .val (.ref s2), .val (.ref y1), .val (.ref y2), .val (.ref p1), .val (.ref p2), .unset, .unset, .unset, .unset] at_95 rfl rfl rfl ?_
  refine WP.new KW33.1 100 14 90 (hw _ (List.mem_of_getElem? (i := 67) rfl)) (hw _ (List.mem_of_getElem? (i := 68) rfl)) (hw _ (List.mem_of_getElem? (i := 69) rfl)) at_97 rfl rfl rfl (by decide) (by decide) (fun h47 t1 z_t1 E48 X_t1 D49 => ?_)
  have l_s1_t1 : @LT.lt Nat _ s1 t1 := z_t1 ▸ X_s1.lt
  have l_s2_t1 : @LT.lt Nat _ s2 t1 := z_t1 ▸ X_s2.lt
  have l_y1_t1 : @LT.lt Nat _ y1 t1 := z_t1 ▸ X_y1.lt
  have l_y2_t1 : @LT.lt Nat _ y2 t1 := z_t1 ▸ X_y2.lt
  have l_p1_t1 : @LT.lt Nat _ p1 t1 := z_t1 ▸ X_p1.lt
  have l_p2_t1 : @LT.lt Nat _ p2 t1 := z_t1 ▸ X_p2.lt
  have n0_t1 : @LE.le Nat _ n0 t1 := z_t1 ▸ Z0
  have Z0 : n0 ≤ (h47).size := Nat.le_trans Z0 E48.1
  have SS := SS.ext E48
  have X_s1 := X_s1.ext E48
  have X_s2 := X_s2.ext E48
  have X_y1 := X_y1.ext E48
  have X_y2 := X_y2.ext E48
  have SW : h29.size ≤ (h47).size := Nat.le_trans SW E48.1
  have X_p1 := X_p1.ext E48
  have X_p2 := X_p2.ext E48
  have F_modCount_t1 : Fld Z h47 t1 "java/util/AbstractList" "modCount" "I" (.int (0 : Int32)) := D49 (Or.inl (hw _ (List.mem_of_getElem? (i := 87) rfl))) (ty := .int) (by decide)
  have F_elementData_t1 : Fld Z h47 t1 "java/util/ArrayList" "elementData" "[Ljava/lang/Object;" .null := D49 (Or.inl (hw _ (List.mem_of_getElem? (i := 90) rfl))) (ty := (.array (.object "java/lang/Object"))) (by decide)
  have F_size_t1 : Fld Z h47 t1 "java/util/ArrayList" "size" "I" (.int (0 : Int32)) := D49 (Or.inl (hw _ (List.mem_of_getElem? (i := 103) rfl))) (ty := .int) (by decide)
  refine WP.dup KW33.1 101 at_100 rfl rfl ?_
  refine WP.callI KW33.1 (a := t1) 104 14 90 1 [] [(.ref t1)] (hw _ (List.mem_of_getElem? (i := 70) rfl)) (hw _ (List.mem_of_getElem? (i := 71) rfl)) (hw _ (List.mem_of_getElem? (i := 69) rfl)) (hw _ (List.mem_of_getElem? (i := 72) rfl)) rfl (by decide) own_pd_7 rfl rfl rfl (by decide) (by decide) (Nat.le_of_eq rfl) rfl at_101 rfl rfl rfl (by decide) (by decide) (own_alctor l Z a0 hw n0 h47 t1 _ X_t1 F_modCount_t1 n0_t1 _ F_elementData_t1 F_size_t1 cs de el SS) (r0_next fun h50 q51 => ?_)
  obtain ⟨Kc, F_modCount_t1, F_elementData_t1, F_size_t1⟩ := q51
  have Z0 : n0 ≤ (h50).size := Nat.le_trans Z0 Kc.1
  have SS := SS.keep Kc (kn1 (by omega))
  have X_s1 := X_s1.keep Kc
  have X_s2 := X_s2.keep Kc
  have X_y1 := X_y1.keep Kc
  have X_y2 := X_y2.keep Kc
  have SW : h29.size ≤ (h50).size := Nat.le_trans SW Kc.1
  have X_p1 := X_p1.keep Kc
  have X_p2 := X_p2.keep Kc
  have X_t1 := X_t1.keep Kc
  refine WP.astore KW33.1 106 [.val (.int yr), .val (.int ch), .val (.long v), .second, .val (.long f), .second, .val (.int md), .val (.ref x), .val (.ref s1), .val (.ref s2), .val (.ref y1), .val (.ref y2), .val (.ref p1), .val (.ref p2), .val (.ref t1), .unset, .unset, .unset] at_104 rfl rfl rfl ?_
  refine WP.aload KW33.1 108 at_106 rfl rfl rfl ?_
  refine WP.aload KW33.1 110 at_108 rfl rfl rfl ?_
  refine WP.callF KW33.1 (a := t1) (C := "java/util/ArrayList") 115 15 100 0 [(.ref s1)] [] (hw _ (List.mem_of_getElem? (i := 91) rfl)) (hw _ (List.mem_of_getElem? (i := 92) rfl)) (hw _ (List.mem_of_getElem? (i := 93) rfl)) (by decide) (hw _ (List.mem_of_getElem? (i := 94) rfl)) (hw _ (List.mem_of_getElem? (i := 95) rfl)) (hw _ (List.mem_of_getElem? (i := 96) rfl)) (hw _ (List.mem_of_getElem? (i := 97) rfl)) (hw _ (List.mem_of_getElem? (i := 98) rfl)) (hw _ (List.mem_of_getElem? (i := 69) rfl)) (hw _ (List.mem_of_getElem? (i := 99) rfl)) (by decide) own_pd_17 rfl rfl rfl (by decide) (by decide) (Nat.le_of_eq rfl) rfl at_110 rfl rfl rfl (by decide) (by decide) X_t1 (own_add1 l Z a0 hw n0 h50 t1 s1 cs de el SS X_t1 F_elementData_t1 F_size_t1 n0_t1 Z0 X_s1 F_modCount_t1) (r1_next fun r55 h53 q54 => ?_)
  obtain ⟨rfl, Kc⟩ := q54
  have Z0 : n0 ≤ (h53).size := Nat.le_trans Z0 Kc.1
  have SS := SS.keep Kc (kn1 (by omega))
  have X_s1 := X_s1.keep Kc
  have X_s2 := X_s2.keep Kc
  have X_y1 := X_y1.keep Kc
  have X_y2 := X_y2.keep Kc
  have SW : h29.size ≤ (h53).size := Nat.le_trans SW Kc.1
  have X_p1 := X_p1.keep Kc
  have X_p2 := X_p2.keep Kc
  have X_t1 := X_t1.keep Kc
  refine WP.pop KW33.1 116 at_115 rfl rfl ?_
  refine WP.new KW33.1 119 16 103 (hw _ (List.mem_of_getElem? (i := 67) rfl)) (hw _ (List.mem_of_getElem? (i := 68) rfl)) (hw _ (List.mem_of_getElem? (i := 69) rfl)) at_116 rfl rfl rfl (by decide) (by decide) (fun h56 t2 z_t2 E57 X_t2 D58 => ?_)
  have l_s1_t2 : @LT.lt Nat _ s1 t2 := z_t2 ▸ X_s1.lt
  have l_s2_t2 : @LT.lt Nat _ s2 t2 := z_t2 ▸ X_s2.lt
  have l_y1_t2 : @LT.lt Nat _ y1 t2 := z_t2 ▸ X_y1.lt
  have l_y2_t2 : @LT.lt Nat _ y2 t2 := z_t2 ▸ X_y2.lt
  have l_p1_t2 : @LT.lt Nat _ p1 t2 := z_t2 ▸ X_p1.lt
  have l_p2_t2 : @LT.lt Nat _ p2 t2 := z_t2 ▸ X_p2.lt
  have l_t1_t2 : @LT.lt Nat _ t1 t2 := z_t2 ▸ X_t1.lt
  have n0_t2 : @LE.le Nat _ n0 t2 := z_t2 ▸ Z0
  have Z0 : n0 ≤ (h56).size := Nat.le_trans Z0 E57.1
  have SS := SS.ext E57
  have X_s1 := X_s1.ext E57
  have X_s2 := X_s2.ext E57
  have X_y1 := X_y1.ext E57
  have X_y2 := X_y2.ext E57
  have SW : h29.size ≤ (h56).size := Nat.le_trans SW E57.1
  have X_p1 := X_p1.ext E57
  have X_p2 := X_p2.ext E57
  have X_t1 := X_t1.ext E57
  have F_modCount_t2 : Fld Z h56 t2 "java/util/AbstractList" "modCount" "I" (.int (0 : Int32)) := D58 (Or.inl (hw _ (List.mem_of_getElem? (i := 87) rfl))) (ty := .int) (by decide)
  have F_elementData_t2 : Fld Z h56 t2 "java/util/ArrayList" "elementData" "[Ljava/lang/Object;" .null := D58 (Or.inl (hw _ (List.mem_of_getElem? (i := 90) rfl))) (ty := (.array (.object "java/lang/Object"))) (by decide)
  have F_size_t2 : Fld Z h56 t2 "java/util/ArrayList" "size" "I" (.int (0 : Int32)) := D58 (Or.inl (hw _ (List.mem_of_getElem? (i := 103) rfl))) (ty := .int) (by decide)
  refine WP.dup KW33.1 120 at_119 rfl rfl ?_
  refine WP.callI KW33.1 (a := t2) 123 16 103 1 [] [(.ref t2)] (hw _ (List.mem_of_getElem? (i := 70) rfl)) (hw _ (List.mem_of_getElem? (i := 71) rfl)) (hw _ (List.mem_of_getElem? (i := 69) rfl)) (hw _ (List.mem_of_getElem? (i := 72) rfl)) rfl (by decide) own_pd_7 rfl rfl rfl (by decide) (by decide) (Nat.le_of_eq rfl) rfl at_120 rfl rfl rfl (by decide) (by decide) (own_alctor l Z a0 hw n0 h56 t2 _ X_t2 F_modCount_t2 n0_t2 _ F_elementData_t2 F_size_t2 cs de el SS) (r0_next fun h59 q60 => ?_)
  obtain ⟨Kc, F_modCount_t2, F_elementData_t2, F_size_t2⟩ := q60
  have Z0 : n0 ≤ (h59).size := Nat.le_trans Z0 Kc.1
  have SS := SS.keep Kc (kn1 (by omega))
  have X_s1 := X_s1.keep Kc
  have X_s2 := X_s2.keep Kc
  have X_y1 := X_y1.keep Kc
  have X_y2 := X_y2.keep Kc
  have SW : h29.size ≤ (h59).size := Nat.le_trans SW Kc.1
  have X_p1 := X_p1.keep Kc
  have X_p2 := X_p2.keep Kc
  have X_t1 := X_t1.keep Kc
  have X_t2 := X_t2.keep Kc
  refine WP.astore KW33.1 125 [.val (.int yr), .val (.int ch), .val (.long v), .second, .val (.long f), .second, .val (.int md), .val (.ref x), .val (.ref s1), .val (.ref s2), .val (.ref y1), .val (.ref y2), .val (.ref p1), .val (.ref p2), .val (.ref t1), .val (.ref t2), .unset, .unset] at_123 rfl rfl rfl ?_
  refine WP.iload KW33.1 127 at_125 rfl rfl ?_
  refine WP.iconst KW33.1 (1 : Int32) 128 at_127 rfl rfl ?_
  refine WP.iand KW33.1 129 at_128 rfl ?_
  refine WP.if_eq KW33.1 136 132 at_129 (by decide) rfl (fun c129 => ?_) (fun c129 => ?_)
  · skip
    refine WP.iconst KW33.1 (0 : Int32) 137 at_136 rfl rfl ?_
    refine WP.istore KW33.1 139 [.val (.int yr), .val (.int ch), .val (.long v), .second, .val (.long f), .second, .val (.int md), .val (.ref x), .val (.ref s1), .val (.ref s2), .val (.ref y1), .val (.ref y2), .val (.ref p1), .val (.ref p2), .val (.ref t1), .val (.ref t2), .val (.int (0 : Int32)), .unset] at_137 rfl rfl ?_
    refine WP.new KW33.1 142 17 110 (hw _ (List.mem_of_getElem? (i := 126) rfl)) (hw _ (List.mem_of_getElem? (i := 127) rfl)) (hw _ (List.mem_of_getElem? (i := 128) rfl)) at_139 rfl rfl rfl (by decide) (by decide) (fun h62 fg z_fg E63 X_fg D64 => ?_)
    have l_s1_fg : @LT.lt Nat _ s1 fg := z_fg ▸ X_s1.lt
    have l_s2_fg : @LT.lt Nat _ s2 fg := z_fg ▸ X_s2.lt
    have l_y1_fg : @LT.lt Nat _ y1 fg := z_fg ▸ X_y1.lt
    have l_y2_fg : @LT.lt Nat _ y2 fg := z_fg ▸ X_y2.lt
    have l_p1_fg : @LT.lt Nat _ p1 fg := z_fg ▸ X_p1.lt
    have l_p2_fg : @LT.lt Nat _ p2 fg := z_fg ▸ X_p2.lt
    have l_t1_fg : @LT.lt Nat _ t1 fg := z_fg ▸ X_t1.lt
    have l_t2_fg : @LT.lt Nat _ t2 fg := z_fg ▸ X_t2.lt
    have n0_fg : @LE.le Nat _ n0 fg := z_fg ▸ Z0
    have Z0 : n0 ≤ (h62).size := Nat.le_trans Z0 E63.1
    have SS := SS.ext E63
    have X_s1 := X_s1.ext E63
    have X_s2 := X_s2.ext E63
    have X_y1 := X_y1.ext E63
    have X_y2 := X_y2.ext E63
    have SW : h29.size ≤ (h62).size := Nat.le_trans SW E63.1
    have X_p1 := X_p1.ext E63
    have X_p2 := X_p2.ext E63
    have X_t1 := X_t1.ext E63
    have X_t2 := X_t2.ext E63
    have F_percents_fg : Fld Z h62 fg "com/example/vestline/vestline/model/CensusFigures" "percents" "Ljava/util/List;" .null := D64 (Or.inl (hw _ (List.mem_of_getElem? (i := 140) rfl))) (ty := (.object "java/util/List")) (by decide)
    have F_sections_fg : Fld Z h62 fg "com/example/vestline/vestline/model/CensusFigures" "sections" "Ljava/util/List;" .null := D64 (Or.inl (hw _ (List.mem_of_getElem? (i := 142) rfl))) (ty := (.object "java/util/List")) (by decide)
    have F_yearsOfService_fg : Fld Z h62 fg "com/example/vestline/vestline/model/CensusFigures" "yearsOfService" "Lcom/example/vestline/vestline/model/VestingResult$YearsOfService;" .null := D64 (Or.inl (hw _ (List.mem_of_getElem? (i := 149) rfl))) (ty := (.object "com/example/vestline/vestline/model/VestingResult$YearsOfService")) (by decide)
    have F_vested_fg : Fld Z h62 fg "com/example/vestline/vestline/model/CensusFigures" "vested" "J" (.long (0 : Int64)) := D64 (Or.inl (hw _ (List.mem_of_getElem? (i := 151) rfl))) (ty := .long) (by decide)
    have F_forfeited_fg : Fld Z h62 fg "com/example/vestline/vestline/model/CensusFigures" "forfeited" "J" (.long (0 : Int64)) := D64 (Or.inl (hw _ (List.mem_of_getElem? (i := 153) rfl))) (ty := .long) (by decide)
    have F_largeVested_fg : Fld Z h62 fg "com/example/vestline/vestline/model/CensusFigures" "largeVested" "Ljava/math/BigDecimal;" .null := D64 (Or.inl (hw _ (List.mem_of_getElem? (i := 155) rfl))) (ty := (.object "java/math/BigDecimal")) (by decide)
    have F_largeForfeited_fg : Fld Z h62 fg "com/example/vestline/vestline/model/CensusFigures" "largeForfeited" "Ljava/math/BigDecimal;" .null := D64 (Or.inl (hw _ (List.mem_of_getElem? (i := 157) rfl))) (ty := (.object "java/math/BigDecimal")) (by decide)
    refine WP.dup KW33.1 143 at_142 rfl rfl ?_
    refine WP.callI KW33.1 (a := fg) 146 17 110 1 [] [(.ref fg)] (hw _ (List.mem_of_getElem? (i := 129) rfl)) (hw _ (List.mem_of_getElem? (i := 130) rfl)) (hw _ (List.mem_of_getElem? (i := 128) rfl)) (hw _ (List.mem_of_getElem? (i := 131) rfl)) rfl (by decide) own_pd_7 rfl rfl rfl (by decide) (by decide) (Nat.le_of_eq rfl) rfl at_143 rfl rfl rfl (by decide) (by decide) (own_cf l Z a0 hw n0 h62 fg cs de el SS X_fg n0_fg _ F_yearsOfService_fg _ F_percents_fg _ F_sections_fg _ F_vested_fg _ F_forfeited_fg _ F_largeVested_fg _ F_largeForfeited_fg) (r0_next fun h65 q66 => ?_)
    obtain ⟨Kc, fy, fp, fs, fv, ff, fl, fm⟩ := q66
    have Z0 : n0 ≤ (h65).size := Nat.le_trans Z0 Kc.1
    have SS := SS.keep Kc (kn1 (by omega))
    have X_s1 := X_s1.keep Kc
    have X_s2 := X_s2.keep Kc
    have X_y1 := X_y1.keep Kc
    have X_y2 := X_y2.keep Kc
    have SW : h29.size ≤ (h65).size := Nat.le_trans SW Kc.1
    have X_p1 := X_p1.keep Kc
    have X_p2 := X_p2.keep Kc
    have X_t1 := X_t1.keep Kc
    have X_t2 := X_t2.keep Kc
    have X_fg := X_fg.keep Kc
    refine WP.astore KW33.1 148 [.val (.int yr), .val (.int ch), .val (.long v), .second, .val (.long f), .second, .val (.int md), .val (.ref x), .val (.ref s1), .val (.ref s2), .val (.ref y1), .val (.ref y2), .val (.ref p1), .val (.ref p2), .val (.ref t1), .val (.ref t2), .val (.int (0 : Int32)), .val (.ref fg)] at_146 rfl rfl rfl ?_
    refine WP.iload KW33.1 150 at_148 rfl rfl ?_
    refine WP.if_eq KW33.1 167 153 at_150 (by decide) rfl (fun c150 => ?_) (fun c150 => ?_)
    · skip
      refine WP.aload KW33.1 169 at_167 rfl rfl rfl ?_
      refine WP.aload KW33.1 171 at_169 rfl rfl rfl ?_
      refine WP.aload KW33.1 173 at_171 rfl rfl rfl ?_
      refine WP.aload KW33.1 175 at_173 rfl rfl rfl ?_
      refine WP.lloadN KW33.1 176 at_175 rfl rfl ?_
      refine WP.lload KW33.1 178 at_176 rfl rfl ?_
      refine WP.callV KW33.1 (a := fg) (C := "com/example/vestline/vestline/model/CensusFigures") 181 17 110 0 [(.ref y1), (.ref p1), (.ref t1), (.long v), (.long f)] [] (hw _ (List.mem_of_getElem? (i := 143) rfl)) (hw _ (List.mem_of_getElem? (i := 144) rfl)) rfl (hw _ (List.mem_of_getElem? (i := 146) rfl)) (hw _ (List.mem_of_getElem? (i := 145) rfl)) (hw _ (List.mem_of_getElem? (i := 128) rfl)) (hw _ (List.mem_of_getElem? (i := 147) rfl)) (by decide) own_pd_18 rfl rfl rfl (by decide) (by decide) (Nat.le_of_eq rfl) rfl at_178 rfl rfl rfl (by decide) (by decide) X_fg (own_set l Z a0 hw n0 h65 fg y1 p1 t1 v f X_fg n0_fg _ fy _ fp _ fs _ fv _ ff _ fl _ fm) (r0_next fun h68 q69 => ?_)
      obtain ⟨Kc, fy, fp, fs, fv, ff, fl, fm⟩ := q69
      have Z0 : n0 ≤ (h68).size := Nat.le_trans Z0 Kc.1
      have SS := SS.keep Kc (kn1 (by omega))
      have X_s1 := X_s1.keep Kc
      have X_s2 := X_s2.keep Kc
      have X_y1 := X_y1.keep Kc
      have X_y2 := X_y2.keep Kc
      have SW : h29.size ≤ (h68).size := Nat.le_trans SW Kc.1
      have X_p1 := X_p1.keep Kc
      have X_p2 := X_p2.keep Kc
      have X_t1 := X_t1.keep Kc
      have X_t2 := X_t2.keep Kc
      have X_fg := X_fg.keep Kc
      refine WP.aload KW33.1 183 at_181 rfl rfl rfl ?_
      refine WP.callV KW33.1 (a := fg) (C := "com/example/vestline/vestline/model/CensusFigures") 186 17 110 0 [] [] (hw _ (List.mem_of_getElem? (i := 158) rfl)) (hw _ (List.mem_of_getElem? (i := 159) rfl)) rfl (hw _ (List.mem_of_getElem? (i := 161) rfl)) (hw _ (List.mem_of_getElem? (i := 160) rfl)) (hw _ (List.mem_of_getElem? (i := 128) rfl)) (hw _ (List.mem_of_getElem? (i := 162) rfl)) (by decide) own_pd_19 rfl rfl rfl (by decide) (by decide) (Nat.le_of_eq rfl) rfl at_183 rfl rfl rfl (by decide) (by decide) X_fg (own_get_yearsOfService l Z a0 hw n0 h68 fg _ fy rfl) (r1_next fun r73 h71 q72 => ?_)
      obtain ⟨rfl, rfl⟩ := q72
      refine WP.aload KW33.1 188 at_186 rfl rfl rfl ?_
      refine WP.acmp_ne KW33.1 252 191 at_188 (by decide) rfl rfl rfl (fun c188 => ?_) (fun c188 => ?_)
      · skip
        exact absurd rfl c188
      · skip
        refine WP.aload KW33.1 193 at_191 rfl rfl rfl ?_
        refine WP.callV KW33.1 (a := fg) (C := "com/example/vestline/vestline/model/CensusFigures") 196 17 110 0 [] [] (hw _ (List.mem_of_getElem? (i := 163) rfl)) (hw _ (List.mem_of_getElem? (i := 164) rfl)) rfl (hw _ (List.mem_of_getElem? (i := 166) rfl)) (hw _ (List.mem_of_getElem? (i := 165) rfl)) (hw _ (List.mem_of_getElem? (i := 128) rfl)) (hw _ (List.mem_of_getElem? (i := 167) rfl)) (by decide) own_pd_13 rfl rfl rfl (by decide) (by decide) (Nat.le_of_eq rfl) rfl at_193 rfl rfl rfl (by decide) (by decide) X_fg (own_get_percents l Z a0 hw n0 h68 fg _ fp rfl) (r1_next fun r76 h74 q75 => ?_)
        obtain ⟨rfl, rfl⟩ := q75
        refine WP.aload KW33.1 198 at_196 rfl rfl rfl ?_
        refine WP.acmp_ne KW33.1 252 201 at_198 (by decide) rfl rfl rfl (fun c198 => ?_) (fun c198 => ?_)
        · skip
          exact absurd rfl c198
        · skip
          refine WP.aload KW33.1 203 at_201 rfl rfl rfl ?_
          refine WP.callV KW33.1 (a := fg) (C := "com/example/vestline/vestline/model/CensusFigures") 206 17 110 0 [] [] (hw _ (List.mem_of_getElem? (i := 168) rfl)) (hw _ (List.mem_of_getElem? (i := 169) rfl)) rfl (hw _ (List.mem_of_getElem? (i := 171) rfl)) (hw _ (List.mem_of_getElem? (i := 170) rfl)) (hw _ (List.mem_of_getElem? (i := 128) rfl)) (hw _ (List.mem_of_getElem? (i := 172) rfl)) (by decide) own_pd_13 rfl rfl rfl (by decide) (by decide) (Nat.le_of_eq rfl) rfl at_203 rfl rfl rfl (by decide) (by decide) X_fg (own_get_sections l Z a0 hw n0 h68 fg _ fs rfl) (r1_next fun r79 h77 q78 => ?_)
          obtain ⟨rfl, rfl⟩ := q78
          refine WP.aload KW33.1 208 at_206 rfl rfl rfl ?_
          refine WP.acmp_ne KW33.1 252 211 at_208 (by decide) rfl rfl rfl (fun c208 => ?_) (fun c208 => ?_)
          · skip
            exact absurd rfl c208
          · skip
            refine WP.aload KW33.1 213 at_211 rfl rfl rfl ?_
            refine WP.callV KW33.1 (a := fg) (C := "com/example/vestline/vestline/model/CensusFigures") 216 17 110 0 [] [] (hw _ (List.mem_of_getElem? (i := 173) rfl)) (hw _ (List.mem_of_getElem? (i := 174) rfl)) rfl (hw _ (List.mem_of_getElem? (i := 176) rfl)) (hw _ (List.mem_of_getElem? (i := 175) rfl)) (hw _ (List.mem_of_getElem? (i := 128) rfl)) (hw _ (List.mem_of_getElem? (i := 177) rfl)) (by decide) own_pd_20 rfl rfl rfl (by decide) (by decide) (Nat.le_of_eq rfl) rfl at_213 rfl rfl rfl (by decide) (by decide) X_fg (own_get_vested l Z a0 hw n0 h68 fg _ fv) (r1_next fun r82 h80 q81 => ?_)
            obtain ⟨rfl, rfl⟩ := q81
            refine WP.lloadN KW33.1 217 at_216 rfl rfl ?_
            refine WP.lcmp KW33.1 218 at_217 rfl ?_
            refine WP.ifl_ne KW33.1 252 221 at_218 (by decide) rfl (fun c218 => ?_) (fun c218 => ?_)
            · skip
              exact absurd rfl c218
            · skip
              refine WP.aload KW33.1 223 at_221 rfl rfl rfl ?_
              refine WP.callV KW33.1 (a := fg) (C := "com/example/vestline/vestline/model/CensusFigures") 226 17 110 0 [] [] (hw _ (List.mem_of_getElem? (i := 178) rfl)) (hw _ (List.mem_of_getElem? (i := 179) rfl)) rfl (hw _ (List.mem_of_getElem? (i := 181) rfl)) (hw _ (List.mem_of_getElem? (i := 180) rfl)) (hw _ (List.mem_of_getElem? (i := 128) rfl)) (hw _ (List.mem_of_getElem? (i := 182) rfl)) (by decide) own_pd_20 rfl rfl rfl (by decide) (by decide) (Nat.le_of_eq rfl) rfl at_223 rfl rfl rfl (by decide) (by decide) X_fg (own_get_forfeited l Z a0 hw n0 h68 fg _ ff) (r1_next fun r85 h83 q84 => ?_)
              obtain ⟨rfl, rfl⟩ := q84
              refine WP.lload KW33.1 228 at_226 rfl rfl ?_
              refine WP.lcmp KW33.1 229 at_228 rfl ?_
              refine WP.ifl_ne KW33.1 252 232 at_229 (by decide) rfl (fun c229 => ?_) (fun c229 => ?_)
              · skip
                exact absurd rfl c229
              · skip
                refine WP.aload KW33.1 234 at_232 rfl rfl rfl ?_
                refine WP.callV KW33.1 (a := fg) (C := "com/example/vestline/vestline/model/CensusFigures") 237 17 110 0 [] [] (hw _ (List.mem_of_getElem? (i := 183) rfl)) (hw _ (List.mem_of_getElem? (i := 184) rfl)) rfl (hw _ (List.mem_of_getElem? (i := 186) rfl)) (hw _ (List.mem_of_getElem? (i := 185) rfl)) (hw _ (List.mem_of_getElem? (i := 128) rfl)) (hw _ (List.mem_of_getElem? (i := 187) rfl)) (by decide) own_pd_21 rfl rfl rfl (by decide) (by decide) (Nat.le_of_eq rfl) rfl at_234 rfl rfl rfl (by decide) (by decide) X_fg (own_get_largeVested l Z a0 hw n0 h68 fg _ fl rfl) (r1_next fun r88 h86 q87 => ?_)
                obtain ⟨rfl, rfl⟩ := q87
                refine WP.ifnonnull_n KW33.1 240 at_237 rfl ?_
                refine WP.aload KW33.1 242 at_240 rfl rfl rfl ?_
                refine WP.callV KW33.1 (a := fg) (C := "com/example/vestline/vestline/model/CensusFigures") 245 17 110 0 [] [] (hw _ (List.mem_of_getElem? (i := 188) rfl)) (hw _ (List.mem_of_getElem? (i := 189) rfl)) rfl (hw _ (List.mem_of_getElem? (i := 191) rfl)) (hw _ (List.mem_of_getElem? (i := 190) rfl)) (hw _ (List.mem_of_getElem? (i := 128) rfl)) (hw _ (List.mem_of_getElem? (i := 192) rfl)) (by decide) own_pd_21 rfl rfl rfl (by decide) (by decide) (Nat.le_of_eq rfl) rfl at_242 rfl rfl rfl (by decide) (by decide) X_fg (own_get_largeForfeited l Z a0 hw n0 h68 fg _ fm rfl) (r1_next fun r91 h89 q90 => ?_)
                obtain ⟨rfl, rfl⟩ := q90
                refine WP.ifnonnull_n KW33.1 248 at_245 rfl ?_
                refine WP.iconst KW33.1 (1 : Int32) 249 at_248 rfl rfl ?_
                refine WP.goto KW33.1 253 at_249 (by decide) ?_
                refine WP.iret KW33.1 rfl (Or.inr (Or.inl rfl)) rfl at_253 ?_ (by decide) (by decide)
                exact ⟨⟨_, rfl, rfl⟩, SW⟩
    · skip
      exact absurd c150 (by decide)
  · skip
    refine WP.iconst KW33.1 (1 : Int32) 133 at_132 rfl rfl ?_
    refine WP.goto KW33.1 137 at_133 (by decide) ?_
    refine WP.istore KW33.1 139 [.val (.int yr), .val (.int ch), .val (.long v), .second, .val (.long f), .second, .val (.int md), .val (.ref x), .val (.ref s1), .val (.ref s2), .val (.ref y1), .val (.ref y2), .val (.ref p1), .val (.ref p2), .val (.ref t1), .val (.ref t2), .val (.int (1 : Int32)), .unset] at_137 rfl rfl ?_
    refine WP.new KW33.1 142 17 110 (hw _ (List.mem_of_getElem? (i := 126) rfl)) (hw _ (List.mem_of_getElem? (i := 127) rfl)) (hw _ (List.mem_of_getElem? (i := 128) rfl)) at_139 rfl rfl rfl (by decide) (by decide) (fun h92 fg z_fg E93 X_fg D94 => ?_)
    have l_s1_fg : @LT.lt Nat _ s1 fg := z_fg ▸ X_s1.lt
    have l_s2_fg : @LT.lt Nat _ s2 fg := z_fg ▸ X_s2.lt
    have l_y1_fg : @LT.lt Nat _ y1 fg := z_fg ▸ X_y1.lt
    have l_y2_fg : @LT.lt Nat _ y2 fg := z_fg ▸ X_y2.lt
    have l_p1_fg : @LT.lt Nat _ p1 fg := z_fg ▸ X_p1.lt
    have l_p2_fg : @LT.lt Nat _ p2 fg := z_fg ▸ X_p2.lt
    have l_t1_fg : @LT.lt Nat _ t1 fg := z_fg ▸ X_t1.lt
    have l_t2_fg : @LT.lt Nat _ t2 fg := z_fg ▸ X_t2.lt
    have n0_fg : @LE.le Nat _ n0 fg := z_fg ▸ Z0
    have Z0 : n0 ≤ (h92).size := Nat.le_trans Z0 E93.1
    have SS := SS.ext E93
    have X_s1 := X_s1.ext E93
    have X_s2 := X_s2.ext E93
    have X_y1 := X_y1.ext E93
    have X_y2 := X_y2.ext E93
    have SW : h29.size ≤ (h92).size := Nat.le_trans SW E93.1
    have X_p1 := X_p1.ext E93
    have X_p2 := X_p2.ext E93
    have X_t1 := X_t1.ext E93
    have X_t2 := X_t2.ext E93
    have F_percents_fg : Fld Z h92 fg "com/example/vestline/vestline/model/CensusFigures" "percents" "Ljava/util/List;" .null := D94 (Or.inl (hw _ (List.mem_of_getElem? (i := 140) rfl))) (ty := (.object "java/util/List")) (by decide)
    have F_sections_fg : Fld Z h92 fg "com/example/vestline/vestline/model/CensusFigures" "sections" "Ljava/util/List;" .null := D94 (Or.inl (hw _ (List.mem_of_getElem? (i := 142) rfl))) (ty := (.object "java/util/List")) (by decide)
    have F_yearsOfService_fg : Fld Z h92 fg "com/example/vestline/vestline/model/CensusFigures" "yearsOfService" "Lcom/example/vestline/vestline/model/VestingResult$YearsOfService;" .null := D94 (Or.inl (hw _ (List.mem_of_getElem? (i := 149) rfl))) (ty := (.object "com/example/vestline/vestline/model/VestingResult$YearsOfService")) (by decide)
    have F_vested_fg : Fld Z h92 fg "com/example/vestline/vestline/model/CensusFigures" "vested" "J" (.long (0 : Int64)) := D94 (Or.inl (hw _ (List.mem_of_getElem? (i := 151) rfl))) (ty := .long) (by decide)
    have F_forfeited_fg : Fld Z h92 fg "com/example/vestline/vestline/model/CensusFigures" "forfeited" "J" (.long (0 : Int64)) := D94 (Or.inl (hw _ (List.mem_of_getElem? (i := 153) rfl))) (ty := .long) (by decide)
    have F_largeVested_fg : Fld Z h92 fg "com/example/vestline/vestline/model/CensusFigures" "largeVested" "Ljava/math/BigDecimal;" .null := D94 (Or.inl (hw _ (List.mem_of_getElem? (i := 155) rfl))) (ty := (.object "java/math/BigDecimal")) (by decide)
    have F_largeForfeited_fg : Fld Z h92 fg "com/example/vestline/vestline/model/CensusFigures" "largeForfeited" "Ljava/math/BigDecimal;" .null := D94 (Or.inl (hw _ (List.mem_of_getElem? (i := 157) rfl))) (ty := (.object "java/math/BigDecimal")) (by decide)
    refine WP.dup KW33.1 143 at_142 rfl rfl ?_
    refine WP.callI KW33.1 (a := fg) 146 17 110 1 [] [(.ref fg)] (hw _ (List.mem_of_getElem? (i := 129) rfl)) (hw _ (List.mem_of_getElem? (i := 130) rfl)) (hw _ (List.mem_of_getElem? (i := 128) rfl)) (hw _ (List.mem_of_getElem? (i := 131) rfl)) rfl (by decide) own_pd_7 rfl rfl rfl (by decide) (by decide) (Nat.le_of_eq rfl) rfl at_143 rfl rfl rfl (by decide) (by decide) (own_cf l Z a0 hw n0 h92 fg cs de el SS X_fg n0_fg _ F_yearsOfService_fg _ F_percents_fg _ F_sections_fg _ F_vested_fg _ F_forfeited_fg _ F_largeVested_fg _ F_largeForfeited_fg) (r0_next fun h95 q96 => ?_)
    obtain ⟨Kc, fy, fp, fs, fv, ff, fl, fm⟩ := q96
    have Z0 : n0 ≤ (h95).size := Nat.le_trans Z0 Kc.1
    have SS := SS.keep Kc (kn1 (by omega))
    have X_s1 := X_s1.keep Kc
    have X_s2 := X_s2.keep Kc
    have X_y1 := X_y1.keep Kc
    have X_y2 := X_y2.keep Kc
    have SW : h29.size ≤ (h95).size := Nat.le_trans SW Kc.1
    have X_p1 := X_p1.keep Kc
    have X_p2 := X_p2.keep Kc
    have X_t1 := X_t1.keep Kc
    have X_t2 := X_t2.keep Kc
    have X_fg := X_fg.keep Kc
    refine WP.astore KW33.1 148 [.val (.int yr), .val (.int ch), .val (.long v), .second, .val (.long f), .second, .val (.int md), .val (.ref x), .val (.ref s1), .val (.ref s2), .val (.ref y1), .val (.ref y2), .val (.ref p1), .val (.ref p2), .val (.ref t1), .val (.ref t2), .val (.int (1 : Int32)), .val (.ref fg)] at_146 rfl rfl rfl ?_
    refine WP.iload KW33.1 150 at_148 rfl rfl ?_
    refine WP.if_eq KW33.1 167 153 at_150 (by decide) rfl (fun c150 => ?_) (fun c150 => ?_)
    · skip
      exact absurd c150 (by decide)
    · skip
      refine WP.aload KW33.1 155 at_153 rfl rfl rfl ?_
      refine WP.aload KW33.1 157 at_155 rfl rfl rfl ?_
      refine WP.aload KW33.1 159 at_157 rfl rfl rfl ?_
      refine WP.aload KW33.1 161 at_159 rfl rfl rfl ?_
      refine WP.lload KW33.1 163 at_161 rfl rfl ?_
      refine WP.lloadN KW33.1 164 at_163 rfl rfl ?_
      refine WP.callV KW33.1 (a := fg) (C := "com/example/vestline/vestline/model/CensusFigures") 167 17 110 0 [(.ref y2), (.ref p2), (.ref t2), (.long f), (.long v)] [] (hw _ (List.mem_of_getElem? (i := 143) rfl)) (hw _ (List.mem_of_getElem? (i := 144) rfl)) rfl (hw _ (List.mem_of_getElem? (i := 146) rfl)) (hw _ (List.mem_of_getElem? (i := 145) rfl)) (hw _ (List.mem_of_getElem? (i := 128) rfl)) (hw _ (List.mem_of_getElem? (i := 147) rfl)) (by decide) own_pd_18 rfl rfl rfl (by decide) (by decide) (Nat.le_of_eq rfl) rfl at_164 rfl rfl rfl (by decide) (by decide) X_fg (own_set l Z a0 hw n0 h95 fg y2 p2 t2 f v X_fg n0_fg _ fy _ fp _ fs _ fv _ ff _ fl _ fm) (r0_next fun h98 q99 => ?_)
      obtain ⟨Kc, fy, fp, fs, fv, ff, fl, fm⟩ := q99
      have Z0 : n0 ≤ (h98).size := Nat.le_trans Z0 Kc.1
      have SS := SS.keep Kc (kn1 (by omega))
      have X_s1 := X_s1.keep Kc
      have X_s2 := X_s2.keep Kc
      have X_y1 := X_y1.keep Kc
      have X_y2 := X_y2.keep Kc
      have SW : h29.size ≤ (h98).size := Nat.le_trans SW Kc.1
      have X_p1 := X_p1.keep Kc
      have X_p2 := X_p2.keep Kc
      have X_t1 := X_t1.keep Kc
      have X_t2 := X_t2.keep Kc
      have X_fg := X_fg.keep Kc
      refine WP.aload KW33.1 169 at_167 rfl rfl rfl ?_
      refine WP.aload KW33.1 171 at_169 rfl rfl rfl ?_
      refine WP.aload KW33.1 173 at_171 rfl rfl rfl ?_
      refine WP.aload KW33.1 175 at_173 rfl rfl rfl ?_
      refine WP.lloadN KW33.1 176 at_175 rfl rfl ?_
      refine WP.lload KW33.1 178 at_176 rfl rfl ?_
      refine WP.callV KW33.1 (a := fg) (C := "com/example/vestline/vestline/model/CensusFigures") 181 17 110 0 [(.ref y1), (.ref p1), (.ref t1), (.long v), (.long f)] [] (hw _ (List.mem_of_getElem? (i := 143) rfl)) (hw _ (List.mem_of_getElem? (i := 144) rfl)) rfl (hw _ (List.mem_of_getElem? (i := 146) rfl)) (hw _ (List.mem_of_getElem? (i := 145) rfl)) (hw _ (List.mem_of_getElem? (i := 128) rfl)) (hw _ (List.mem_of_getElem? (i := 147) rfl)) (by decide) own_pd_18 rfl rfl rfl (by decide) (by decide) (Nat.le_of_eq rfl) rfl at_178 rfl rfl rfl (by decide) (by decide) X_fg (own_set l Z a0 hw n0 h98 fg y1 p1 t1 v f X_fg n0_fg _ fy _ fp _ fs _ fv _ ff _ fl _ fm) (r0_next fun h101 q102 => ?_)
      obtain ⟨Kc, fy, fp, fs, fv, ff, fl, fm⟩ := q102
      have Z0 : n0 ≤ (h101).size := Nat.le_trans Z0 Kc.1
      have SS := SS.keep Kc (kn1 (by omega))
      have X_s1 := X_s1.keep Kc
      have X_s2 := X_s2.keep Kc
      have X_y1 := X_y1.keep Kc
      have X_y2 := X_y2.keep Kc
      have SW : h29.size ≤ (h101).size := Nat.le_trans SW Kc.1
      have X_p1 := X_p1.keep Kc
      have X_p2 := X_p2.keep Kc
      have X_t1 := X_t1.keep Kc
      have X_t2 := X_t2.keep Kc
      have X_fg := X_fg.keep Kc
      refine WP.aload KW33.1 183 at_181 rfl rfl rfl ?_
      refine WP.callV KW33.1 (a := fg) (C := "com/example/vestline/vestline/model/CensusFigures") 186 17 110 0 [] [] (hw _ (List.mem_of_getElem? (i := 158) rfl)) (hw _ (List.mem_of_getElem? (i := 159) rfl)) rfl (hw _ (List.mem_of_getElem? (i := 161) rfl)) (hw _ (List.mem_of_getElem? (i := 160) rfl)) (hw _ (List.mem_of_getElem? (i := 128) rfl)) (hw _ (List.mem_of_getElem? (i := 162) rfl)) (by decide) own_pd_19 rfl rfl rfl (by decide) (by decide) (Nat.le_of_eq rfl) rfl at_183 rfl rfl rfl (by decide) (by decide) X_fg (own_get_yearsOfService l Z a0 hw n0 h101 fg _ fy rfl) (r1_next fun r106 h104 q105 => ?_)
      obtain ⟨rfl, rfl⟩ := q105
      refine WP.aload KW33.1 188 at_186 rfl rfl rfl ?_
      refine WP.acmp_ne KW33.1 252 191 at_188 (by decide) rfl rfl rfl (fun c188 => ?_) (fun c188 => ?_)
      · skip
        exact absurd rfl c188
      · skip
        refine WP.aload KW33.1 193 at_191 rfl rfl rfl ?_
        refine WP.callV KW33.1 (a := fg) (C := "com/example/vestline/vestline/model/CensusFigures") 196 17 110 0 [] [] (hw _ (List.mem_of_getElem? (i := 163) rfl)) (hw _ (List.mem_of_getElem? (i := 164) rfl)) rfl (hw _ (List.mem_of_getElem? (i := 166) rfl)) (hw _ (List.mem_of_getElem? (i := 165) rfl)) (hw _ (List.mem_of_getElem? (i := 128) rfl)) (hw _ (List.mem_of_getElem? (i := 167) rfl)) (by decide) own_pd_13 rfl rfl rfl (by decide) (by decide) (Nat.le_of_eq rfl) rfl at_193 rfl rfl rfl (by decide) (by decide) X_fg (own_get_percents l Z a0 hw n0 h101 fg _ fp rfl) (r1_next fun r109 h107 q108 => ?_)
        obtain ⟨rfl, rfl⟩ := q108
        refine WP.aload KW33.1 198 at_196 rfl rfl rfl ?_
        refine WP.acmp_ne KW33.1 252 201 at_198 (by decide) rfl rfl rfl (fun c198 => ?_) (fun c198 => ?_)
        · skip
          exact absurd rfl c198
        · skip
          refine WP.aload KW33.1 203 at_201 rfl rfl rfl ?_
          refine WP.callV KW33.1 (a := fg) (C := "com/example/vestline/vestline/model/CensusFigures") 206 17 110 0 [] [] (hw _ (List.mem_of_getElem? (i := 168) rfl)) (hw _ (List.mem_of_getElem? (i := 169) rfl)) rfl (hw _ (List.mem_of_getElem? (i := 171) rfl)) (hw _ (List.mem_of_getElem? (i := 170) rfl)) (hw _ (List.mem_of_getElem? (i := 128) rfl)) (hw _ (List.mem_of_getElem? (i := 172) rfl)) (by decide) own_pd_13 rfl rfl rfl (by decide) (by decide) (Nat.le_of_eq rfl) rfl at_203 rfl rfl rfl (by decide) (by decide) X_fg (own_get_sections l Z a0 hw n0 h101 fg _ fs rfl) (r1_next fun r112 h110 q111 => ?_)
          obtain ⟨rfl, rfl⟩ := q111
          refine WP.aload KW33.1 208 at_206 rfl rfl rfl ?_
          refine WP.acmp_ne KW33.1 252 211 at_208 (by decide) rfl rfl rfl (fun c208 => ?_) (fun c208 => ?_)
          · skip
            exact absurd rfl c208
          · skip
            refine WP.aload KW33.1 213 at_211 rfl rfl rfl ?_
            refine WP.callV KW33.1 (a := fg) (C := "com/example/vestline/vestline/model/CensusFigures") 216 17 110 0 [] [] (hw _ (List.mem_of_getElem? (i := 173) rfl)) (hw _ (List.mem_of_getElem? (i := 174) rfl)) rfl (hw _ (List.mem_of_getElem? (i := 176) rfl)) (hw _ (List.mem_of_getElem? (i := 175) rfl)) (hw _ (List.mem_of_getElem? (i := 128) rfl)) (hw _ (List.mem_of_getElem? (i := 177) rfl)) (by decide) own_pd_20 rfl rfl rfl (by decide) (by decide) (Nat.le_of_eq rfl) rfl at_213 rfl rfl rfl (by decide) (by decide) X_fg (own_get_vested l Z a0 hw n0 h101 fg _ fv) (r1_next fun r115 h113 q114 => ?_)
            obtain ⟨rfl, rfl⟩ := q114
            refine WP.lloadN KW33.1 217 at_216 rfl rfl ?_
            refine WP.lcmp KW33.1 218 at_217 rfl ?_
            refine WP.ifl_ne KW33.1 252 221 at_218 (by decide) rfl (fun c218 => ?_) (fun c218 => ?_)
            · skip
              exact absurd rfl c218
            · skip
              refine WP.aload KW33.1 223 at_221 rfl rfl rfl ?_
              refine WP.callV KW33.1 (a := fg) (C := "com/example/vestline/vestline/model/CensusFigures") 226 17 110 0 [] [] (hw _ (List.mem_of_getElem? (i := 178) rfl)) (hw _ (List.mem_of_getElem? (i := 179) rfl)) rfl (hw _ (List.mem_of_getElem? (i := 181) rfl)) (hw _ (List.mem_of_getElem? (i := 180) rfl)) (hw _ (List.mem_of_getElem? (i := 128) rfl)) (hw _ (List.mem_of_getElem? (i := 182) rfl)) (by decide) own_pd_20 rfl rfl rfl (by decide) (by decide) (Nat.le_of_eq rfl) rfl at_223 rfl rfl rfl (by decide) (by decide) X_fg (own_get_forfeited l Z a0 hw n0 h101 fg _ ff) (r1_next fun r118 h116 q117 => ?_)
              obtain ⟨rfl, rfl⟩ := q117
              refine WP.lload KW33.1 228 at_226 rfl rfl ?_
              refine WP.lcmp KW33.1 229 at_228 rfl ?_
              refine WP.ifl_ne KW33.1 252 232 at_229 (by decide) rfl (fun c229 => ?_) (fun c229 => ?_)
              · skip
                exact absurd rfl c229
              · skip
                refine WP.aload KW33.1 234 at_232 rfl rfl rfl ?_
                refine WP.callV KW33.1 (a := fg) (C := "com/example/vestline/vestline/model/CensusFigures") 237 17 110 0 [] [] (hw _ (List.mem_of_getElem? (i := 183) rfl)) (hw _ (List.mem_of_getElem? (i := 184) rfl)) rfl (hw _ (List.mem_of_getElem? (i := 186) rfl)) (hw _ (List.mem_of_getElem? (i := 185) rfl)) (hw _ (List.mem_of_getElem? (i := 128) rfl)) (hw _ (List.mem_of_getElem? (i := 187) rfl)) (by decide) own_pd_21 rfl rfl rfl (by decide) (by decide) (Nat.le_of_eq rfl) rfl at_234 rfl rfl rfl (by decide) (by decide) X_fg (own_get_largeVested l Z a0 hw n0 h101 fg _ fl rfl) (r1_next fun r121 h119 q120 => ?_)
                obtain ⟨rfl, rfl⟩ := q120
                refine WP.ifnonnull_n KW33.1 240 at_237 rfl ?_
                refine WP.aload KW33.1 242 at_240 rfl rfl rfl ?_
                refine WP.callV KW33.1 (a := fg) (C := "com/example/vestline/vestline/model/CensusFigures") 245 17 110 0 [] [] (hw _ (List.mem_of_getElem? (i := 188) rfl)) (hw _ (List.mem_of_getElem? (i := 189) rfl)) rfl (hw _ (List.mem_of_getElem? (i := 191) rfl)) (hw _ (List.mem_of_getElem? (i := 190) rfl)) (hw _ (List.mem_of_getElem? (i := 128) rfl)) (hw _ (List.mem_of_getElem? (i := 192) rfl)) (by decide) own_pd_21 rfl rfl rfl (by decide) (by decide) (Nat.le_of_eq rfl) rfl at_242 rfl rfl rfl (by decide) (by decide) X_fg (own_get_largeForfeited l Z a0 hw n0 h101 fg _ fm rfl) (r1_next fun r124 h122 q123 => ?_)
                obtain ⟨rfl, rfl⟩ := q123
                refine WP.ifnonnull_n KW33.1 248 at_245 rfl ?_
                refine WP.iconst KW33.1 (1 : Int32) 249 at_248 rfl rfl ?_
                refine WP.goto KW33.1 253 at_249 (by decide) ?_
                refine WP.iret KW33.1 rfl (Or.inr (Or.inl rfl)) rfl at_253 ?_ (by decide) (by decide)
                exact ⟨⟨_, rfl, rfl⟩, SW⟩
set_option maxRecDepth 65536 in
set_option maxHeartbeats 40000000 in
theorem comes_1 {Post : Tables → Env → Array Value → State → Outcome → State → Prop} (hpost : ∀ tb e args s v u, (limb_1_1.after args s (.returned v) u = true ∧ limb_1_2.after args s (.returned v) u = true ∧ True) → ReturnedEndW s (.returned v) u (Jvm.fieldLocs frame_1_writes args s ++ Jvm.arrayLocs frame_1_arrays args s ++ Jvm.staticLocs frame_1_statics s) 40 1216 → Post tb e args s (.returned v) u) :
    ArmFor flags0 classFile x code maxLocals ret World_1 tables_1 room_1 Calls_1 rest_1 Pre_1 Post := by
  intro l hfl _ _ p e ha hc hk s m args below hf hA hF happ hP
  obtain ⟨hcalls, hrest, hpre⟩ := hP
  obtain ⟨-, -, -, hnamed, -, -, -, hat⟩ := (Spec.applies_iff hf).mp happ
  obtain ⟨hg, hn⟩ := and_e (Cond.before_iff.mp (show (Jvm.Cond.and given_1 narrow_1).before args s = true from hpre))
  obtain ⟨g0, g1⟩ := and_e hg
  obtain ⟨w0, w1, w2, w3, w4, rfl⟩ : ∃ w0 w1 w2 w3 w4 : Value, args = #[w0, w1, w2, w3, w4] := by
    have hs : args.size = 5 := by simpa [Cond.value, given_1] using g0
    obtain ⟨L⟩ := args
    match L, hs with
    | [w0, w1, w2, w3, w4], _ => exact ⟨w0, w1, w2, w3, w4, rfl⟩
  have hw := fun d (hd : d ∈ tables_1) => atoms_spec (ws := Jvm.Cond.code x code maxLocals ret :: tables_1) hat d (List.mem_cons_of_mem _ hd)
  have hfit : Fit s := fun {y c} hc i hi => by
    obtain ⟨ha, rfl⟩ := Array.getElem?_eq_some_iff.mp hc
    have q := List.all_eq_true.mp ((Array.all_eq_true_iff_forall_mem.mp hF) _ (Array.getElem_mem ha)) i (List.mem_range.mpr hi)
    simpa [Array.getElem?_eq_getElem hi] using q
  obtain ⟨u0, g2⟩ := and_e g1
  obtain ⟨i0, ei0⟩ := is_v u0
  obtain rfl : w0 = (.int i0) := Option.some.inj ei0
  obtain ⟨u1, g3⟩ := and_e g2
  obtain ⟨i1, ei1⟩ := is_v u1
  obtain rfl : w1 = (.int i1) := Option.some.inj ei1
  obtain ⟨u2, g4⟩ := and_e g3
  obtain ⟨i2, ei2⟩ := isL_v u2
  obtain rfl : w2 = (.long i2) := Option.some.inj ei2
  obtain ⟨u3, g5⟩ := and_e g4
  obtain ⟨i3, ei3⟩ := isL_v u3
  obtain rfl : w3 = (.long i3) := Option.some.inj ei3
  obtain ⟨i4, ei4⟩ := is_v g5
  obtain rfl : w4 = (.int i4) := Option.some.inj ei4
  have hr := Cond.before_iff.mp (show rest_1_c.before _ s = true from hrest)
  obtain ⟨r0, hr⟩ := and_e hr
  obtain ⟨r1, hr⟩ := and_e hr
  obtain ⟨r2, hr⟩ := and_e hr
  obtain ⟨r3, hr⟩ := and_e hr
  obtain ⟨r4, hr⟩ := and_e hr
  obtain ⟨r5, hr⟩ := and_e hr
  obtain ⟨r6, hr⟩ := and_e hr
  obtain ⟨r7, hr⟩ := and_e hr
  obtain ⟨r8, hr⟩ := and_e hr
  obtain ⟨r9, hr⟩ := and_e hr
  obtain ⟨r10, hr⟩ := and_e hr
  obtain ⟨r11, hr⟩ := and_e hr
  obtain ⟨r12, hr⟩ := and_e hr
  obtain ⟨r13, hr⟩ := and_e hr
  obtain ⟨r14, hr⟩ := and_e hr
  obtain ⟨r15, hr⟩ := and_e hr
  obtain ⟨r16, hr⟩ := and_e hr
  obtain ⟨r17, hr⟩ := and_e hr
  obtain ⟨r18, hr⟩ := and_e hr
  obtain ⟨r19, hr⟩ := and_e hr
  obtain ⟨r20, hr⟩ := and_e hr
  obtain ⟨cs, ecs⟩ := is_v r1
  have hcs := ne0_of ecs r2
  have S1 := StB.of (Sta.start ecs (Or.inl (Cond.before_iff.mpr r0)))
  obtain ⟨de, _, _, _, ede, -⟩ := Cond.exactly_spec (Cond.before_iff.mpr r16)
  obtain ⟨cde, Ade⟩ := Arr.start ede r15
  have Ade := emptyV ede Ade r17
  have S2 := StB.of (Sta.start ede (Or.inr ⟨(hw _ (List.mem_of_getElem? (i := 69) rfl)), Cond.before_iff.mpr r11⟩))
  obtain ⟨el, _, _, _, eel, -⟩ := Cond.exactly_spec (Cond.before_iff.mpr r20)
  have S3 := StB.of (Sta.start eel (Or.inl (Cond.before_iff.mpr r19)))
  obtain ⟨n, o, h1, h2, h3, _, L, rfl, ⟨⟨_, rfl, rfl⟩, N⟩, hq⟩ := own_law l s _ hw s.heap.size s.heap i0 i1 i2 i3 i4 cs de el ⟨S1, S2, S3, Ade, Ade.lt, hcs⟩ (Nat.le_refl _) tables_1 p e ha hc hk s m _ below hf ((Spec.applies_iff_loose hf).mp happ).1 ⟨rfl, State.Warmed39.refl s, rfl⟩ trivial
  refine ⟨n, _, h1, h2, h3, hpost _ _ _ _ _ _ ⟨Cond.after_iff.mpr rfl, Cond.after_iff.mpr (eq_i res_at (Term.int_eval (1)) rfl), trivial⟩ ⟨hq.1, hq.2.1, hq.2.2.1, (hq.2.2.2.sift fun y hy => Or.inr (N y hy)).mono (by decide) (by decide)⟩⟩
theorem main_1_1 : Claimed_1_1 := comes_1 fun _ _ _ _ _ _ h hF => ⟨h.1, hF⟩
theorem main_1_2 : Claimed_1_2 := comes_1 fun _ _ _ _ _ _ h hF => ⟨h.2.1, hF⟩
end Jvm.Pilot.@@N@@
namespace Jvm.Pilot.@@N@@
open Jvm Jvm.ClassFile Sem Op Lib Jvm.Free Jvm.Stand Jvm.Pilot.@@N@@.Jvm.D
/-! MADE BY PROGRAM (witnessworld.py) out of the Statement's table words and the real class files: 37 classes; the members and pool entries that the words name. The judged class is class 1, her method 1. -/
namespace start1
open Jvm.ClassFile
def u (s : String) : CpInfo := .utf8 (stringToUtf16 s)
/-- a pool by its gaps: so many unusable entries, then the entry; so many at the end -/
def gap : Nat → List CpInfo → List CpInfo
  | 0, r => r
  | n + 1, r => .unusable :: gap n r
def poolList (es : List (Nat × CpInfo)) (last : Nat) : List CpInfo := es.foldr (fun e r => gap e.1 (e.2 :: r)) (gap last [])
def pool (es : List (Nat × CpInfo)) (last : Nat) : Array CpInfo := ⟨poolList es last⟩
def fileOf (pool : Array CpInfo) (this : Nat) (attrs : Array Attribute := #[]) (ms : Array MethodInfo := #[]) (fl : Nat := 33) (sup : Nat := 0) (ifs : Array Nat := #[]) (fds : Array FieldInfo := #[]) : ClassFile where
  minorVersion := 0
  majorVersion := 65
  constantPool := pool
  accessFlags := fl
  thisClass := this
  superClass := sup
  interfaces := ifs
  fields := fds
  methods := ms
  attributes := attrs
def plain (name : String) (sup : Option ClassId) : Class where
  name := name
  kind := .ordinary
  loader := none
  accessFlags := 33
  super := sup
  interfaces := #[]
  cf := none
  fields := #[]
  methods := #[]
  instanceTypes := #[]
  staticTypes := #[]
  resolved := #[]
  callSites := []
  init := .initialized
  statics := none
  mirror := none

def pool0 : Array CpInfo := pool [(5, u "<init>"), (0, u "()V"), (1, .class_ 10), (1, u "java/lang/Object")] 113

def k0c0 : Code := { maxStack := 0, maxLocals := 1, code := object_method_1_code, exceptionTable := #[], attributes := #[] }
def k0m0 : Method := { name := "<init>", desc := "()V", sig := { parameters := [], returnType := none }, accessFlags := 1, code := some k0c0 }
/-- java/lang/Object -/
def k0 : Class := { plain "java/lang/Object" none with
  accessFlags := 33
  interfaces := #[]
  cf := some (fileOf pool0 8 #[] #[{ accessFlags := 1, nameIndex := 5, descriptorIndex := 6, attributes := #[] }] 33 0 #[] #[])
  fields := #[]
  methods := #[k0m0]
  instanceTypes := #[]
  staticTypes := #[]
  resolved := Array.replicate 124 none
  statics := none }

def pool1 : Array CpInfo := pool [(2, .class_ 4), (0, .nameAndType 5 6), (0, u "java/lang/Object"), (0, u "<init>"), (0, u "()V"), (0, .class_ 8), (0, u "java/lang/String"), (0, .methodref 7 10), (0, .nameAndType 5 11), (0, u "([C)V"), (0, .methodref 7 13), (0, .nameAndType 14 15), (0, u "valueOf"), (0, u "(C)Ljava/lang/String;"), (0, .class_ 17), (0, u "com/example/vestline/vestline/model/VestingResult$YearsOfService"), (0, .methodref 16 19), (0, .nameAndType 5 20), (0, u "(ILjava/lang/String;)V"), (0, .class_ 22), (0, u "java/util/ArrayList"), (0, .methodref 21 3), (0, .interfaceMethodref 25 26), (0, .class_ 27), (0, .nameAndType 28 29), (0, u "java/util/List"), (0, u "add"), (0, u "(Ljava/lang/Object;)Z"), (0, .class_ 31), (0, u "com/example/vestline/vestline/model/CensusFigures"), (0, .methodref 30 3), (0, .methodref 30 34), (0, .nameAndType 35 36), (0, u "set"), (0, u "(Lcom/example/vestline/vestline/model/VestingResult$YearsOfService;Ljava/util/List;Ljava/util/List;JJ)V"), (0, .methodref 30 38), (0, .nameAndType 39 40), (0, u "yearsOfService"), (0, u "()Lcom/example/vestline/vestline/model/VestingResult$YearsOfService;"), (0, .methodref 30 42), (0, .nameAndType 43 44), (0, u "percents"), (0, u "()Ljava/util/List;"), (0, .methodref 30 46), (0, .nameAndType 47 44), (0, u "sections"), (0, .methodref 30 49), (0, .nameAndType 50 51), (0, u "vested"), (0, u "()J"), (0, .methodref 30 53), (0, .nameAndType 54 51), (0, u "forfeited"), (0, .methodref 30 56), (0, .nameAndType 57 58), (0, u "largeVested"), (0, u "()Ljava/math/BigDecimal;"), (0, .methodref 30 60), (0, .nameAndType 61 58), (0, u "largeForfeited"), (0, .class_ 63), (0, u "com/example/vestline/vestline/model/CensusFiguresSetPinLaw"), (2, u "law"), (0, u "(IIJJI)Z")] 9

def k1m0 : Method := { name := "<init>", desc := "()V", sig := { parameters := [], returnType := none }, accessFlags := 2, code := none }
def k1c1 : Code := { maxStack := 8, maxLocals := 18, code := code, exceptionTable := #[], attributes := #[] }
def k1m1 : Method := { name := "law", desc := "(IIJJI)Z", sig := { parameters := [.int, .int, .long, .long, .int], returnType := some .boolean }, accessFlags := 9, code := some k1c1 }
/-- com/example/vestline/vestline/model/CensusFiguresSetPinLaw -/
def k1 : Class := { plain "com/example/vestline/vestline/model/CensusFiguresSetPinLaw" (some 0) with
  accessFlags := 49
  interfaces := #[]
  cf := some (fileOf pool1 62 #[] #[{ accessFlags := 2, nameIndex := 5, descriptorIndex := 6, attributes := #[] }, { accessFlags := 9, nameIndex := 66, descriptorIndex := 67, attributes := #[] }] 49 2 #[] #[])
  fields := #[]
  methods := #[k1m0, k1m1]
  instanceTypes := #[]
  staticTypes := #[]
  resolved := Array.replicate 77 none
  statics := none }

def pool2 : Array CpInfo := pool [(1, .class_ 2), (0, u "java/io/Serializable"), (0, .class_ 4), (0, u "java/lang/Object")] 2

/-- java/io/Serializable -/
def k2 : Class := { plain "java/io/Serializable" (some 0) with
  accessFlags := 1537
  interfaces := #[]
  cf := some (fileOf pool2 1 #[] #[] 1537 3 #[] #[])
  fields := #[]
  methods := #[]
  instanceTypes := #[]
  staticTypes := #[]
  resolved := Array.replicate 7 none
  statics := none }

def pool3 : Array CpInfo := pool [(1, .class_ 2), (0, u "java/lang/Comparable"), (0, .class_ 4), (0, u "java/lang/Object")] 7

/-- java/lang/Comparable -/
def k3 : Class := { plain "java/lang/Comparable" (some 0) with
  accessFlags := 1537
  interfaces := #[]
  cf := some (fileOf pool3 1 #[] #[] 1537 3 #[] #[])
  fields := #[]
  methods := #[]
  instanceTypes := #[]
  staticTypes := #[]
  resolved := Array.replicate 12 none
  statics := none }

def pool4 : Array CpInfo := pool [(2, .class_ 4), (1, u "java/lang/CharSequence"), (42, .class_ 48), (0, u "java/lang/CharSequence$1CodePointIterator"), (10, .class_ 60), (0, u "java/lang/CharSequence$1CharIterator"), (5, .class_ 67), (0, u "java/lang/Object")] 63

/-- java/lang/CharSequence -/
def k4 : Class := { plain "java/lang/CharSequence" (some 0) with
  accessFlags := 1537
  interfaces := #[]
  cf := some (fileOf pool4 2 #[.nestMembers #[47, 59]] #[] 1537 66 #[] #[])
  fields := #[]
  methods := #[]
  instanceTypes := #[]
  staticTypes := #[]
  resolved := Array.replicate 131 none
  statics := none }

def pool5 : Array CpInfo := pool [(1, .class_ 2), (0, u "java/lang/constant/Constable"), (0, .class_ 4), (0, u "java/lang/Object")] 6

/-- java/lang/constant/Constable -/
def k5 : Class := { plain "java/lang/constant/Constable" (some 0) with
  accessFlags := 1537
  interfaces := #[]
  cf := some (fileOf pool5 1 #[] #[] 1537 3 #[] #[])
  fields := #[]
  methods := #[]
  instanceTypes := #[]
  staticTypes := #[]
  resolved := Array.replicate 11 none
  statics := none }

def pool6 : Array CpInfo := pool [(1, .class_ 2), (0, u "java/lang/constant/ConstantDesc"), (0, .class_ 4), (0, u "java/lang/Object")] 32

/-- java/lang/constant/ConstantDesc -/
def k6 : Class := { plain "java/lang/constant/ConstantDesc" (some 0) with
  accessFlags := 1537
  interfaces := #[]
  cf := some (fileOf pool6 1 #[] #[] 1537 3 #[] #[])
  fields := #[]
  methods := #[]
  instanceTypes := #[]
  staticTypes := #[]
  resolved := Array.replicate 37 none
  statics := none }

def pool7 : Array CpInfo := pool [(1, .methodref 2 3), (0, .class_ 4), (0, .nameAndType 5 6), (0, u "java/lang/Object"), (0, u "<init>"), (0, u "()V"), (2, .fieldref 10 11), (0, .class_ 12), (0, .nameAndType 13 14), (0, u "java/lang/String"), (0, u "value"), (0, u "[B"), (0, .fieldref 10 16), (0, .nameAndType 17 18), (0, u "coder"), (0, u "B"), (2, u "hash"), (0, u "I"), (2, u "hashIsZero"), (0, u "Z"), (0, .methodref 10 28), (0, .nameAndType 5 29), (0, u "([CIILjava/lang/Void;)V"), (8, .fieldref 10 39), (0, .nameAndType 40 26), (0, u "COMPACT_STRINGS"), (1, .class_ 44), (1, u "java/lang/StringUTF16"), (0, u "compress"), (1, .methodref 42 48), (0, .nameAndType 49 50), (0, u "coderFromArrayLen"), (0, u "([BI)B"), (2, u "toBytes"), (53, .class_ 109), (1, u "java/lang/StringLatin1"), (67, .methodref 42 178), (0, .nameAndType 45 179), (0, u "([CII)[B"), (29, .methodref 10 210), (0, .nameAndType 5 211), (0, u "([BB)V"), (157, u "(C)Z"), (205, .class_ 576), (0, u "java/lang/CharSequence"), (22, u "CASE_INSENSITIVE_ORDER"), (0, u "Ljava/util/Comparator;"), (181, u "valueOf"), (0, u "(C)Ljava/lang/String;"), (226, u "([C)V"), (4, .methodref 107 1016), (0, .nameAndType 1017 369), (0, u "canEncode"), (0, .methodref 107 1019), (0, .nameAndType 53 1020), (0, u "(C)[B"), (80, u "serialPersistentFields"), (0, u "[Ljava/io/ObjectStreamField;"), (0, .class_ 1104), (0, u "java/lang/String$CaseInsensitiveComparator"), (1, .class_ 1107), (0, u "java/io/Serializable"), (0, .class_ 1109), (0, u "java/lang/Comparable"), (0, .class_ 1111), (0, u "java/lang/constant/Constable"), (0, .class_ 1113), (0, u "java/lang/constant/ConstantDesc"), (2, u "serialVersionUID"), (0, u "J"), (3, u "REPL"), (0, u "C"), (2, u "LATIN1"), (1, u "UTF16")] 323

def k7m0 : Method := { name := "<init>", desc := "()V", sig := { parameters := [], returnType := none }, accessFlags := 1, code := none }
def k7c1 : Code := { maxStack := 5, maxLocals := 2, code := jdk_42_method_3_code, exceptionTable := #[], attributes := #[] }
def k7m1 : Method := { name := "<init>", desc := "([C)V", sig := { parameters := [(.array .char)], returnType := none }, accessFlags := 1, code := some k7c1 }
def k7c2 : Code := { maxStack := 4, maxLocals := 1, code := jdk_42_method_139_code, exceptionTable := #[], attributes := #[] }
def k7m2 : Method := { name := "valueOf", desc := "(C)Ljava/lang/String;", sig := { parameters := [.char], returnType := some (.object "java/lang/String") }, accessFlags := 9, code := some k7c2 }
def k7c3 : Code := { maxStack := 4, maxLocals := 6, code := jdk_42_method_149_code, exceptionTable := #[], attributes := #[] }
def k7m3 : Method := { name := "<init>", desc := "([CIILjava/lang/Void;)V", sig := { parameters := [(.array .char), .int, .int, (.object "java/lang/Void")], returnType := none }, accessFlags := 2, code := some k7c3 }
def k7c4 : Code := { maxStack := 2, maxLocals := 3, code := jdk_42_method_151_code, exceptionTable := #[], attributes := #[] }
def k7m4 : Method := { name := "<init>", desc := "([BB)V", sig := { parameters := [(.array .byte), .byte], returnType := none }, accessFlags := 0, code := some k7c4 }
/-- java/lang/String -/
def k7 : Class := { plain "java/lang/String" (some 0) with
  accessFlags := 49
  interfaces := #[2, 3, 4, 5, 6]
  cf := some (fileOf pool7 10 #[.nestMembers #[1103]] #[{ accessFlags := 1, nameIndex := 5, descriptorIndex := 6, attributes := #[] }, { accessFlags := 1, nameIndex := 5, descriptorIndex := 1010, attributes := #[] }, { accessFlags := 9, nameIndex := 782, descriptorIndex := 783, attributes := #[] }, { accessFlags := 2, nameIndex := 5, descriptorIndex := 29, attributes := #[] }, { accessFlags := 0, nameIndex := 5, descriptorIndex := 211, attributes := #[] }] 49 2 #[1106, 1108, 575, 1110, 1112] #[{ accessFlags := 18, nameIndex := 13, descriptorIndex := 14, attributes := #[] }, { accessFlags := 18, nameIndex := 17, descriptorIndex := 18, attributes := #[] }, { accessFlags := 2, nameIndex := 21, descriptorIndex := 22, attributes := #[] }, { accessFlags := 2, nameIndex := 25, descriptorIndex := 26, attributes := #[] }, { accessFlags := 26, nameIndex := 1116, descriptorIndex := 1117, attributes := #[] }, { accessFlags := 24, nameIndex := 40, descriptorIndex := 26, attributes := #[] }, { accessFlags := 26, nameIndex := 1101, descriptorIndex := 1102, attributes := #[] }, { accessFlags := 26, nameIndex := 1121, descriptorIndex := 1122, attributes := #[] }, { accessFlags := 25, nameIndex := 599, descriptorIndex := 600, attributes := #[] }, { accessFlags := 24, nameIndex := 1125, descriptorIndex := 18, attributes := #[] }, { accessFlags := 24, nameIndex := 1127, descriptorIndex := 18, attributes := #[] }])
  fields := #[{ name := "value", type := (.array .byte), accessFlags := 18, slot := 0, constantValue := 0 }, { name := "coder", type := .byte, accessFlags := 18, slot := 1, constantValue := 0 }, { name := "hash", type := .int, accessFlags := 2, slot := 2, constantValue := 0 }, { name := "hashIsZero", type := .boolean, accessFlags := 2, slot := 3, constantValue := 0 }, { name := "serialVersionUID", type := .long, accessFlags := 26, slot := 0, constantValue := 0 }, { name := "COMPACT_STRINGS", type := .boolean, accessFlags := 24, slot := 1, constantValue := 0 }, { name := "serialPersistentFields", type := (.array (.object "java/io/ObjectStreamField")), accessFlags := 26, slot := 2, constantValue := 0 }, { name := "REPL", type := .char, accessFlags := 26, slot := 3, constantValue := 0 }, { name := "CASE_INSENSITIVE_ORDER", type := (.object "java/util/Comparator"), accessFlags := 25, slot := 4, constantValue := 0 }, { name := "LATIN1", type := .byte, accessFlags := 24, slot := 5, constantValue := 0 }, { name := "UTF16", type := .byte, accessFlags := 24, slot := 6, constantValue := 0 }]
  methods := #[k7m0, k7m1, k7m2, k7m3, k7m4]
  instanceTypes := #[(.array .byte), .byte, .int, .boolean]
  staticTypes := #[.long, .boolean, (.array (.object "java/io/ObjectStreamField")), .char, (.object "java/util/Comparator"), .byte, .byte]
  resolved := Array.replicate 1451 none
  statics := some 0 }

def pool8 : Array CpInfo := pool [(6, .class_ 8), (1, u "java/lang/Object"), (0, u "<init>"), (0, u "()V"), (1, .class_ 14), (1, u "java/lang/StringUTF16"), (31, u "$assertionsDisabled"), (0, u "Z"), (13, u "HI_BYTE_SHIFT"), (0, u "I"), (2, u "LO_BYTE_SHIFT"), (49, .methodref 12 116), (0, .nameAndType 117 118), (0, u "compress"), (0, u "([CI[BII)I"), (3, u "([CII)[B"), (138, u "coderFromArrayLen"), (0, u "([BI)B"), (106, .class_ 371), (1, u "java/lang/StringUTF16$LinesSpliterator"), (58, u "MAX_LENGTH"), (196, .class_ 628), (0, u "java/lang/StringUTF16$CodePointsSpliterator"), (0, .class_ 630), (0, u "java/lang/StringUTF16$CharsSpliterator")] 4

def k8m0 : Method := { name := "<init>", desc := "()V", sig := { parameters := [], returnType := none }, accessFlags := 0, code := none }
def k8c1 : Code := { maxStack := 2, maxLocals := 2, code := jdk_52_method_15_code, exceptionTable := #[], attributes := #[] }
def k8m1 : Method := { name := "coderFromArrayLen", desc := "([BI)B", sig := { parameters := [(.array .byte), .int], returnType := some .byte }, accessFlags := 8, code := some k8c1 }
def k8c2 : Code := { maxStack := 5, maxLocals := 6, code := jdk_52_method_16_code, exceptionTable := #[], attributes := #[] }
def k8m2 : Method := { name := "compress", desc := "([CII)[B", sig := { parameters := [(.array .char), .int, .int], returnType := some (.array .byte) }, accessFlags := 9, code := some k8c2 }
def k8c3 : Code := { maxStack := 3, maxLocals := 7, code := jdk_52_method_21_code, exceptionTable := #[], attributes := #[] }
def k8m3 : Method := { name := "compress", desc := "([CI[BII)I", sig := { parameters := [(.array .char), .int, (.array .byte), .int, .int], returnType := some .int }, accessFlags := 9, code := some k8c3 }
/-- java/lang/StringUTF16 -/
def k8 : Class := { plain "java/lang/StringUTF16" (some 0) with
  accessFlags := 48
  interfaces := #[]
  cf := some (fileOf pool8 12 #[.nestMembers #[627, 629, 369]] #[{ accessFlags := 0, nameIndex := 9, descriptorIndex := 10, attributes := #[] }, { accessFlags := 8, nameIndex := 261, descriptorIndex := 262, attributes := #[] }, { accessFlags := 9, nameIndex := 117, descriptorIndex := 122, attributes := #[] }, { accessFlags := 9, nameIndex := 117, descriptorIndex := 118, attributes := #[] }] 48 6 #[] #[{ accessFlags := 26, nameIndex := 61, descriptorIndex := 62, attributes := #[] }, { accessFlags := 26, nameIndex := 65, descriptorIndex := 62, attributes := #[] }, { accessFlags := 24, nameIndex := 430, descriptorIndex := 62, attributes := #[] }, { accessFlags := 4120, nameIndex := 46, descriptorIndex := 47, attributes := #[] }])
  fields := #[{ name := "HI_BYTE_SHIFT", type := .int, accessFlags := 26, slot := 0, constantValue := 0 }, { name := "LO_BYTE_SHIFT", type := .int, accessFlags := 26, slot := 1, constantValue := 0 }, { name := "MAX_LENGTH", type := .int, accessFlags := 24, slot := 2, constantValue := 0 }, { name := "$assertionsDisabled", type := .boolean, accessFlags := 4120, slot := 3, constantValue := 0 }]
  methods := #[k8m0, k8m1, k8m2, k8m3]
  instanceTypes := #[]
  staticTypes := #[.int, .int, .int, .boolean]
  resolved := Array.replicate 635 none
  statics := none }

def pool9 : Array CpInfo := pool [(4, .class_ 6), (1, u "java/lang/Object"), (0, u "<init>"), (0, u "()V"), (5, .class_ 16), (1, u "java/lang/StringLatin1"), (73, u "canEncode"), (14, u "(C)Z"), (15, u "$assertionsDisabled"), (0, u "Z"), (98, .class_ 223), (1, u "java/lang/StringLatin1$LinesSpliterator"), (156, u "toBytes"), (1, u "(C)[B"), (7, .class_ 391), (0, u "java/lang/StringLatin1$CharsSpliterator")] 3

def k9m0 : Method := { name := "<init>", desc := "()V", sig := { parameters := [], returnType := none }, accessFlags := 0, code := none }
def k9c1 : Code := { maxStack := 2, maxLocals := 1, code := jdk_43_method_3_code, exceptionTable := #[], attributes := #[] }
def k9m1 : Method := { name := "canEncode", desc := "(C)Z", sig := { parameters := [.char], returnType := some .boolean }, accessFlags := 9, code := some k9c1 }
def k9c2 : Code := { maxStack := 4, maxLocals := 1, code := jdk_43_method_46_code, exceptionTable := #[], attributes := #[] }
def k9m2 : Method := { name := "toBytes", desc := "(C)[B", sig := { parameters := [.char], returnType := some (.array .byte) }, accessFlags := 9, code := some k9c2 }
/-- java/lang/StringLatin1 -/
def k9 : Class := { plain "java/lang/StringLatin1" (some 0) with
  accessFlags := 48
  interfaces := #[]
  cf := some (fileOf pool9 14 #[.nestMembers #[390, 221]] #[{ accessFlags := 0, nameIndex := 7, descriptorIndex := 8, attributes := #[] }, { accessFlags := 9, nameIndex := 90, descriptorIndex := 105, attributes := #[] }, { accessFlags := 9, nameIndex := 380, descriptorIndex := 382, attributes := #[] }] 48 4 #[] #[{ accessFlags := 4120, nameIndex := 121, descriptorIndex := 122, attributes := #[] }])
  fields := #[{ name := "$assertionsDisabled", type := .boolean, accessFlags := 4120, slot := 0, constantValue := 0 }]
  methods := #[k9m0, k9m1, k9m2]
  instanceTypes := #[]
  staticTypes := #[.boolean]
  resolved := Array.replicate 395 none
  statics := none }

def pool10 : Array CpInfo := pool [(1, .methodref 2 3), (0, .class_ 4), (0, .nameAndType 5 6), (0, u "java/lang/Object"), (0, u "<init>"), (0, u "()V"), (0, .class_ 8), (0, u "java/lang/Record")] 13

def k10c0 : Code := { maxStack := 1, maxLocals := 1, code := jdk_30_method_1_code, exceptionTable := #[], attributes := #[] }
def k10m0 : Method := { name := "<init>", desc := "()V", sig := { parameters := [], returnType := none }, accessFlags := 4, code := some k10c0 }
/-- java/lang/Record -/
def k10 : Class := { plain "java/lang/Record" (some 0) with
  accessFlags := 1057
  interfaces := #[]
  cf := some (fileOf pool10 7 #[] #[{ accessFlags := 4, nameIndex := 5, descriptorIndex := 6, attributes := #[] }] 1057 2 #[] #[])
  fields := #[]
  methods := #[k10m0]
  instanceTypes := #[]
  staticTypes := #[]
  resolved := Array.replicate 22 none
  statics := none }

def pool11 : Array CpInfo := pool [(1, .methodref 2 3), (0, .class_ 4), (0, .nameAndType 5 6), (0, u "java/lang/Record"), (0, u "<init>"), (0, u "()V"), (0, .string 8), (0, u "section"), (0, .methodref 10 11), (0, .class_ 12), (0, .nameAndType 13 14), (0, u "java/util/Objects"), (0, u "requireNonNull"), (0, u "(Ljava/lang/Object;Ljava/lang/String;)Ljava/lang/Object;"), (0, .fieldref 16 17), (0, .class_ 18), (0, .nameAndType 19 20), (0, u "com/example/vestline/vestline/model/VestingResult$YearsOfService"), (0, u "years"), (0, u "I"), (0, .fieldref 16 22), (0, .nameAndType 8 23), (0, u "Ljava/lang/String;"), (12, u "(ILjava/lang/String;)V"), (9, .class_ 47), (0, u "com/example/vestline/vestline/model/VestingResult")] 20

def k11c0 : Code := { maxStack := 2, maxLocals := 3, code := prog_120_method_1_code, exceptionTable := #[], attributes := #[] }
def k11m0 : Method := { name := "<init>", desc := "(ILjava/lang/String;)V", sig := { parameters := [.int, (.object "java/lang/String")], returnType := none }, accessFlags := 1, code := some k11c0 }
/-- com/example/vestline/vestline/model/VestingResult$YearsOfService -/
def k11 : Class := { plain "com/example/vestline/vestline/model/VestingResult$YearsOfService" (some 10) with
  accessFlags := 49
  interfaces := #[]
  cf := some (fileOf pool11 16 #[.nestHost 46] #[{ accessFlags := 1, nameIndex := 5, descriptorIndex := 36, attributes := #[] }] 49 2 #[] #[{ accessFlags := 18, nameIndex := 19, descriptorIndex := 20, attributes := #[] }, { accessFlags := 18, nameIndex := 8, descriptorIndex := 23, attributes := #[] }])
  fields := #[{ name := "years", type := .int, accessFlags := 18, slot := 0, constantValue := 0 }, { name := "section", type := (.object "java/lang/String"), accessFlags := 18, slot := 1, constantValue := 0 }]
  methods := #[k11m0]
  instanceTypes := #[.int, (.object "java/lang/String")]
  staticTypes := #[]
  resolved := Array.replicate 68 none
  statics := none }

def pool12 : Array CpInfo := pool [(2, .class_ 4), (1, u "java/lang/Object"), (0, u "<init>"), (0, u "()V"), (35, .class_ 44), (1, u "java/util/Objects"), (0, u "requireNonNull"), (48, u "(Ljava/lang/Object;Ljava/lang/String;)Ljava/lang/Object;")] 89

def k12m0 : Method := { name := "<init>", desc := "()V", sig := { parameters := [], returnType := none }, accessFlags := 2, code := none }
def k12c1 : Code := { maxStack := 3, maxLocals := 2, code := jdk_31_method_11_code, exceptionTable := #[], attributes := #[] }
def k12m1 : Method := { name := "requireNonNull", desc := "(Ljava/lang/Object;Ljava/lang/String;)Ljava/lang/Object;", sig := { parameters := [(.object "java/lang/Object"), (.object "java/lang/String")], returnType := some (.object "java/lang/Object") }, accessFlags := 9, code := some k12c1 }
/-- java/util/Objects -/
def k12 : Class := { plain "java/util/Objects" (some 0) with
  accessFlags := 49
  interfaces := #[]
  cf := some (fileOf pool12 42 #[] #[{ accessFlags := 2, nameIndex := 5, descriptorIndex := 6, attributes := #[] }, { accessFlags := 9, nameIndex := 45, descriptorIndex := 94, attributes := #[] }] 49 2 #[] #[])
  fields := #[]
  methods := #[k12m0, k12m1]
  instanceTypes := #[]
  staticTypes := #[]
  resolved := Array.replicate 184 none
  statics := none }

def pool13 : Array CpInfo := pool [(8, .class_ 10), (1, u "java/lang/Iterable"), (24, .class_ 36), (0, u "java/lang/Object")] 25

/-- java/lang/Iterable -/
def k13 : Class := { plain "java/lang/Iterable" (some 0) with
  accessFlags := 1537
  interfaces := #[]
  cf := some (fileOf pool13 8 #[] #[] 1537 35 #[] #[])
  fields := #[]
  methods := #[]
  instanceTypes := #[]
  staticTypes := #[]
  resolved := Array.replicate 62 none
  statics := none }

def pool14 : Array CpInfo := pool [(10, .class_ 12), (1, u "java/util/Collection"), (47, .class_ 61), (0, u "java/lang/Object"), (0, .class_ 63), (0, u "java/lang/Iterable")] 51

/-- java/util/Collection -/
def k14 : Class := { plain "java/util/Collection" (some 0) with
  accessFlags := 1537
  interfaces := #[13]
  cf := some (fileOf pool14 10 #[] #[] 1537 60 #[62] #[])
  fields := #[]
  methods := #[]
  instanceTypes := #[]
  staticTypes := #[]
  resolved := Array.replicate 115 none
  statics := none }

def pool15 : Array CpInfo := pool [(1, .methodref 2 3), (0, .class_ 4), (0, .nameAndType 5 6), (0, u "java/lang/Object"), (0, u "<init>"), (0, u "()V"), (1, .class_ 10), (1, u "java/util/AbstractCollection"), (66, .class_ 78), (0, u "java/util/Collection")] 81

def k15c0 : Code := { maxStack := 1, maxLocals := 1, code := jdk_22_method_1_code, exceptionTable := #[], attributes := #[] }
def k15m0 : Method := { name := "<init>", desc := "()V", sig := { parameters := [], returnType := none }, accessFlags := 4, code := some k15c0 }
/-- java/util/AbstractCollection -/
def k15 : Class := { plain "java/util/AbstractCollection" (some 0) with
  accessFlags := 1057
  interfaces := #[14]
  cf := some (fileOf pool15 8 #[] #[{ accessFlags := 4, nameIndex := 5, descriptorIndex := 6, attributes := #[] }] 1057 2 #[77] #[])
  fields := #[]
  methods := #[k15m0]
  instanceTypes := #[]
  staticTypes := #[]
  resolved := Array.replicate 160 none
  statics := none }

def pool16 : Array CpInfo := pool [(8, .class_ 10), (1, u "java/util/SequencedCollection"), (15, .class_ 27), (0, u "java/lang/Object"), (0, .class_ 29), (0, u "java/util/Collection")] 27

/-- java/util/SequencedCollection -/
def k16 : Class := { plain "java/util/SequencedCollection" (some 0) with
  accessFlags := 1537
  interfaces := #[14]
  cf := some (fileOf pool16 8 #[] #[] 1537 26 #[28] #[])
  fields := #[]
  methods := #[]
  instanceTypes := #[]
  staticTypes := #[]
  resolved := Array.replicate 57 none
  statics := none }

def pool17 : Array CpInfo := pool [(8, .class_ 10), (1, u "java/util/List"), (49, u "add"), (3, u "(Ljava/lang/Object;)Z"), (23, u "of"), (1, .fieldref 91 92), (0, .class_ 93), (0, .nameAndType 94 95), (0, u "java/util/ImmutableCollections"), (0, u "EMPTY_LIST"), (0, u "Ljava/util/ImmutableCollections$ListN;"), (7, .class_ 104), (0, u "java/lang/Object"), (14, u "()Ljava/util/List;"), (0, .class_ 121), (0, u "java/util/SequencedCollection")] 129

def k17m0 : Method := { name := "add", desc := "(Ljava/lang/Object;)Z", sig := { parameters := [(.object "java/lang/Object")], returnType := some .boolean }, accessFlags := 1025, code := none }
def k17c1 : Code := { maxStack := 1, maxLocals := 0, code := jdk_40_method_36_code, exceptionTable := #[], attributes := #[] }
def k17m1 : Method := { name := "of", desc := "()Ljava/util/List;", sig := { parameters := [], returnType := some (.object "java/util/List") }, accessFlags := 9, code := some k17c1 }
/-- java/util/List -/
def k17 : Class := { plain "java/util/List" (some 0) with
  accessFlags := 1537
  interfaces := #[16]
  cf := some (fileOf pool17 8 #[] #[{ accessFlags := 1025, nameIndex := 60, descriptorIndex := 64, attributes := #[] }, { accessFlags := 9, nameIndex := 88, descriptorIndex := 119, attributes := #[] }] 1537 103 #[120] #[])
  fields := #[]
  methods := #[k17m0, k17m1]
  instanceTypes := #[]
  staticTypes := #[]
  resolved := Array.replicate 251 none
  statics := none }

def pool18 : Array CpInfo := pool [(1, .methodref 2 3), (0, .class_ 4), (0, .nameAndType 5 6), (0, u "java/util/AbstractCollection"), (0, u "<init>"), (0, u "()V"), (0, .fieldref 8 9), (0, .class_ 10), (0, .nameAndType 11 12), (0, u "java/util/AbstractList"), (0, u "modCount"), (0, u "I"), (64, .class_ 78), (0, u "java/util/AbstractList$Itr"), (3, .class_ 83), (0, u "java/util/AbstractList$ListItr"), (9, .class_ 94), (0, u "java/util/AbstractList$RandomAccessSubList"), (3, .class_ 99), (0, u "java/util/AbstractList$SubList"), (33, .class_ 134), (0, u "java/util/List"), (73, .class_ 209), (0, u "java/util/AbstractList$SubList$1"), (0, .class_ 211), (0, u "java/util/AbstractList$RandomAccessSpliterator")] 6

def k18c0 : Code := { maxStack := 2, maxLocals := 1, code := jdk_39_method_1_code, exceptionTable := #[], attributes := #[] }
def k18m0 : Method := { name := "<init>", desc := "()V", sig := { parameters := [], returnType := none }, accessFlags := 4, code := some k18c0 }
/-- java/util/AbstractList -/
def k18 : Class := { plain "java/util/AbstractList" (some 15) with
  accessFlags := 1057
  interfaces := #[17]
  cf := some (fileOf pool18 8 #[.nestMembers #[93, 98, 208, 210, 82, 77]] #[{ accessFlags := 4, nameIndex := 5, descriptorIndex := 6, attributes := #[] }] 1057 2 #[133] #[{ accessFlags := 132, nameIndex := 11, descriptorIndex := 12, attributes := #[] }])
  fields := #[{ name := "modCount", type := .int, accessFlags := 132, slot := 0, constantValue := 0 }]
  methods := #[k18m0]
  instanceTypes := #[.int]
  staticTypes := #[]
  resolved := Array.replicate 218 none
  statics := none }

def pool19 : Array CpInfo := pool [(1, .class_ 2), (0, u "java/util/RandomAccess"), (0, .class_ 4), (0, u "java/lang/Object")] 2

/-- java/util/RandomAccess -/
def k19 : Class := { plain "java/util/RandomAccess" (some 0) with
  accessFlags := 1537
  interfaces := #[]
  cf := some (fileOf pool19 1 #[] #[] 1537 3 #[] #[])
  fields := #[]
  methods := #[]
  instanceTypes := #[]
  staticTypes := #[]
  resolved := Array.replicate 7 none
  statics := none }

def pool20 : Array CpInfo := pool [(1, .class_ 2), (0, u "java/lang/Cloneable"), (0, .class_ 4), (0, u "java/lang/Object")] 2

/-- java/lang/Cloneable -/
def k20 : Class := { plain "java/lang/Cloneable" (some 0) with
  accessFlags := 1537
  interfaces := #[]
  cf := some (fileOf pool20 1 #[] #[] 1537 3 #[] #[])
  fields := #[]
  methods := #[]
  instanceTypes := #[]
  staticTypes := #[]
  resolved := Array.replicate 7 none
  statics := none }

def pool21 : Array CpInfo := pool [(1, .methodref 2 3), (0, .class_ 4), (0, .nameAndType 5 6), (0, u "java/util/AbstractList"), (0, u "<init>"), (0, u "()V"), (0, .class_ 8), (0, u "java/lang/Object"), (0, .fieldref 10 11), (0, .class_ 12), (0, .nameAndType 13 14), (0, u "java/util/ArrayList"), (0, u "elementData"), (0, u "[Ljava/lang/Object;"), (2, u "EMPTY_ELEMENTDATA"), (21, .fieldref 10 40), (0, .nameAndType 41 14), (0, u "DEFAULTCAPACITY_EMPTY_ELEMENTDATA"), (5, u "()[Ljava/lang/Object;"), (0, .fieldref 10 49), (0, .nameAndType 50 51), (0, u "size"), (0, u "I"), (11, .fieldref 10 64), (0, .nameAndType 65 51), (0, u "modCount"), (3, .methodref 10 70), (0, .nameAndType 71 72), (0, u "grow"), (0, u "(I)[Ljava/lang/Object;"), (6, .methodref 80 81), (0, .class_ 82), (0, .nameAndType 83 84), (0, u "java/lang/Math"), (0, u "max"), (0, u "(II)I"), (11, u "(Ljava/lang/Object;)Z"), (32, .methodref 10 130), (0, .nameAndType 71 47), (0, .methodref 10 132), (0, .nameAndType 133 134), (0, u "add"), (0, u "(Ljava/lang/Object;[Ljava/lang/Object;I)V"), (13, .class_ 149), (0, u "java/util/List"), (112, .class_ 263), (0, u "java/util/ArrayList$ListItr"), (3, .class_ 268), (0, u "java/util/ArrayList$Itr"), (7, .class_ 277), (0, u "java/util/ArrayList$SubList"), (12, .class_ 291), (0, u "java/util/ArrayList$ArrayListSpliterator"), (37, .class_ 330), (0, u "java/util/RandomAccess"), (0, .class_ 332), (0, u "java/lang/Cloneable"), (0, .class_ 334), (0, u "java/io/Serializable"), (0, u "serialVersionUID"), (0, u "J"), (3, u "DEFAULT_CAPACITY"), (159, .class_ 501), (0, u "java/util/ArrayList$SubList$2"), (0, .class_ 503), (0, u "java/util/ArrayList$SubList$1")] 5

def k21c0 : Code := { maxStack := 2, maxLocals := 1, code := jdk_38_method_2_code, exceptionTable := #[], attributes := #[] }
def k21m0 : Method := { name := "<init>", desc := "()V", sig := { parameters := [], returnType := none }, accessFlags := 1, code := some k21c0 }
def k21c1 : Code := { maxStack := 4, maxLocals := 4, code := jdk_38_method_6_code, exceptionTable := #[], attributes := #[] }
def k21m1 : Method := { name := "grow", desc := "(I)[Ljava/lang/Object;", sig := { parameters := [.int], returnType := some (.array (.object "java/lang/Object")) }, accessFlags := 2, code := some k21c1 }
def k21c2 : Code := { maxStack := 3, maxLocals := 1, code := jdk_38_method_7_code, exceptionTable := #[], attributes := #[] }
def k21m2 : Method := { name := "grow", desc := "()[Ljava/lang/Object;", sig := { parameters := [], returnType := some (.array (.object "java/lang/Object")) }, accessFlags := 2, code := some k21c2 }
def k21c3 : Code := { maxStack := 3, maxLocals := 4, code := jdk_38_method_24_code, exceptionTable := #[], attributes := #[] }
def k21m3 : Method := { name := "add", desc := "(Ljava/lang/Object;[Ljava/lang/Object;I)V", sig := { parameters := [(.object "java/lang/Object"), (.array (.object "java/lang/Object")), .int], returnType := none }, accessFlags := 2, code := some k21c3 }
def k21c4 : Code := { maxStack := 4, maxLocals := 2, code := jdk_38_method_25_code, exceptionTable := #[], attributes := #[] }
def k21m4 : Method := { name := "add", desc := "(Ljava/lang/Object;)Z", sig := { parameters := [(.object "java/lang/Object")], returnType := some .boolean }, accessFlags := 1, code := some k21c4 }
/-- java/util/ArrayList -/
def k21 : Class := { plain "java/util/ArrayList" (some 18) with
  accessFlags := 33
  interfaces := #[17, 19, 20, 2]
  cf := some (fileOf pool21 10 #[.nestMembers #[290, 276, 500, 502, 262, 267]] #[{ accessFlags := 1, nameIndex := 5, descriptorIndex := 6, attributes := #[] }, { accessFlags := 2, nameIndex := 71, descriptorIndex := 72, attributes := #[] }, { accessFlags := 2, nameIndex := 71, descriptorIndex := 47, attributes := #[] }, { accessFlags := 2, nameIndex := 133, descriptorIndex := 134, attributes := #[] }, { accessFlags := 1, nameIndex := 133, descriptorIndex := 96, attributes := #[] }] 33 2 #[148, 329, 331, 333] #[{ accessFlags := 26, nameIndex := 335, descriptorIndex := 336, attributes := #[] }, { accessFlags := 26, nameIndex := 340, descriptorIndex := 51, attributes := #[] }, { accessFlags := 26, nameIndex := 17, descriptorIndex := 14, attributes := #[] }, { accessFlags := 26, nameIndex := 41, descriptorIndex := 14, attributes := #[] }, { accessFlags := 128, nameIndex := 13, descriptorIndex := 14, attributes := #[] }, { accessFlags := 2, nameIndex := 50, descriptorIndex := 51, attributes := #[] }])
  fields := #[{ name := "serialVersionUID", type := .long, accessFlags := 26, slot := 0, constantValue := 0 }, { name := "DEFAULT_CAPACITY", type := .int, accessFlags := 26, slot := 1, constantValue := 0 }, { name := "EMPTY_ELEMENTDATA", type := (.array (.object "java/lang/Object")), accessFlags := 26, slot := 2, constantValue := 0 }, { name := "DEFAULTCAPACITY_EMPTY_ELEMENTDATA", type := (.array (.object "java/lang/Object")), accessFlags := 26, slot := 3, constantValue := 0 }, { name := "elementData", type := (.array (.object "java/lang/Object")), accessFlags := 128, slot := 1, constantValue := 0 }, { name := "size", type := .int, accessFlags := 2, slot := 2, constantValue := 0 }]
  methods := #[k21m0, k21m1, k21m2, k21m3, k21m4]
  instanceTypes := #[.int, (.array (.object "java/lang/Object")), .int]
  staticTypes := #[.long, .int, (.array (.object "java/lang/Object")), (.array (.object "java/lang/Object"))]
  resolved := Array.replicate 509 none
  statics := some 1 }

def pool22 : Array CpInfo := pool [(1, .class_ 2), (0, u "java/lang/Math"), (1, .class_ 6), (1, u "java/lang/Object"), (0, u "<init>"), (0, u "()V"), (89, .class_ 100), (1, u "java/lang/Math$RandomNumberGeneratorHolder"), (71, u "negativeZeroFloatBits"), (0, u "J"), (2, u "negativeZeroDoubleBits"), (21, u "max"), (46, u "$assertionsDisabled"), (0, u "Z"), (88, u "(II)I"), (2, u "twoToTheDoubleScaleDown"), (0, u "D"), (4, u "twoToTheDoubleScaleUp"), (9, u "E"), (3, u "PI"), (2, u "TAU"), (2, u "DEGREES_TO_RADIANS"), (0, u "RADIANS_TO_DEGREES")] 94

def k22m0 : Method := { name := "<init>", desc := "()V", sig := { parameters := [], returnType := none }, accessFlags := 2, code := none }
def k22c1 : Code := { maxStack := 2, maxLocals := 2, code := jdk_29_method_65_code, exceptionTable := #[], attributes := #[] }
def k22m1 : Method := { name := "max", desc := "(II)I", sig := { parameters := [.int, .int], returnType := some .int }, accessFlags := 9, code := some k22c1 }
/-- java/lang/Math -/
def k22 : Class := { plain "java/lang/Math" (some 0) with
  accessFlags := 49
  interfaces := #[]
  cf := some (fileOf pool22 1 #[.nestMembers #[98]] #[{ accessFlags := 2, nameIndex := 7, descriptorIndex := 8, attributes := #[] }, { accessFlags := 9, nameIndex := 198, descriptorIndex := 335, attributes := #[] }] 49 4 #[] #[{ accessFlags := 25, nameIndex := 354, descriptorIndex := 339, attributes := #[] }, { accessFlags := 25, nameIndex := 358, descriptorIndex := 339, attributes := #[] }, { accessFlags := 25, nameIndex := 361, descriptorIndex := 339, attributes := #[] }, { accessFlags := 26, nameIndex := 364, descriptorIndex := 339, attributes := #[] }, { accessFlags := 26, nameIndex := 365, descriptorIndex := 339, attributes := #[] }, { accessFlags := 26, nameIndex := 172, descriptorIndex := 173, attributes := #[] }, { accessFlags := 26, nameIndex := 176, descriptorIndex := 173, attributes := #[] }, { accessFlags := 8, nameIndex := 344, descriptorIndex := 339, attributes := #[] }, { accessFlags := 8, nameIndex := 338, descriptorIndex := 339, attributes := #[] }, { accessFlags := 4120, nameIndex := 245, descriptorIndex := 246, attributes := #[] }])
  fields := #[{ name := "E", type := .double, accessFlags := 25, slot := 0, constantValue := 0 }, { name := "PI", type := .double, accessFlags := 25, slot := 1, constantValue := 0 }, { name := "TAU", type := .double, accessFlags := 25, slot := 2, constantValue := 0 }, { name := "DEGREES_TO_RADIANS", type := .double, accessFlags := 26, slot := 3, constantValue := 0 }, { name := "RADIANS_TO_DEGREES", type := .double, accessFlags := 26, slot := 4, constantValue := 0 }, { name := "negativeZeroFloatBits", type := .long, accessFlags := 26, slot := 5, constantValue := 0 }, { name := "negativeZeroDoubleBits", type := .long, accessFlags := 26, slot := 6, constantValue := 0 }, { name := "twoToTheDoubleScaleUp", type := .double, accessFlags := 8, slot := 7, constantValue := 0 }, { name := "twoToTheDoubleScaleDown", type := .double, accessFlags := 8, slot := 8, constantValue := 0 }, { name := "$assertionsDisabled", type := .boolean, accessFlags := 4120, slot := 9, constantValue := 0 }]
  methods := #[k22m0, k22m1]
  instanceTypes := #[]
  staticTypes := #[.double, .double, .double, .double, .double, .long, .long, .double, .double, .boolean]
  resolved := Array.replicate 460 none
  statics := none }

def pool23 : Array CpInfo := pool [(1, .methodref 2 3), (0, .class_ 4), (0, .nameAndType 5 6), (0, u "java/lang/Object"), (0, u "<init>"), (0, u "()V"), (0, .interfaceMethodref 8 9), (0, .class_ 10), (0, .nameAndType 11 12), (0, u "java/util/List"), (0, u "of"), (0, u "()Ljava/util/List;"), (0, .fieldref 14 15), (0, .class_ 16), (0, .nameAndType 17 18), (0, u "com/example/vestline/vestline/model/CensusFigures"), (0, u "percents"), (0, u "Ljava/util/List;"), (0, .fieldref 14 20), (0, .nameAndType 21 18), (0, u "sections"), (0, .fieldref 14 23), (0, .nameAndType 24 25), (0, u "yearsOfService"), (0, u "Lcom/example/vestline/vestline/model/VestingResult$YearsOfService;"), (0, .fieldref 14 27), (0, .nameAndType 28 29), (0, u "vested"), (0, u "J"), (0, .fieldref 14 31), (0, .nameAndType 32 29), (0, u "forfeited"), (0, .fieldref 14 34), (0, .nameAndType 35 36), (0, u "largeVested"), (0, u "Ljava/math/BigDecimal;"), (0, .fieldref 14 38), (0, .nameAndType 39 36), (0, u "largeForfeited"), (48, u "()Ljava/math/BigDecimal;"), (40, u "set"), (0, u "(Lcom/example/vestline/vestline/model/VestingResult$YearsOfService;Ljava/util/List;Ljava/util/List;JJ)V"), (5, u "()Lcom/example/vestline/vestline/model/VestingResult$YearsOfService;"), (2, u "()J")] 4

def k23c0 : Code := { maxStack := 2, maxLocals := 1, code := prog_36_method_1_code, exceptionTable := #[], attributes := #[] }
def k23m0 : Method := { name := "<init>", desc := "()V", sig := { parameters := [], returnType := none }, accessFlags := 1, code := some k23c0 }
def k23c1 : Code := { maxStack := 3, maxLocals := 8, code := prog_36_method_2_code, exceptionTable := #[], attributes := #[] }
def k23m1 : Method := { name := "set", desc := "(Lcom/example/vestline/vestline/model/VestingResult$YearsOfService;Ljava/util/List;Ljava/util/List;JJ)V", sig := { parameters := [(.object "com/example/vestline/vestline/model/VestingResult$YearsOfService"), (.object "java/util/List"), (.object "java/util/List"), .long, .long], returnType := none }, accessFlags := 1, code := some k23c1 }
def k23c2 : Code := { maxStack := 1, maxLocals := 1, code := prog_36_method_4_code, exceptionTable := #[], attributes := #[] }
def k23m2 : Method := { name := "yearsOfService", desc := "()Lcom/example/vestline/vestline/model/VestingResult$YearsOfService;", sig := { parameters := [], returnType := some (.object "com/example/vestline/vestline/model/VestingResult$YearsOfService") }, accessFlags := 1, code := some k23c2 }
def k23c3 : Code := { maxStack := 1, maxLocals := 1, code := prog_36_method_5_code, exceptionTable := #[], attributes := #[] }
def k23m3 : Method := { name := "percents", desc := "()Ljava/util/List;", sig := { parameters := [], returnType := some (.object "java/util/List") }, accessFlags := 1, code := some k23c3 }
def k23c4 : Code := { maxStack := 1, maxLocals := 1, code := prog_36_method_6_code, exceptionTable := #[], attributes := #[] }
def k23m4 : Method := { name := "sections", desc := "()Ljava/util/List;", sig := { parameters := [], returnType := some (.object "java/util/List") }, accessFlags := 1, code := some k23c4 }
def k23c5 : Code := { maxStack := 2, maxLocals := 1, code := prog_36_method_7_code, exceptionTable := #[], attributes := #[] }
def k23m5 : Method := { name := "vested", desc := "()J", sig := { parameters := [], returnType := some .long }, accessFlags := 1, code := some k23c5 }
def k23c6 : Code := { maxStack := 2, maxLocals := 1, code := prog_36_method_8_code, exceptionTable := #[], attributes := #[] }
def k23m6 : Method := { name := "forfeited", desc := "()J", sig := { parameters := [], returnType := some .long }, accessFlags := 1, code := some k23c6 }
def k23c7 : Code := { maxStack := 1, maxLocals := 1, code := prog_36_method_9_code, exceptionTable := #[], attributes := #[] }
def k23m7 : Method := { name := "largeVested", desc := "()Ljava/math/BigDecimal;", sig := { parameters := [], returnType := some (.object "java/math/BigDecimal") }, accessFlags := 1, code := some k23c7 }
def k23c8 : Code := { maxStack := 1, maxLocals := 1, code := prog_36_method_10_code, exceptionTable := #[], attributes := #[] }
def k23m8 : Method := { name := "largeForfeited", desc := "()Ljava/math/BigDecimal;", sig := { parameters := [], returnType := some (.object "java/math/BigDecimal") }, accessFlags := 1, code := some k23c8 }
/-- com/example/vestline/vestline/model/CensusFigures -/
def k23 : Class := { plain "com/example/vestline/vestline/model/CensusFigures" (some 0) with
  accessFlags := 33
  interfaces := #[]
  cf := some (fileOf pool23 14 #[] #[{ accessFlags := 1, nameIndex := 5, descriptorIndex := 6, attributes := #[] }, { accessFlags := 1, nameIndex := 129, descriptorIndex := 130, attributes := #[] }, { accessFlags := 1, nameIndex := 24, descriptorIndex := 136, attributes := #[] }, { accessFlags := 1, nameIndex := 17, descriptorIndex := 12, attributes := #[] }, { accessFlags := 1, nameIndex := 21, descriptorIndex := 12, attributes := #[] }, { accessFlags := 1, nameIndex := 28, descriptorIndex := 139, attributes := #[] }, { accessFlags := 1, nameIndex := 32, descriptorIndex := 139, attributes := #[] }, { accessFlags := 1, nameIndex := 35, descriptorIndex := 88, attributes := #[] }, { accessFlags := 1, nameIndex := 39, descriptorIndex := 88, attributes := #[] }] 33 2 #[] #[{ accessFlags := 2, nameIndex := 24, descriptorIndex := 25, attributes := #[] }, { accessFlags := 2, nameIndex := 17, descriptorIndex := 18, attributes := #[] }, { accessFlags := 2, nameIndex := 21, descriptorIndex := 18, attributes := #[] }, { accessFlags := 2, nameIndex := 28, descriptorIndex := 29, attributes := #[] }, { accessFlags := 2, nameIndex := 32, descriptorIndex := 29, attributes := #[] }, { accessFlags := 2, nameIndex := 35, descriptorIndex := 36, attributes := #[] }, { accessFlags := 2, nameIndex := 39, descriptorIndex := 36, attributes := #[] }])
  fields := #[{ name := "yearsOfService", type := (.object "com/example/vestline/vestline/model/VestingResult$YearsOfService"), accessFlags := 2, slot := 0, constantValue := 0 }, { name := "percents", type := (.object "java/util/List"), accessFlags := 2, slot := 1, constantValue := 0 }, { name := "sections", type := (.object "java/util/List"), accessFlags := 2, slot := 2, constantValue := 0 }, { name := "vested", type := .long, accessFlags := 2, slot := 3, constantValue := 0 }, { name := "forfeited", type := .long, accessFlags := 2, slot := 4, constantValue := 0 }, { name := "largeVested", type := (.object "java/math/BigDecimal"), accessFlags := 2, slot := 5, constantValue := 0 }, { name := "largeForfeited", type := (.object "java/math/BigDecimal"), accessFlags := 2, slot := 6, constantValue := 0 }]
  methods := #[k23m0, k23m1, k23m2, k23m3, k23m4, k23m5, k23m6, k23m7, k23m8]
  instanceTypes := #[(.object "com/example/vestline/vestline/model/VestingResult$YearsOfService"), (.object "java/util/List"), (.object "java/util/List"), .long, .long, (.object "java/math/BigDecimal"), (.object "java/math/BigDecimal")]
  staticTypes := #[]
  resolved := Array.replicate 144 none
  statics := none }

def pool24 : Array CpInfo := pool [(2, .class_ 4), (1, u "java/lang/Object"), (0, u "<init>"), (0, u "()V"), (3, .class_ 11), (0, u "java/util/ImmutableCollections$List12"), (0, .class_ 13), (0, u "java/util/ImmutableCollections$ListN"), (3, u "Z"), (29, .class_ 49), (1, u "java/util/ImmutableCollections"), (0, u "$assertionsDisabled"), (5, u "[Ljava/lang/Object;"), (5, u "EMPTY_LIST"), (0, u "Ljava/util/ImmutableCollections$ListN;"), (8, u "EMPTY_LIST_NULLS"), (22, u "SALT32L"), (0, u "J"), (2, u "REVERSE"), (6, u "archivedObjects"), (2, u "EMPTY"), (0, u "Ljava/lang/Object;"), (0, .class_ 112), (0, u "java/util/ImmutableCollections$SetN"), (5, u "EMPTY_SET"), (0, u "Ljava/util/ImmutableCollections$SetN;"), (0, .class_ 121), (0, u "java/util/ImmutableCollections$MapN"), (3, u "EMPTY_MAP"), (0, u "Ljava/util/ImmutableCollections$MapN;"), (4, u "EXPAND_FACTOR"), (0, u "I"), (36, .class_ 170), (0, u "java/util/ImmutableCollections$MapN$MapNIterator"), (0, .class_ 172), (0, u "java/util/ImmutableCollections$MapN$1"), (0, .class_ 174), (0, u "java/util/ImmutableCollections$Map1"), (0, .class_ 176), (0, u "java/util/ImmutableCollections$AbstractImmutableMap"), (0, .class_ 178), (0, u "java/util/ImmutableCollections$SetN$SetNIterator"), (0, .class_ 180), (0, u "java/util/ImmutableCollections$Set12"), (0, .class_ 182), (0, u "java/util/ImmutableCollections$Set12$1"), (0, .class_ 184), (0, u "java/util/ImmutableCollections$AbstractImmutableSet"), (0, .class_ 186), (0, u "java/util/ImmutableCollections$SubList"), (0, .class_ 188), (0, u "java/util/ImmutableCollections$ListItr"), (0, .class_ 190), (0, u "java/util/ImmutableCollections$AbstractImmutableList"), (0, .class_ 192), (0, u "java/util/ImmutableCollections$AbstractImmutableCollection"), (0, .class_ 194), (0, u "java/util/ImmutableCollections$Access"), (0, .class_ 196), (0, u "java/util/ImmutableCollections$Access$1")] 16

def k24m0 : Method := { name := "<init>", desc := "()V", sig := { parameters := [], returnType := none }, accessFlags := 2, code := none }
/-- java/util/ImmutableCollections -/
def k24 : Class := { plain "java/util/ImmutableCollections" (some 0) with
  accessFlags := 32
  interfaces := #[]
  cf := some (fileOf pool24 47 #[.nestMembers #[120, 169, 171, 173, 175, 111, 177, 179, 181, 183, 12, 10, 185, 187, 189, 191, 193, 195]] #[{ accessFlags := 2, nameIndex := 5, descriptorIndex := 6, attributes := #[] }] 32 2 #[] #[{ accessFlags := 26, nameIndex := 95, descriptorIndex := 96, attributes := #[] }, { accessFlags := 26, nameIndex := 99, descriptorIndex := 17, attributes := #[] }, { accessFlags := 10, nameIndex := 106, descriptorIndex := 56, attributes := #[] }, { accessFlags := 26, nameIndex := 109, descriptorIndex := 110, attributes := #[] }, { accessFlags := 24, nameIndex := 62, descriptorIndex := 63, attributes := #[] }, { accessFlags := 24, nameIndex := 72, descriptorIndex := 63, attributes := #[] }, { accessFlags := 24, nameIndex := 118, descriptorIndex := 119, attributes := #[] }, { accessFlags := 24, nameIndex := 125, descriptorIndex := 126, attributes := #[] }, { accessFlags := 24, nameIndex := 131, descriptorIndex := 132, attributes := #[] }, { accessFlags := 4120, nameIndex := 50, descriptorIndex := 17, attributes := #[] }])
  fields := #[{ name := "SALT32L", type := .long, accessFlags := 26, slot := 0, constantValue := 0 }, { name := "REVERSE", type := .boolean, accessFlags := 26, slot := 1, constantValue := 0 }, { name := "archivedObjects", type := (.array (.object "java/lang/Object")), accessFlags := 10, slot := 2, constantValue := 0 }, { name := "EMPTY", type := (.object "java/lang/Object"), accessFlags := 26, slot := 3, constantValue := 0 }, { name := "EMPTY_LIST", type := (.object "java/util/ImmutableCollections$ListN"), accessFlags := 24, slot := 4, constantValue := 0 }, { name := "EMPTY_LIST_NULLS", type := (.object "java/util/ImmutableCollections$ListN"), accessFlags := 24, slot := 5, constantValue := 0 }, { name := "EMPTY_SET", type := (.object "java/util/ImmutableCollections$SetN"), accessFlags := 24, slot := 6, constantValue := 0 }, { name := "EMPTY_MAP", type := (.object "java/util/ImmutableCollections$MapN"), accessFlags := 24, slot := 7, constantValue := 0 }, { name := "EXPAND_FACTOR", type := .int, accessFlags := 24, slot := 8, constantValue := 0 }, { name := "$assertionsDisabled", type := .boolean, accessFlags := 4120, slot := 9, constantValue := 0 }]
  methods := #[k24m0]
  instanceTypes := #[]
  staticTypes := #[.long, .boolean, (.array (.object "java/lang/Object")), (.object "java/lang/Object"), (.object "java/util/ImmutableCollections$ListN"), (.object "java/util/ImmutableCollections$ListN"), (.object "java/util/ImmutableCollections$SetN"), (.object "java/util/ImmutableCollections$MapN"), .int, .boolean]
  resolved := Array.replicate 213 none
  statics := some 2 }

def pool25 : Array CpInfo := pool [(2, .class_ 4), (1, u "java/lang/Object"), (0, u "<init>"), (0, u "()V"), (17, .class_ 26), (1, u "jdk/internal/util/Preconditions"), (28, .class_ 56), (0, u "jdk/internal/util/Preconditions$4"), (57, .class_ 115), (0, u "jdk/internal/util/Preconditions$1"), (7, u "SIOOBE_FORMATTER"), (0, u "Ljava/util/function/BiFunction;"), (0, .class_ 126), (0, u "jdk/internal/util/Preconditions$2"), (3, u "AIOOBE_FORMATTER"), (0, .class_ 132), (0, u "jdk/internal/util/Preconditions$3"), (3, u "IOOBE_FORMATTER")] 57

def k25m0 : Method := { name := "<init>", desc := "()V", sig := { parameters := [], returnType := none }, accessFlags := 1, code := none }
/-- jdk/internal/util/Preconditions -/
def k25 : Class := { plain "jdk/internal/util/Preconditions" (some 0) with
  accessFlags := 33
  interfaces := #[]
  cf := some (fileOf pool25 24 #[.nestMembers #[55, 131, 125, 114]] #[{ accessFlags := 1, nameIndex := 5, descriptorIndex := 6, attributes := #[] }] 33 2 #[] #[{ accessFlags := 25, nameIndex := 123, descriptorIndex := 124, attributes := #[] }, { accessFlags := 25, nameIndex := 130, descriptorIndex := 124, attributes := #[] }, { accessFlags := 25, nameIndex := 136, descriptorIndex := 124, attributes := #[] }])
  fields := #[{ name := "SIOOBE_FORMATTER", type := (.object "java/util/function/BiFunction"), accessFlags := 25, slot := 0, constantValue := 0 }, { name := "AIOOBE_FORMATTER", type := (.object "java/util/function/BiFunction"), accessFlags := 25, slot := 1, constantValue := 0 }, { name := "IOOBE_FORMATTER", type := (.object "java/util/function/BiFunction"), accessFlags := 25, slot := 2, constantValue := 0 }]
  methods := #[k25m0]
  instanceTypes := #[]
  staticTypes := #[(.object "java/util/function/BiFunction"), (.object "java/util/function/BiFunction"), (.object "java/util/function/BiFunction")]
  resolved := Array.replicate 194 none
  statics := some 3 }

def pool26 : Array CpInfo := pool [(9, u "<init>"), (6, .class_ 18), (1, u "java/lang/Object"), (0, u "()V"), (1, .class_ 23), (1, u "jdk/internal/util/ArraysSupport"), (0, u "LOG2_ARRAY_LONG_INDEX_SCALE"), (0, u "I"), (2, u "U"), (0, u "Ljdk/internal/misc/Unsafe;"), (8, u "BIG_ENDIAN"), (0, u "Z"), (8, u "LOG2_BYTE_BIT_SIZE"), (4, u "LOG2_ARRAY_INT_INDEX_SCALE"), (54, u "JLA"), (0, u "Ljdk/internal/access/JavaLangAccess;"), (11, u "LOG2_ARRAY_BOOLEAN_INDEX_SCALE"), (9, u "LOG2_ARRAY_BYTE_INDEX_SCALE"), (5, u "LOG2_ARRAY_CHAR_INDEX_SCALE"), (5, u "LOG2_ARRAY_SHORT_INDEX_SCALE"), (18, u "LOG2_ARRAY_FLOAT_INDEX_SCALE"), (24, u "LOG2_ARRAY_DOUBLE_INDEX_SCALE"), (89, u "T_BOOLEAN"), (2, u "T_CHAR"), (1, u "T_FLOAT"), (1, u "T_DOUBLE"), (1, u "T_BYTE"), (1, u "T_SHORT"), (1, u "T_INT"), (1, u "T_LONG"), (1, u "SOFT_MAX_ARRAY_LENGTH")] 83

def k26m0 : Method := { name := "<init>", desc := "()V", sig := { parameters := [], returnType := none }, accessFlags := 2, code := none }
/-- jdk/internal/util/ArraysSupport -/
def k26 : Class := { plain "jdk/internal/util/ArraysSupport" (some 0) with
  accessFlags := 33
  interfaces := #[]
  cf := some (fileOf pool26 21 #[] #[{ accessFlags := 2, nameIndex := 9, descriptorIndex := 19, attributes := #[] }] 33 16 #[] #[{ accessFlags := 24, nameIndex := 28, descriptorIndex := 29, attributes := #[] }, { accessFlags := 26, nameIndex := 38, descriptorIndex := 39, attributes := #[] }, { accessFlags := 25, nameIndex := 121, descriptorIndex := 25, attributes := #[] }, { accessFlags := 25, nameIndex := 131, descriptorIndex := 25, attributes := #[] }, { accessFlags := 25, nameIndex := 137, descriptorIndex := 25, attributes := #[] }, { accessFlags := 25, nameIndex := 143, descriptorIndex := 25, attributes := #[] }, { accessFlags := 25, nameIndex := 53, descriptorIndex := 25, attributes := #[] }, { accessFlags := 25, nameIndex := 24, descriptorIndex := 25, attributes := #[] }, { accessFlags := 25, nameIndex := 162, descriptorIndex := 25, attributes := #[] }, { accessFlags := 25, nameIndex := 187, descriptorIndex := 25, attributes := #[] }, { accessFlags := 26, nameIndex := 48, descriptorIndex := 25, attributes := #[] }, { accessFlags := 25, nameIndex := 277, descriptorIndex := 25, attributes := #[] }, { accessFlags := 25, nameIndex := 280, descriptorIndex := 25, attributes := #[] }, { accessFlags := 25, nameIndex := 282, descriptorIndex := 25, attributes := #[] }, { accessFlags := 25, nameIndex := 284, descriptorIndex := 25, attributes := #[] }, { accessFlags := 25, nameIndex := 286, descriptorIndex := 25, attributes := #[] }, { accessFlags := 25, nameIndex := 288, descriptorIndex := 25, attributes := #[] }, { accessFlags := 25, nameIndex := 290, descriptorIndex := 25, attributes := #[] }, { accessFlags := 25, nameIndex := 292, descriptorIndex := 25, attributes := #[] }, { accessFlags := 26, nameIndex := 108, descriptorIndex := 109, attributes := #[] }, { accessFlags := 25, nameIndex := 294, descriptorIndex := 25, attributes := #[] }])
  fields := #[{ name := "U", type := (.object "jdk/internal/misc/Unsafe"), accessFlags := 24, slot := 0, constantValue := 0 }, { name := "BIG_ENDIAN", type := .boolean, accessFlags := 26, slot := 1, constantValue := 0 }, { name := "LOG2_ARRAY_BOOLEAN_INDEX_SCALE", type := .int, accessFlags := 25, slot := 2, constantValue := 0 }, { name := "LOG2_ARRAY_BYTE_INDEX_SCALE", type := .int, accessFlags := 25, slot := 3, constantValue := 0 }, { name := "LOG2_ARRAY_CHAR_INDEX_SCALE", type := .int, accessFlags := 25, slot := 4, constantValue := 0 }, { name := "LOG2_ARRAY_SHORT_INDEX_SCALE", type := .int, accessFlags := 25, slot := 5, constantValue := 0 }, { name := "LOG2_ARRAY_INT_INDEX_SCALE", type := .int, accessFlags := 25, slot := 6, constantValue := 0 }, { name := "LOG2_ARRAY_LONG_INDEX_SCALE", type := .int, accessFlags := 25, slot := 7, constantValue := 0 }, { name := "LOG2_ARRAY_FLOAT_INDEX_SCALE", type := .int, accessFlags := 25, slot := 8, constantValue := 0 }, { name := "LOG2_ARRAY_DOUBLE_INDEX_SCALE", type := .int, accessFlags := 25, slot := 9, constantValue := 0 }, { name := "LOG2_BYTE_BIT_SIZE", type := .int, accessFlags := 26, slot := 10, constantValue := 0 }, { name := "T_BOOLEAN", type := .int, accessFlags := 25, slot := 11, constantValue := 0 }, { name := "T_CHAR", type := .int, accessFlags := 25, slot := 12, constantValue := 0 }, { name := "T_FLOAT", type := .int, accessFlags := 25, slot := 13, constantValue := 0 }, { name := "T_DOUBLE", type := .int, accessFlags := 25, slot := 14, constantValue := 0 }, { name := "T_BYTE", type := .int, accessFlags := 25, slot := 15, constantValue := 0 }, { name := "T_SHORT", type := .int, accessFlags := 25, slot := 16, constantValue := 0 }, { name := "T_INT", type := .int, accessFlags := 25, slot := 17, constantValue := 0 }, { name := "T_LONG", type := .int, accessFlags := 25, slot := 18, constantValue := 0 }, { name := "JLA", type := (.object "jdk/internal/access/JavaLangAccess"), accessFlags := 26, slot := 19, constantValue := 0 }, { name := "SOFT_MAX_ARRAY_LENGTH", type := .int, accessFlags := 25, slot := 20, constantValue := 0 }]
  methods := #[k26m0]
  instanceTypes := #[]
  staticTypes := #[(.object "jdk/internal/misc/Unsafe"), .boolean, .int, .int, .int, .int, .int, .int, .int, .int, .int, .int, .int, .int, .int, .int, .int, .int, .int, (.object "jdk/internal/access/JavaLangAccess"), .int]
  resolved := Array.replicate 378 none
  statics := none }

def pool27 : Array CpInfo := pool [(2, .class_ 4), (1, u "java/util/AbstractCollection"), (0, u "<init>"), (0, u "()V"), (1, .class_ 10), (1, u "java/util/ImmutableCollections"), (2, .class_ 14), (0, u "java/util/ImmutableCollections$AbstractImmutableCollection")] 41

def k27m0 : Method := { name := "<init>", desc := "()V", sig := { parameters := [], returnType := none }, accessFlags := 0, code := none }
/-- java/util/ImmutableCollections$AbstractImmutableCollection -/
def k27 : Class := { plain "java/util/ImmutableCollections$AbstractImmutableCollection" (some 15) with
  accessFlags := 1056
  interfaces := #[]
  cf := some (fileOf pool27 13 #[.nestHost 8] #[{ accessFlags := 0, nameIndex := 5, descriptorIndex := 6, attributes := #[] }] 1056 2 #[] #[])
  fields := #[]
  methods := #[k27m0]
  instanceTypes := #[]
  staticTypes := #[]
  resolved := Array.replicate 56 none
  statics := none }

def pool28 : Array CpInfo := pool [(2, .class_ 4), (1, u "java/util/ImmutableCollections$AbstractImmutableCollection"), (0, u "<init>"), (0, u "()V"), (1, .class_ 10), (1, u "java/util/ImmutableCollections"), (3, .class_ 16), (1, u "java/util/ImmutableCollections$AbstractImmutableList"), (60, .class_ 78), (0, u "java/util/List"), (45, .class_ 125), (0, u "java/util/RandomAccess")] 70

def k28m0 : Method := { name := "<init>", desc := "()V", sig := { parameters := [], returnType := none }, accessFlags := 0, code := none }
/-- java/util/ImmutableCollections$AbstractImmutableList -/
def k28 : Class := { plain "java/util/ImmutableCollections$AbstractImmutableList" (some 27) with
  accessFlags := 1056
  interfaces := #[17, 19]
  cf := some (fileOf pool28 14 #[.nestHost 8] #[{ accessFlags := 0, nameIndex := 5, descriptorIndex := 6, attributes := #[] }] 1056 2 #[77, 124] #[])
  fields := #[]
  methods := #[k28m0]
  instanceTypes := #[]
  staticTypes := #[]
  resolved := Array.replicate 196 none
  statics := none }

def pool29 : Array CpInfo := pool [(2, .class_ 4), (1, u "java/util/ImmutableCollections$AbstractImmutableList"), (3, .class_ 10), (1, u "java/util/ImmutableCollections$ListN"), (0, u "elements"), (0, u "[Ljava/lang/Object;"), (2, u "allowNulls"), (0, u "Z"), (42, .class_ 60), (0, u "java/io/Serializable"), (53, .class_ 115), (0, u "java/util/ImmutableCollections")] 3

/-- java/util/ImmutableCollections$ListN -/
def k29 : Class := { plain "java/util/ImmutableCollections$ListN" (some 28) with
  accessFlags := 48
  interfaces := #[2]
  cf := some (fileOf pool29 8 #[.nestHost 114] #[] 48 2 #[59] #[{ accessFlags := 18, nameIndex := 11, descriptorIndex := 12, attributes := #[] }, { accessFlags := 18, nameIndex := 15, descriptorIndex := 16, attributes := #[] }])
  fields := #[{ name := "elements", type := (.array (.object "java/lang/Object")), accessFlags := 18, slot := 0, constantValue := 0 }, { name := "allowNulls", type := .boolean, accessFlags := 18, slot := 1, constantValue := 0 }]
  methods := #[]
  instanceTypes := #[(.array (.object "java/lang/Object")), .boolean]
  staticTypes := #[]
  resolved := Array.replicate 119 none
  statics := none }

/-- the primitive byte -/
def k30 : Class := { plain "byte" none with kind := .primitive 'B', accessFlags := 0x411 }
/-- [B -/
def k31 : Class := { plain "[B" (some 0) with kind := .array 30 .byte, interfaces := #[20, 2], accessFlags := 1041 }

/-- the primitive char -/
def k32 : Class := { plain "char" none with kind := .primitive 'C', accessFlags := 0x411 }
/-- [C -/
def k33 : Class := { plain "[C" (some 0) with kind := .array 32 .char, interfaces := #[20, 2], accessFlags := 1041 }

/-- the primitive int -/
def k34 : Class := { plain "int" none with kind := .primitive 'I', accessFlags := 0x411 }
/-- [I -/
def k35 : Class := { plain "[I" (some 0) with kind := .array 34 .int, interfaces := #[20, 2], accessFlags := 1041 }

/-- [Ljava/lang/Object; -/
def k36 : Class := { plain "[Ljava/lang/Object;" (some 0) with kind := .array 0 (.object "java/lang/Object"), interfaces := #[20, 2], accessFlags := 1041 }

def heap : Heap := #[{ cls := 7, slots := #[.long 0, .int 1, .null, .int 0, .null, .int 0, .int 0], vm := .statics 7 },
  { cls := 21, slots := #[.long 0, .int 0, .ref 6, .ref 7], vm := .statics 21 },
  { cls := 24, slots := #[.long 0, .int 0, .null, .null, .ref 5, .null, .null, .null, .int 0, .int 0], vm := .statics 24 },
  { cls := 25, slots := #[.null, .null, .null], vm := .statics 25 },
  { cls := 36, slots := #[], vm := .none },
  { cls := 29, slots := #[.ref 4, .int 0], vm := .none },
  { cls := 36, slots := #[], vm := .none },
  { cls := 36, slots := #[], vm := .none }]
def classes : Array Class := #[k0, k1, k2, k3, k4, k5, k6, k7, k8, k9, k10, k11, k12, k13, k14, k15, k16, k17, k18, k19, k20, k21, k22, k23, k24, k25, k26, k27, k28, k29, k30, k31, k32, k33, k34, k35, k36]
def interned : List (Array UInt16 × Addr) := []
def slotsUsed : Nat := 26
def theMethod : MethodId := ⟨1, 1⟩
def args0 : Array Value := #[.int 5, .int 7, .long 3, .long 4, .int 1]
def aboutOver (below : List Frame) : State where
  vm := { classes := classes, interned := interned.toArray }
  heap := heap
  slotsUsed := slotsUsed
  threads := #[{ frames := .invoking theMethod args0 :: below }]
def below0 : List Frame := [.native { method := ⟨0, 0⟩, args := #[] }]
def about1 : State := aboutOver below0
def p0 : Program := .bare "" "" ""
def e0 : Env := launch0.env 0 0 0
theorem w_frames : about1.frames = Frame.invoking theMethod args0 :: below0 := rfl
set_option maxRecDepth 65536 in
theorem w_args : argsFit about1.vm theMethod args0 = true := by decide +kernel
set_option maxRecDepth 65536 in
theorem w_heap : heapFits about1 = true := by decide +kernel
set_option maxRecDepth 65536 in
theorem w_runnable : about1.curStatus? = some .runnable := by decide +kernel
set_option maxRecDepth 65536 in
theorem w_alone : about1.alone = true := by decide +kernel
set_option maxRecDepth 65536 in
theorem w_named : about1.methodNamed? x = some theMethod := by decide +kernel
set_option maxRecDepth 65536 in
theorem w_hears : about1.hears theMethod below0 = true := by decide +kernel
set_option maxRecDepth 65536 in
theorem w_ripe : about1.ripe theMethod args0 below0 = true := by decide +kernel
theorem w_running : about1.status = .running := rfl
set_option maxRecDepth 65536 in
theorem w_room : about1.hasRoom e0.platform room_1 = true :=
  launch0.hasRoom_least _ room_1 (by decide +kernel) (by decide +kernel) (by decide +kernel) (by decide +kernel) (by decide +kernel) (by decide +kernel)
theorem allAtoms_all (ts : List Jvm.Cond) (a : Array Jvm.Value) (st : Jvm.State) : (allAtoms ts).before a st = ts.all (fun c => c.before a st) := by
  induction ts with
  | nil => rfl
  | cons c t ih =>
    show (Jvm.Cond.and c (allAtoms t)).before a st = _
    rw [Jvm.Cond.before_and, ih, List.all_cons]
def words1 : List Jvm.Cond := Jvm.Cond.code x code maxLocals ret :: tables_1
/-- a 'code' word, met by the world's own term for the bytes: nothing is compared byte by byte -/
theorem code_word {y : MethodName} {bytes : ByteArray} {mx : Nat} {rt : Option FieldType} {a : Array Value} {s : State} {m : MethodId} {meth : Method} {c : Code} (h1 : s.methodNamed? y = some m) (h2 : s.vm.method? m = some meth) (h3 : meth.code = some c) (h4 : c.code = bytes)
    (h5 : (c.maxLocals == mx && c.exceptionTable.isEmpty && decide (c.maxStack ≤ mostOperands) && decide (meth.sig.returnType = rt) && !meth.locks && decide (parseMethodDescriptor y.desc = some meth.sig)) = true) : (Jvm.Cond.code y bytes mx rt).before a s = true := by
  simp only [Bool.and_eq_true, beq_iff_eq, Bool.not_eq_true', decide_eq_true_eq] at h5
  obtain ⟨⟨⟨⟨⟨g1, g2⟩, g3⟩, g4⟩, g5⟩, g6⟩ := h5
  simp [Cond.before, Cond.holds, Cond.value, h1, h2, h3, h4, g1, g2, g3, g4, g5, g6]
def isCode : Jvm.Cond → Bool
  | .code _ _ _ _ => true
  | _ => false
theorem all_split {L : List Jvm.Cond} {P : Jvm.Cond → Bool} (h1 : L.all (fun c => isCode c || P c) = true) (h2 : ∀ c ∈ L.filter isCode, P c = true) : L.all P = true := by
  refine List.all_eq_true.mpr fun c hc => ?_
  have h := List.all_eq_true.mp h1 c hc
  rcases Bool.eq_false_or_eq_true (isCode c) with hi | hi
  · exact h2 c (List.mem_filter.mpr ⟨hc, hi⟩)
  · simpa [hi] using h
set_option maxRecDepth 65536 in
theorem w_c0 : (Jvm.Cond.code x code maxLocals ret).before args0 about1 = true := code_word (m := ⟨1, 1⟩) (meth := k1m1) (c := k1c1) (by decide +kernel) rfl rfl rfl (by decide +kernel)
set_option maxRecDepth 65536 in
theorem w_c1 : (Jvm.Cond.code ({ cls := "java/lang/String", name := "<init>", desc := "([C)V" } : Jvm.MethodName) jdk_42_method_3_code (2 : Nat) (Option.none : Option Jvm.ClassFile.FieldType)).before args0 about1 = true := code_word (m := ⟨7, 1⟩) (meth := k7m1) (c := k7c1) (by decide +kernel) rfl rfl rfl (by decide +kernel)
set_option maxRecDepth 65536 in
theorem w_c2 : (Jvm.Cond.code ({ cls := "java/lang/String", name := "<init>", desc := "([CIILjava/lang/Void;)V" } : Jvm.MethodName) jdk_42_method_149_code (6 : Nat) (Option.none : Option Jvm.ClassFile.FieldType)).before args0 about1 = true := code_word (m := ⟨7, 3⟩) (meth := k7m3) (c := k7c3) (by decide +kernel) rfl rfl rfl (by decide +kernel)
set_option maxRecDepth 65536 in
theorem w_c3 : (Jvm.Cond.code ({ cls := "java/lang/Object", name := "<init>", desc := "()V" } : Jvm.MethodName) object_method_1_code (1 : Nat) (Option.none : Option Jvm.ClassFile.FieldType)).before args0 about1 = true := code_word (m := ⟨0, 0⟩) (meth := k0m0) (c := k0c0) (by decide +kernel) rfl rfl rfl (by decide +kernel)
set_option maxRecDepth 65536 in
theorem w_c4 : (Jvm.Cond.code ({ cls := "java/lang/StringUTF16", name := "compress", desc := "([CII)[B" } : Jvm.MethodName) jdk_52_method_16_code (6 : Nat) (Option.some (Jvm.ClassFile.FieldType.array Jvm.ClassFile.FieldType.byte))).before args0 about1 = true := code_word (m := ⟨8, 2⟩) (meth := k8m2) (c := k8c2) (by decide +kernel) rfl rfl rfl (by decide +kernel)
set_option maxRecDepth 65536 in
theorem w_c5 : (Jvm.Cond.code ({ cls := "java/lang/StringUTF16", name := "compress", desc := "([CI[BII)I" } : Jvm.MethodName) jdk_52_method_21_code (7 : Nat) (Option.some Jvm.ClassFile.FieldType.int)).before args0 about1 = true := code_word (m := ⟨8, 3⟩) (meth := k8m3) (c := k8c3) (by decide +kernel) rfl rfl rfl (by decide +kernel)
set_option maxRecDepth 65536 in
theorem w_c6 : (Jvm.Cond.code ({ cls := "java/lang/StringUTF16", name := "coderFromArrayLen", desc := "([BI)B" } : Jvm.MethodName) jdk_52_method_15_code (2 : Nat) (Option.some Jvm.ClassFile.FieldType.byte)).before args0 about1 = true := code_word (m := ⟨8, 1⟩) (meth := k8m1) (c := k8c1) (by decide +kernel) rfl rfl rfl (by decide +kernel)
set_option maxRecDepth 65536 in
theorem w_c7 : (Jvm.Cond.code ({ cls := "java/lang/String", name := "valueOf", desc := "(C)Ljava/lang/String;" } : Jvm.MethodName) jdk_42_method_139_code (1 : Nat) (Option.some (Jvm.ClassFile.FieldType.object "java/lang/String"))).before args0 about1 = true := code_word (m := ⟨7, 2⟩) (meth := k7m2) (c := k7c2) (by decide +kernel) rfl rfl rfl (by decide +kernel)
set_option maxRecDepth 65536 in
theorem w_c8 : (Jvm.Cond.code ({ cls := "java/lang/StringLatin1", name := "canEncode", desc := "(C)Z" } : Jvm.MethodName) jdk_43_method_3_code (1 : Nat) (Option.some Jvm.ClassFile.FieldType.boolean)).before args0 about1 = true := code_word (m := ⟨9, 1⟩) (meth := k9m1) (c := k9c1) (by decide +kernel) rfl rfl rfl (by decide +kernel)
set_option maxRecDepth 65536 in
theorem w_c9 : (Jvm.Cond.code ({ cls := "java/lang/StringLatin1", name := "toBytes", desc := "(C)[B" } : Jvm.MethodName) jdk_43_method_46_code (1 : Nat) (Option.some (Jvm.ClassFile.FieldType.array Jvm.ClassFile.FieldType.byte))).before args0 about1 = true := code_word (m := ⟨9, 2⟩) (meth := k9m2) (c := k9c2) (by decide +kernel) rfl rfl rfl (by decide +kernel)
set_option maxRecDepth 65536 in
theorem w_c10 : (Jvm.Cond.code ({ cls := "java/lang/String", name := "<init>", desc := "([BB)V" } : Jvm.MethodName) jdk_42_method_151_code (3 : Nat) (Option.none : Option Jvm.ClassFile.FieldType)).before args0 about1 = true := code_word (m := ⟨7, 4⟩) (meth := k7m4) (c := k7c4) (by decide +kernel) rfl rfl rfl (by decide +kernel)
set_option maxRecDepth 65536 in
theorem w_c11 : (Jvm.Cond.code ({ cls := "com/example/vestline/vestline/model/VestingResult$YearsOfService", name := "<init>", desc := "(ILjava/lang/String;)V" } : Jvm.MethodName) prog_120_method_1_code (3 : Nat) (Option.none : Option Jvm.ClassFile.FieldType)).before args0 about1 = true := code_word (m := ⟨11, 0⟩) (meth := k11m0) (c := k11c0) (by decide +kernel) rfl rfl rfl (by decide +kernel)
set_option maxRecDepth 65536 in
theorem w_c12 : (Jvm.Cond.code ({ cls := "java/lang/Record", name := "<init>", desc := "()V" } : Jvm.MethodName) jdk_30_method_1_code (1 : Nat) (Option.none : Option Jvm.ClassFile.FieldType)).before args0 about1 = true := code_word (m := ⟨10, 0⟩) (meth := k10m0) (c := k10c0) (by decide +kernel) rfl rfl rfl (by decide +kernel)
set_option maxRecDepth 65536 in
theorem w_c13 : (Jvm.Cond.code ({ cls := "java/util/Objects", name := "requireNonNull", desc := "(Ljava/lang/Object;Ljava/lang/String;)Ljava/lang/Object;" } : Jvm.MethodName) jdk_31_method_11_code (2 : Nat) (Option.some (Jvm.ClassFile.FieldType.object "java/lang/Object"))).before args0 about1 = true := code_word (m := ⟨12, 1⟩) (meth := k12m1) (c := k12c1) (by decide +kernel) rfl rfl rfl (by decide +kernel)
set_option maxRecDepth 65536 in
theorem w_c14 : (Jvm.Cond.code ({ cls := "java/util/ArrayList", name := "<init>", desc := "()V" } : Jvm.MethodName) jdk_38_method_2_code (1 : Nat) (Option.none : Option Jvm.ClassFile.FieldType)).before args0 about1 = true := code_word (m := ⟨21, 0⟩) (meth := k21m0) (c := k21c0) (by decide +kernel) rfl rfl rfl (by decide +kernel)
set_option maxRecDepth 65536 in
theorem w_c15 : (Jvm.Cond.code ({ cls := "java/util/AbstractList", name := "<init>", desc := "()V" } : Jvm.MethodName) jdk_39_method_1_code (1 : Nat) (Option.none : Option Jvm.ClassFile.FieldType)).before args0 about1 = true := code_word (m := ⟨18, 0⟩) (meth := k18m0) (c := k18c0) (by decide +kernel) rfl rfl rfl (by decide +kernel)
set_option maxRecDepth 65536 in
theorem w_c16 : (Jvm.Cond.code ({ cls := "java/util/AbstractCollection", name := "<init>", desc := "()V" } : Jvm.MethodName) jdk_22_method_1_code (1 : Nat) (Option.none : Option Jvm.ClassFile.FieldType)).before args0 about1 = true := code_word (m := ⟨15, 0⟩) (meth := k15m0) (c := k15c0) (by decide +kernel) rfl rfl rfl (by decide +kernel)
set_option maxRecDepth 65536 in
theorem w_c17 : (Jvm.Cond.code ({ cls := "java/util/ArrayList", name := "add", desc := "(Ljava/lang/Object;)Z" } : Jvm.MethodName) jdk_38_method_25_code (2 : Nat) (Option.some Jvm.ClassFile.FieldType.boolean)).before args0 about1 = true := code_word (m := ⟨21, 4⟩) (meth := k21m4) (c := k21c4) (by decide +kernel) rfl rfl rfl (by decide +kernel)
set_option maxRecDepth 65536 in
theorem w_c18 : (Jvm.Cond.code ({ cls := "java/util/ArrayList", name := "add", desc := "(Ljava/lang/Object;[Ljava/lang/Object;I)V" } : Jvm.MethodName) jdk_38_method_24_code (4 : Nat) (Option.none : Option Jvm.ClassFile.FieldType)).before args0 about1 = true := code_word (m := ⟨21, 3⟩) (meth := k21m3) (c := k21c3) (by decide +kernel) rfl rfl rfl (by decide +kernel)
set_option maxRecDepth 65536 in
theorem w_c19 : (Jvm.Cond.code ({ cls := "java/util/ArrayList", name := "grow", desc := "()[Ljava/lang/Object;" } : Jvm.MethodName) jdk_38_method_7_code (1 : Nat) (Option.some (Jvm.ClassFile.FieldType.array (Jvm.ClassFile.FieldType.object "java/lang/Object")))).before args0 about1 = true := code_word (m := ⟨21, 2⟩) (meth := k21m2) (c := k21c2) (by decide +kernel) rfl rfl rfl (by decide +kernel)
set_option maxRecDepth 65536 in
theorem w_c20 : (Jvm.Cond.code ({ cls := "java/util/ArrayList", name := "grow", desc := "(I)[Ljava/lang/Object;" } : Jvm.MethodName) jdk_38_method_6_code (4 : Nat) (Option.some (Jvm.ClassFile.FieldType.array (Jvm.ClassFile.FieldType.object "java/lang/Object")))).before args0 about1 = true := code_word (m := ⟨21, 1⟩) (meth := k21m1) (c := k21c1) (by decide +kernel) rfl rfl rfl (by decide +kernel)
set_option maxRecDepth 65536 in
theorem w_c21 : (Jvm.Cond.code ({ cls := "java/lang/Math", name := "max", desc := "(II)I" } : Jvm.MethodName) jdk_29_method_65_code (2 : Nat) (Option.some Jvm.ClassFile.FieldType.int)).before args0 about1 = true := code_word (m := ⟨22, 1⟩) (meth := k22m1) (c := k22c1) (by decide +kernel) rfl rfl rfl (by decide +kernel)
set_option maxRecDepth 65536 in
theorem w_c22 : (Jvm.Cond.code ({ cls := "com/example/vestline/vestline/model/CensusFigures", name := "<init>", desc := "()V" } : Jvm.MethodName) prog_36_method_1_code (1 : Nat) (Option.none : Option Jvm.ClassFile.FieldType)).before args0 about1 = true := code_word (m := ⟨23, 0⟩) (meth := k23m0) (c := k23c0) (by decide +kernel) rfl rfl rfl (by decide +kernel)
set_option maxRecDepth 65536 in
theorem w_c23 : (Jvm.Cond.code ({ cls := "java/util/List", name := "of", desc := "()Ljava/util/List;" } : Jvm.MethodName) jdk_40_method_36_code (0 : Nat) (Option.some (Jvm.ClassFile.FieldType.object "java/util/List"))).before args0 about1 = true := code_word (m := ⟨17, 1⟩) (meth := k17m1) (c := k17c1) (by decide +kernel) rfl rfl rfl (by decide +kernel)
set_option maxRecDepth 65536 in
theorem w_c24 : (Jvm.Cond.code ({ cls := "com/example/vestline/vestline/model/CensusFigures", name := "set", desc := "(Lcom/example/vestline/vestline/model/VestingResult$YearsOfService;Ljava/util/List;Ljava/util/List;JJ)V" } : Jvm.MethodName) prog_36_method_2_code (8 : Nat) (Option.none : Option Jvm.ClassFile.FieldType)).before args0 about1 = true := code_word (m := ⟨23, 1⟩) (meth := k23m1) (c := k23c1) (by decide +kernel) rfl rfl rfl (by decide +kernel)
set_option maxRecDepth 65536 in
theorem w_c25 : (Jvm.Cond.code ({ cls := "com/example/vestline/vestline/model/CensusFigures", name := "yearsOfService", desc := "()Lcom/example/vestline/vestline/model/VestingResult$YearsOfService;" } : Jvm.MethodName) prog_36_method_4_code (1 : Nat) (Option.some (Jvm.ClassFile.FieldType.object "com/example/vestline/vestline/model/VestingResult$YearsOfService"))).before args0 about1 = true := code_word (m := ⟨23, 2⟩) (meth := k23m2) (c := k23c2) (by decide +kernel) rfl rfl rfl (by decide +kernel)
set_option maxRecDepth 65536 in
theorem w_c26 : (Jvm.Cond.code ({ cls := "com/example/vestline/vestline/model/CensusFigures", name := "percents", desc := "()Ljava/util/List;" } : Jvm.MethodName) prog_36_method_5_code (1 : Nat) (Option.some (Jvm.ClassFile.FieldType.object "java/util/List"))).before args0 about1 = true := code_word (m := ⟨23, 3⟩) (meth := k23m3) (c := k23c3) (by decide +kernel) rfl rfl rfl (by decide +kernel)
set_option maxRecDepth 65536 in
theorem w_c27 : (Jvm.Cond.code ({ cls := "com/example/vestline/vestline/model/CensusFigures", name := "sections", desc := "()Ljava/util/List;" } : Jvm.MethodName) prog_36_method_6_code (1 : Nat) (Option.some (Jvm.ClassFile.FieldType.object "java/util/List"))).before args0 about1 = true := code_word (m := ⟨23, 4⟩) (meth := k23m4) (c := k23c4) (by decide +kernel) rfl rfl rfl (by decide +kernel)
set_option maxRecDepth 65536 in
theorem w_c28 : (Jvm.Cond.code ({ cls := "com/example/vestline/vestline/model/CensusFigures", name := "vested", desc := "()J" } : Jvm.MethodName) prog_36_method_7_code (1 : Nat) (Option.some Jvm.ClassFile.FieldType.long)).before args0 about1 = true := code_word (m := ⟨23, 5⟩) (meth := k23m5) (c := k23c5) (by decide +kernel) rfl rfl rfl (by decide +kernel)
set_option maxRecDepth 65536 in
theorem w_c29 : (Jvm.Cond.code ({ cls := "com/example/vestline/vestline/model/CensusFigures", name := "forfeited", desc := "()J" } : Jvm.MethodName) prog_36_method_8_code (1 : Nat) (Option.some Jvm.ClassFile.FieldType.long)).before args0 about1 = true := code_word (m := ⟨23, 6⟩) (meth := k23m6) (c := k23c6) (by decide +kernel) rfl rfl rfl (by decide +kernel)
set_option maxRecDepth 65536 in
theorem w_c30 : (Jvm.Cond.code ({ cls := "com/example/vestline/vestline/model/CensusFigures", name := "largeVested", desc := "()Ljava/math/BigDecimal;" } : Jvm.MethodName) prog_36_method_9_code (1 : Nat) (Option.some (Jvm.ClassFile.FieldType.object "java/math/BigDecimal"))).before args0 about1 = true := code_word (m := ⟨23, 7⟩) (meth := k23m7) (c := k23c7) (by decide +kernel) rfl rfl rfl (by decide +kernel)
set_option maxRecDepth 65536 in
theorem w_c31 : (Jvm.Cond.code ({ cls := "com/example/vestline/vestline/model/CensusFigures", name := "largeForfeited", desc := "()Ljava/math/BigDecimal;" } : Jvm.MethodName) prog_36_method_10_code (1 : Nat) (Option.some (Jvm.ClassFile.FieldType.object "java/math/BigDecimal"))).before args0 about1 = true := code_word (m := ⟨23, 8⟩) (meth := k23m8) (c := k23c8) (by decide +kernel) rfl rfl rfl (by decide +kernel)
def codes1 : List Jvm.Cond := [Jvm.Cond.code x code maxLocals ret, Jvm.Cond.code ({ cls := "java/lang/String", name := "<init>", desc := "([C)V" } : Jvm.MethodName) jdk_42_method_3_code (2 : Nat) (Option.none : Option Jvm.ClassFile.FieldType), Jvm.Cond.code ({ cls := "java/lang/String", name := "<init>", desc := "([CIILjava/lang/Void;)V" } : Jvm.MethodName) jdk_42_method_149_code (6 : Nat) (Option.none : Option Jvm.ClassFile.FieldType), Jvm.Cond.code ({ cls := "java/lang/Object", name := "<init>", desc := "()V" } : Jvm.MethodName) object_method_1_code (1 : Nat) (Option.none : Option Jvm.ClassFile.FieldType), Jvm.Cond.code ({ cls := "java/lang/StringUTF16", name := "compress", desc := "([CII)[B" } : Jvm.MethodName) jdk_52_method_16_code (6 : Nat) (Option.some (Jvm.ClassFile.FieldType.array Jvm.ClassFile.FieldType.byte)), Jvm.Cond.code ({ cls := "java/lang/StringUTF16", name := "compress", desc := "([CI[BII)I" } : Jvm.MethodName) jdk_52_method_21_code (7 : Nat) (Option.some Jvm.ClassFile.FieldType.int), Jvm.Cond.code ({ cls := "java/lang/StringUTF16", name := "coderFromArrayLen", desc := "([BI)B" } : Jvm.MethodName) jdk_52_method_15_code (2 : Nat) (Option.some Jvm.ClassFile.FieldType.byte), Jvm.Cond.code ({ cls := "java/lang/String", name := "valueOf", desc := "(C)Ljava/lang/String;" } : Jvm.MethodName) jdk_42_method_139_code (1 : Nat) (Option.some (Jvm.ClassFile.FieldType.object "java/lang/String")), Jvm.Cond.code ({ cls := "java/lang/StringLatin1", name := "canEncode", desc := "(C)Z" } : Jvm.MethodName) jdk_43_method_3_code (1 : Nat) (Option.some Jvm.ClassFile.FieldType.boolean), Jvm.Cond.code ({ cls := "java/lang/StringLatin1", name := "toBytes", desc := "(C)[B" } : Jvm.MethodName) jdk_43_method_46_code (1 : Nat) (Option.some (Jvm.ClassFile.FieldType.array Jvm.ClassFile.FieldType.byte)), Jvm.Cond.code ({ cls := "java/lang/String", name := "<init>", desc := "([BB)V" } : Jvm.MethodName) jdk_42_method_151_code (3 : Nat) (Option.none : Option Jvm.ClassFile.FieldType), Jvm.Cond.code ({ cls := "com/example/vestline/vestline/model/VestingResult$YearsOfService", name := "<init>", desc := "(ILjava/lang/String;)V" } : Jvm.MethodName) prog_120_method_1_code (3 : Nat) (Option.none : Option Jvm.ClassFile.FieldType), Jvm.Cond.code ({ cls := "java/lang/Record", name := "<init>", desc := "()V" } : Jvm.MethodName) jdk_30_method_1_code (1 : Nat) (Option.none : Option Jvm.ClassFile.FieldType), Jvm.Cond.code ({ cls := "java/util/Objects", name := "requireNonNull", desc := "(Ljava/lang/Object;Ljava/lang/String;)Ljava/lang/Object;" } : Jvm.MethodName) jdk_31_method_11_code (2 : Nat) (Option.some (Jvm.ClassFile.FieldType.object "java/lang/Object")), Jvm.Cond.code ({ cls := "java/util/ArrayList", name := "<init>", desc := "()V" } : Jvm.MethodName) jdk_38_method_2_code (1 : Nat) (Option.none : Option Jvm.ClassFile.FieldType), Jvm.Cond.code ({ cls := "java/util/AbstractList", name := "<init>", desc := "()V" } : Jvm.MethodName) jdk_39_method_1_code (1 : Nat) (Option.none : Option Jvm.ClassFile.FieldType), Jvm.Cond.code ({ cls := "java/util/AbstractCollection", name := "<init>", desc := "()V" } : Jvm.MethodName) jdk_22_method_1_code (1 : Nat) (Option.none : Option Jvm.ClassFile.FieldType), Jvm.Cond.code ({ cls := "java/util/ArrayList", name := "add", desc := "(Ljava/lang/Object;)Z" } : Jvm.MethodName) jdk_38_method_25_code (2 : Nat) (Option.some Jvm.ClassFile.FieldType.boolean), Jvm.Cond.code ({ cls := "java/util/ArrayList", name := "add", desc := "(Ljava/lang/Object;[Ljava/lang/Object;I)V" } : Jvm.MethodName) jdk_38_method_24_code (4 : Nat) (Option.none : Option Jvm.ClassFile.FieldType), Jvm.Cond.code ({ cls := "java/util/ArrayList", name := "grow", desc := "()[Ljava/lang/Object;" } : Jvm.MethodName) jdk_38_method_7_code (1 : Nat) (Option.some (Jvm.ClassFile.FieldType.array (Jvm.ClassFile.FieldType.object "java/lang/Object"))), Jvm.Cond.code ({ cls := "java/util/ArrayList", name := "grow", desc := "(I)[Ljava/lang/Object;" } : Jvm.MethodName) jdk_38_method_6_code (4 : Nat) (Option.some (Jvm.ClassFile.FieldType.array (Jvm.ClassFile.FieldType.object "java/lang/Object"))), Jvm.Cond.code ({ cls := "java/lang/Math", name := "max", desc := "(II)I" } : Jvm.MethodName) jdk_29_method_65_code (2 : Nat) (Option.some Jvm.ClassFile.FieldType.int), Jvm.Cond.code ({ cls := "com/example/vestline/vestline/model/CensusFigures", name := "<init>", desc := "()V" } : Jvm.MethodName) prog_36_method_1_code (1 : Nat) (Option.none : Option Jvm.ClassFile.FieldType), Jvm.Cond.code ({ cls := "java/util/List", name := "of", desc := "()Ljava/util/List;" } : Jvm.MethodName) jdk_40_method_36_code (0 : Nat) (Option.some (Jvm.ClassFile.FieldType.object "java/util/List")), Jvm.Cond.code ({ cls := "com/example/vestline/vestline/model/CensusFigures", name := "set", desc := "(Lcom/example/vestline/vestline/model/VestingResult$YearsOfService;Ljava/util/List;Ljava/util/List;JJ)V" } : Jvm.MethodName) prog_36_method_2_code (8 : Nat) (Option.none : Option Jvm.ClassFile.FieldType), Jvm.Cond.code ({ cls := "com/example/vestline/vestline/model/CensusFigures", name := "yearsOfService", desc := "()Lcom/example/vestline/vestline/model/VestingResult$YearsOfService;" } : Jvm.MethodName) prog_36_method_4_code (1 : Nat) (Option.some (Jvm.ClassFile.FieldType.object "com/example/vestline/vestline/model/VestingResult$YearsOfService")), Jvm.Cond.code ({ cls := "com/example/vestline/vestline/model/CensusFigures", name := "percents", desc := "()Ljava/util/List;" } : Jvm.MethodName) prog_36_method_5_code (1 : Nat) (Option.some (Jvm.ClassFile.FieldType.object "java/util/List")), Jvm.Cond.code ({ cls := "com/example/vestline/vestline/model/CensusFigures", name := "sections", desc := "()Ljava/util/List;" } : Jvm.MethodName) prog_36_method_6_code (1 : Nat) (Option.some (Jvm.ClassFile.FieldType.object "java/util/List")), Jvm.Cond.code ({ cls := "com/example/vestline/vestline/model/CensusFigures", name := "vested", desc := "()J" } : Jvm.MethodName) prog_36_method_7_code (1 : Nat) (Option.some Jvm.ClassFile.FieldType.long), Jvm.Cond.code ({ cls := "com/example/vestline/vestline/model/CensusFigures", name := "forfeited", desc := "()J" } : Jvm.MethodName) prog_36_method_8_code (1 : Nat) (Option.some Jvm.ClassFile.FieldType.long), Jvm.Cond.code ({ cls := "com/example/vestline/vestline/model/CensusFigures", name := "largeVested", desc := "()Ljava/math/BigDecimal;" } : Jvm.MethodName) prog_36_method_9_code (1 : Nat) (Option.some (Jvm.ClassFile.FieldType.object "java/math/BigDecimal")), Jvm.Cond.code ({ cls := "com/example/vestline/vestline/model/CensusFigures", name := "largeForfeited", desc := "()Ljava/math/BigDecimal;" } : Jvm.MethodName) prog_36_method_10_code (1 : Nat) (Option.some (Jvm.ClassFile.FieldType.object "java/math/BigDecimal"))]
set_option maxRecDepth 65536 in
theorem codes_eq : words1.filter isCode = codes1 := rfl
theorem w_codes : ∀ c ∈ words1.filter isCode, c.before args0 about1 = true := by
  rw [codes_eq]
  intro c hc
  simp only [codes1, List.mem_cons, List.not_mem_nil, or_false] at hc
  rcases hc with rfl | rfl | rfl | rfl | rfl | rfl | rfl | rfl | rfl | rfl | rfl | rfl | rfl | rfl | rfl | rfl | rfl | rfl | rfl | rfl | rfl | rfl | rfl | rfl | rfl | rfl | rfl | rfl | rfl | rfl | rfl | rfl
  · exact w_c0
  · exact w_c1
  · exact w_c2
  · exact w_c3
  · exact w_c4
  · exact w_c5
  · exact w_c6
  · exact w_c7
  · exact w_c8
  · exact w_c9
  · exact w_c10
  · exact w_c11
  · exact w_c12
  · exact w_c13
  · exact w_c14
  · exact w_c15
  · exact w_c16
  · exact w_c17
  · exact w_c18
  · exact w_c19
  · exact w_c20
  · exact w_c21
  · exact w_c22
  · exact w_c23
  · exact w_c24
  · exact w_c25
  · exact w_c26
  · exact w_c27
  · exact w_c28
  · exact w_c29
  · exact w_c30
  · exact w_c31
set_option maxRecDepth 65536 in
theorem w_t1 : (words1.take 24).all (fun c => isCode c || c.before args0 about1) = true := by decide +kernel
set_option maxRecDepth 65536 in
theorem w_t2 : ((words1.drop 24).take 24).all (fun c => isCode c || c.before args0 about1) = true := by decide +kernel
set_option maxRecDepth 65536 in
theorem w_t3 : (((words1.drop 24).drop 24).take 24).all (fun c => isCode c || c.before args0 about1) = true := by decide +kernel
set_option maxRecDepth 65536 in
theorem w_t4 : ((((words1.drop 24).drop 24).drop 24).take 24).all (fun c => isCode c || c.before args0 about1) = true := by decide +kernel
set_option maxRecDepth 65536 in
theorem w_t5 : (((((words1.drop 24).drop 24).drop 24).drop 24).take 24).all (fun c => isCode c || c.before args0 about1) = true := by decide +kernel
set_option maxRecDepth 65536 in
theorem w_t6 : ((((((words1.drop 24).drop 24).drop 24).drop 24).drop 24).take 24).all (fun c => isCode c || c.before args0 about1) = true := by decide +kernel
set_option maxRecDepth 65536 in
theorem w_t7 : (((((((words1.drop 24).drop 24).drop 24).drop 24).drop 24).drop 24).take 24).all (fun c => isCode c || c.before args0 about1) = true := by decide +kernel
set_option maxRecDepth 65536 in
theorem w_t8 : ((((((((words1.drop 24).drop 24).drop 24).drop 24).drop 24).drop 24).drop 24).take 24).all (fun c => isCode c || c.before args0 about1) = true := by decide +kernel
set_option maxRecDepth 65536 in
theorem w_t9 : ((((((((words1.drop 24).drop 24).drop 24).drop 24).drop 24).drop 24).drop 24).drop 24).all (fun c => isCode c || c.before args0 about1) = true := by decide +kernel
theorem w_tables : (allAtoms (Jvm.Cond.code x code maxLocals ret :: tables_1)).before args0 about1 = true := by
  rw [allAtoms_all]
  show words1.all (fun c => c.before args0 about1) = true
  refine all_split ?_ w_codes
  rw [← List.take_append_drop 24 words1, List.all_append, w_t1, ← List.take_append_drop 24 (words1.drop 24), List.all_append, w_t2, ← List.take_append_drop 24 ((words1.drop 24).drop 24), List.all_append, w_t3, ← List.take_append_drop 24 (((words1.drop 24).drop 24).drop 24), List.all_append, w_t4, ← List.take_append_drop 24 ((((words1.drop 24).drop 24).drop 24).drop 24), List.all_append, w_t5, ← List.take_append_drop 24 (((((words1.drop 24).drop 24).drop 24).drop 24).drop 24), List.all_append, w_t6, ← List.take_append_drop 24 ((((((words1.drop 24).drop 24).drop 24).drop 24).drop 24).drop 24), List.all_append, w_t7, ← List.take_append_drop 24 (((((((words1.drop 24).drop 24).drop 24).drop 24).drop 24).drop 24).drop 24), List.all_append, w_t8, w_t9]
  rfl
set_option maxRecDepth 65536 in
theorem w_rest : rest_1_c.before args0 about1 = true := by decide +kernel
set_option maxRecDepth 65536 in
theorem w_case : (Jvm.Cond.and given_1 narrow_1).before args0 about1 = true := by decide +kernel
theorem w_applies : (headSpec (Jvm.Cond.code x code maxLocals ret :: tables_1) room_1).applies x e0.platform about1 = true :=
  (Spec.applies_iff w_frames).mpr ⟨w_running, w_runnable, w_alone, w_named, w_hears, w_ripe, w_room, w_tables⟩
theorem atStart : AtStart classFile x code maxLocals ret World_1 tables_1 room_1 Calls_1 rest_1 Pre_1 launch0 p0 e0 about1 theMethod args0 below0 :=
  ⟨lists_1, trivial, launch0.admits_env _ _ _, launch0.least_env, fairChoices_fair.cas, fairChoices_fair.clock, w_frames, w_args, w_heap, w_applies, trivial, w_rest, w_case⟩
end start1
theorem witness_1 : WitnessClaimed_1 := ⟨start1.p0, start1.e0, start1.about1, start1.theMethod, start1.args0, start1.below0, start1.atStart⟩
end Jvm.Pilot.@@N@@
