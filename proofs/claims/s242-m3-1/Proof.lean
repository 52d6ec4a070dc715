import JvmDerived
import JvmDerived.Pilot.@@N@@Statement
import JvmDerived.Pilot.@@N@@Code
set_option linter.unusedVariables false
set_option linter.unusedSimpArgs false
namespace Jvm.OwnWP
open Sem ClassFile Op Lib Jvm.Stand Jvm.Free Jvm.LawKit Jvm.RoadKit
/-- the fixed things of a body's walk -/
abbrev Cx := Program × Launch × Env × Room × State × MethodId × Array Value × List Frame × Method × Code × State × Nat × (Option Value → Heap → Prop) × (Outcome → State → List Loc → Prop)
def Cx.p (k : Cx) : Program := k.1
def Cx.l (k : Cx) : Launch := k.2.1
def Cx.e (k : Cx) : Env := k.2.2.1
def Cx.R (k : Cx) : Room := k.2.2.2.1
def Cx.s (k : Cx) : State := k.2.2.2.2.1
def Cx.m (k : Cx) : MethodId := k.2.2.2.2.2.1
def Cx.args (k : Cx) : Array Value := k.2.2.2.2.2.2.1
def Cx.below (k : Cx) : List Frame := k.2.2.2.2.2.2.2.1
def Cx.meth (k : Cx) : Method := k.2.2.2.2.2.2.2.2.1
def Cx.c (k : Cx) : Code := k.2.2.2.2.2.2.2.2.2.1
def Cx.Z (k : Cx) : State := k.2.2.2.2.2.2.2.2.2.2.1
def Cx.n0 (k : Cx) : Nat := k.2.2.2.2.2.2.2.2.2.2.2.1
def Cx.Q (k : Cx) : Option Value → Heap → Prop := k.2.2.2.2.2.2.2.2.2.2.2.2.1
/-- what the body's end must say of the frame -/
def Cx.Fin (k : Cx) : Outcome → State → List Loc → Prop := k.2.2.2.2.2.2.2.2.2.2.2.2.2
def Cx.St (k : Cx) (T : State) (locs : List Loc) (cells slots : Nat) : Prop := Stand k.p k.l k.e k.R k.s k.m k.args k.below k.meth k.c T locs cells slots
def Cx.Go (k : Cx) (a t : State) : Prop := Steps k.p.tables k.e k.below a t
def Cx.End (k : Cx) (a : State) : Prop := ∃ s₂ o, Steps k.p.tables k.e k.below a s₂ ∧ s₂.status = .running ∧ Ended s₂ k.below o ∧ ∃ v L, o = .returned v ∧ (k.Q v s₂.heap ∧ Fr k.n0 L) ∧ k.Fin o s₂ L
/-- from here the body runs to its end and leaves what Q says -/
def WP (k : Cx) (h : Heap) (cells slots pc : Nat) (ls : List Slot) (st : List Value) : Prop :=
  ∀ (T : State) (locs : List Loc), k.St T locs cells slots → T.heap = h → Fr k.n0 locs → k.End (T.setTop (mkF k.m pc ls.toArray st))
def Ok (k : Cx) (l : Launch) (Z : State) (n0 : Nat) (rm : Room) (bytes : ByteArray) (maxL : Nat) (y : MethodName) (ret : Option FieldType) (Q : Option Value → Heap → Prop) : Prop :=
  k.p.tables.exec = Jvm.exec ∧ Z.Warmed39 k.s.vm ∧ k.R = rm ∧ k.c.code = bytes ∧ k.c.maxLocals = maxL ∧ k.s.vm.findClass y.cls = some k.m.cls ∧ k.meth.sig.returnType = ret ∧ k.meth.locks = false ∧ k.meth.name = y.name ∧ k.l = l ∧ k.Z = Z ∧ k.n0 = n0 ∧ (∀ v h, Q v h → k.Q v h) ∧ ∀ v s₂ L, Q v s₂.heap → FrameEnd k.s (.returned v) s₂ L k.R.cells k.R.slots → k.Fin (.returned v) s₂ L
section Base
variable {k : Cx} {l : Launch} {Z : State} {n0 : Nat} {rm : Room} {bytes : ByteArray} {maxL : Nat} {y : MethodName} {ret : Option FieldType} {Q : Option Value → Heap → Prop}
theorem Ok.hx (K : Ok k l Z n0 rm bytes maxL y ret Q) : k.p.tables.exec = Jvm.exec := K.1
theorem Ok.hZ (K : Ok k l Z n0 rm bytes maxL y ret Q) : Z.Warmed39 k.s.vm := K.2.1
theorem Ok.hR (K : Ok k l Z n0 rm bytes maxL y ret Q) : k.R = rm := K.2.2.1
theorem Ok.hby (K : Ok k l Z n0 rm bytes maxL y ret Q) : k.c.code = bytes := K.2.2.2.1
theorem Ok.hml (K : Ok k l Z n0 rm bytes maxL y ret Q) : k.c.maxLocals = maxL := K.2.2.2.2.1
theorem Ok.hown (K : Ok k l Z n0 rm bytes maxL y ret Q) : k.s.vm.findClass y.cls = some k.m.cls := K.2.2.2.2.2.1
theorem Ok.hret (K : Ok k l Z n0 rm bytes maxL y ret Q) : k.meth.sig.returnType = ret := K.2.2.2.2.2.2.1
theorem Ok.hlk (K : Ok k l Z n0 rm bytes maxL y ret Q) : k.meth.locks = false := K.2.2.2.2.2.2.2.1
theorem Ok.hnm (K : Ok k l Z n0 rm bytes maxL y ret Q) : k.meth.name = y.name := K.2.2.2.2.2.2.2.2.1
theorem Ok.hl (K : Ok k l Z n0 rm bytes maxL y ret Q) : k.l = l := K.2.2.2.2.2.2.2.2.2.1
theorem Ok.hZe (K : Ok k l Z n0 rm bytes maxL y ret Q) : k.Z = Z := K.2.2.2.2.2.2.2.2.2.2.1
theorem Ok.hn0 (K : Ok k l Z n0 rm bytes maxL y ret Q) : k.n0 = n0 := K.2.2.2.2.2.2.2.2.2.2.2.1
theorem Ok.hQ (K : Ok k l Z n0 rm bytes maxL y ret Q) : ∀ v h, Q v h → k.Q v h := K.2.2.2.2.2.2.2.2.2.2.2.2.1
theorem Ok.hfin (K : Ok k l Z n0 rm bytes maxL y ret Q) : ∀ v s₂ L, Q v s₂.heap → FrameEnd k.s (.returned v) s₂ L k.R.cells k.R.slots → k.Fin (.returned v) s₂ L := K.2.2.2.2.2.2.2.2.2.2.2.2.2
theorem Ok.dec (K : Ok k l Z n0 rm bytes maxL y ret Q) {pc : Nat} {r : Except DecodeError (Instr × Nat)} (h : decode bytes pc = r) : decode k.c.code pc = r := hb K.hby h
theorem End.back {a b : State} (st : ∀ t, k.Go b t → k.Go a t) (w : k.End b) : k.End a := by
  obtain ⟨s2, o, h1, r⟩ := w
  exact ⟨s2, o, st _ h1, r⟩
theorem arrGet {ls : List Slot} {i : Nat} {o : Slot} (h : ls[i]? = some o) : ls.toArray[i]? = some o := by simpa using h
variable {h : Heap} {cells slots pc : Nat} {ls : List Slot} {st : List Value}
theorem WP.plain {pc' : Nat} {ls' : List Slot} {st' : List Value} (hs : ∀ T, At T k.m k.c k.below → ∀ t, Steps k.p.tables k.e k.below (T.setTop (mkF k.m pc' ls'.toArray st')) t → Steps k.p.tables k.e k.below (T.setTop (mkF k.m pc ls.toArray st)) t)
    (w : WP k h cells slots pc' ls' st') : WP k h cells slots pc ls st := fun T locs X e N => End.back (fun t q => hs T X.here t q) (w T locs X e N)
theorem WP.mono {cells' slots' : Nat} (hc : cells ≤ cells') (hs : slots ≤ slots') (w : WP k h cells' slots' pc ls st) : WP k h cells slots pc ls st := fun T locs X e N =>
  w T locs { X with same := X.same.mono hc hs } e N
theorem WP.cast {pc' : Nat} {ls' : List Slot} {st' : List Value} {h' : Heap} (w : WP k h' cells slots pc' ls' st') (e1 : h' = h) (e2 : pc' = pc) (e3 : ls' = ls) (e4 : st' = st) : WP k h cells slots pc ls st := by subst e1 e2 e3 e4; exact w
/-- the contract of a body, at given arguments and a given heap -/
def Con (l : Launch) (Z : State) (y : MethodName) (bytes : ByteArray) (maxL : Nat) (ret : Option FieldType) (rm : Room) (n0 : Nat) (as : Array Value) (h0 : Heap) (Q : Option Value → Heap → Prop) : Prop :=
  ∀ ws, MetFree l y (head1 (Jvm.Cond.code y bytes maxL ret :: ws) rm) (fun a U => a = as ∧ Z.Warmed39 U.vm ∧ U.heap = h0) (fun _ _ _ _ _ => True) (fun _ U o U' => ∃ v L, o = .returned v ∧ (Q v U'.heap ∧ Fr n0 L) ∧ FrameEnd U o U' L rm.cells rm.slots)
def R1 (Q : Value → Heap → Prop) : Option Value → Heap → Prop := fun v h => ∃ r, v = some r ∧ Q r h
def R0 (Q : Heap → Prop) : Option Value → Heap → Prop := fun v h => v = none ∧ Q h
theorem Con.of {as : Array Value} {h0 : Heap} (hp : plainFor y = true) (he : ∀ m, entryFrame m as maxL = mkF m 0 ls.toArray [])
    (hwp : ∀ k, Ok k l Z n0 rm bytes maxL y ret Q → WP k h0 0 0 0 ls []) : Con l Z y bytes maxL ret rm n0 as h0 Q := by
  intro ws
  refine MetFree.of_bodySF hp hisR ?_
  intro p e s m args below meth c s₁ Bd hml0 hP hK
  obtain ⟨rfl, hZ, hh⟩ := hP
  have X0 : Stand p l e rm s m args below meth c s₁ [] 0 0 := Stand.of_body Bd
  have e0 : s₁.heap = h0 := by rw [← hh, Bd.state]; rfl
  have w := hwp (p, l, e, rm, s, m, args, below, meth, c, Z, n0, Q, fun o s₂ L => FrameEnd s o s₂ L rm.cells rm.slots) ⟨Bd.exec, hZ, rfl, Bd.bytes, hml0, findClass_of_methodNamed Bd.named, Bd.returns, Bd.notSynchronized, (name_of_methodNamed Bd.named Bd.method).1, rfl, rfl, rfl, fun _ _ q => q, fun _ _ _ _ q => q⟩ s₁ [] X0 e0 (Fr.nil n0)
  obtain ⟨s2, o, h1, h2, h3, h4⟩ := w
  exact ⟨s2, o, castTop (he m) h1, h2, h3, h4⟩
theorem Con.mono {as : Array Value} {h0 : Heap} {Q' : Option Value → Heap → Prop} (C : Con l Z y bytes maxL ret rm n0 as h0 Q) (hq : ∀ v h, Q v h → Q' v h) : Con l Z y bytes maxL ret rm n0 as h0 Q' := by
  intro ws p e ha hc hk s m args below hf happ hP hK
  obtain ⟨n, o, h1, h2, h3, v, L, e1, q, r⟩ := C ws p e ha hc hk s m args below hf happ hP hK
  exact ⟨n, o, h1, h2, h3, v, L, e1, ⟨hq _ _ q.1, q.2⟩, r⟩
end Base
section Plain
variable {k : Cx} {l : Launch} {Z : State} {n0 : Nat} {rm : Room} {bytes : ByteArray} {maxL : Nat} {y : MethodName} {ret : Option FieldType} {Q : Option Value → Heap → Prop} {h : Heap} {cells slots pc : Nat} {ls : List Slot} {st : List Value}

theorem WP.iload (K : Ok k l Z n0 rm bytes maxL y ret Q) {i : Nat} {v : Int32} (pc' : Nat) (hd : decode bytes pc = .ok (.iload i, 2)) (hp : pc + 2 = pc') (hl : ls[i]? = some (.val (.int v))) (w : WP k h cells slots pc' ls (.int v :: st)) : WP k h cells slots pc ls st := by
  subst hp; exact w.plain fun T A t q => XS.iload A K.hx rfl (K.dec hd) (arrGet hl) q
theorem WP.iloadN (K : Ok k l Z n0 rm bytes maxL y ret Q) {i : Fin 4} {v : Int32} (pc' : Nat) (hd : decode bytes pc = .ok (.iload_n i, 1)) (hp : pc + 1 = pc') (hl : ls[i.val]? = some (.val (.int v))) (w : WP k h cells slots pc' ls (.int v :: st)) : WP k h cells slots pc ls st := by
  subst hp; exact w.plain fun T A t q => XS.iloadN A K.hx rfl (K.dec hd) (arrGet hl) q
theorem WP.lload (K : Ok k l Z n0 rm bytes maxL y ret Q) {i : Nat} {v : Int64} (pc' : Nat) (hd : decode bytes pc = .ok (.lload i, 2)) (hp : pc + 2 = pc') (hl : ls[i]? = some (.val (.long v))) (w : WP k h cells slots pc' ls (.long v :: st)) : WP k h cells slots pc ls st := by
  subst hp; exact w.plain fun T A t q => XT.lload A K.hx rfl (K.dec hd) (arrGet hl) q
theorem WP.lloadN (K : Ok k l Z n0 rm bytes maxL y ret Q) {i : Fin 4} {v : Int64} (pc' : Nat) (hd : decode bytes pc = .ok (.lload_n i, 1)) (hp : pc + 1 = pc') (hl : ls[i.val]? = some (.val (.long v))) (w : WP k h cells slots pc' ls (.long v :: st)) : WP k h cells slots pc ls st := by
  subst hp; exact w.plain fun T A t q => XT.lloadN A K.hx rfl (K.dec hd) (arrGet hl) q
theorem WP.aload (K : Ok k l Z n0 rm bytes maxL y ret Q) {i : Nat} {v : Value} (pc' : Nat) (hd : decode bytes pc = .ok (.aload i, 2)) (hp : pc + 2 = pc') (hl : ls[i]? = some (.val (v))) (hv : v.isRef = true) (w : WP k h cells slots pc' ls (v :: st)) : WP k h cells slots pc ls st := by
  subst hp; exact w.plain fun T A t q => XS.aload A K.hx rfl (K.dec hd) (arrGet hl) hv q
theorem WP.aloadN (K : Ok k l Z n0 rm bytes maxL y ret Q) {i : Fin 4} {v : Value} (pc' : Nat) (hd : decode bytes pc = .ok (.aload_n i, 1)) (hp : pc + 1 = pc') (hl : ls[i.val]? = some (.val (v))) (hv : v.isRef = true) (w : WP k h cells slots pc' ls (v :: st)) : WP k h cells slots pc ls st := by
  subst hp; exact w.plain fun T A t q => XS.aloadN A K.hx rfl (K.dec hd) (arrGet hl) hv q
theorem WP.istore (K : Ok k l Z n0 rm bytes maxL y ret Q) {i : Nat} {v : Int32} (pc' : Nat) (ls' : List Slot) (hd : decode bytes pc = .ok (.istore i, 2)) (hp : pc + 2 = pc') (hl : storeLocals ls.toArray i (.int v) = some ls'.toArray) (w : WP k h cells slots pc' ls' st) : WP k h cells slots pc ls (.int v :: st) := by
  subst hp; exact w.plain fun T A t q => XS.istore A K.hx rfl (K.dec hd) rfl hl q
theorem WP.istoreN (K : Ok k l Z n0 rm bytes maxL y ret Q) {i : Fin 4} {v : Int32} (pc' : Nat) (ls' : List Slot) (hd : decode bytes pc = .ok (.istore_n i, 1)) (hp : pc + 1 = pc') (hl : storeLocals ls.toArray i.val (.int v) = some ls'.toArray) (w : WP k h cells slots pc' ls' st) : WP k h cells slots pc ls (.int v :: st) := by
  subst hp; exact w.plain fun T A t q => XS.istoreN A K.hx rfl (K.dec hd) rfl hl q
theorem WP.lstore (K : Ok k l Z n0 rm bytes maxL y ret Q) {i : Nat} {v : Int64} (pc' : Nat) (ls' : List Slot) (hd : decode bytes pc = .ok (.lstore i, 2)) (hp : pc + 2 = pc') (hl : storeLocals ls.toArray i (.long v) = some ls'.toArray) (w : WP k h cells slots pc' ls' st) : WP k h cells slots pc ls (.long v :: st) := by
  subst hp; exact w.plain fun T A t q => XT.lstore A K.hx rfl (K.dec hd) rfl hl q
theorem WP.lstoreN (K : Ok k l Z n0 rm bytes maxL y ret Q) {i : Fin 4} {v : Int64} (pc' : Nat) (ls' : List Slot) (hd : decode bytes pc = .ok (.lstore_n i, 1)) (hp : pc + 1 = pc') (hl : storeLocals ls.toArray i.val (.long v) = some ls'.toArray) (w : WP k h cells slots pc' ls' st) : WP k h cells slots pc ls (.long v :: st) := by
  subst hp; exact w.plain fun T A t q => XT.lstoreN A K.hx rfl (K.dec hd) rfl hl q
theorem WP.astore (K : Ok k l Z n0 rm bytes maxL y ret Q) {i : Nat} {v : Value} (pc' : Nat) (ls' : List Slot) (hd : decode bytes pc = .ok (.astore i, 2)) (hp : pc + 2 = pc') (hv : v.isRef = true) (hl : storeLocals ls.toArray i (v) = some ls'.toArray) (w : WP k h cells slots pc' ls' st) : WP k h cells slots pc ls (v :: st) := by
  subst hp; exact w.plain fun T A t q => XS.astore A K.hx rfl (K.dec hd) rfl hv hl q
theorem WP.astoreN (K : Ok k l Z n0 rm bytes maxL y ret Q) {i : Fin 4} {v : Value} (pc' : Nat) (ls' : List Slot) (hd : decode bytes pc = .ok (.astore_n i, 1)) (hp : pc + 1 = pc') (hv : v.isRef = true) (hl : storeLocals ls.toArray i.val (v) = some ls'.toArray) (w : WP k h cells slots pc' ls' st) : WP k h cells slots pc ls (v :: st) := by
  subst hp; exact w.plain fun T A t q => XS.astoreN A K.hx rfl (K.dec hd) rfl hv hl q
theorem WP.iconst (K : Ok k l Z n0 rm bytes maxL y ret Q) {i : Int} (v : Int32) (pc' : Nat) (hd : decode bytes pc = .ok (.iconst i, 1)) (hp : pc + 1 = pc') (hv : Int32.ofInt i = v) (w : WP k h cells slots pc' ls (.int v :: st)) : WP k h cells slots pc ls st := by
  subst hp; exact w.plain fun T A t q => XT.iconstV A K.hx rfl v (K.dec hd) hv q
theorem WP.bipush (K : Ok k l Z n0 rm bytes maxL y ret Q) {i : Int} (v : Int32) (pc' : Nat) (hd : decode bytes pc = .ok (.bipush i, 2)) (hp : pc + 2 = pc') (hv : (Int8.ofInt i).toInt32 = v) (w : WP k h cells slots pc' ls (.int v :: st)) : WP k h cells slots pc ls st := by
  subst hp; exact w.plain fun T A t q => XT.bipushV A K.hx rfl v (K.dec hd) hv q
theorem WP.sipush (K : Ok k l Z n0 rm bytes maxL y ret Q) {i : Int} (v : Int32) (pc' : Nat) (hd : decode bytes pc = .ok (.sipush i, 3)) (hp : pc + 3 = pc') (hv : (Int16.ofInt i).toInt32 = v) (w : WP k h cells slots pc' ls (.int v :: st)) : WP k h cells slots pc ls st := by
  subst hp; exact w.plain fun T A t q => XT.sipushV A K.hx rfl v (K.dec hd) hv q
theorem WP.lconst (K : Ok k l Z n0 rm bytes maxL y ret Q) {i : Fin 2} (v : Int64) (pc' : Nat) (hd : decode bytes pc = .ok (.lconst i, 1)) (hp : pc + 1 = pc') (hv : Int64.ofNat i = v) (w : WP k h cells slots pc' ls (.long v :: st)) : WP k h cells slots pc ls st := by
  subst hp; exact w.plain fun T A t q => XT.lconstV A K.hx rfl v (K.dec hd) hv q
theorem WP.aconstNull (K : Ok k l Z n0 rm bytes maxL y ret Q) (pc' : Nat) (hd : decode bytes pc = .ok (.aconst_null, 1)) (hp : pc + 1 = pc') (w : WP k h cells slots pc' ls (.null :: st)) : WP k h cells slots pc ls st := by
  subst hp; exact w.plain fun T A t q => XS.aconstNull A K.hx rfl (K.dec hd) q
theorem WP.iadd (K : Ok k l Z n0 rm bytes maxL y ret Q) {x : Int32} {z : Int32} (pc' : Nat) (hd : decode bytes pc = .ok (.iadd, 1)) (hp : pc + 1 = pc') (w : WP k h cells slots pc' ls (.int (x + z) :: st)) : WP k h cells slots pc ls (.int z :: .int x :: st) := by
  subst hp; exact w.plain fun T A t q => XS.iadd A K.hx rfl (K.dec hd) rfl q
theorem WP.isub (K : Ok k l Z n0 rm bytes maxL y ret Q) {x : Int32} {z : Int32} (pc' : Nat) (hd : decode bytes pc = .ok (.isub, 1)) (hp : pc + 1 = pc') (w : WP k h cells slots pc' ls (.int (x - z) :: st)) : WP k h cells slots pc ls (.int z :: .int x :: st) := by
  subst hp; exact w.plain fun T A t q => XS.isub A K.hx rfl (K.dec hd) rfl q
theorem WP.imul (K : Ok k l Z n0 rm bytes maxL y ret Q) {x : Int32} {z : Int32} (pc' : Nat) (hd : decode bytes pc = .ok (.imul, 1)) (hp : pc + 1 = pc') (w : WP k h cells slots pc' ls (.int (x * z) :: st)) : WP k h cells slots pc ls (.int z :: .int x :: st) := by
  subst hp; exact w.plain fun T A t q => XS.imul A K.hx rfl (K.dec hd) rfl q
theorem WP.iand (K : Ok k l Z n0 rm bytes maxL y ret Q) {x : Int32} {z : Int32} (pc' : Nat) (hd : decode bytes pc = .ok (.iand, 1)) (hp : pc + 1 = pc') (w : WP k h cells slots pc' ls (.int (x &&& z) :: st)) : WP k h cells slots pc ls (.int z :: .int x :: st) := by
  subst hp; exact w.plain fun T A t q => XS.iand A K.hx rfl (K.dec hd) rfl q
theorem WP.ior (K : Ok k l Z n0 rm bytes maxL y ret Q) {x : Int32} {z : Int32} (pc' : Nat) (hd : decode bytes pc = .ok (.ior, 1)) (hp : pc + 1 = pc') (w : WP k h cells slots pc' ls (.int (x ||| z) :: st)) : WP k h cells slots pc ls (.int z :: .int x :: st) := by
  subst hp; exact w.plain fun T A t q => XT.ior A K.hx rfl (K.dec hd) rfl q
theorem WP.ixor (K : Ok k l Z n0 rm bytes maxL y ret Q) {x : Int32} {z : Int32} (pc' : Nat) (hd : decode bytes pc = .ok (.ixor, 1)) (hp : pc + 1 = pc') (w : WP k h cells slots pc' ls (.int (x ^^^ z) :: st)) : WP k h cells slots pc ls (.int z :: .int x :: st) := by
  subst hp; exact w.plain fun T A t q => XT.ixor A K.hx rfl (K.dec hd) rfl q
theorem WP.ishl (K : Ok k l Z n0 rm bytes maxL y ret Q) {x : Int32} {z : Int32} (pc' : Nat) (hd : decode bytes pc = .ok (.ishl, 1)) (hp : pc + 1 = pc') (w : WP k h cells slots pc' ls (.int (x <<< (z &&& 31)) :: st)) : WP k h cells slots pc ls (.int z :: .int x :: st) := by
  subst hp; exact w.plain fun T A t q => XT.ishl A K.hx rfl (K.dec hd) rfl q
theorem WP.ishr (K : Ok k l Z n0 rm bytes maxL y ret Q) {x : Int32} {z : Int32} (pc' : Nat) (hd : decode bytes pc = .ok (.ishr, 1)) (hp : pc + 1 = pc') (w : WP k h cells slots pc' ls (.int (x >>> (z &&& 31)) :: st)) : WP k h cells slots pc ls (.int z :: .int x :: st) := by
  subst hp; exact w.plain fun T A t q => XT.ishr A K.hx rfl (K.dec hd) rfl q
theorem WP.iushr (K : Ok k l Z n0 rm bytes maxL y ret Q) {x : Int32} {z : Int32} (pc' : Nat) (hd : decode bytes pc = .ok (.iushr, 1)) (hp : pc + 1 = pc') (w : WP k h cells slots pc' ls (.int (XT.ushr x z) :: st)) : WP k h cells slots pc ls (.int z :: .int x :: st) := by
  subst hp; exact w.plain fun T A t q => XT.iushr A K.hx rfl (K.dec hd) rfl q
theorem WP.ladd (K : Ok k l Z n0 rm bytes maxL y ret Q) {x : Int64} {z : Int64} (pc' : Nat) (hd : decode bytes pc = .ok (.ladd, 1)) (hp : pc + 1 = pc') (w : WP k h cells slots pc' ls (.long (x + z) :: st)) : WP k h cells slots pc ls (.long z :: .long x :: st) := by
  subst hp; exact w.plain fun T A t q => XT.ladd A K.hx rfl (K.dec hd) rfl q
theorem WP.lsub (K : Ok k l Z n0 rm bytes maxL y ret Q) {x : Int64} {z : Int64} (pc' : Nat) (hd : decode bytes pc = .ok (.lsub, 1)) (hp : pc + 1 = pc') (w : WP k h cells slots pc' ls (.long (x - z) :: st)) : WP k h cells slots pc ls (.long z :: .long x :: st) := by
  subst hp; exact w.plain fun T A t q => XT.lsub A K.hx rfl (K.dec hd) rfl q
theorem WP.lmul (K : Ok k l Z n0 rm bytes maxL y ret Q) {x : Int64} {z : Int64} (pc' : Nat) (hd : decode bytes pc = .ok (.lmul, 1)) (hp : pc + 1 = pc') (w : WP k h cells slots pc' ls (.long (x * z) :: st)) : WP k h cells slots pc ls (.long z :: .long x :: st) := by
  subst hp; exact w.plain fun T A t q => XT.lmul A K.hx rfl (K.dec hd) rfl q
theorem WP.land (K : Ok k l Z n0 rm bytes maxL y ret Q) {x : Int64} {z : Int64} (pc' : Nat) (hd : decode bytes pc = .ok (.land, 1)) (hp : pc + 1 = pc') (w : WP k h cells slots pc' ls (.long (x &&& z) :: st)) : WP k h cells slots pc ls (.long z :: .long x :: st) := by
  subst hp; exact w.plain fun T A t q => XT.land A K.hx rfl (K.dec hd) rfl q
theorem WP.lor (K : Ok k l Z n0 rm bytes maxL y ret Q) {x : Int64} {z : Int64} (pc' : Nat) (hd : decode bytes pc = .ok (.lor, 1)) (hp : pc + 1 = pc') (w : WP k h cells slots pc' ls (.long (x ||| z) :: st)) : WP k h cells slots pc ls (.long z :: .long x :: st) := by
  subst hp; exact w.plain fun T A t q => XT.lor A K.hx rfl (K.dec hd) rfl q
theorem WP.lxor (K : Ok k l Z n0 rm bytes maxL y ret Q) {x : Int64} {z : Int64} (pc' : Nat) (hd : decode bytes pc = .ok (.lxor, 1)) (hp : pc + 1 = pc') (w : WP k h cells slots pc' ls (.long (x ^^^ z) :: st)) : WP k h cells slots pc ls (.long z :: .long x :: st) := by
  subst hp; exact w.plain fun T A t q => XT.lxor A K.hx rfl (K.dec hd) rfl q
theorem WP.lshl (K : Ok k l Z n0 rm bytes maxL y ret Q) {x : Int64} {z : Int32} (pc' : Nat) (hd : decode bytes pc = .ok (.lshl, 1)) (hp : pc + 1 = pc') (w : WP k h cells slots pc' ls (.long (x <<< (z.toInt64 &&& 63)) :: st)) : WP k h cells slots pc ls (.int z :: .long x :: st) := by
  subst hp; exact w.plain fun T A t q => XT.lshl A K.hx rfl (K.dec hd) rfl q
theorem WP.lshr (K : Ok k l Z n0 rm bytes maxL y ret Q) {x : Int64} {z : Int32} (pc' : Nat) (hd : decode bytes pc = .ok (.lshr, 1)) (hp : pc + 1 = pc') (w : WP k h cells slots pc' ls (.long (x >>> (z.toInt64 &&& 63)) :: st)) : WP k h cells slots pc ls (.int z :: .long x :: st) := by
  subst hp; exact w.plain fun T A t q => XT.lshr A K.hx rfl (K.dec hd) rfl q
theorem WP.lushr (K : Ok k l Z n0 rm bytes maxL y ret Q) {x : Int64} {z : Int32} (pc' : Nat) (hd : decode bytes pc = .ok (.lushr, 1)) (hp : pc + 1 = pc') (w : WP k h cells slots pc' ls (.long (XT.ushrL x z) :: st)) : WP k h cells slots pc ls (.int z :: .long x :: st) := by
  subst hp; exact w.plain fun T A t q => XT.lushr A K.hx rfl (K.dec hd) rfl q
theorem WP.lcmp (K : Ok k l Z n0 rm bytes maxL y ret Q) {x : Int64} {z : Int64} (pc' : Nat) (hd : decode bytes pc = .ok (.lcmp, 1)) (hp : pc + 1 = pc') (w : WP k h cells slots pc' ls (.int (XT.cmpL x z) :: st)) : WP k h cells slots pc ls (.long z :: .long x :: st) := by
  subst hp; exact w.plain fun T A t q => XT.lcmp A K.hx rfl (K.dec hd) rfl q
theorem WP.idiv (K : Ok k l Z n0 rm bytes maxL y ret Q) {x z : Int32} (pc' : Nat) (hd : decode bytes pc = .ok (.idiv, 1)) (hp : pc + 1 = pc') (hz : z ≠ 0) (w : WP k h cells slots pc' ls (.int (x / z) :: st)) : WP k h cells slots pc ls (.int z :: .int x :: st) := by
  subst hp; exact w.plain fun T A t q => XS.idiv A K.hx rfl (K.dec hd) rfl hz q
theorem WP.irem (K : Ok k l Z n0 rm bytes maxL y ret Q) {x z : Int32} (pc' : Nat) (hd : decode bytes pc = .ok (.irem, 1)) (hp : pc + 1 = pc') (hz : z ≠ 0) (w : WP k h cells slots pc' ls (.int (x % z) :: st)) : WP k h cells slots pc ls (.int z :: .int x :: st) := by
  subst hp; rw [← irem_eq_mod] at w; exact w.plain fun T A t q => XS.irem A K.hx rfl (K.dec hd) rfl hz q
theorem WP.ineg (K : Ok k l Z n0 rm bytes maxL y ret Q) {x : Int32} (pc' : Nat) (hd : decode bytes pc = .ok (.ineg, 1)) (hp : pc + 1 = pc') (w : WP k h cells slots pc' ls (.int (-x) :: st)) : WP k h cells slots pc ls (.int x :: st) := by
  subst hp; exact w.plain fun T A t q => XS.ineg A K.hx rfl (K.dec hd) rfl q
theorem WP.lneg (K : Ok k l Z n0 rm bytes maxL y ret Q) {x : Int64} (pc' : Nat) (hd : decode bytes pc = .ok (.lneg, 1)) (hp : pc + 1 = pc') (w : WP k h cells slots pc' ls (.long (-x) :: st)) : WP k h cells slots pc ls (.long x :: st) := by
  subst hp; exact w.plain fun T A t q => XT.lneg A K.hx rfl (K.dec hd) rfl q
theorem WP.i2l (K : Ok k l Z n0 rm bytes maxL y ret Q) {x : Int32} (pc' : Nat) (hd : decode bytes pc = .ok (.i2l, 1)) (hp : pc + 1 = pc') (w : WP k h cells slots pc' ls (.long x.toInt64 :: st)) : WP k h cells slots pc ls (.int x :: st) := by
  subst hp; exact w.plain fun T A t q => XT.i2l A K.hx rfl (K.dec hd) rfl q
theorem WP.l2i (K : Ok k l Z n0 rm bytes maxL y ret Q) {x : Int64} (pc' : Nat) (hd : decode bytes pc = .ok (.l2i, 1)) (hp : pc + 1 = pc') (w : WP k h cells slots pc' ls (.int x.toInt32 :: st)) : WP k h cells slots pc ls (.long x :: st) := by
  subst hp; exact w.plain fun T A t q => XT.l2i A K.hx rfl (K.dec hd) rfl q
theorem WP.i2b (K : Ok k l Z n0 rm bytes maxL y ret Q) {x : Int32} (pc' : Nat) (hd : decode bytes pc = .ok (.i2b, 1)) (hp : pc + 1 = pc') (w : WP k h cells slots pc' ls (.int x.toInt8.toInt32 :: st)) : WP k h cells slots pc ls (.int x :: st) := by
  subst hp; exact w.plain fun T A t q => XT.i2b A K.hx rfl (K.dec hd) rfl q
theorem WP.i2c (K : Ok k l Z n0 rm bytes maxL y ret Q) {x : Int32} (pc' : Nat) (hd : decode bytes pc = .ok (.i2c, 1)) (hp : pc + 1 = pc') (w : WP k h cells slots pc' ls (.int x.toUInt32.toUInt16.toUInt32.toInt32 :: st)) : WP k h cells slots pc ls (.int x :: st) := by
  subst hp; exact w.plain fun T A t q => XT.i2c A K.hx rfl (K.dec hd) rfl q
theorem WP.i2s (K : Ok k l Z n0 rm bytes maxL y ret Q) {x : Int32} (pc' : Nat) (hd : decode bytes pc = .ok (.i2s, 1)) (hp : pc + 1 = pc') (w : WP k h cells slots pc' ls (.int x.toInt16.toInt32 :: st)) : WP k h cells slots pc ls (.int x :: st) := by
  subst hp; exact w.plain fun T A t q => XT.i2s A K.hx rfl (K.dec hd) rfl q
theorem WP.dup (K : Ok k l Z n0 rm bytes maxL y ret Q) {x : Value} (pc' : Nat) (hd : decode bytes pc = .ok (.dup, 1)) (hp : pc + 1 = pc') (hc : x.category = 1) (w : WP k h cells slots pc' ls (x :: x :: st)) : WP k h cells slots pc ls (x :: st) := by
  subst hp; exact w.plain fun T A t q => XS.dup A K.hx rfl (K.dec hd) rfl hc q
theorem WP.pop (K : Ok k l Z n0 rm bytes maxL y ret Q) {x : Value} (pc' : Nat) (hd : decode bytes pc = .ok (.pop, 1)) (hp : pc + 1 = pc') (hc : x.category = 1) (w : WP k h cells slots pc' ls st) : WP k h cells slots pc ls (x :: st) := by
  subst hp; exact w.plain fun T A t q => XT.pop A K.hx rfl (K.dec hd) rfl hc q
theorem WP.dupX1 (K : Ok k l Z n0 rm bytes maxL y ret Q) {x z : Value} (pc' : Nat) (hd : decode bytes pc = .ok (.dup_x1, 1)) (hp : pc + 1 = pc') (hc : x.category = 1) (hc' : z.category = 1) (w : WP k h cells slots pc' ls (x :: z :: x :: st)) : WP k h cells slots pc ls (x :: z :: st) := by
  subst hp; exact w.plain fun T A t q => XT.dupX1 A K.hx rfl (K.dec hd) rfl hc hc' q
theorem WP.dup2 (K : Ok k l Z n0 rm bytes maxL y ret Q) {x z : Value} (pc' : Nat) (hd : decode bytes pc = .ok (.dup2, 1)) (hp : pc + 1 = pc') (hc : x.category = 1) (hc' : z.category = 1) (w : WP k h cells slots pc' ls (x :: z :: x :: z :: st)) : WP k h cells slots pc ls (x :: z :: st) := by
  subst hp; exact w.plain fun T A t q => XT.dup2 A K.hx rfl (K.dec hd) rfl hc hc' q
theorem WP.dup2L (K : Ok k l Z n0 rm bytes maxL y ret Q) {x : Int64} (pc' : Nat) (hd : decode bytes pc = .ok (.dup2, 1)) (hp : pc + 1 = pc') (w : WP k h cells slots pc' ls (.long x :: .long x :: st)) : WP k h cells slots pc ls (.long x :: st) := by
  subst hp; exact w.plain fun T A t q => XT.dup2L A K.hx rfl (K.dec hd) rfl q
theorem WP.iinc (K : Ok k l Z n0 rm bytes maxL y ret Q) {i : Nat} {cst : Int} {x : Int32} (v : Int32) (pc' : Nat) (ls' : List Slot) (hd : decode bytes pc = .ok (.iinc i cst, 3)) (hp : pc + 3 = pc') (hv : Int32.ofInt cst = v) (hl : ls[i]? = some (.val (.int x))) (hl' : storeLocals ls.toArray i (.int (x + v)) = some ls'.toArray) (w : WP k h cells slots pc' ls' st) : WP k h cells slots pc ls st := by
  subst hp; exact w.plain fun T A t q => XT.iincV A K.hx rfl v (K.dec hd) hv (arrGet hl) hl' q
theorem WP.goto (K : Ok k l Z n0 rm bytes maxL y ret Q) {o : Int} (pc' : Nat) (hd : decode bytes pc = .ok (.goto o, 3)) (hp : (pc : Int) + o = pc') (w : WP k h cells slots pc' ls st) : WP k h cells slots pc ls st :=
  w.plain fun T A t q => XS.goto A K.hx rfl (pc0 := pc) (pc' := pc') rfl (K.dec hd) (by omega) (by omega) q
theorem WP.icmp (K : Ok k l Z n0 rm bytes maxL y ret Q) {cd : ClassFile.Cond} {o : Int} {x z : Int32} (tp fp : Nat) (hd : decode bytes pc = .ok (.if_icmp cd o, 3)) (ht : (pc : Int) + o = tp) (hf : pc + 3 = fp)
    (wt : if_icmp.holds cd x z = true → WP k h cells slots tp ls st) (wf : if_icmp.holds cd x z = false → WP k h cells slots fp ls st) : WP k h cells slots pc ls (.int z :: .int x :: st) := by
  subst hf
  cases hh : if_icmp.holds cd x z
  · exact (wf hh).plain fun T A t q => XS.icmpNo A K.hx rfl (K.dec hd) rfl hh q
  · exact (wt hh).plain fun T A t q => XS.icmpYes A K.hx rfl (pc0 := pc) (pc' := tp) rfl (K.dec hd) rfl hh (by omega) (by omega) q
theorem WP.if0 (K : Ok k l Z n0 rm bytes maxL y ret Q) {cd : ClassFile.Cond} {o : Int} {x : Int32} (tp fp : Nat) (hd : decode bytes pc = .ok (.ifCond cd o, 3)) (ht : (pc : Int) + o = tp) (hf : pc + 3 = fp)
    (wt : ifCond.holds cd x = true → WP k h cells slots tp ls st) (wf : ifCond.holds cd x = false → WP k h cells slots fp ls st) : WP k h cells slots pc ls (.int x :: st) := by
  subst hf
  cases hh : ifCond.holds cd x
  · exact (wf hh).plain fun T A t q => XS.ifNo A K.hx rfl (K.dec hd) rfl hh q
  · exact (wt hh).plain fun T A t q => XS.ifYes A K.hx rfl (pc0 := pc) (pc' := tp) rfl (K.dec hd) rfl hh (by omega) (by omega) q
theorem h_lt {x z : Int32} : if_icmp.holds .lt x z = decide (x.toInt < z.toInt) := by simp [if_icmp.holds, Int32.lt_iff_toInt_lt]
theorem h_ge {x z : Int32} : if_icmp.holds .ge x z = decide (z.toInt ≤ x.toInt) := by simp [if_icmp.holds, Int32.le_iff_toInt_le]
theorem h_gt {x z : Int32} : if_icmp.holds .gt x z = decide (z.toInt < x.toInt) := by simp [if_icmp.holds, Int32.lt_iff_toInt_lt]
theorem h_le {x z : Int32} : if_icmp.holds .le x z = decide (x.toInt ≤ z.toInt) := by simp [if_icmp.holds, Int32.le_iff_toInt_le]
theorem h_eq {x z : Int32} : if_icmp.holds .eq x z = decide (x.toInt = z.toInt) := by
  rw [Bool.eq_iff_iff, decide_eq_true_iff, Int32.toInt_inj]; simp [if_icmp.holds]
theorem h_ne {x z : Int32} : if_icmp.holds .ne x z = decide (x.toInt ≠ z.toInt) := by
  by_cases q : x = z <;> simp [if_icmp.holds, Int32.toInt_inj, q]
theorem WP.icmp_lt (K : Ok k l Z n0 rm bytes maxL y ret Q) {o : Int} {x z : Int32} (tp fp : Nat) (hd : decode bytes pc = .ok (.if_icmp .lt o, 3)) (ht : (pc : Int) + o = tp) (hf : pc + 3 = fp)
    (wt : x.toInt < z.toInt → WP k h cells slots tp ls st) (wf : z.toInt ≤ x.toInt → WP k h cells slots fp ls st) : WP k h cells slots pc ls (.int z :: .int x :: st) :=
  WP.icmp K tp fp hd ht hf (fun q => wt (by rw [h_lt] at q; exact of_decide_eq_true q)) (fun q => wf (by rw [h_lt] at q; have q := of_decide_eq_false q; omega))
theorem WP.if_lt (K : Ok k l Z n0 rm bytes maxL y ret Q) {o : Int} {x : Int32} (tp fp : Nat) (hd : decode bytes pc = .ok (.ifCond .lt o, 3)) (ht : (pc : Int) + o = tp) (hf : pc + 3 = fp)
    (wt : x.toInt < 0 → WP k h cells slots tp ls st) (wf : 0 ≤ x.toInt → WP k h cells slots fp ls st) : WP k h cells slots pc ls (.int x :: st) :=
  WP.if0 K tp fp hd ht hf (fun q => wt (by rw [RoadKit.if0, h_lt] at q; exact of_decide_eq_true q)) (fun q => wf (by rw [RoadKit.if0, h_lt] at q; have q := of_decide_eq_false q; rw [show (0 : Int32).toInt = 0 from rfl] at q; omega))
theorem WP.ifl_lt (K : Ok k l Z n0 rm bytes maxL y ret Q) {o : Int} {x z : Int64} (tp fp : Nat) (hd : decode bytes pc = .ok (.ifCond .lt o, 3)) (ht : (pc : Int) + o = tp) (hf : pc + 3 = fp)
    (wt : x.toInt < z.toInt → WP k h cells slots tp ls st) (wf : z.toInt ≤ x.toInt → WP k h cells slots fp ls st) : WP k h cells slots pc ls (.int (XT.cmpL x z) :: st) := by
  refine WP.if0 K tp fp hd ht hf (fun q => ?_) (fun q => ?_)
  · refine wt ?_
    false_or_by_contra
    rename_i c
    rw [XT.ll_lt_f (by simp only [Int64.lt_iff_toInt_lt, ← Int64.toInt_inj]; omega)] at q; cases q
  · refine wf ?_
    false_or_by_contra
    rename_i c
    rw [XT.ll_lt_t (by simp only [Int64.lt_iff_toInt_lt, ← Int64.toInt_inj]; omega)] at q; cases q
theorem WP.icmp_ge (K : Ok k l Z n0 rm bytes maxL y ret Q) {o : Int} {x z : Int32} (tp fp : Nat) (hd : decode bytes pc = .ok (.if_icmp .ge o, 3)) (ht : (pc : Int) + o = tp) (hf : pc + 3 = fp)
    (wt : z.toInt ≤ x.toInt → WP k h cells slots tp ls st) (wf : x.toInt < z.toInt → WP k h cells slots fp ls st) : WP k h cells slots pc ls (.int z :: .int x :: st) :=
  WP.icmp K tp fp hd ht hf (fun q => wt (by rw [h_ge] at q; exact of_decide_eq_true q)) (fun q => wf (by rw [h_ge] at q; have q := of_decide_eq_false q; omega))
theorem WP.if_ge (K : Ok k l Z n0 rm bytes maxL y ret Q) {o : Int} {x : Int32} (tp fp : Nat) (hd : decode bytes pc = .ok (.ifCond .ge o, 3)) (ht : (pc : Int) + o = tp) (hf : pc + 3 = fp)
    (wt : 0 ≤ x.toInt → WP k h cells slots tp ls st) (wf : x.toInt < 0 → WP k h cells slots fp ls st) : WP k h cells slots pc ls (.int x :: st) :=
  WP.if0 K tp fp hd ht hf (fun q => wt (by rw [RoadKit.if0, h_ge] at q; exact of_decide_eq_true q)) (fun q => wf (by rw [RoadKit.if0, h_ge] at q; have q := of_decide_eq_false q; rw [show (0 : Int32).toInt = 0 from rfl] at q; omega))
theorem WP.ifl_ge (K : Ok k l Z n0 rm bytes maxL y ret Q) {o : Int} {x z : Int64} (tp fp : Nat) (hd : decode bytes pc = .ok (.ifCond .ge o, 3)) (ht : (pc : Int) + o = tp) (hf : pc + 3 = fp)
    (wt : z.toInt ≤ x.toInt → WP k h cells slots tp ls st) (wf : x.toInt < z.toInt → WP k h cells slots fp ls st) : WP k h cells slots pc ls (.int (XT.cmpL x z) :: st) := by
  refine WP.if0 K tp fp hd ht hf (fun q => ?_) (fun q => ?_)
  · refine wt ?_
    false_or_by_contra
    rename_i c
    rw [XT.ll_ge_f (by simp only [Int64.lt_iff_toInt_lt, ← Int64.toInt_inj]; omega)] at q; cases q
  · refine wf ?_
    false_or_by_contra
    rename_i c
    rw [XT.ll_ge_t (by simp only [Int64.lt_iff_toInt_lt, ← Int64.toInt_inj]; omega)] at q; cases q
theorem WP.icmp_gt (K : Ok k l Z n0 rm bytes maxL y ret Q) {o : Int} {x z : Int32} (tp fp : Nat) (hd : decode bytes pc = .ok (.if_icmp .gt o, 3)) (ht : (pc : Int) + o = tp) (hf : pc + 3 = fp)
    (wt : z.toInt < x.toInt → WP k h cells slots tp ls st) (wf : x.toInt ≤ z.toInt → WP k h cells slots fp ls st) : WP k h cells slots pc ls (.int z :: .int x :: st) :=
  WP.icmp K tp fp hd ht hf (fun q => wt (by rw [h_gt] at q; exact of_decide_eq_true q)) (fun q => wf (by rw [h_gt] at q; have q := of_decide_eq_false q; omega))
theorem WP.if_gt (K : Ok k l Z n0 rm bytes maxL y ret Q) {o : Int} {x : Int32} (tp fp : Nat) (hd : decode bytes pc = .ok (.ifCond .gt o, 3)) (ht : (pc : Int) + o = tp) (hf : pc + 3 = fp)
    (wt : 0 < x.toInt → WP k h cells slots tp ls st) (wf : x.toInt ≤ 0 → WP k h cells slots fp ls st) : WP k h cells slots pc ls (.int x :: st) :=
  WP.if0 K tp fp hd ht hf (fun q => wt (by rw [RoadKit.if0, h_gt] at q; exact of_decide_eq_true q)) (fun q => wf (by rw [RoadKit.if0, h_gt] at q; have q := of_decide_eq_false q; rw [show (0 : Int32).toInt = 0 from rfl] at q; omega))
theorem WP.ifl_gt (K : Ok k l Z n0 rm bytes maxL y ret Q) {o : Int} {x z : Int64} (tp fp : Nat) (hd : decode bytes pc = .ok (.ifCond .gt o, 3)) (ht : (pc : Int) + o = tp) (hf : pc + 3 = fp)
    (wt : z.toInt < x.toInt → WP k h cells slots tp ls st) (wf : x.toInt ≤ z.toInt → WP k h cells slots fp ls st) : WP k h cells slots pc ls (.int (XT.cmpL x z) :: st) := by
  refine WP.if0 K tp fp hd ht hf (fun q => ?_) (fun q => ?_)
  · refine wt ?_
    false_or_by_contra
    rename_i c
    rw [XT.ll_gt_f (by simp only [Int64.lt_iff_toInt_lt, ← Int64.toInt_inj]; omega)] at q; cases q
  · refine wf ?_
    false_or_by_contra
    rename_i c
    rw [XT.ll_gt_t (by simp only [Int64.lt_iff_toInt_lt, ← Int64.toInt_inj]; omega)] at q; cases q
theorem WP.icmp_le (K : Ok k l Z n0 rm bytes maxL y ret Q) {o : Int} {x z : Int32} (tp fp : Nat) (hd : decode bytes pc = .ok (.if_icmp .le o, 3)) (ht : (pc : Int) + o = tp) (hf : pc + 3 = fp)
    (wt : x.toInt ≤ z.toInt → WP k h cells slots tp ls st) (wf : z.toInt < x.toInt → WP k h cells slots fp ls st) : WP k h cells slots pc ls (.int z :: .int x :: st) :=
  WP.icmp K tp fp hd ht hf (fun q => wt (by rw [h_le] at q; exact of_decide_eq_true q)) (fun q => wf (by rw [h_le] at q; have q := of_decide_eq_false q; omega))
theorem WP.if_le (K : Ok k l Z n0 rm bytes maxL y ret Q) {o : Int} {x : Int32} (tp fp : Nat) (hd : decode bytes pc = .ok (.ifCond .le o, 3)) (ht : (pc : Int) + o = tp) (hf : pc + 3 = fp)
    (wt : x.toInt ≤ 0 → WP k h cells slots tp ls st) (wf : 0 < x.toInt → WP k h cells slots fp ls st) : WP k h cells slots pc ls (.int x :: st) :=
  WP.if0 K tp fp hd ht hf (fun q => wt (by rw [RoadKit.if0, h_le] at q; exact of_decide_eq_true q)) (fun q => wf (by rw [RoadKit.if0, h_le] at q; have q := of_decide_eq_false q; rw [show (0 : Int32).toInt = 0 from rfl] at q; omega))
theorem WP.ifl_le (K : Ok k l Z n0 rm bytes maxL y ret Q) {o : Int} {x z : Int64} (tp fp : Nat) (hd : decode bytes pc = .ok (.ifCond .le o, 3)) (ht : (pc : Int) + o = tp) (hf : pc + 3 = fp)
    (wt : x.toInt ≤ z.toInt → WP k h cells slots tp ls st) (wf : z.toInt < x.toInt → WP k h cells slots fp ls st) : WP k h cells slots pc ls (.int (XT.cmpL x z) :: st) := by
  refine WP.if0 K tp fp hd ht hf (fun q => ?_) (fun q => ?_)
  · refine wt ?_
    false_or_by_contra
    rename_i c
    rw [XT.ll_le_f (by simp only [Int64.lt_iff_toInt_lt, ← Int64.toInt_inj]; omega)] at q; cases q
  · refine wf ?_
    false_or_by_contra
    rename_i c
    rw [XT.ll_le_t (by simp only [Int64.lt_iff_toInt_lt, ← Int64.toInt_inj]; omega)] at q; cases q
theorem WP.icmp_eq (K : Ok k l Z n0 rm bytes maxL y ret Q) {o : Int} {x z : Int32} (tp fp : Nat) (hd : decode bytes pc = .ok (.if_icmp .eq o, 3)) (ht : (pc : Int) + o = tp) (hf : pc + 3 = fp)
    (wt : x.toInt = z.toInt → WP k h cells slots tp ls st) (wf : x.toInt ≠ z.toInt → WP k h cells slots fp ls st) : WP k h cells slots pc ls (.int z :: .int x :: st) :=
  WP.icmp K tp fp hd ht hf (fun q => wt (by rw [h_eq] at q; exact of_decide_eq_true q)) (fun q => wf (by rw [h_eq] at q; have q := of_decide_eq_false q; omega))
theorem WP.if_eq (K : Ok k l Z n0 rm bytes maxL y ret Q) {o : Int} {x : Int32} (tp fp : Nat) (hd : decode bytes pc = .ok (.ifCond .eq o, 3)) (ht : (pc : Int) + o = tp) (hf : pc + 3 = fp)
    (wt : x.toInt = 0 → WP k h cells slots tp ls st) (wf : x.toInt ≠ 0 → WP k h cells slots fp ls st) : WP k h cells slots pc ls (.int x :: st) :=
  WP.if0 K tp fp hd ht hf (fun q => wt (by rw [RoadKit.if0, h_eq] at q; exact of_decide_eq_true q)) (fun q => wf (by rw [RoadKit.if0, h_eq] at q; have q := of_decide_eq_false q; rw [show (0 : Int32).toInt = 0 from rfl] at q; omega))
theorem WP.ifl_eq (K : Ok k l Z n0 rm bytes maxL y ret Q) {o : Int} {x z : Int64} (tp fp : Nat) (hd : decode bytes pc = .ok (.ifCond .eq o, 3)) (ht : (pc : Int) + o = tp) (hf : pc + 3 = fp)
    (wt : x.toInt = z.toInt → WP k h cells slots tp ls st) (wf : x.toInt ≠ z.toInt → WP k h cells slots fp ls st) : WP k h cells slots pc ls (.int (XT.cmpL x z) :: st) := by
  refine WP.if0 K tp fp hd ht hf (fun q => ?_) (fun q => ?_)
  · refine wt ?_
    false_or_by_contra
    rename_i c
    rw [XT.ll_eq_f (by simp only [Int64.lt_iff_toInt_lt, ← Int64.toInt_inj]; omega)] at q; cases q
  · refine wf ?_
    false_or_by_contra
    rename_i c
    rw [XT.ll_eq_t (by simp only [Int64.lt_iff_toInt_lt, ← Int64.toInt_inj]; omega)] at q; cases q
theorem WP.icmp_ne (K : Ok k l Z n0 rm bytes maxL y ret Q) {o : Int} {x z : Int32} (tp fp : Nat) (hd : decode bytes pc = .ok (.if_icmp .ne o, 3)) (ht : (pc : Int) + o = tp) (hf : pc + 3 = fp)
    (wt : x.toInt ≠ z.toInt → WP k h cells slots tp ls st) (wf : x.toInt = z.toInt → WP k h cells slots fp ls st) : WP k h cells slots pc ls (.int z :: .int x :: st) :=
  WP.icmp K tp fp hd ht hf (fun q => wt (by rw [h_ne] at q; exact of_decide_eq_true q)) (fun q => wf (by rw [h_ne] at q; have q := of_decide_eq_false q; omega))
theorem WP.if_ne (K : Ok k l Z n0 rm bytes maxL y ret Q) {o : Int} {x : Int32} (tp fp : Nat) (hd : decode bytes pc = .ok (.ifCond .ne o, 3)) (ht : (pc : Int) + o = tp) (hf : pc + 3 = fp)
    (wt : x.toInt ≠ 0 → WP k h cells slots tp ls st) (wf : x.toInt = 0 → WP k h cells slots fp ls st) : WP k h cells slots pc ls (.int x :: st) :=
  WP.if0 K tp fp hd ht hf (fun q => wt (by rw [RoadKit.if0, h_ne] at q; exact of_decide_eq_true q)) (fun q => wf (by rw [RoadKit.if0, h_ne] at q; have q := of_decide_eq_false q; rw [show (0 : Int32).toInt = 0 from rfl] at q; omega))
theorem WP.ifl_ne (K : Ok k l Z n0 rm bytes maxL y ret Q) {o : Int} {x z : Int64} (tp fp : Nat) (hd : decode bytes pc = .ok (.ifCond .ne o, 3)) (ht : (pc : Int) + o = tp) (hf : pc + 3 = fp)
    (wt : x.toInt ≠ z.toInt → WP k h cells slots tp ls st) (wf : x.toInt = z.toInt → WP k h cells slots fp ls st) : WP k h cells slots pc ls (.int (XT.cmpL x z) :: st) := by
  refine WP.if0 K tp fp hd ht hf (fun q => ?_) (fun q => ?_)
  · refine wt ?_
    false_or_by_contra
    rename_i c
    rw [XT.ll_ne_f (by simp only [Int64.lt_iff_toInt_lt, ← Int64.toInt_inj]; omega)] at q; cases q
  · refine wf ?_
    false_or_by_contra
    rename_i c
    rw [XT.ll_ne_t (by simp only [Int64.lt_iff_toInt_lt, ← Int64.toInt_inj]; omega)] at q; cases q
theorem WP.ifnull_n (K : Ok k l Z n0 rm bytes maxL y ret Q) {o : Int} (tp : Nat) (hd : decode bytes pc = .ok (.ifnull o, 3)) (ht : (pc : Int) + o = tp) (w : WP k h cells slots tp ls st) : WP k h cells slots pc ls (.null :: st) :=
  w.plain fun T A t q => XS.ifnullYes A K.hx rfl (pc0 := pc) (pc' := tp) rfl (K.dec hd) rfl (by omega) (by omega) q
theorem WP.ifnull_r (K : Ok k l Z n0 rm bytes maxL y ret Q) {o : Int} {b : Addr} (fp : Nat) (hd : decode bytes pc = .ok (.ifnull o, 3)) (hf : pc + 3 = fp) (w : WP k h cells slots fp ls st) : WP k h cells slots pc ls (.ref b :: st) := by
  subst hf; exact w.plain fun T A t q => XS.ifnullNo A K.hx rfl (K.dec hd) rfl q
theorem WP.ifnonnull_r (K : Ok k l Z n0 rm bytes maxL y ret Q) {o : Int} {b : Addr} (tp : Nat) (hd : decode bytes pc = .ok (.ifnonnull o, 3)) (ht : (pc : Int) + o = tp) (w : WP k h cells slots tp ls st) : WP k h cells slots pc ls (.ref b :: st) :=
  w.plain fun T A t q => XT.ifnonnullYes A K.hx rfl (pc0 := pc) (pc' := tp) rfl (K.dec hd) rfl (by omega) (by omega) q
theorem WP.ifnonnull_n (K : Ok k l Z n0 rm bytes maxL y ret Q) {o : Int} (fp : Nat) (hd : decode bytes pc = .ok (.ifnonnull o, 3)) (hf : pc + 3 = fp) (w : WP k h cells slots fp ls st) : WP k h cells slots pc ls (.null :: st) := by
  subst hf; exact w.plain fun T A t q => XT.ifnonnullNo A K.hx rfl (K.dec hd) rfl q
theorem WP.acmp_eq (K : Ok k l Z n0 rm bytes maxL y ret Q) {o : Int} {x z : Value} (tp fp : Nat) (hd : decode bytes pc = .ok (.if_acmp .eq o, 3)) (ht : (pc : Int) + o = tp) (hf : pc + 3 = fp) (hx : x.isRef = true) (hz : z.isRef = true)
    (wt : x = z → WP k h cells slots tp ls st) (wf : x ≠ z → WP k h cells slots fp ls st) : WP k h cells slots pc ls (z :: x :: st) := by
  subst hf
  by_cases c : x = z
  · exact (wt c).plain fun T A t q => XT.acmpYes A K.hx rfl (pc0 := pc) (pc' := tp) rfl (K.dec hd) rfl hx hz (XT.aa_eq_t c) (by omega) (by omega) q
  · exact (wf c).plain fun T A t q => XT.acmpNo A K.hx rfl (K.dec hd) rfl hx hz (XT.aa_eq_f c) q
theorem WP.acmp_ne (K : Ok k l Z n0 rm bytes maxL y ret Q) {o : Int} {x z : Value} (tp fp : Nat) (hd : decode bytes pc = .ok (.if_acmp .ne o, 3)) (ht : (pc : Int) + o = tp) (hf : pc + 3 = fp) (hx : x.isRef = true) (hz : z.isRef = true)
    (wt : x ≠ z → WP k h cells slots tp ls st) (wf : x = z → WP k h cells slots fp ls st) : WP k h cells slots pc ls (z :: x :: st) := by
  subst hf
  by_cases c : x = z
  · exact (wf c).plain fun T A t q => XT.acmpNo A K.hx rfl (K.dec hd) rfl hx hz (XT.aa_ne_f c) q
  · exact (wt c).plain fun T A t q => XT.acmpYes A K.hx rfl (pc0 := pc) (pc' := tp) rfl (K.dec hd) rfl hx hz (XT.aa_ne_t c) (by omega) (by omega) q
theorem WP.tsw (K : Ok k l Z n0 rm bytes maxL y ret Q) {d lo hi : Int} {offs : Array Int} {len : Nat} {i : Int32} (dp : Nat) (hd : decode bytes pc = .ok (.tableswitch d lo hi offs, len)) (hdp : (pc : Int) + d = dp)
    (win : ∀ j o, i.toInt = lo + (j : Nat) → i.toInt ≤ hi → offs[j]? = some o → 0 ≤ (pc : Int) + o ∧ WP k h cells slots ((pc : Int) + o).toNat ls st) (hsz : hi - lo < offs.size) (wout : i.toInt < lo ∨ hi < i.toInt → WP k h cells slots dp ls st) : WP k h cells slots pc ls (.int i :: st) := by
  by_cases c : i.toInt < lo ∨ i.toInt > hi
  · exact (wout c).plain fun T A t q => XS.tswOut A K.hx rfl (pc0 := pc) (pc' := dp) rfl (K.dec hd) rfl c (by omega) (by omega) q
  · have hj : (i.toInt - lo).toNat < offs.size := by omega
    obtain ⟨h0, w⟩ := win (i.toInt - lo).toNat _ (by omega) (by omega) (Array.getElem?_eq_getElem hj)
    exact w.plain fun T A t q => XS.tswIn A K.hx rfl (pc0 := pc) rfl (K.dec hd) rfl c (Array.getElem?_eq_getElem hj) h0 rfl q
theorem WP.ldcI (K : Ok k l Z n0 rm bytes maxL y ret Q) {a0 : Array Value} {i : Nat} {v : Int32} (pc' : Nat) (hw : (Jvm.Cond.constant y.cls i v).before a0 Z = true) (hd : decode bytes pc = .ok (.ldc i, 2)) (hp : pc + 2 = pc') (w : WP k h cells slots pc' ls (.int v :: st)) : WP k h cells slots pc ls st := by
  subst hp; exact fun T locs X e N => End.back (fun t q => Stand.ldcI X K.hx K.hown (mvT K.hZ hw) rfl (K.dec hd) q) (w T locs X e N)
theorem WP.ldcWI (K : Ok k l Z n0 rm bytes maxL y ret Q) {a0 : Array Value} {i : Nat} {v : Int32} (pc' : Nat) (hw : (Jvm.Cond.constant y.cls i v).before a0 Z = true) (hd : decode bytes pc = .ok (.ldc_w i, 3)) (hp : pc + 3 = pc') (w : WP k h cells slots pc' ls (.int v :: st)) : WP k h cells slots pc ls st := by
  subst hp; exact fun T locs X e N => End.back (fun t q => Stand.ldcWI X K.hx K.hown (mvT K.hZ hw) rfl (K.dec hd) q) (w T locs X e N)
theorem WP.ldc2J (K : Ok k l Z n0 rm bytes maxL y ret Q) {a0 : Array Value} {i : Nat} {v : Int64} (pc' : Nat) (hw : (Jvm.Cond.constantLong y.cls i v).before a0 Z = true) (hd : decode bytes pc = .ok (.ldc2_w i, 3)) (hp : pc + 3 = pc') (w : WP k h cells slots pc' ls (.long v :: st)) : WP k h cells slots pc ls st := by
  subst hp; exact fun T locs X e N => End.back (fun t q => Stand.ldc2J X K.hx K.hown (mvT K.hZ hw) rfl (K.dec hd) q) (w T locs X e N)
theorem WP.leave (K : Ok k l Z n0 rm bytes maxL y ret Q) (v : Option Value) (hv : k.meth.sig.returnType = none → v = none) (hq : Q v h) (hc : cells ≤ rm.cells) (hs : slots ≤ rm.slots)
    (st' : ∀ (T : State) (locs : List Loc), k.St T locs cells slots → ∀ fs, (∀ (f : JFrame) (acts : List Action), f.method = k.m → f.locked = none → f.entered = [] → (doReturn k.e (T.setTop f) acts v).1 = T.setFrames fs) → Steps k.p.tables k.e k.below (T.setTop (mkF k.m pc ls.toArray st)) (T.setFrames fs)) : WP k h cells slots pc ls st := by
  intro T locs X e N
  obtain ⟨fs, hr, hrun, hended, hW, hsame⟩ := Stand.leave X (v := v) hv K.hlk
  have hq' : Q v (T.setFrames fs).heap := by show Q v T.heap; rw [e]; exact hq
  refine ⟨_, _, st' T locs X fs hr, hrun, hended, v, locs, rfl, ⟨K.hQ _ _ hq', N⟩, K.hfin v _ locs hq' ⟨⟨_, rfl⟩, hW, hsame.mono (by rw [K.hR]; exact hc) (by rw [K.hR]; exact hs)⟩⟩
theorem WP.retV (K : Ok k l Z n0 rm bytes maxL y ret Q) (hr : ret = none) (hd : decode bytes pc = .ok (.return_, 1)) (hq : Q none h) (hc : cells ≤ rm.cells) (hs : slots ≤ rm.slots) : WP k h cells slots pc ls [] :=
  WP.leave K none (fun _ => rfl) hq hc hs fun T locs X fs hl => Stand.returnOut X K.hx (K.hret.trans hr) (K.dec hd) hl
theorem WP.iret (K : Ok k l Z n0 rm bytes maxL y ret Q) {z : Int32} {t : FieldType} (hr : ret = some t) (ht : t = .int ∨ t = .boolean ∨ t = .byte ∨ t = .char ∨ t = .short) (hn : narrow t (.int z) = .int z) (hd : decode bytes pc = .ok (.ireturn, 1)) (hq : Q (some (.int z)) h) (hc : cells ≤ rm.cells) (hs : slots ≤ rm.slots) : WP k h cells slots pc ls (.int z :: st) :=
  WP.leave K (some (.int z)) (fun q => by rw [K.hret, hr] at q; cases q) hq hc hs fun T locs X fs hl => RoadKit.retOut X K.hx (K.hret.trans hr) hn (Or.inl ⟨rfl, ht, z, rfl⟩) (K.dec hd) hl
theorem WP.lret (K : Ok k l Z n0 rm bytes maxL y ret Q) {z : Int64} (hr : ret = some .long) (hd : decode bytes pc = .ok (.lreturn, 1)) (hq : Q (some (.long z)) h) (hc : cells ≤ rm.cells) (hs : slots ≤ rm.slots) : WP k h cells slots pc ls (.long z :: st) :=
  WP.leave K (some (.long z)) (fun q => by rw [K.hret, hr] at q; cases q) hq hc hs fun T locs X fs hl => RoadKit.retOut X K.hx (K.hret.trans hr) rfl (Or.inr (Or.inl ⟨rfl, rfl, z, rfl⟩)) (K.dec hd) hl
theorem WP.aret (K : Ok k l Z n0 rm bytes maxL y ret Q) {v : Value} {t : FieldType} (hr : ret = some t) (ht : t.isReference = true) (hn : narrow t v = v) (hv : v.isRef = true) (hd : decode bytes pc = .ok (.areturn, 1)) (hq : Q (some v) h) (hc : cells ≤ rm.cells) (hs : slots ≤ rm.slots) : WP k h cells slots pc ls (v :: st) :=
  WP.leave K (some v) (fun q => by rw [K.hret, hr] at q; cases q) hq hc hs fun T locs X fs hl => RoadKit.retOut X K.hx (K.hret.trans hr) hn (Or.inr (Or.inr (Or.inr (Or.inr ⟨rfl, ht, hv⟩)))) (K.dec hd) hl
theorem nar_bit {z : Int32} (q : z = 0 ∨ z = 1) : narrow .boolean (.int z) = .int z := by rcases q with rfl | rfl <;> rfl
end Plain
section HeapSteps
variable {k : Cx} {l : Launch} {Z : State} {n0 : Nat} {rm : Room} {bytes : ByteArray} {maxL : Nat} {y : MethodName} {ret : Option FieldType} {Q : Option Value → Heap → Prop} {h h' : Heap} {cells slots pc : Nat} {ls : List Slot} {st : List Value} {a0 : Array Value} {a b : Addr}
theorem ne_addr {a b : Nat} (h : a ≠ b) : @Ne Addr a b := h
theorem nm0 {a : Nat} (h : (0 : Nat) = 0) : a ∉ ([] : List Addr) := List.not_mem_nil
theorem ks0 {n : Nat} {ws : List Addr} : ∀ x ∈ ([] : List Addr), x ∈ ws ∨ n ≤ x := fun x hx => absurd hx List.not_mem_nil
theorem nm1 {a b : Nat} (h : a ≠ b) : a ∉ ([b] : List Addr) := by intro q; exact h (List.mem_singleton.mp q)
theorem nm2 {a b c : Nat} (h : a ≠ b ∧ a ≠ c) : a ∉ ([b, c] : List Addr) := by
  intro q
  rcases List.mem_cons.mp q with q | q
  · exact h.1 q
  · exact h.2 (List.mem_singleton.mp q)
theorem ks1 {b n : Nat} {ws : List Addr} (h : b ∈ ws ∨ n ≤ b) : ∀ x ∈ ([b] : List Addr), x ∈ ws ∨ n ≤ x := fun x hx => by cases List.mem_singleton.mp hx; exact h
theorem ks2 {b c n : Nat} {ws : List Addr} (h : b ∈ ws ∨ n ≤ b) (h' : c ∈ ws ∨ n ≤ c) : ∀ x ∈ ([b, c] : List Addr), x ∈ ws ∨ n ≤ x := fun x hx => by
  rcases List.mem_cons.mp hx with q | q
  · rw [q]; exact h
  · cases List.mem_singleton.mp q; exact h'
theorem ext_keep (E : Ext h h') (ws : List Addr) : Keep h h' ws := (Keep.refl h ws).ext E
theorem keep_sub {ws ws' : List Addr} (K : Keep h h' ws) (q : ∀ x ∈ ws, x ∈ ws') : Keep h h' ws' := ⟨K.1, fun x c e r => K.2.1 x c e fun z => r (q x z), K.2.2⟩
theorem keep_trans {h'' : Heap} {ws : List Addr} (K : Keep h h' ws) (K' : Keep h' h'' ws) : Keep h h'' ws := K.trans K' fun x hx => Or.inl hx
theorem WP.getfield (K : Ok k l Z n0 rm bytes maxL y ret Q) {i : Nat} {R0 O n d host : String} {v : Value} (pc' : Nat) (hw : (Jvm.Cond.fieldLink y.cls i R0 n d).before a0 Z = true ∨ (Jvm.Cond.fieldLinkNest y.cls i R0 n d host).before a0 Z = true) (via : Via Z R0 O n d) (F : Fld Z h a O n d v) (hd : decode bytes pc = .ok (.getfield i, 3)) (hp : pc + 3 = pc')
    (w : WP k h cells slots pc' ls (v :: st)) : WP k h cells slots pc ls (.ref a :: st) := by
  subst hp
  intro T locs X e N
  obtain ⟨T', X', e', stp⟩ := getF X K.hx K.hZ K.hown hw via e F (g := mkF k.m pc ls.toArray (.ref a :: st)) rfl rfl (K.dec hd)
  exact End.back stp (w T' locs X' e' N)
theorem WP.getstatic (K : Ok k l Z n0 rm bytes maxL y ret Q) {i : Nat} {R0 O n d : String} {v : Value} (pc' : Nat) (hw : (Jvm.Cond.fieldLink y.cls i R0 n d).before a0 Z = true) (via : Via Z R0 O n d) (F : Sta Z h O n d v) (hd : decode bytes pc = .ok (.getstatic i, 3)) (hp : pc + 3 = pc')
    (w : WP k h cells slots pc' ls (v :: st)) : WP k h cells slots pc ls st := by
  subst hp
  intro T locs X e N
  obtain ⟨T', X', e', stp⟩ := getS X K.hx K.hZ K.hown (host := "") hw via e F (g := mkF k.m pc ls.toArray st) rfl (K.dec hd)
  exact End.back stp (w T' locs X' e' N)
theorem WP.putfield (K : Ok k l Z n0 rm bytes maxL y ret Q) {i kk : Nat} {R0 O n d host C : String} {v old : Value} {ty : FieldType} (pc' : Nat) (hw : (Jvm.Cond.fieldLink y.cls i R0 n d).before a0 Z = true ∨ (Jvm.Cond.fieldLinkNest y.cls i R0 n d host).before a0 Z = true) (via : Via Z R0 O n d) (F : Fld Z h a O n d old) (E : Exa Z h a C)
    (L : (Jvm.Cond.lays C O n d).before a0 Z = true ∨ ((Jvm.Cond.laysFinal C O n d).before a0 Z = true ∧ y.cls = O ∧ y.name = "<init>")) (wi : (Jvm.Cond.instantiable C kk).before a0 Z = true)
    (hty : parseFieldDescriptor d = some ty) (hn : narrow ty v = v) (hf : fits ty v = true) (hd : decode bytes pc = .ok (.putfield i, 3)) (hp : pc + 3 = pc') (ha : n0 ≤ a)
    (w : ∀ h', Wr h h' a (RoadKit.slotOf Z O n d) v → WP k h' cells slots pc' ls st) : WP k h cells slots pc ls (v :: .ref a :: st) := by
  subst hp
  intro T locs X e N
  obtain ⟨T', h', X', e', W', stp⟩ := putF X K.hx K.hZ K.hown hw via e F E (L.imp id fun q => ⟨q.1, q.2.1, by rw [K.hnm]; exact q.2.2⟩) wi hty hn hf (g := mkF k.m pc ls.toArray (v :: .ref a :: st)) rfl rfl (K.dec hd)
  exact End.back stp (w h' W' T' _ X' e' (Fr.snoc X' N (by rw [K.hn0]; exact ha)))
theorem WP.new (K : Ok k l Z n0 rm bytes maxL y ret Q) {i n : Nat} {C : String} (pc' cells' slots' : Nat) (h1 : (Jvm.Cond.classLink y.cls i C).before a0 Z = true) (h2 : (Jvm.Cond.instantiable C n).before a0 Z = true) (h3 : (Jvm.Cond.initialized C).before a0 Z = true) (hd : decode bytes pc = .ok (.new i, 3)) (hp : pc + 3 = pc')
    (hc : cells + 1 = cells') (hs : slots + n = slots') (hc' : cells' ≤ rm.cells) (hs' : slots' ≤ rm.slots)
    (w : ∀ h' a, a = h.size → Ext h h' → Exa Z h' a C → (∀ {O nm d : String} {ty : FieldType}, Laid Z a0 C O nm d → parseFieldDescriptor d = some ty → Fld Z h' a O nm d (defaultValue ty)) → WP k h' cells' slots' pc' ls (.ref a :: st)) : WP k h cells slots pc ls st := by
  subst hp hc hs
  intro T locs X e N
  obtain ⟨T', h', X', e', E', A', D', -, stp⟩ := newO X K.hx K.hZ K.hown h1 h2 h3 e (g := mkF k.m pc ls.toArray st) rfl (K.dec hd) (by rw [K.hR]; exact hc') (by rw [K.hR]; exact hs')
  exact End.back stp (w h' _ rfl E' A' D' T' locs X' e' N)
/-- Object.<init> -/
theorem WP.initO (K : Ok k l Z n0 rm bytes maxL y ret Q) {i : Nat} (pc' W : Nat) (h1 : (Jvm.Cond.methodLink y.cls i Lib.objectInit).before a0 Z = true) (h2 : (Jvm.Cond.instanceMethod Lib.objectInit).before a0 Z = true) (h3 : (Jvm.Cond.code Lib.objectInit ⟨#[0xb1]⟩ 1 none).before a0 Z = true) (hd : decode bytes pc = .ok (.invokespecial i, 3)) (hp : pc + 3 = pc')
    (hsz : ls.length = maxL) (hf : 1 ≤ rm.frames) (hW : (st.map fun v => v.category).sum ≤ W) (hl : W + 12 ≤ rm.locals) (w : WP k h cells slots pc' ls st) : WP k h cells slots pc ls (.ref a :: st) := by
  subst hp
  intro T locs X e N
  obtain ⟨T', X', e', stp⟩ := RoadKit.initO X K.hx K.hZ K.hown h1 h2 h3 e (g := mkF k.m pc ls.toArray (.ref a :: st)) rfl (by rw [K.hml]; simpa using hsz) rfl (K.dec hd) (by rw [K.hR]; exact hf) (W := W) (by show 2 * 0 + _ ≤ _; omega) (by rw [K.hR]; exact hl)
  exact End.back stp (w T' locs X' e' N)
/-! arrays -/
def ArV (Z : State) (h : Heap) (a : Addr) (ty : FieldType) (vs : List Value) : Prop := ∃ c : Cell, Arr Z h a c ty ∧ c.slots.toList = vs ∧ vs.length < 2 ^ 31 ∧ ∀ v ∈ vs, fits ty v = true
def ArI (Z : State) (h : Heap) (a : Addr) (xs : List Int32) : Prop := ArV Z h a .int (xs.map Value.int)
def ArJ (Z : State) (h : Heap) (a : Addr) (xs : List Int64) : Prop := ArV Z h a .long (xs.map Value.long)
def ArB (Z : State) (h : Heap) (a : Addr) (xs : List Int8) : Prop := ArV Z h a .byte (xs.map fun x => Value.int x.toInt32)
variable {ty : FieldType} {vs : List Value}
theorem ArV.lt (A : ArV Z h a ty vs) : a < h.size := by obtain ⟨c, A, -⟩ := A; exact A.lt
theorem ArV.keep {ws : List Addr} (A : ArV Z h a ty vs) (K : Keep h h' ws) (q : a ∉ ws) : ArV Z h' a ty vs := by
  obtain ⟨c, A, r⟩ := A
  exact ⟨c, ⟨K.2.1 a c A.1 q, A.2⟩, r⟩
theorem ArV.ext (A : ArV Z h a ty vs) (E : Ext h h') : ArV Z h' a ty vs := by
  obtain ⟨c, A, r⟩ := A
  exact ⟨c, A.ext E, r⟩
theorem ArV.set {i : Nat} {v : Value} (A : ArV Z h a ty vs) (W : Wr h h' a i v) (hf : fits ty v = true) : ArV Z h' a ty (vs.set i v) := by
  obtain ⟨c, A, q1, q2, q3⟩ := A
  refine ⟨c.setSlot i v, A.same W, ?_, by simpa using q2, fun u hu => ?_⟩
  · simp [Cell.setSlot, q1]
  · rcases List.mem_or_eq_of_mem_set hu with z | rfl
    · exact q3 u z
    · exact hf
theorem ArV.other {i : Nat} {v : Value} (A : ArV Z h a ty vs) (W : Wr h h' b i v) (q : a ≠ b) : ArV Z h' a ty vs := by
  obtain ⟨c, A, r⟩ := A
  exact ⟨c, A.other W q, r⟩
theorem ArV.new {cA : ClassId} {n : Int32} {m : Nat} (A : Arr Z h a (newA cA ty n) ty) (hn : n.toInt = (m : Nat)) (hf : fits ty (defaultValue ty) = true) : ArV Z h a ty (List.replicate m (defaultValue ty)) := by
  have e : n.toNatClampNeg = m := by simp only [Int32.toNatClampNeg]; omega
  refine ⟨_, A, ?_, ?_, fun v hv => ?_⟩
  · simp [newA, e]
  · have := n.toInt_lt; simp; omega
  · rw [List.eq_of_mem_replicate hv]; exact hf
theorem idx_ok {j : Int32} {i n : Nat} (hj : j.toInt = (i : Nat)) (hi : i < n) : ¬ (j < 0 ∨ n ≤ j.toNatClampNeg) ∧ j.toNatClampNeg = i := by
  have e : j.toNatClampNeg = i := by simp only [Int32.toNatClampNeg]; omega
  refine ⟨?_, e⟩
  rw [e, Int32.lt_iff_toInt_lt, show (0 : Int32).toInt = 0 from rfl]; omega
theorem size_eq {z : Int32} {n : Nat} (hz : z.toInt = (n : Nat)) : n.toInt32 = z := by
  have e : n = z.toNatClampNeg := by simp only [Int32.toNatClampNeg]; omega
  have := (back32 (n := z) (by rw [Int32.lt_iff_toInt_lt, show (0 : Int32).toInt = 0 from rfl]; omega)).1
  rw [← e] at this; exact this
theorem ArV.parts {i : Nat} {v : Value} (A : ArV Z h a ty vs) (hv : vs[i]? = some v) : ∃ c : Cell, Arr Z h a c ty ∧ i < c.slots.size ∧ c.slots[i]? = some v := by
  obtain ⟨c, A, q1, -⟩ := A
  have : i < vs.length := (List.getElem?_eq_some_iff.mp hv).1
  refine ⟨c, A, ?_, ?_⟩
  · rw [← q1] at this; simpa using this
  · rw [← q1] at hv; simpa using hv
theorem WP.arraylength (K : Ok k l Z n0 rm bytes maxL y ret Q) (z : Int32) (pc' : Nat) (A : ArV Z h a ty vs) (hz : z.toInt = (vs.length : Nat)) (hd : decode bytes pc = .ok (.arraylength, 1)) (hp : pc + 1 = pc') (w : WP k h cells slots pc' ls (.int z :: st)) : WP k h cells slots pc ls (.ref a :: st) := by
  subst hp
  intro T locs X e N
  obtain ⟨c, A, q1, -⟩ := A
  have es : c.slots.size.toInt32 = z := size_eq (by rw [hz, ← q1]; simp)
  refine End.back (fun t q => ?_) (w T locs X e N)
  exact Stand.arraylength X K.hx (cell := c) (by rw [e]; exact A.1) (State.isArrayOf_alike K.hZ.alike A.2.1) (g := mkF k.m pc ls.toArray (.ref a :: st)) rfl rfl (K.dec hd) _ (by rw [es]; exact q)
theorem WP.iaload (K : Ok k l Z n0 rm bytes maxL y ret Q) {xs : List Int32} {j x : Int32} (pc' i : Nat) (A : ArI Z h a xs) (hj : j.toInt = (i : Nat)) (hx : xs[i]? = some x) (hd : decode bytes pc = .ok (.iaload, 1)) (hp : pc + 1 = pc') (w : WP k h cells slots pc' ls (.int x :: st)) : WP k h cells slots pc ls (.int j :: .ref a :: st) := by
  subst hp
  intro T locs X e N
  obtain ⟨c, A, q1, q2⟩ := ArV.parts A (i := i) (v := .int x) (by simp [hx])
  obtain ⟨r1, r2⟩ := idx_ok hj q1
  refine End.back (fun t q => ?_) (w T locs X e N)
  exact Stand.iaload X K.hx (j := j) (v := .int x) (by rw [e]; exact A.1) (State.isArrayOf_alike K.hZ.alike A.2.1) A.2.2 r1 (by rw [r2]; exact q2) (g := mkF k.m pc ls.toArray (.int j :: .ref a :: st)) rfl rfl (K.dec hd) _ q
theorem WP.laload (K : Ok k l Z n0 rm bytes maxL y ret Q) {xs : List Int64} {j : Int32} {x : Int64} (pc' i : Nat) (A : ArJ Z h a xs) (hj : j.toInt = (i : Nat)) (hx : xs[i]? = some x) (hd : decode bytes pc = .ok (.laload, 1)) (hp : pc + 1 = pc') (w : WP k h cells slots pc' ls (.long x :: st)) : WP k h cells slots pc ls (.int j :: .ref a :: st) := by
  subst hp
  intro T locs X e N
  obtain ⟨c, A, q1, q2⟩ := ArV.parts A (i := i) (v := .long x) (by simp [hx])
  obtain ⟨r1, r2⟩ := idx_ok hj q1
  refine End.back (fun t q => ?_) (w T locs X e N)
  exact Stand.laload X K.hx (j := j) (v := .long x) (by rw [e]; exact A.1) (State.isArrayOf_alike K.hZ.alike A.2.1) A.2.2 r1 (by rw [r2]; exact q2) (g := mkF k.m pc ls.toArray (.int j :: .ref a :: st)) rfl rfl (K.dec hd) _ q
theorem WP.baload (K : Ok k l Z n0 rm bytes maxL y ret Q) {xs : List Int8} {j : Int32} {x : Int8} (pc' i : Nat) (A : ArB Z h a xs) (hj : j.toInt = (i : Nat)) (hx : xs[i]? = some x) (hd : decode bytes pc = .ok (.baload, 1)) (hp : pc + 1 = pc') (w : WP k h cells slots pc' ls (.int x.toInt32 :: st)) : WP k h cells slots pc ls (.int j :: .ref a :: st) := by
  subst hp
  intro T locs X e N
  obtain ⟨c, A, q1, q2⟩ := ArV.parts A (i := i) (v := .int x.toInt32) (by simp [hx])
  obtain ⟨r1, r2⟩ := idx_ok hj q1
  refine End.back (fun t q => ?_) (w T locs X e N)
  exact Stand.baloadBytes X K.hx (j := j) (v := .int x.toInt32) (by rw [e]; exact A.1) (State.isArrayOf_alike K.hZ.alike A.2.1) A.2.2 r1 (by rw [r2]; exact q2) (g := mkF k.m pc ls.toArray (.int j :: .ref a :: st)) rfl rfl (K.dec hd) _ q
theorem WP.aaload (K : Ok k l Z n0 rm bytes maxL y ret Q) {j : Int32} {x : Value} (pc' i : Nat) (A : ArV Z h a ty vs) (hty : ty.isReference = true) (hj : j.toInt = (i : Nat)) (hx : vs[i]? = some x) (hd : decode bytes pc = .ok (.aaload, 1)) (hp : pc + 1 = pc') (w : WP k h cells slots pc' ls (x :: st)) : WP k h cells slots pc ls (.int j :: .ref a :: st) := by
  subst hp
  intro T locs X e N
  obtain ⟨c, A, q1, q2⟩ := ArV.parts A (i := i) hx
  obtain ⟨r1, r2⟩ := idx_ok hj q1
  refine End.back (fun t q => ?_) (w T locs X e N)
  exact Stand.aaload X K.hx (j := j) (v := x) (by rw [e]; exact A.1) (State.isArrayOf_alike K.hZ.alike A.2.1) hty A.2.2 r1 (by rw [r2]; exact q2) (g := mkF k.m pc ls.toArray (.int j :: .ref a :: st)) rfl rfl (K.dec hd) _ q
theorem WP.iastore (K : Ok k l Z n0 rm bytes maxL y ret Q) {xs : List Int32} {j x : Int32} (pc' i : Nat) (A : ArI Z h a xs) (hj : j.toInt = (i : Nat)) (hi : i < xs.length) (hd : decode bytes pc = .ok (.iastore, 1)) (hp : pc + 1 = pc') (ha : n0 ≤ a)
    (w : ∀ h', Keep h h' [a] → ArI Z h' a (xs.set i x) → WP k h' cells slots pc' ls st) : WP k h cells slots pc ls (.int x :: .int j :: .ref a :: st) := by
  subst hp
  intro T locs X e N
  have A0 := A
  obtain ⟨c, A', q1, -⟩ := A
  obtain ⟨r1, r2⟩ := idx_ok hj (show i < c.slots.size by have := congrArg List.length q1; simp at this; omega)
  obtain ⟨T', h', X', e', W', stp⟩ := stI X K.hx K.hZ e A' r1 (x := x) (g := mkF k.m pc ls.toArray (.int x :: .int j :: .ref a :: st)) rfl rfl (K.dec hd)
  rw [r2] at W'
  have A2 := ArV.set A0 W' rfl
  rw [← List.map_set] at A2
  exact End.back stp (w h' (Keep.of_wr W') A2 T' _ X' e' (Fr.snoc X' N (by rw [K.hn0]; exact ha)))
theorem WP.lastore (K : Ok k l Z n0 rm bytes maxL y ret Q) {xs : List Int64} {j : Int32} {x : Int64} (pc' i : Nat) (A : ArJ Z h a xs) (hj : j.toInt = (i : Nat)) (hi : i < xs.length) (hd : decode bytes pc = .ok (.lastore, 1)) (hp : pc + 1 = pc') (ha : n0 ≤ a)
    (w : ∀ h', Keep h h' [a] → ArJ Z h' a (xs.set i x) → WP k h' cells slots pc' ls st) : WP k h cells slots pc ls (.long x :: .int j :: .ref a :: st) := by
  subst hp
  intro T locs X e N
  have A0 := A
  obtain ⟨c, A', q1, -⟩ := A
  obtain ⟨r1, r2⟩ := idx_ok hj (show i < c.slots.size by have := congrArg List.length q1; simp at this; omega)
  obtain ⟨T', h', X', e', W', stp⟩ := stJ X K.hx K.hZ e A' r1 (x := x) (g := mkF k.m pc ls.toArray (.long x :: .int j :: .ref a :: st)) rfl rfl (K.dec hd)
  rw [r2] at W'
  have A2 := ArV.set A0 W' rfl
  rw [← List.map_set] at A2
  exact End.back stp (w h' (Keep.of_wr W') A2 T' _ X' e' (Fr.snoc X' N (by rw [K.hn0]; exact ha)))
theorem WP.bastore (K : Ok k l Z n0 rm bytes maxL y ret Q) {xs : List Int8} {j x : Int32} (pc' i : Nat) (A : ArB Z h a xs) (hj : j.toInt = (i : Nat)) (hi : i < xs.length) (hd : decode bytes pc = .ok (.bastore, 1)) (hp : pc + 1 = pc') (ha : n0 ≤ a)
    (w : ∀ h', Keep h h' [a] → ArB Z h' a (xs.set i x.toInt8) → WP k h' cells slots pc' ls st) : WP k h cells slots pc ls (.int x :: .int j :: .ref a :: st) := by
  subst hp
  intro T locs X e N
  have A0 := A
  obtain ⟨c, A', q1, -⟩ := A
  obtain ⟨r1, r2⟩ := idx_ok hj (show i < c.slots.size by have := congrArg List.length q1; simp at this; omega)
  obtain ⟨T', h', X', e', W', stp⟩ := stB X K.hx K.hZ e A' r1 (x := x) (g := mkF k.m pc ls.toArray (.int x :: .int j :: .ref a :: st)) rfl rfl (K.dec hd)
  rw [r2] at W'
  have A2 : ArB Z h' a (xs.set i x.toInt8) := by
    have := ArV.set A0 W' (fits_nar_byte x)
    rw [show Value.int (nar .byte x) = (fun z : Int8 => Value.int z.toInt32) x.toInt8 from rfl, ← List.map_set] at this
    exact this
  exact End.back stp (w h' (Keep.of_wr W') A2 T' _ X' e' (Fr.snoc X' N (by rw [K.hn0]; exact ha)))
theorem WP.newarray (K : Ok k l Z n0 rm bytes maxL y ret Q) {aty : ArrayType} {n : Int32} (pc' m cap cells' slots' : Nat) (hw : (Jvm.Cond.arrayClass (newarray.typeOf aty)).before a0 Z = true) (hd : decode bytes pc = .ok (.newarray aty, 2)) (hp : pc + 2 = pc') (hn : n.toInt = (m : Nat)) (hcap : m ≤ cap) (hb : cap * 8 ≤ 536870912)
    (hc : cells + 1 = cells') (hs : slots + cap = slots') (hc' : cells' ≤ rm.cells) (hs' : slots' ≤ rm.slots)
    (w : ∀ h' a, a = h.size → Ext h h' → ArV Z h' a (newarray.typeOf aty) (List.replicate m (defaultValue (newarray.typeOf aty))) → WP k h' cells' slots' pc' ls (.ref a :: st)) : WP k h cells slots pc ls (.int n :: st) := by
  subst hp hc hs
  intro T locs X e N
  have hn' : ¬ n < 0 := by rw [Int32.lt_iff_toInt_lt, show (0 : Int32).toInt = 0 from rfl]; omega
  obtain ⟨T', h', cA, X', e', E', A', stp⟩ := newP X K.hx K.hZ hw e (g := mkF k.m pc ls.toArray (.int n :: st)) rfl (K.dec hd) rfl hn' (cap := cap) (by simp only [Int32.toNatClampNeg]; omega) hb (by rw [K.hR]; exact hc') (by rw [K.hR]; exact hs')
  exact End.back stp (w h' _ rfl E' (ArV.new A' hn (by cases aty <;> rfl)) T' locs X' e' N)
theorem WP.newarrayE (K : Ok k l Z n0 rm bytes maxL y ret Q) {aty : ArrayType} {n : Int32} {ad : String} (pc' m cap cells' slots' : Nat) (hw : (Jvm.Cond.arrayClass (newarray.typeOf aty)).before a0 Z = true) (hd : decode bytes pc = .ok (.newarray aty, 2)) (hp : pc + 2 = pc') (hn : n.toInt = (m : Nat)) (hcap : m ≤ cap) (hb : cap * 8 ≤ 536870912)
    (hc : cells + 1 = cells') (hs : slots + cap = slots') (hc' : cells' ≤ rm.cells) (hs' : slots' ≤ rm.slots) (had : "[" ++ (newarray.typeOf aty).toString = ad)
    (w : ∀ h' a, a = h.size → Ext h h' → ArV Z h' a (newarray.typeOf aty) (List.replicate m (defaultValue (newarray.typeOf aty))) → Exa Z h' a ad → WP k h' cells' slots' pc' ls (.ref a :: st)) : WP k h cells slots pc ls (.int n :: st) := by
  subst hp hc hs
  intro T locs X e N
  have hn' : ¬ n < 0 := by rw [Int32.lt_iff_toInt_lt, show (0 : Int32).toInt = 0 from rfl]; omega
  obtain ⟨T', h', cA, X', e', E', A', XA, stp⟩ := newPE X K.hx K.hZ hw e (g := mkF k.m pc ls.toArray (.int n :: st)) rfl (K.dec hd) rfl hn' (cap := cap) (by simp only [Int32.toNatClampNeg]; omega) hb (by rw [K.hR]; exact hc') (by rw [K.hR]; exact hs') had
  exact End.back stp (w h' _ rfl E' (ArV.new A' hn (by cases aty <;> rfl)) XA T' locs X' e' N)
/-! arrays of references -/
def ArR (Z : State) (h : Heap) (a : Addr) (ty : FieldType) (C : String) (vs : List Value) : Prop := ∃ c : Cell, Arr Z h a c ty ∧ c.slots.toList = vs ∧ vs.length < 2 ^ 31 ∧ (∀ v ∈ vs, fits ty v = true) ∧ ∃ (kk : Class) (comp : ClassId) (t : FieldType), Z.vm.classes[c.cls]? = some kk ∧ kk.kind = .array comp t ∧ Z.vm.findClass C = some comp
variable {C : String}
theorem ArR.v (A : ArR Z h a ty C vs) : ArV Z h a ty vs := by obtain ⟨c, q1, q2, q3, q4, -⟩ := A; exact ⟨c, q1, q2, q3, q4⟩
theorem ArR.lt (A : ArR Z h a ty C vs) : a < h.size := A.v.lt
theorem ArR.len (A : ArR Z h a ty C vs) : vs.length < 2 ^ 31 := by obtain ⟨c, -, -, q, -⟩ := A; exact q
theorem ArR.keep {ws : List Addr} (A : ArR Z h a ty C vs) (K : Keep h h' ws) (q : a ∉ ws) : ArR Z h' a ty C vs := by
  obtain ⟨c, A, r⟩ := A
  exact ⟨c, ⟨K.2.1 a c A.1 q, A.2⟩, r⟩
theorem ArR.ext (A : ArR Z h a ty C vs) (E : Ext h h') : ArR Z h' a ty C vs := by
  obtain ⟨c, A, r⟩ := A
  exact ⟨c, A.ext E, r⟩
theorem ArR.other {i : Nat} {v : Value} (A : ArR Z h a ty C vs) (W : Wr h h' b i v) (q : a ≠ b) : ArR Z h' a ty C vs := by
  obtain ⟨c, A, r⟩ := A
  exact ⟨c, A.other W q, r⟩
theorem ArR.sto {x : Addr} (A : ArR Z h a ty C vs) (I : Ins Z h x C true) : Sto Z h a (.ref x) := by
  obtain ⟨c, A, -, -, -, kk, comp, t, o1, o2, o3⟩ := A
  obtain ⟨cv, cT, i1, i2, i3⟩ := I
  cases o3.symm.trans i2
  simp only [Bool.and_eq_true, Bool.not_eq_true'] at i3
  obtain ⟨kc, q⟩ := Vm.classAt_of_findClass o3
  obtain ⟨kv, q2⟩ := Vm.classAt_of_assignable i3.2 ⟨kc, q⟩
  exact Or.inr ⟨c, cv, kk, kv, kc, _, _, x, A.1, o1, o2, q, rfl, i1, i3.1, q2, i3.2⟩
theorem WP.aastore (K : Ok k l Z n0 rm bytes maxL y ret Q) {j : Int32} {v : Value} (pc' i : Nat) (A : ArR Z h a ty C vs) (hty : ty.isReference = true) (F : Sto Z h a v) (hf : fits ty v = true) (hj : j.toInt = (i : Nat)) (hi : i < vs.length) (hd : decode bytes pc = .ok (.aastore, 1)) (hp : pc + 1 = pc') (ha : n0 ≤ a)
    (w : ∀ h', Keep h h' [a] → ArR Z h' a ty C (vs.set i v) → WP k h' cells slots pc' ls st) : WP k h cells slots pc ls (v :: .int j :: .ref a :: st) := by
  subst hp
  intro T locs X e N
  obtain ⟨c, A', q1, q2, q3, q4⟩ := A
  obtain ⟨r1, r2⟩ := idx_ok hj (show i < c.slots.size by have := congrArg List.length q1; simp at this; omega)
  obtain ⟨T', h', X', e', W', stp⟩ := stR X K.hx K.hZ e A' r1 hty F (g := mkF k.m pc ls.toArray (v :: .int j :: .ref a :: st)) rfl rfl (K.dec hd)
  rw [r2] at W'
  have A2 : ArR Z h' a ty C (vs.set i v) := by
    refine ⟨c.setSlot i v, A'.same W', by simp [Cell.setSlot, q1], by simpa using q2, fun u hu => ?_, q4⟩
    rcases List.mem_or_eq_of_mem_set hu with z | rfl
    · exact q3 u z
    · exact hf
  exact End.back stp (w h' (Keep.of_wr W') A2 T' _ X' e' (Fr.snoc X' N (by rw [K.hn0]; exact ha)))
theorem new_ref {cA : ClassId} {n : Int32} {m : Nat} (A : Arr Z h a (newA cA ty n) ty) (hr : ty.isReference = true) (hn : n.toInt = (m : Nat)) (O : ∃ (kk : Class) (comp : ClassId) (t : FieldType), Z.vm.classes[cA]? = some kk ∧ kk.kind = .array comp t ∧ Z.vm.findClass C = some comp) : ArR Z h a ty C (List.replicate m .null) := by
  have e : n.toNatClampNeg = m := by simp only [Int32.toNatClampNeg]; omega
  have d : defaultValue ty = .null := by cases ty <;> simp [FieldType.isReference] at hr <;> rfl
  refine ⟨_, A, ?_, ?_, fun v hv => ?_, O⟩
  · simp [newA, e, d]
  · have := n.toInt_lt; simp; omega
  · rw [List.eq_of_mem_replicate hv]; cases ty <;> simp [FieldType.isReference] at hr <;> rfl
theorem WP.anewarrayA (K : Ok k l Z n0 rm bytes maxL y ret Q) {i : Nat} {et : FieldType} {n : Int32} (pc' m cap cells' slots' : Nat) (hC : (FieldType.array et).toString = C) (h1 : (Jvm.Cond.classLink y.cls i C).before a0 Z = true) (h2 : (Jvm.Cond.arrayOver (.array et)).before a0 Z = true) (hd : decode bytes pc = .ok (.anewarray i, 3)) (hp : pc + 3 = pc') (hn : n.toInt = (m : Nat)) (hcap : m ≤ cap) (hb : cap * 8 ≤ 536870912)
    (hc : cells + 1 = cells') (hs : slots + cap = slots') (hc' : cells' ≤ rm.cells) (hs' : slots' ≤ rm.slots)
    (w : ∀ h' a, a = h.size → Ext h h' → ArR Z h' a (.array et) C (List.replicate m .null) → WP k h' cells' slots' pc' ls (.ref a :: st)) : WP k h cells slots pc ls (.int n :: st) := by
  subst hp hc hs
  intro T locs X e N
  have hn' : ¬ n < 0 := by rw [Int32.lt_iff_toInt_lt, show (0 : Int32).toInt = 0 from rfl]; omega
  obtain ⟨T', h', cA, X', e', E', A', -, O, stp⟩ := newRA X K.hx K.hZ K.hown hC h1 h2 e (g := mkF k.m pc ls.toArray (.int n :: st)) rfl (K.dec hd) rfl hn' (cap := cap) (by simp only [Int32.toNatClampNeg]; omega) hb (by rw [K.hR]; exact hc') (by rw [K.hR]; exact hs') (ad := "[" ++ C) rfl
  obtain ⟨kk, comp, o1, o2, o3⟩ := O
  exact End.back stp (w h' _ rfl E' (new_ref A' rfl hn ⟨kk, comp, _, o1, o2, o3⟩) T' locs X' e' N)
theorem WP.anewarrayO (K : Ok k l Z n0 rm bytes maxL y ret Q) {i : Nat} {n : Int32} (pc' m cap cells' slots' : Nat) (h1 : (Jvm.Cond.classLink y.cls i C).before a0 Z = true) (h2 : (Jvm.Cond.arrayOver (.object C)).before a0 Z = true) (hd : decode bytes pc = .ok (.anewarray i, 3)) (hp : pc + 3 = pc') (hn : n.toInt = (m : Nat)) (hcap : m ≤ cap) (hb : cap * 8 ≤ 536870912)
    (hc : cells + 1 = cells') (hs : slots + cap = slots') (hc' : cells' ≤ rm.cells) (hs' : slots' ≤ rm.slots)
    (w : ∀ h' a, a = h.size → Ext h h' → ArR Z h' a (.object C) C (List.replicate m .null) → WP k h' cells' slots' pc' ls (.ref a :: st)) : WP k h cells slots pc ls (.int n :: st) := by
  subst hp hc hs
  intro T locs X e N
  have hn' : ¬ n < 0 := by rw [Int32.lt_iff_toInt_lt, show (0 : Int32).toInt = 0 from rfl]; omega
  obtain ⟨T', h', cA, X', e', E', A', O, stp⟩ := newR X K.hx K.hZ K.hown h1 h2 e (g := mkF k.m pc ls.toArray (.int n :: st)) rfl (K.dec hd) rfl hn' (cap := cap) (by simp only [Int32.toNatClampNeg]; omega) hb (by rw [K.hR]; exact hc') (by rw [K.hR]; exact hs')
  obtain ⟨kk, comp, o1, o2, o3⟩ := O
  exact End.back stp (w h' _ rfl E' (new_ref A' rfl hn ⟨kk, comp, _, o1, o2, o3⟩) T' locs X' e' N)
theorem ArI.of_new {m : Nat} (A : ArV Z h a (newarray.typeOf .int) (List.replicate m (defaultValue (newarray.typeOf .int)))) : ArI Z h a (List.replicate m 0) := by
  unfold ArI; rw [List.map_replicate]; exact A
theorem ArJ.of_new {m : Nat} (A : ArV Z h a (newarray.typeOf .long) (List.replicate m (defaultValue (newarray.typeOf .long)))) : ArJ Z h a (List.replicate m 0) := by
  unfold ArJ; rw [List.map_replicate]; exact A
theorem ArB.of_new {m : Nat} (A : ArV Z h a (newarray.typeOf .byte) (List.replicate m (defaultValue (newarray.typeOf .byte)))) : ArB Z h a (List.replicate m 0) := by
  unfold ArB; rw [List.map_replicate]; exact A
theorem ArI.len {xs : List Int32} (A : ArI Z h a xs) : xs.length < 2 ^ 31 := by obtain ⟨c, -, -, q, -⟩ := A; simpa using q
theorem ArJ.len {xs : List Int64} (A : ArJ Z h a xs) : xs.length < 2 ^ 31 := by obtain ⟨c, -, -, q, -⟩ := A; simpa using q
theorem ArB.len {xs : List Int8} (A : ArB Z h a xs) : xs.length < 2 ^ 31 := by obtain ⟨c, -, -, q, -⟩ := A; simpa using q
theorem ArI.lt {xs : List Int32} (A : ArI Z h a xs) : a < h.size := ArV.lt A
theorem ArI.keep {xs : List Int32} {ws : List Addr} (A : ArI Z h a xs) (K : Keep h h' ws) (q : a ∉ ws) : ArI Z h' a xs := ArV.keep A K q
theorem ArI.ext {xs : List Int32} (A : ArI Z h a xs) (E : Ext h h') : ArI Z h' a xs := ArV.ext A E
theorem ArI.other {xs : List Int32} {i : Nat} {v : Value} (A : ArI Z h a xs) (W : Wr h h' b i v) (q : a ≠ b) : ArI Z h' a xs := ArV.other A W q
theorem ArJ.lt {xs : List Int64} (A : ArJ Z h a xs) : a < h.size := ArV.lt A
theorem ArJ.keep {xs : List Int64} {ws : List Addr} (A : ArJ Z h a xs) (K : Keep h h' ws) (q : a ∉ ws) : ArJ Z h' a xs := ArV.keep A K q
theorem ArJ.ext {xs : List Int64} (A : ArJ Z h a xs) (E : Ext h h') : ArJ Z h' a xs := ArV.ext A E
theorem ArJ.other {xs : List Int64} {i : Nat} {v : Value} (A : ArJ Z h a xs) (W : Wr h h' b i v) (q : a ≠ b) : ArJ Z h' a xs := ArV.other A W q
theorem ArB.lt {xs : List Int8} (A : ArB Z h a xs) : a < h.size := ArV.lt A
theorem ArB.keep {xs : List Int8} {ws : List Addr} (A : ArB Z h a xs) (K : Keep h h' ws) (q : a ∉ ws) : ArB Z h' a xs := ArV.keep A K q
theorem ArB.ext {xs : List Int8} (A : ArB Z h a xs) (E : Ext h h') : ArB Z h' a xs := ArV.ext A E
theorem ArB.other {xs : List Int8} {i : Nat} {v : Value} (A : ArB Z h a xs) (W : Wr h h' b i v) (q : a ≠ b) : ArB Z h' a xs := ArV.other A W q
/-! calls by contract -/
theorem WP.callS (K : Ok k l Z n0 rm bytes maxL y ret Q) {i maxL' : Nat} {y' : MethodName} {bytes' : ByteArray} {ret' : Option FieldType} {rm' : Room} {as : Array Value} {Q' : Option Value → Heap → Prop} {ps : List FieldType} {rt : Option FieldType} (pc' cells' slots' W : Nat) (argsL rest : List Value)
    (h1 : (Jvm.Cond.methodLink y.cls i y').before a0 Z = true) (h2 : (Jvm.Cond.static y').before a0 Z = true) (h3 : (Jvm.Cond.initialized y'.cls).before a0 Z = true) (h4 : (Jvm.Cond.code y' bytes' maxL' ret').before a0 Z = true)
    (hy : y'.cls ≠ "java/lang/invoke/MethodHandle" ∧ y'.cls ≠ "java/lang/invoke/VarHandle") (hpd : parseMethodDescriptor y'.desc = some ⟨ps, rt⟩) (hlen : argsL.length = ps.length) (has : argsL.toArray = as) (hst : argsL.reverse ++ rest = st)
    (hf : rm'.frames + 1 ≤ rm.frames) (hl : W + (maxL' + 11) + rm'.locals ≤ rm.locals) (hW : (rest.map fun v => v.category).sum ≤ W) (hsz : ls.length = maxL) (hd : decode bytes pc = .ok (.invokestatic i, 3)) (hp : pc + 3 = pc')
    (hc : cells + rm'.cells = cells') (hs : slots + rm'.slots = slots') (hc' : cells' ≤ rm.cells) (hs' : slots' ≤ rm.slots) (C : Con l Z y' bytes' maxL' ret' rm' n0 as h Q')
    (w : ∀ v h', Q' v h' → WP k h' cells' slots' pc' ls (v.toList ++ rest)) : WP k h cells slots pc ls st := by
  subst hp hc hs hst has
  obtain ⟨hx, hZ, rfl, hby, hml, hown, hret, hlk, hnm, rfl, rfl, rfl, hQ0, hfin⟩ := K
  intro T locs X e N
  obtain ⟨v, vm1, ⟨T', L', k', n'⟩, -, X', ⟨Lc, ⟨hQ, hN⟩, l', y'', z'⟩, stp⟩ := Jvm.LawKit.callS X hx hown (mvT hZ h1) (mvT hZ h2) (mvT hZ h3) (mvT hZ h4) hy (backOf (W := W) (Q := fun v h L => Q' v h ∧ Fr k.n0 L) (C []) hZ h4 h3 hf hl) (g := mkF k.m pc ls.toArray (argsL.reverse ++ rest)) rfl (by rw [hml]; simpa using hsz) (lenOf hpd hlen) rfl (by show 2 * 0 + _ ≤ _; omega) (hb hby hd) (fun _ _ => ⟨rfl, e, hc', hs'⟩)
  dsimp only [Pt.U, Pt.locs, Pt.cells, Pt.slots] at X' l' y'' z' stp hQ
  subst l' y'' z'
  exact End.back stp (w v _ hQ T' _ X' rfl (Fr.app N hN))
theorem WP.callI (K : Ok k l Z n0 rm bytes maxL y ret Q) {i maxL' : Nat} {y' : MethodName} {bytes' : ByteArray} {rm' : Room} {as : Array Value} {Q' : Option Value → Heap → Prop} {ps : List FieldType} {rt : Option FieldType} (pc' cells' slots' W : Nat) (argsL rest : List Value)
    (h1 : (Jvm.Cond.methodLink y.cls i y').before a0 Z = true) (h2 : (Jvm.Cond.instanceMethod y').before a0 Z = true) (h3 : (Jvm.Cond.initialized y'.cls).before a0 Z = true) (h4 : (Jvm.Cond.code y' bytes' maxL' none).before a0 Z = true) (hy1 : y'.name = "<init>")
    (hy : y'.cls ≠ "java/lang/invoke/MethodHandle" ∧ y'.cls ≠ "java/lang/invoke/VarHandle") (hpd : parseMethodDescriptor y'.desc = some ⟨ps, rt⟩) (hlen : argsL.length = ps.length) (has : (.ref a :: argsL).toArray = as) (hst : argsL.reverse ++ .ref a :: rest = st)
    (hf : rm'.frames + 1 ≤ rm.frames) (hl : W + (maxL' + 11) + rm'.locals ≤ rm.locals) (hW : (rest.map fun v => v.category).sum ≤ W) (hsz : ls.length = maxL) (hd : decode bytes pc = .ok (.invokespecial i, 3)) (hp : pc + 3 = pc')
    (hc : cells + rm'.cells = cells') (hs : slots + rm'.slots = slots') (hc' : cells' ≤ rm.cells) (hs' : slots' ≤ rm.slots) (C : Con l Z y' bytes' maxL' none rm' n0 as h Q')
    (w : ∀ v h', Q' v h' → WP k h' cells' slots' pc' ls (v.toList ++ rest)) : WP k h cells slots pc ls st := by
  subst hp hc hs hst has
  obtain ⟨hx, hZ, rfl, hby, hml, hown, hret, hlk, hnm, rfl, rfl, rfl, hQ0, hfin⟩ := K
  intro T locs X e N
  obtain ⟨v, vm1, ⟨T', L', k', n'⟩, -, X', ⟨Lc, ⟨hQ, hN⟩, l', y'', z'⟩, stp⟩ := Stand.specialBack X hx hy1 hown (mvT hZ h1) (mvT hZ h2) (mvT hZ h4) hy (backOf (W := W) (Q := fun v h L => Q' v h ∧ Fr k.n0 L) (C []) hZ h4 h3 hf hl) (g := mkF k.m pc ls.toArray (argsL.reverse ++ .ref a :: rest)) rfl (by rw [hml]; simpa using hsz) (Steps.refl _) (a := a) (argsL := argsL) (rest := rest) (lenOf hpd hlen) rfl (by show 2 * 0 + _ ≤ _; omega) (hb hby hd) (fun _ _ => ⟨rfl, e, hc', hs'⟩)
  dsimp only [Pt.U, Pt.locs, Pt.cells, Pt.slots] at X' l' y'' z' stp hQ
  subst l' y'' z'
  exact End.back (fun t q => stp.trans q) (w v _ hQ T' _ X' rfl (Fr.app N hN))
theorem WP.callV (K : Ok k l Z n0 rm bytes maxL y ret Q) {i maxL' : Nat} {y' z : MethodName} {C : String} {bytes' : ByteArray} {ret' : Option FieldType} {rm' : Room} {as : Array Value} {Q' : Option Value → Heap → Prop} {ps : List FieldType} {rt : Option FieldType} (pc' cells' slots' W : Nat) (argsL rest : List Value)
    (h1 : (Jvm.Cond.methodLink y.cls i y').before a0 Z = true) (h2 : (Jvm.Cond.declares y').before a0 Z = true) (hzy : z = y') (h5 : (Jvm.Cond.selects C y' z).before a0 Z = true) (h6 : (Jvm.Cond.instanceMethod z).before a0 Z = true) (h3 : (Jvm.Cond.initialized z.cls).before a0 Z = true) (h4 : (Jvm.Cond.code z bytes' maxL' ret').before a0 Z = true)
    (hy : y'.cls ≠ "java/lang/invoke/MethodHandle" ∧ y'.cls ≠ "java/lang/invoke/VarHandle") (hpd : parseMethodDescriptor y'.desc = some ⟨ps, rt⟩) (hlen : argsL.length = ps.length) (has : (.ref a :: argsL).toArray = as) (hst : argsL.reverse ++ .ref a :: rest = st)
    (hf : rm'.frames + 1 ≤ rm.frames) (hl : W + (maxL' + 11) + rm'.locals ≤ rm.locals) (hW : (rest.map fun v => v.category).sum ≤ W) (hsz : ls.length = maxL) (hd : decode bytes pc = .ok (.invokevirtual i, 3)) (hp : pc + 3 = pc')
    (hc : cells + rm'.cells = cells') (hs : slots + rm'.slots = slots') (hc' : cells' ≤ rm.cells) (hs' : slots' ≤ rm.slots) (E : Exa Z h a C) (Cn : Con l Z z bytes' maxL' ret' rm' n0 as h Q')
    (w : ∀ v h', Q' v h' → WP k h' cells' slots' pc' ls (v.toList ++ rest)) : WP k h cells slots pc ls st := by
  subst hzy hp hc hs hst has
  obtain ⟨hx, hZ, rfl, hby, hml, hown, hret, hlk, hnm, rfl, rfl, rfl, hQ0, hfin⟩ := K
  intro T locs X e N
  obtain ⟨cq, kq, qa, qb, qc⟩ := isOf hZ e E
  obtain ⟨v, vm1, ⟨T', L', k', n'⟩, -, X', ⟨Lc, ⟨hQ, hN⟩, l', y'', z'⟩, stp⟩ := Stand.virtualBack X hx hown (mvT hZ h1) (mvT hZ h2) (notFace_of_selects (args := #[]) (mvT hZ h5)) (mvT hZ h5) (mvT hZ h6) hy (backOf (W := W) (Q := fun v h L => Q' v h ∧ Fr k.n0 L) (Cn []) hZ h4 h3 hf hl) qa qc (g := mkF k.m pc ls.toArray (argsL.reverse ++ .ref a :: rest)) rfl (by rw [hml]; simpa using hsz) (Steps.refl _) (argsL := argsL) (rest := rest) (lenOf hpd hlen) rfl (by show 2 * 0 + _ ≤ _; omega) (hb hby hd) (fun _ _ => ⟨rfl, e, hc', hs'⟩)
  dsimp only [Pt.U, Pt.locs, Pt.cells, Pt.slots] at X' l' y'' z' stp hQ
  subst l' y'' z'
  exact End.back (fun t q => stp.trans q) (w v _ hQ T' _ X' rfl (Fr.app N hN))
theorem r1_next {Q' : Value → Heap → Prop} {cells' slots' pc' : Nat} {rest : List Value} (w : ∀ r h', Q' r h' → WP k h' cells' slots' pc' ls (r :: rest)) : ∀ v h', R1 Q' v h' → WP k h' cells' slots' pc' ls (v.toList ++ rest) := fun v h' q => by
  obtain ⟨r, rfl, q⟩ := q; exact w r h' q
theorem r0_next {Q' : Heap → Prop} {cells' slots' pc' : Nat} {rest : List Value} (w : ∀ h', Q' h' → WP k h' cells' slots' pc' ls rest) : ∀ v h', R0 Q' v h' → WP k h' cells' slots' pc' ls (v.toList ++ rest) := fun v h' q => by
  obtain ⟨rfl, q⟩ := q; exact w h' q
end HeapSteps
end Jvm.OwnWP
namespace Jvm.OwnWP
theorem i32_of {n : Nat} (h : n < 2 ^ 31) : ∃ z : Int32, z.toInt = (n : Nat) := ⟨Int32.ofNat n, Int32.toInt_ofNat_of_lt h⟩
theorem i32_rng (x : Int32) : -2147483648 ≤ x.toInt ∧ x.toInt < 2147483648 := ⟨x.le_toInt, x.toInt_lt⟩
theorem i64_rng (x : Int64) : -9223372036854775808 ≤ x.toInt ∧ x.toInt < 9223372036854775808 := ⟨x.le_toInt, x.toInt_lt⟩
theorem i32_add {x y : Int32} (h1 : -2147483648 ≤ x.toInt + y.toInt) (h2 : x.toInt + y.toInt < 2147483648) : (x + y).toInt = x.toInt + y.toInt := Jvm.Free.XT.add32 ⟨by omega, by omega⟩
theorem i32_sub {x y : Int32} (h1 : -2147483648 ≤ x.toInt - y.toInt) (h2 : x.toInt - y.toInt < 2147483648) : (x - y).toInt = x.toInt - y.toInt := Jvm.Free.XT.sub32 ⟨by omega, by omega⟩
theorem i64_add {x y : Int64} (h1 : -9223372036854775808 ≤ x.toInt + y.toInt) (h2 : x.toInt + y.toInt < 9223372036854775808) : (x + y).toInt = x.toInt + y.toInt := Jvm.Free.XT.add64 ⟨by omega, by omega⟩
theorem i64_sub {x y : Int64} (h1 : -9223372036854775808 ≤ x.toInt - y.toInt) (h2 : x.toInt - y.toInt < 9223372036854775808) : (x - y).toInt = x.toInt - y.toInt := Jvm.Free.XT.sub64 ⟨by omega, by omega⟩
theorem inc32 {x : Int32} {n : Nat} (h : x.toInt = (n : Nat)) (hn : n < 2147483647) : (x + (1 : Int32)).toInt = ((n + 1 : Nat) : Int) := by
  have e1 : (1 : Int32).toInt = 1 := rfl
  rw [i32_add (by omega) (by omega)]; omega
theorem i32_eq {x y : Int32} (h : x.toInt = y.toInt) : x = y := Int32.toInt_inj.mp h
theorem i64_eq {x y : Int64} (h : x.toInt = y.toInt) : x = y := Int64.toInt_inj.mp h
theorem ite01 (P : Prop) [Decidable P] : ∃ t : Int, (if P then (1 : Int) else 0) = t ∧ (P → t = 1) ∧ (¬ P → t = 0) := by
  by_cases h : P
  · exact ⟨1, by simp [h], fun _ => rfl, fun q => absurd h q⟩
  · exact ⟨0, by simp [h], fun q => absurd q h, fun _ => rfl⟩
theorem i32_mul {x y : Int32} (h1 : -2147483648 ≤ x.toInt * y.toInt) (h2 : x.toInt * y.toInt < 2147483648) : (x * y).toInt = x.toInt * y.toInt := Jvm.Free.XT.mul32 ⟨by omega, by omega⟩
theorem st1 {ls : List Slot} {i : Nat} {o : Slot} {v : Value} (h : ls[i]? = some o) (ho : Jvm.RoadKit.One o) (hv : v.category = 1) : storeLocals ls.toArray i v = some (ls.set i (.val v)).toArray := by
  rw [Jvm.Free.XS.store1 (o := o) (by simpa using h) ho hv]; simp
theorem ushr1 {x : Int32} (h : 0 ≤ x.toInt) : (Jvm.Free.XT.ushr x 1).toInt = x.toInt / 2 := by
  have := Jvm.RoadKit.c_iushr x 1 1 rfl (by decide)
  have r := i32_rng x
  unfold Jvm.Free.XT.ushr
  rw [this]; omega
def min32 (x y : Int32) : Int32 := if x.toInt ≤ y.toInt then x else y
def max32 (x y : Int32) : Int32 := if x.toInt ≤ y.toInt then y else x
theorem min32_spec (x y : Int32) : (x.toInt ≤ y.toInt → (min32 x y).toInt = x.toInt) ∧ (y.toInt < x.toInt → (min32 x y).toInt = y.toInt) := by
  unfold min32; split <;> constructor <;> intro <;> first | rfl | omega
theorem max32_spec (x y : Int32) : (x.toInt ≤ y.toInt → (max32 x y).toInt = y.toInt) ∧ (y.toInt < x.toInt → (max32 x y).toInt = x.toInt) := by
  unfold max32; split <;> constructor <;> intro <;> first | rfl | omega
def min64 (x y : Int64) : Int64 := if x.toInt ≤ y.toInt then x else y
def max64 (x y : Int64) : Int64 := if x.toInt ≤ y.toInt then y else x
theorem min64_spec (x y : Int64) : (x.toInt ≤ y.toInt → (min64 x y).toInt = x.toInt) ∧ (y.toInt < x.toInt → (min64 x y).toInt = y.toInt) := by
  unfold min64; split <;> constructor <;> intro <;> first | rfl | omega
theorem max64_spec (x y : Int64) : (x.toInt ≤ y.toInt → (max64 x y).toInt = y.toInt) ∧ (y.toInt < x.toInt → (max64 x y).toInt = x.toInt) := by
  unfold max64; split <;> constructor <;> intro <;> first | rfl | omega
end Jvm.OwnWP
namespace Jvm.OwnWP
open Sem ClassFile Op Lib Jvm.Stand Jvm.Free Jvm.LawKit Jvm.RoadKit
theorem pop2L_step {tb : Tables} [Ours tb] {e : Env} {below : List Frame} {T target : State} {m : MethodId} {c : Code} {g : JFrame} (h : At T m c below) (hx : tb.exec = Jvm.exec) (hg : g.method = m) {x : Int64} {rest : List Value} (hd : decode c.code g.pc = .ok (.pop2, 1)) (hs : g.stack = .long x :: rest)
    (hr : Steps tb e below (T.setTop { g with pc := g.pc + 1, stack := rest }) target) : Steps tb e below (T.setTop g) target := by
  subst hg
  have hc : (Value.long x).category = 2 := rfl
  jvm_step h [h.top, hx, hd, Op.pop2.wp_sem, hs, hc]
  exact hr
section More
variable {k : Cx} {l : Launch} {Z : State} {n0 : Nat} {rm : Room} {bytes : ByteArray} {maxL : Nat} {y : MethodName} {ret : Option FieldType} {Q : Option Value → Heap → Prop} {h h' : Heap} {cells slots pc : Nat} {ls : List Slot} {st : List Value} {a0 : Array Value} {a b : Addr}
theorem WP.callP (K : Ok k l Z n0 rm bytes maxL y ret Q) {i maxL' : Nat} {y' : MethodName} {C : String} {bytes' : ByteArray} {ret' : Option FieldType} {rm' : Room} {as : Array Value} {Q' : Option Value → Heap → Prop} {ps : List FieldType} {rt : Option FieldType} (pc' cells' slots' W : Nat) (argsL rest : List Value)
    (h1 : (Jvm.Cond.methodLink y.cls i y').before a0 Z = true) (h2 : (Jvm.Cond.instanceMethod y').before a0 Z = true) {C0 : String} {u0 u : MethodName} (hu : u.cls = y'.cls) (h5 : (Jvm.Cond.selects C0 u0 u).before a0 Z = true) (h6 : (Jvm.Cond.privateMethod y').before a0 Z = true) (h3 : (Jvm.Cond.initialized y'.cls).before a0 Z = true) (h4 : (Jvm.Cond.code y' bytes' maxL' ret').before a0 Z = true)
    (hy : y'.cls ≠ "java/lang/invoke/MethodHandle" ∧ y'.cls ≠ "java/lang/invoke/VarHandle") (hpd : parseMethodDescriptor y'.desc = some ⟨ps, rt⟩) (hlen : argsL.length = ps.length) (has : (.ref a :: argsL).toArray = as) (hst : argsL.reverse ++ .ref a :: rest = st)
    (hf : rm'.frames + 1 ≤ rm.frames) (hl : W + (maxL' + 11) + rm'.locals ≤ rm.locals) (hW : (rest.map fun v => v.category).sum ≤ W) (hsz : ls.length = maxL) (hd : decode bytes pc = .ok (.invokevirtual i, 3)) (hp : pc + 3 = pc')
    (hc : cells + rm'.cells = cells') (hs : slots + rm'.slots = slots') (hc' : cells' ≤ rm.cells) (hs' : slots' ≤ rm.slots) (E : Exa Z h a C) (Cn : Con l Z y' bytes' maxL' ret' rm' n0 as h Q')
    (w : ∀ v h', Q' v h' → WP k h' cells' slots' pc' ls (v.toList ++ rest)) : WP k h cells slots pc ls st := by
  subst hp hc hs hst has
  obtain ⟨hx, hZ, rfl, hby, hml, hown, hret, hlk, hnm, rfl, rfl, rfl, hQ0, hfin⟩ := K
  intro T locs X e N
  obtain ⟨cq, qc, qo⟩ := E.cell
  have hsel : (Jvm.Cond.selects y'.cls y' y').before k.args k.s = true := by
    obtain ⟨-, -, mm, -, -, q3, -, kP, hkP, hkPi⟩ := Cond.selects_spec (mvT hZ h5 (args := k.args))
    exact Stand.selects_self_of_private (by rw [← hu]; exact findClass_of_methodNamed q3) hkP hkPi (Cond.privateMethod_at (mvP hZ h6 (args := #[]))) (mvT hZ h2) hy
  obtain ⟨v, vm1, ⟨T', L', k', n'⟩, -, X', ⟨Lc, ⟨hQ, hN⟩, l', y'', z'⟩, stp⟩ := Stand.privateBack X hx hown (mvT hZ h1) (mvT hZ h2) hsel (Cond.privateMethod_at (mvP hZ h6 (args := #[]))) (mvT hZ h4) hy (backOf (W := W) (Q := fun v h L => Q' v h ∧ Fr k.n0 L) (Cn []) hZ h4 h3 hf hl) (g := mkF k.m pc ls.toArray (argsL.reverse ++ .ref a :: rest)) rfl (by rw [hml]; simpa using hsz) (Steps.refl _) (a := a) (by rw [e]; exact qc) qo (argsL := argsL) (rest := rest) (lenOf hpd hlen) rfl (by show 2 * 0 + _ ≤ _; omega) (hb hby hd) (fun _ _ => ⟨rfl, e, hc', hs'⟩)
  dsimp only [Pt.U, Pt.locs, Pt.cells, Pt.slots] at X' l' y'' z' stp hQ
  subst l' y'' z'
  exact End.back (fun t q => stp.trans q) (w v _ hQ T' _ X' rfl (Fr.app N hN))
theorem WP.callF (K : Ok k l Z n0 rm bytes maxL y ret Q) {i cnt maxL' : Nat} {y' z : MethodName} {C : String} {bytes' : ByteArray} {ret' : Option FieldType} {rm' : Room} {as : Array Value} {Q' : Option Value → Heap → Prop} {ps : List FieldType} {rt : Option FieldType} (pc' cells' slots' W : Nat) (argsL rest : List Value)
    (h1 : (Jvm.Cond.methodLink y.cls i y').before a0 Z = true) (h2 : (Jvm.Cond.declares y').before a0 Z = true) (h7 : (Jvm.Cond.interfaceMethod y'.cls y'.cls y'.name y'.desc).before a0 Z = true) (hfa : ((Jvm.Cond.interfaceMethod y'.cls y'.cls y'.name y'.desc).onTables && (Jvm.Cond.interfaceMethod y'.cls y'.cls y'.name y'.desc).keepsFace) = true) (h5 : (Jvm.Cond.selects C y' z).before a0 Z = true) (h6 : (Jvm.Cond.instanceMethod z).before a0 Z = true)
    (h8 : (Jvm.Cond.publicMethod z).before a0 Z = true) (h9 : (Jvm.Cond.unhidden C y'.name y'.desc).before a0 Z = true) (h10 : (Jvm.Cond.castable C y'.cls).before a0 Z = true) (h3 : (Jvm.Cond.initialized z.cls).before a0 Z = true) (h4 : (Jvm.Cond.code z bytes' maxL' ret').before a0 Z = true)
    (hy : y'.cls ≠ "java/lang/invoke/MethodHandle" ∧ y'.cls ≠ "java/lang/invoke/VarHandle") (hpd : parseMethodDescriptor y'.desc = some ⟨ps, rt⟩) (hlen : argsL.length = ps.length) (has : (.ref a :: argsL).toArray = as) (hst : argsL.reverse ++ .ref a :: rest = st)
    (hf : rm'.frames + 1 ≤ rm.frames) (hl : W + (maxL' + 11) + rm'.locals ≤ rm.locals) (hW : (rest.map fun v => v.category).sum ≤ W) (hsz : ls.length = maxL) (hd : decode bytes pc = .ok (.invokeinterface i cnt, 5)) (hp : pc + 5 = pc')
    (hc : cells + rm'.cells = cells') (hs : slots + rm'.slots = slots') (hc' : cells' ≤ rm.cells) (hs' : slots' ≤ rm.slots) (E : Exa Z h a C) (Cn : Con l Z z bytes' maxL' ret' rm' n0 as h Q')
    (w : ∀ v h', Q' v h' → WP k h' cells' slots' pc' ls (v.toList ++ rest)) : WP k h cells slots pc ls st := by
  subst hp hc hs hst has
  obtain ⟨hx, hZ, rfl, hby, hml, hown, hret, hlk, hnm, rfl, rfl, rfl, hQ0, hfin⟩ := K
  intro T locs X e N
  obtain ⟨cq, kq, qa, qb, qc⟩ := isOf hZ e E
  obtain ⟨v, vm1, ⟨T', L', k', n'⟩, -, X', ⟨Lc, ⟨hQ, hN⟩, l', y'', z'⟩, stp⟩ := Stand.interfaceBack X hx hown (mvT hZ h1) (mvT hZ h2) (mvT hZ h7 hfa) (mvT hZ h5) (mvT hZ h6) (mvT hZ h8) (mvT hZ h9) (mvT hZ h10) hy (backOf (W := W) (Q := fun v h L => Q' v h ∧ Fr k.n0 L) (Cn []) hZ h4 h3 hf hl) qa qb qc (g := mkF k.m pc ls.toArray (argsL.reverse ++ .ref a :: rest)) rfl (by rw [hml]; simpa using hsz) (Steps.refl _) (argsL := argsL) (rest := rest) (lenOf hpd hlen) rfl (by show 2 * 0 + _ ≤ _; omega) (hb hby hd) (fun _ _ => ⟨rfl, e, hc', hs'⟩)
  dsimp only [Pt.U, Pt.locs, Pt.cells, Pt.slots] at X' l' y'' z' stp hQ
  subst l' y'' z'
  exact End.back (fun t q => stp.trans q) (w v _ hQ T' _ X' rfl (Fr.app N hN))
theorem WP.callSN (K : Ok k l Z n0 rm bytes maxL y ret Q) {i maxL' : Nat} {host : String} {y' : MethodName} {bytes' : ByteArray} {ret' : Option FieldType} {rm' : Room} {as : Array Value} {Q' : Option Value → Heap → Prop} {ps : List FieldType} {rt : Option FieldType} (pc' cells' slots' W : Nat) (argsL rest : List Value)
    (h1 : (Jvm.Cond.methodLinkNest y.cls i y' host).before a0 Z = true) (h2 : (Jvm.Cond.static y').before a0 Z = true) (h3 : (Jvm.Cond.initialized y'.cls).before a0 Z = true) (h4 : (Jvm.Cond.code y' bytes' maxL' ret').before a0 Z = true)
    (hy : y'.cls ≠ "java/lang/invoke/MethodHandle" ∧ y'.cls ≠ "java/lang/invoke/VarHandle") (hpd : parseMethodDescriptor y'.desc = some ⟨ps, rt⟩) (hlen : argsL.length = ps.length) (has : argsL.toArray = as) (hst : argsL.reverse ++ rest = st)
    (hf : rm'.frames + 1 ≤ rm.frames) (hl : W + (maxL' + 11) + rm'.locals ≤ rm.locals) (hW : (rest.map fun v => v.category).sum ≤ W) (hsz : ls.length = maxL) (hd : decode bytes pc = .ok (.invokestatic i, 3)) (hp : pc + 3 = pc')
    (hc : cells + rm'.cells = cells') (hs : slots + rm'.slots = slots') (hc' : cells' ≤ rm.cells) (hs' : slots' ≤ rm.slots) (C : Con l Z y' bytes' maxL' ret' rm' n0 as h Q')
    (w : ∀ v h', Q' v h' → WP k h' cells' slots' pc' ls (v.toList ++ rest)) : WP k h cells slots pc ls st := by
  subst hp hc hs hst has
  obtain ⟨hx, hZ, rfl, hby, hml, hown, hret, hlk, hnm, rfl, rfl, rfl, hQ0, hfin⟩ := K
  intro T locs X e N
  obtain ⟨v, vm1, ⟨T', L', k', n'⟩, -, X', ⟨Lc, ⟨hQ, hN⟩, l', y'', z'⟩, stp⟩ := RoadKit.callSN X hx hown (Cond.methodLinkNest_wide hZ h1 :) (mvT hZ h2) (mvT hZ h3) (mvT hZ h4) hy (backOf (W := W) (Q := fun v h L => Q' v h ∧ Fr k.n0 L) (C []) hZ h4 h3 hf hl) (g := mkF k.m pc ls.toArray (argsL.reverse ++ rest)) rfl (by rw [hml]; simpa using hsz) (lenOf hpd hlen) rfl (by show 2 * 0 + _ ≤ _; omega) (hb hby hd) (fun _ _ => ⟨rfl, e, hc', hs'⟩)
  dsimp only [Pt.U, Pt.locs, Pt.cells, Pt.slots] at X' l' y'' z' stp hQ
  subst l' y'' z'
  exact End.back (fun t q => stp.trans q) (w v _ hQ T' _ X' rfl (Fr.app N hN))
theorem WP.getstaticN (K : Ok k l Z n0 rm bytes maxL y ret Q) {i : Nat} {R0 O n d host : String} {v : Value} (pc' : Nat) (hw : (Jvm.Cond.fieldLinkNest y.cls i R0 n d host).before a0 Z = true) (via : Via Z R0 O n d) (F : Sta Z h O n d v) (hd : decode bytes pc = .ok (.getstatic i, 3)) (hp : pc + 3 = pc')
    (w : WP k h cells slots pc' ls (v :: st)) : WP k h cells slots pc ls st := by
  subst hp
  intro T locs X e N
  obtain ⟨T', X', e', stp⟩ := getS2 X K.hx K.hZ K.hown (Or.inr hw) via e F (g := mkF k.m pc ls.toArray st) rfl (K.dec hd)
  exact End.back stp (w T' locs X' e' N)
theorem WP.pop2L (K : Ok k l Z n0 rm bytes maxL y ret Q) {x : Int64} (pc' : Nat) (hd : decode bytes pc = .ok (.pop2, 1)) (hp : pc + 1 = pc') (w : WP k h cells slots pc' ls st) : WP k h cells slots pc ls (.long x :: st) := by
  subst hp; exact w.plain fun T A t q => pop2L_step A K.hx rfl (K.dec hd) rfl q
/-! System.arraycopy -/
variable {ty : FieldType} {vs : List Value}
theorem ArV.arv (A : ArV Z h a ty vs) (d : Value) : ∃ (kk : ClassId) (z : Int32), Arv Z h a kk ty z vs d ∧ z.toNatClampNeg = vs.length := by
  obtain ⟨c, A, q1, q2, q3⟩ := A
  have hz : (Int32.ofNat vs.length).toInt = (vs.length : Nat) := Int32.toInt_ofNat_of_lt q2
  have e : (Int32.ofNat vs.length).toNatClampNeg = vs.length := by simp only [Int32.toNatClampNeg]; omega
  have es : c.slots.size = vs.length := by rw [← q1]; simp
  have hg : ∀ i, i < c.slots.size → c.slots[i]? = some (vs.getD i d) := fun i hi => by
    rw [List.getD_eq_getElem?_getD, ← q1]; simp [hi]
  refine ⟨c.cls, Int32.ofNat vs.length, ⟨c, A, rfl, by rw [e, es], by rw [Int32.lt_iff_toInt_lt, show (0 : Int32).toInt = 0 from rfl]; omega, hg, fun i hi => ?_⟩, e⟩
  have := hg i hi
  refine q3 _ ?_
  obtain ⟨h1, h2⟩ := Array.getElem?_eq_some_iff.mp this
  rw [← h2, ← q1]; simp
theorem ArV.of_arv {kk : ClassId} {z : Int32} {d : Value} (B : Arv Z h a kk ty z vs d) (hl : z.toNatClampNeg = vs.length) : ArV Z h a ty vs := by
  obtain ⟨c, A, -, S, hz, H, G⟩ := B
  have es : c.slots.size = vs.length := by rw [S, hl]
  have hr := z.toInt_lt
  have e : c.slots.toList = vs := by
    apply List.ext_getElem?
    intro i
    by_cases q : i < vs.length
    · have := H i (by omega)
      rw [List.getD_eq_getElem?_getD, List.getElem?_eq_getElem q] at this
      rw [Array.getElem?_toList, this, List.getElem?_eq_getElem q]; rfl
    · rw [List.getElem?_eq_none (by simpa [es] using q), List.getElem?_eq_none (by omega)]
  refine ⟨c, A, e, by rw [← hl]; simp only [Int32.toNatClampNeg]; omega, fun v hv => ?_⟩
  obtain ⟨i, h1, h2⟩ := List.mem_iff_getElem.mp hv
  have := G i (by omega)
  rw [List.getD_eq_getElem?_getD, List.getElem?_eq_getElem h1] at this
  rw [← h2]; exact this
theorem seg_eq {α : Type} (xs : List α) (d : α) (s n : Nat) (h : s + n ≤ xs.length) : (List.range n).map (fun i => xs.getD (s + i) d) = (xs.drop s).take n := by
  apply List.ext_getElem?
  intro i
  by_cases q : i < n
  · rw [List.getElem?_map, List.getElem?_range q, List.getElem?_take_of_lt q, List.getElem?_drop, List.getElem?_eq_getElem (by omega)]
    simp [List.getD_eq_getElem?_getD, List.getElem?_eq_getElem (show s + i < xs.length by omega)]
  · rw [List.getElem?_eq_none (by simp; omega), List.getElem?_eq_none (by simp; omega)]
theorem WP.acopyV (K : Ok k l Z n0 rm bytes maxL y ret Q) {i : Nat} {xs ys : List Value} {sp dp nn : Int32} (pc' W s d n : Nat) (h1 : (Jvm.Cond.methodLink y.cls i Jvm.Stand.acN).before a0 Z = true) (h2 : (Jvm.Cond.native Jvm.Stand.acN).before a0 Z = true) (h3 : (Jvm.Cond.static Jvm.Stand.acN).before a0 Z = true) (h4 : (Jvm.Cond.initialized "java/lang/System").before a0 Z = true)
    (A : ArV Z h a ty xs) (B : ArV Z h b ty ys) (hty : refKind ty = false ∨ (refKind ty = true ∧ n = 0)) (hs : sp.toInt = (s : Nat)) (hdp : dp.toInt = (d : Nat)) (hn : nn.toInt = (n : Nat)) (hsn : s + n ≤ xs.length) (hdn : d + n ≤ ys.length) (ha : n0 ≤ b) (hsz : ls.length = maxL) (hf : 1 ≤ rm.frames)
    (hW : (st.map fun v => v.category).sum ≤ W) (hlo : W + (nativeFrameWords "java/lang/System" "arraycopy" 5 + 11) ≤ rm.locals) (hd : decode bytes pc = .ok (.invokestatic i, 3)) (hp : pc + 3 = pc')
    (w : ∀ h', Keep h h' [b] → ArV Z h' b ty (ys.take d ++ (xs.drop s).take n ++ ys.drop (d + n)) → WP k h' cells slots pc' ls st) : WP k h cells slots pc ls (.int nn :: .int dp :: .ref b :: .int sp :: .ref a :: st) := by
  subst hp
  obtain ⟨hx, hZ, rfl, hby, hml, hown, hret, hlk, hnm, rfl, rfl, rfl, hQ0, hfin⟩ := K
  intro T locs X e N
  obtain ⟨ka, za, Aa, ea⟩ := A.arv .null
  obtain ⟨kb, zb, Bb, eb⟩ := B.arv .null
  have neg : ∀ {x : Int32} {m : Nat}, x.toInt = (m : Nat) → ¬ x < 0 ∧ x.toNatClampNeg = m := fun {x m} q => ⟨by rw [Int32.lt_iff_toInt_lt, show (0 : Int32).toInt = 0 from rfl]; omega, by simp only [Int32.toNatClampNeg]; omega⟩
  obtain ⟨s1, s2⟩ := neg hs
  obtain ⟨d1, d2⟩ := neg hdp
  obtain ⟨n1, n2⟩ := neg hn
  obtain ⟨T', h', L', X', e', N', K', B', stp⟩ := cpA X hx hZ hown h1 h2 h3 h4 e Aa Bb (us := (xs.drop s).take n) (by rcases hty with q | ⟨q, rfl⟩; exact Or.inl ⟨rfl, q⟩; exact Or.inr ⟨q, q, by simp [StoL]⟩) s1 d1 n1 (by rw [s2, n2, ea]; exact hsn) (by rw [d2, n2, eb]; exact hdn) (by rw [s2, n2]; exact (seg_eq xs .null s n hsn).symm) (by rw [d2, n2]; exact hdn) N ha
    (g := mkF k.m pc ls.toArray (.int nn :: .int dp :: .ref b :: .int sp :: .ref a :: st)) rfl (by rw [hml]; simpa using hsz) rfl (hb hby hd) hf (W := W) (by show 2 * 0 + _ ≤ _; omega) hlo
  rw [d2, n2] at B'
  refine End.back stp (w h' K' (ArV.of_arv B' ?_) T' L' X' e' N')
  rw [eb]; simp only [List.length_append, List.length_take, List.length_drop]; omega
theorem WP.acopyB (K : Ok k l Z n0 rm bytes maxL y ret Q) {i : Nat} {xs ys : List Int8} {sp dp nn : Int32} (pc' W s d n : Nat) (h1 : (Jvm.Cond.methodLink y.cls i Jvm.Stand.acN).before a0 Z = true) (h2 : (Jvm.Cond.native Jvm.Stand.acN).before a0 Z = true) (h3 : (Jvm.Cond.static Jvm.Stand.acN).before a0 Z = true) (h4 : (Jvm.Cond.initialized "java/lang/System").before a0 Z = true)
    (A : ArB Z h a xs) (B : ArB Z h b ys) (hs : sp.toInt = (s : Nat)) (hdp : dp.toInt = (d : Nat)) (hn : nn.toInt = (n : Nat)) (hsn : s + n ≤ xs.length) (hdn : d + n ≤ ys.length) (ha : n0 ≤ b) (hsz : ls.length = maxL) (hf : 1 ≤ rm.frames)
    (hW : (st.map fun v => v.category).sum ≤ W) (hlo : W + (nativeFrameWords "java/lang/System" "arraycopy" 5 + 11) ≤ rm.locals) (hd : decode bytes pc = .ok (.invokestatic i, 3)) (hp : pc + 3 = pc')
    (w : ∀ h', Keep h h' [b] → ArB Z h' b (ys.take d ++ (xs.drop s).take n ++ ys.drop (d + n)) → WP k h' cells slots pc' ls st) : WP k h cells slots pc ls (.int nn :: .int dp :: .ref b :: .int sp :: .ref a :: st) :=
  WP.acopyV K pc' W s d n h1 h2 h3 h4 A B (Or.inl rfl) hs hdp hn (by simpa using hsn) (by simpa using hdn) ha hsz hf hW hlo hd hp fun h' K' B' => w h' K' (by unfold ArB; rw [List.map_append, List.map_append, List.map_take, List.map_take, List.map_drop, List.map_drop]; exact B')
end More
end Jvm.OwnWP
namespace Jvm.OwnWP
open Sem ClassFile Op Lib Jvm.Stand Jvm.Free Jvm.LawKit Jvm.RoadKit
/-- the context over another start -/
def Cx.re (k : Cx) (s1 : State) : Cx := (k.p, k.l, k.e, k.R, s1, k.m, k.args, k.below, k.meth, k.c, k.Z, k.n0, k.Q, k.Fin)
def OkW (k : Cx) (s0 : State) (k0 : Nat) (l : Launch) (Z : State) (n0 : Nat) (rm : Room) (bytes : ByteArray) (maxL : Nat) (y : MethodName) (ret : Option FieldType) (Q : Option Value → Heap → Prop) : Prop :=
  Ok k l Z n0 rm bytes maxL y ret (fun v h => Q v h ∧ k0 ≤ h.size) ∧ (∃ vm0, k.s = s0.setVm vm0 ∧ s0.Since vm0 k0) ∧ (k.Fin = fun o s₂ L => ReturnedEndW s0 o s₂ L rm.cells rm.slots) ∧ ∀ v h, Q v h → k.Q v h
/-- the contract of a body that may intern -/
def ConW (l : Launch) (Z : State) (y : MethodName) (bytes : ByteArray) (maxL : Nat) (ret : Option FieldType) (rm : Room) (n0 : Nat) (as : Array Value) (h0 : Heap) (Q : Option Value → Heap → Prop) : Prop :=
  ∀ ws, MetFree l y (head1 (Jvm.Cond.code y bytes maxL ret :: ws) rm) (fun a U => a = as ∧ Z.Warmed39 U.vm ∧ U.heap = h0) (fun _ _ _ _ _ => True) (fun _ U o U' => ∃ v L, o = .returned v ∧ (Q v U'.heap ∧ Fr n0 L) ∧ ReturnedEndW U o U' L rm.cells rm.slots)
section WideBase
variable {k : Cx} {s0 : State} {k0 : Nat} {l : Launch} {Z : State} {n0 : Nat} {rm : Room} {bytes : ByteArray} {maxL : Nat} {y : MethodName} {ret : Option FieldType} {Q : Option Value → Heap → Prop} {h h' : Heap} {cells slots pc : Nat} {ls : List Slot} {st : List Value} {a0 : Array Value} {a b : Addr}
theorem OkW.re (K : OkW k s0 k0 l Z n0 rm bytes maxL y ret Q) {vm1 : Vm} {n1 : Nat} (hS : s0.Since vm1 n1) (hZ : Z.Warmed39 vm1) (hown : vm1.findClass y.cls = some k.m.cls) : OkW (k.re (s0.setVm vm1)) s0 n1 l Z n0 rm bytes maxL y ret Q := by
  obtain ⟨K, -, hF, hQ⟩ := K
  refine ⟨⟨K.hx, hZ, K.hR, K.hby, K.hml, hown, K.hret, K.hlk, K.hnm, K.hl, K.hZe, K.hn0, fun v h q => hQ v h q.1, fun v s₂ L q F => ?_⟩, ⟨vm1, rfl, hS⟩, hF, hQ⟩
  show k.Fin (.returned v) s₂ L
  rw [hF]
  have F' : FrameEnd (s0.setVm vm1) (.returned v) s₂ L k.R.cells k.R.slots := F
  rw [K.hR] at F'
  obtain ⟨a, b, c⟩ := State.Since.ended hS (U := s₂) F'.2.1 q.2 F'.2.2
  exact ⟨⟨v, rfl⟩, a, b, c⟩
theorem End.re {s1 : State} {a : State} (w : (k.re s1).End a) : k.End a := w
theorem ConW.of {as : Array Value} {h0 : Heap} (hp : plainFor y = true) (he : ∀ m, entryFrame m as maxL = mkF m 0 ls.toArray [])
    (hwp : ∀ k s0, OkW k s0 0 l Z n0 rm bytes maxL y ret Q → WP k h0 0 0 0 ls []) : ConW l Z y bytes maxL ret rm n0 as h0 Q := by
  intro ws
  refine MetFree.of_bodySF hp hisR ?_
  intro p e s m args below meth c s₁ Bd hml0 hP hK
  obtain ⟨rfl, hZ, hh⟩ := hP
  have X0 : Stand p l e rm s m args below meth c s₁ [] 0 0 := Stand.of_body Bd
  have e0 : s₁.heap = h0 := by rw [← hh, Bd.state]; rfl
  have w := hwp (p, l, e, rm, s, m, args, below, meth, c, Z, n0, Q, fun o s₂ L => ReturnedEndW s o s₂ L rm.cells rm.slots) s
    ⟨⟨Bd.exec, hZ, rfl, Bd.bytes, hml0, findClass_of_methodNamed Bd.named, Bd.returns, Bd.notSynchronized, (name_of_methodNamed Bd.named Bd.method).1, rfl, rfl, rfl, fun _ _ q => q.1, fun v s₂ L _ F => ReturnedEndW.of_narrow F.1 F.2.1 F.2.2⟩, ⟨s.vm, rfl, (State.WarmedH.refl s).since 0⟩, rfl, fun _ _ q => q⟩ s₁ [] X0 e0 (Fr.nil n0)
  obtain ⟨s2, o, h1, h2, h3, h4⟩ := w
  exact ⟨s2, o, castTop (he m) h1, h2, h3, h4⟩
theorem ConW.of_con {as : Array Value} {h0 : Heap} (C : Con l Z y bytes maxL ret rm n0 as h0 Q) : ConW l Z y bytes maxL ret rm n0 as h0 Q := by
  intro ws p e ha hc hk s m args below hf happ hP hK
  obtain ⟨n, o, h1, h2, h3, v, L, e1, q, r⟩ := C ws p e ha hc hk s m args below hf happ hP hK
  exact ⟨n, o, h1, h2, h3, v, L, e1, q, ReturnedEndW.of_narrow r.1 r.2.1 r.2.2⟩
theorem OkW.base (K : OkW k s0 k0 l Z n0 rm bytes maxL y ret Q) : ∃ vm0, k.s = s0.setVm vm0 ∧ s0.Since vm0 k0 ∧ Z.Warmed39 vm0 ∧ vm0.findClass y.cls = some k.m.cls := by
  obtain ⟨vm0, hks, hS⟩ := K.2.1
  have hZ := K.1.hZ
  have hown := K.1.hown
  rw [hks] at hZ hown
  exact ⟨vm0, hks, hS, hZ, hown⟩
theorem WP.ldcS (K : OkW k s0 k0 l Z n0 rm bytes maxL y ret Q) {i : Nat} {text : String} (pc' n cells' slots' : Nat) (w1 : (Jvm.Cond.stringLink y.cls i text).before a0 Z = true) (wS : ∀ a ∈ Bundle.stringAtoms, a.before a0 Z = true) (hd : decode bytes pc = .ok (.ldc i, 2)) (hp : pc + 2 = pc') (hn : 4 * text.toList.length ≤ n) (hb : n ≤ 536870912) (hk : k0 ≤ h.size)
    (hc : cells + 2 = cells') (hs : slots + (n + 4) = slots') (hc' : cells' ≤ rm.cells) (hs' : slots' ≤ rm.slots)
    (w : ∀ k' h' a, OkW k' s0 h'.size l Z n0 rm bytes maxL y ret Q → Ext h h' → WP k' h' cells' slots' pc' ls (.ref a :: st)) : WP k h cells slots pc ls st := by
  subst hp hc hs
  intro T locs X e N
  obtain ⟨vm0, hks, hS, hZ, hown⟩ := K.base
  have X1 : Stand k.p k.l k.e k.R k.s k.m k.args k.below k.meth k.c T locs cells slots := X
  rw [hks] at X1
  obtain ⟨a, T', h', k1, X', e', E, hS1, hk1, hZ1, hown1, stp⟩ := RoadKit.ldcS X1 K.1.hx hZ hown w1 wS e hS hk (g := mkF k.m pc ls.toArray st) rfl (K.1.dec hd) hn hb (by rw [K.1.hR]; exact hc') (by rw [K.1.hR]; exact hs')
  have hS2 : s0.Since T'.vm h'.size := ⟨hS1.1, hS1.2.mono hk1⟩
  exact End.re (s1 := s0.setVm T'.vm) (End.back stp (w _ h' a (OkW.re K hS2 hZ1 hown1) E T' locs X' e' N))
theorem WP.callIW (K : OkW k s0 k0 l Z n0 rm bytes maxL y ret Q) {i maxL' : Nat} {y' : MethodName} {bytes' : ByteArray} {rm' : Room} {as : Array Value} {Q' : Option Value → Heap → Prop} {ps : List FieldType} {rt : Option FieldType} (pc' cells' slots' W : Nat) (argsL rest : List Value)
    (h1 : (Jvm.Cond.methodLink y.cls i y').before a0 Z = true) (h2 : (Jvm.Cond.instanceMethod y').before a0 Z = true) (h3 : (Jvm.Cond.initialized y'.cls).before a0 Z = true) (h4 : (Jvm.Cond.code y' bytes' maxL' none).before a0 Z = true) (hy1 : y'.name = "<init>")
    (hy : y'.cls ≠ "java/lang/invoke/MethodHandle" ∧ y'.cls ≠ "java/lang/invoke/VarHandle") (hpd : parseMethodDescriptor y'.desc = some ⟨ps, rt⟩) (hlen : argsL.length = ps.length) (has : (.ref a :: argsL).toArray = as) (hst : argsL.reverse ++ .ref a :: rest = st)
    (hf : rm'.frames + 1 ≤ rm.frames) (hl : W + (maxL' + 11) + rm'.locals ≤ rm.locals) (hW : (rest.map fun v => v.category).sum ≤ W) (hsz : ls.length = maxL) (hd : decode bytes pc = .ok (.invokespecial i, 3)) (hp : pc + 3 = pc')
    (hc : cells + rm'.cells = cells') (hs : slots + rm'.slots = slots') (hc' : cells' ≤ rm.cells) (hs' : slots' ≤ rm.slots) (hk : k0 ≤ h.size) (C : ConW l Z y' bytes' maxL' none rm' n0 as h Q')
    (w : ∀ k' v h', OkW k' s0 h'.size l Z n0 rm bytes maxL y ret Q → h.size ≤ h'.size → Q' v h' → WP k' h' cells' slots' pc' ls (v.toList ++ rest)) : WP k h cells slots pc ls st := by
  subst hp hc hs hst has
  have K0 := K
  obtain ⟨vm0, hks, hS, hZ0, hown0⟩ := K.base
  obtain ⟨⟨hx, hZ, rfl, hby, hml, hown, hret, hlk, hnm, rfl, rfl, rfl, hQ0, hfin⟩, -, hF, hQ9⟩ := K
  intro T locs X e N
  obtain ⟨v, vm1, ⟨T', L', k', n'⟩, -, X', hS2, hgr, ⟨Lc, ⟨hQ, hN⟩, l', y'', z'⟩, stp⟩ := Stand.specialBackS X hx hy1 hown (mvT hZ h1) (mvT hZ h2) (mvT hZ h4) hy (backOfS (W := W) (Q := fun v h L => Q' v h ∧ Fr k.n0 L) (C []) hZ h4 h3 hf hl) (g := mkF k.m pc ls.toArray (argsL.reverse ++ .ref a :: rest)) rfl (by rw [hml]; simpa using hsz) (Steps.refl _) (a := a) (argsL := argsL) (rest := rest) (lenOf hpd hlen) rfl (by show 2 * 0 + _ ≤ _; omega) (hb hby hd) (fun _ _ => ⟨rfl, e, hc', hs'⟩)
  dsimp only [Pt.U, Pt.locs, Pt.cells, Pt.slots] at X' l' y'' z' stp hQ hS2 hgr
  subst l' y'' z'
  rw [e] at hgr
  rw [hks] at hS2 X'
  have hle := Nat.le_trans hk hgr
  have hown1 : T'.vm.findClass y.cls = some k.m.cls := by rw [show T'.vm.findClass y.cls = vm0.findClass y.cls from hS2.1.alike.findClass _ _]; exact hown0
  exact End.re (s1 := s0.setVm T'.vm) (End.back (fun t q => stp.trans q) (w _ v _ (OkW.re K0 (hS.trans hS2 hle) (State.Warmed39.trans (t := s0.setVm vm0) hZ0 hS2.1) hown1) hgr hQ T' _ X' rfl (Fr.app N hN)))
theorem WP.callSW (K : OkW k s0 k0 l Z n0 rm bytes maxL y ret Q) {i maxL' : Nat} {y' : MethodName} {bytes' : ByteArray} {ret' : Option FieldType} {rm' : Room} {as : Array Value} {Q' : Option Value → Heap → Prop} {ps : List FieldType} {rt : Option FieldType} (pc' cells' slots' W : Nat) (argsL rest : List Value)
    (h1 : (Jvm.Cond.methodLink y.cls i y').before a0 Z = true) (h2 : (Jvm.Cond.static y').before a0 Z = true) (h3 : (Jvm.Cond.initialized y'.cls).before a0 Z = true) (h4 : (Jvm.Cond.code y' bytes' maxL' ret').before a0 Z = true)
    (hy : y'.cls ≠ "java/lang/invoke/MethodHandle" ∧ y'.cls ≠ "java/lang/invoke/VarHandle") (hpd : parseMethodDescriptor y'.desc = some ⟨ps, rt⟩) (hlen : argsL.length = ps.length) (has : argsL.toArray = as) (hst : argsL.reverse ++ rest = st)
    (hf : rm'.frames + 1 ≤ rm.frames) (hl : W + (maxL' + 11) + rm'.locals ≤ rm.locals) (hW : (rest.map fun v => v.category).sum ≤ W) (hsz : ls.length = maxL) (hd : decode bytes pc = .ok (.invokestatic i, 3)) (hp : pc + 3 = pc')
    (hc : cells + rm'.cells = cells') (hs : slots + rm'.slots = slots') (hc' : cells' ≤ rm.cells) (hs' : slots' ≤ rm.slots) (hk : k0 ≤ h.size) (C : ConW l Z y' bytes' maxL' ret' rm' n0 as h Q')
    (w : ∀ k' v h', OkW k' s0 h'.size l Z n0 rm bytes maxL y ret Q → h.size ≤ h'.size → Q' v h' → WP k' h' cells' slots' pc' ls (v.toList ++ rest)) : WP k h cells slots pc ls st := by
  subst hp hc hs hst has
  have K0 := K
  obtain ⟨vm0, hks, hS, hZ0, hown0⟩ := K.base
  obtain ⟨⟨hx, hZ, rfl, hby, hml, hown, hret, hlk, hnm, rfl, rfl, rfl, hQ0, hfin⟩, -, hF, hQ9⟩ := K
  intro T locs X e N
  obtain ⟨v, vm1, ⟨T', L', k', n'⟩, -, X', hS2, hgr, ⟨Lc, ⟨hQ, hN⟩, l', y'', z'⟩, stp⟩ := RoadKit.callSS X hx hown (mvT hZ h1) (mvT hZ h2) (mvT hZ h3) (mvT hZ h4) hy (backOfS (W := W) (Q := fun v h L => Q' v h ∧ Fr k.n0 L) (C []) hZ h4 h3 hf hl) (g := mkF k.m pc ls.toArray (argsL.reverse ++ rest)) rfl (by rw [hml]; simpa using hsz) (argsL := argsL) (rest := rest) (lenOf hpd hlen) rfl (by show 2 * 0 + _ ≤ _; omega) (hb hby hd) (fun _ _ => ⟨rfl, e, hc', hs'⟩)
  dsimp only [Pt.U, Pt.locs, Pt.cells, Pt.slots] at X' l' y'' z' stp hQ hS2 hgr
  subst l' y'' z'
  rw [e] at hgr
  rw [hks] at hS2 X'
  have hle := Nat.le_trans hk hgr
  have hown1 : T'.vm.findClass y.cls = some k.m.cls := by rw [show T'.vm.findClass y.cls = vm0.findClass y.cls from hS2.1.alike.findClass _ _]; exact hown0
  exact End.re (s1 := s0.setVm T'.vm) (End.back (fun t q => stp.trans q) (w _ v _ (OkW.re K0 (hS.trans hS2 hle) (State.Warmed39.trans (t := s0.setVm vm0) hZ0 hS2.1) hown1) hgr hQ T' _ X' rfl (Fr.app N hN)))
theorem w1_next {Q' : Value → Heap → Prop} {cells' slots' pc' : Nat} {rest : List Value} (w : ∀ k' r h', OkW k' s0 h'.size l Z n0 rm bytes maxL y ret Q → h.size ≤ h'.size → Q' r h' → WP k' h' cells' slots' pc' ls (r :: rest)) :
    ∀ k' v h', OkW k' s0 h'.size l Z n0 rm bytes maxL y ret Q → h.size ≤ h'.size → R1 Q' v h' → WP k' h' cells' slots' pc' ls (v.toList ++ rest) := fun k' v h' o z q => by
  obtain ⟨r, rfl, q⟩ := q; exact w k' r h' o z q
theorem w0_next {Q' : Heap → Prop} {cells' slots' pc' : Nat} {rest : List Value} (w : ∀ k' h', OkW k' s0 h'.size l Z n0 rm bytes maxL y ret Q → h.size ≤ h'.size → Q' h' → WP k' h' cells' slots' pc' ls rest) :
    ∀ k' v h', OkW k' s0 h'.size l Z n0 rm bytes maxL y ret Q → h.size ≤ h'.size → R0 Q' v h' → WP k' h' cells' slots' pc' ls (v.toList ++ rest) := fun k' v h' o z q => by
  obtain ⟨rfl, q⟩ := q; exact w k' h' o z q
end WideBase
section Chars
variable {k : Cx} {l : Launch} {Z : State} {n0 : Nat} {rm : Room} {bytes : ByteArray} {maxL : Nat} {y : MethodName} {ret : Option FieldType} {Q : Option Value → Heap → Prop} {h h' : Heap} {cells slots pc : Nat} {ls : List Slot} {st : List Value} {a0 : Array Value} {a b : Addr}
/-! char arrays: the values as ints -/
def c16 (x : Int32) : Int32 := x.toUInt32.toUInt16.toUInt32.toInt32
def ArC (Z : State) (h : Heap) (a : Addr) (xs : List Int32) : Prop := ArV Z h a .char (xs.map Value.int)
theorem ArC.lt {xs : List Int32} (A : ArC Z h a xs) : a < h.size := ArV.lt A
theorem ArC.len {xs : List Int32} (A : ArC Z h a xs) : xs.length < 2 ^ 31 := by obtain ⟨c, -, -, q, -⟩ := A; simpa using q
theorem ArC.keep {xs : List Int32} {ws : List Addr} (A : ArC Z h a xs) (K : Keep h h' ws) (q : a ∉ ws) : ArC Z h' a xs := ArV.keep A K q
theorem ArC.ext {xs : List Int32} (A : ArC Z h a xs) (E : Ext h h') : ArC Z h' a xs := ArV.ext A E
theorem ArC.other {xs : List Int32} {i : Nat} {v : Value} (A : ArC Z h a xs) (W : Wr h h' b i v) (q : a ≠ b) : ArC Z h' a xs := ArV.other A W q
theorem ArC.of_new {m : Nat} (A : ArV Z h a (newarray.typeOf .char) (List.replicate m (defaultValue (newarray.typeOf .char)))) : ArC Z h a (List.replicate m 0) := by
  unfold ArC; rw [List.map_replicate]; exact A
theorem ArC.rng {xs : List Int32} (A : ArC Z h a xs) {x : Int32} (hx : x ∈ xs) : 0 ≤ x.toInt ∧ x.toInt ≤ 65535 := by
  obtain ⟨c, -, -, -, q⟩ := A
  have := q (.int x) (List.mem_map.mpr ⟨x, hx, rfl⟩)
  simp only [fits, Bool.and_eq_true, decide_eq_true_iff, Int32.le_iff_toInt_le] at this
  exact this
theorem c16_spec (x : Int32) : (c16 x).toInt = x.toInt % 65536 := by
  have h := c_i2c x
  have e : (c16 x).toInt = x.toUInt32.toUInt16.toUInt32.toInt32.toInt := rfl
  omega
theorem c16_rng (x : Int32) : 0 ≤ (c16 x).toInt ∧ (c16 x).toInt ≤ 65535 := by rw [c16_spec]; omega
theorem c16_id {x : Int32} (h : 0 ≤ x.toInt ∧ x.toInt ≤ 65535) : c16 x = x := i32_eq (by rw [c16_spec]; omega)
theorem WP.i2cC (K : Ok k l Z n0 rm bytes maxL y ret Q) {x : Int32} (pc' : Nat) (hd : decode bytes pc = .ok (.i2c, 1)) (hp : pc + 1 = pc') (w : WP k h cells slots pc' ls (.int (c16 x) :: st)) : WP k h cells slots pc ls (.int x :: st) := WP.i2c K pc' hd hp w
theorem nar_b (x : Int32) : narrow .byte (.int x.toInt8.toInt32) = .int x.toInt8.toInt32 := by
  show Value.int x.toInt8.toInt32.toInt8.toInt32 = _
  congr 1
  simp
theorem nar_c (x : Int32) : narrow .char (.int (c16 x)) = .int (c16 x) := by
  show Value.int (c16 (c16 x)) = _
  rw [c16_id (c16_rng x)]
/-! statics of the start -/
def StB (Z : State) (h : Heap) (n0 : Nat) (C n d : String) (v : Value) : Prop := ∃ (cf i : Nat) (k : Class) (f : Field) (st : Addr) (cell : Cell), Z.fieldFound? C n d = some (cf, k, i, f) ∧ f.isStatic = true ∧ k.init = .initialized ∧ k.statics = some st ∧ h[st]? = some cell ∧ cell.vm.isStatics = true ∧ cell.slots[f.slot]? = some v ∧ @LT.lt Nat _ st n0
theorem StB.sta {C n d : String} {v : Value} (F : StB Z h n0 C n d v) : Sta Z h C n d v := by
  obtain ⟨cf, i, k, f, st, cell, h1, h2, h3, h4, h5, h6, h7, -⟩ := F; exact ⟨cf, i, k, f, st, cell, h1, h2, h3, h4, h5, h6, h7⟩
theorem StB.of {C n d : String} {v : Value} (F : Sta Z h C n d v) : StB Z h h.size C n d v := by
  obtain ⟨cf, i, k, f, st, cell, h1, h2, h3, h4, h5, h6, h7⟩ := F; exact ⟨cf, i, k, f, st, cell, h1, h2, h3, h4, h5, h6, h7, (Array.getElem?_eq_some_iff.mp h5).1⟩
theorem StB.keep {C n d : String} {v : Value} {ws : List Addr} (F : StB Z h n0 C n d v) (K : Keep h h' ws) (q : ∀ x ∈ ws, @LE.le Nat _ n0 x) : StB Z h' n0 C n d v := by
  obtain ⟨cf, i, k, f, st, cell, h1, h2, h3, h4, h5, h6, h7, h8⟩ := F
  exact ⟨cf, i, k, f, st, cell, h1, h2, h3, h4, K.2.1 st cell h5 (fun m => absurd h8 (Nat.not_lt.mpr (q st m))), h6, h7, h8⟩
theorem StB.ext {C n d : String} {v : Value} (F : StB Z h n0 C n d v) (E : Ext h h') : StB Z h' n0 C n d v := by
  obtain ⟨cf, i, k, f, st, cell, h1, h2, h3, h4, h5, r⟩ := F; exact ⟨cf, i, k, f, st, cell, h1, h2, h3, h4, E.2 _ _ h5, r⟩
theorem kn0 {n : Nat} : ∀ x ∈ ([] : List Addr), @LE.le Nat _ n x := fun x hx => absurd hx List.not_mem_nil
theorem kn1 {n b : Nat} (h : n ≤ b) : ∀ x ∈ ([b] : List Addr), @LE.le Nat _ n x := fun x hx => by cases List.mem_singleton.mp hx; exact h
theorem kn2 {n b c : Nat} (h : n ≤ b) (h' : n ≤ c) : ∀ x ∈ ([b, c] : List Addr), @LE.le Nat _ n x := fun x hx => by
  rcases List.mem_cons.mp hx with q | q
  · rw [q]; exact h
  · cases List.mem_singleton.mp q; exact h'
theorem nm3 {a b c d : Nat} (h : a ≠ b ∧ a ≠ c ∧ a ≠ d) : a ∉ ([b, c, d] : List Addr) := by
  intro q
  rcases List.mem_cons.mp q with q | q
  · exact h.1 q
  · exact nm2 h.2 q
theorem nm4 {a b c d e : Nat} (h : a ≠ b ∧ a ≠ c ∧ a ≠ d ∧ a ≠ e) : a ∉ ([b, c, d, e] : List Addr) := by
  intro q
  rcases List.mem_cons.mp q with q | q
  · exact h.1 q
  · exact nm3 h.2 q
theorem ks3 {b c d n : Nat} {ws : List Addr} (h : b ∈ ws ∨ n ≤ b) (h' : c ∈ ws ∨ n ≤ c) (h'' : d ∈ ws ∨ n ≤ d) : ∀ x ∈ ([b, c, d] : List Addr), x ∈ ws ∨ n ≤ x := fun x hx => by
  rcases List.mem_cons.mp hx with q | q
  · rw [q]; exact h
  · exact ks2 h' h'' x q
theorem ks4 {b c d e n : Nat} {ws : List Addr} (h : b ∈ ws ∨ n ≤ b) (h' : c ∈ ws ∨ n ≤ c) (h'' : d ∈ ws ∨ n ≤ d) (h3 : e ∈ ws ∨ n ≤ e) : ∀ x ∈ ([b, c, d, e] : List Addr), x ∈ ws ∨ n ≤ x := fun x hx => by
  rcases List.mem_cons.mp hx with q | q
  · rw [q]; exact h
  · exact ks3 h' h'' h3 x q
theorem kn3 {n b c d : Nat} (h : n ≤ b) (h' : n ≤ c) (h'' : n ≤ d) : ∀ x ∈ ([b, c, d] : List Addr), @LE.le Nat _ n x := fun x hx => by
  rcases List.mem_cons.mp hx with q | q
  · rw [q]; exact h
  · exact kn2 h' h'' x q
theorem kn4 {n b c d e : Nat} (h : n ≤ b) (h' : n ≤ c) (h'' : n ≤ d) (h3 : n ≤ e) : ∀ x ∈ ([b, c, d, e] : List Addr), @LE.le Nat _ n x := fun x hx => by
  rcases List.mem_cons.mp hx with q | q
  · rw [q]; exact h
  · exact kn3 h' h'' h3 x q
theorem kn_mem {n b : Nat} {ws : List Addr} (h : n ≤ b) (q : ∀ x ∈ ws, @LE.le Nat _ n x) : b ∈ ws → @LE.le Nat _ n b := fun _ => h
theorem emptyV {s : State} {args : Array Value} {t : Term} {no : Nat} {c : Cell} {ty : FieldType} (ev : t.eval args s none [] s = some (.ref no)) (A : Arr s s.heap no c ty) (n3 : (Jvm.Cond.eq (.length t) (.int (0 : Int32))).value args s none s [] = some true) : ArV s s.heap no ty [] := by
  have ha : s.arrayAt? no = some c := Jvm.RoadKit.Arr.fin (Vm.Alike.refl _) A
  have hz : c.slots.size = 0 := by
    by_cases hl : c.slots.size < 2 ^ 31
    · have e := len_f (first := s) (o := none) (idx := []) ev ha hl
      have e2 : (Term.int (0 : Int32)).eval args s none [] s = some (.int 0) := rfl
      simp only [Cond.value, e, e2] at n3
      have := congrArg Int32.toInt (of_decide_eq_true (Option.some.inj n3))
      rw [show c.slots.size.toInt32.toInt = (c.slots.size : Nat) from Int32.toInt_ofNat_of_lt hl] at this
      have z : (0 : Int32).toInt = 0 := rfl
      omega
    · simp [Cond.value, Term.eval, ev, ha, hl] at n3
  exact ⟨c, A, by simpa using hz, by decide, fun v hv => by cases hv⟩
theorem ne0_of {args : Array Value} {s : State} {t : Term} {z : Int32} (ev : t.eval args s none [] s = some (.int z)) (h : (Jvm.Cond.not (.eq t (.int (0 : Int32)))).value args s none s [] = some true) : z.toInt ≠ 0 := by
  intro q
  obtain rfl : z = 0 := i32_eq q
  have e2 : (Term.int (0 : Int32)).eval args s none [] s = some (.int 0) := rfl
  simp [Cond.value, ev, e2] at h
theorem eqi_of {args : Array Value} {s : State} {t : Term} {z : Int32} (h : (Jvm.Cond.eq t (.int z)).value args s none s [] = some true) : t.eval args s none [] s = some (.int z) := by
  have e2 : (Term.int z).eval args s none [] s = some (.int z) := rfl
  simp only [Cond.value, e2] at h
  cases q : t.eval args s none [] s with
  | none => simp [q] at h
  | some v => cases v <;> simp [q] at h ⊢ <;> exact h
theorem WP.caload (K : Ok k l Z n0 rm bytes maxL y ret Q) {xs : List Int32} {j x : Int32} (pc' i : Nat) (A : ArC Z h a xs) (hj : j.toInt = (i : Nat)) (hx : xs[i]? = some x) (hd : decode bytes pc = .ok (.caload, 1)) (hp : pc + 1 = pc') (w : WP k h cells slots pc' ls (.int x :: st)) : WP k h cells slots pc ls (.int j :: .ref a :: st) := by
  subst hp
  intro T locs X e N
  obtain ⟨c, A, q1, q2⟩ := ArV.parts A (i := i) (v := .int x) (by simp [hx])
  obtain ⟨r1, r2⟩ := idx_ok hj q1
  refine End.back (fun t q => ?_) (w T locs X e N)
  exact Stand.caload X K.hx (j := j) (v := .int x) (by rw [e]; exact A.1) (State.isArrayOf_alike K.hZ.alike A.2.1) A.2.2 r1 (by rw [r2]; exact q2) (g := mkF k.m pc ls.toArray (.int j :: .ref a :: st)) rfl rfl (K.dec hd) _ q
theorem WP.castore (K : Ok k l Z n0 rm bytes maxL y ret Q) {xs : List Int32} {j x : Int32} (pc' i : Nat) (A : ArC Z h a xs) (hj : j.toInt = (i : Nat)) (hi : i < xs.length) (hd : decode bytes pc = .ok (.castore, 1)) (hp : pc + 1 = pc') (ha : n0 ≤ a)
    (w : ∀ h', Keep h h' [a] → ArC Z h' a (xs.set i (c16 x)) → WP k h' cells slots pc' ls st) : WP k h cells slots pc ls (.int x :: .int j :: .ref a :: st) := by
  subst hp
  intro T locs X e N
  have A0 := A
  obtain ⟨c, A', q1, -⟩ := A
  obtain ⟨r1, r2⟩ := idx_ok hj (show i < c.slots.size by have := congrArg List.length q1; simp at this; omega)
  obtain ⟨T', h', X', e', W', stp⟩ := stC X K.hx K.hZ e A' r1 (x := x) (g := mkF k.m pc ls.toArray (.int x :: .int j :: .ref a :: st)) rfl rfl (K.dec hd)
  rw [r2] at W'
  have A2 : ArC Z h' a (xs.set i (c16 x)) := by
    have := ArV.set A0 W' (fits_nar_char x)
    rw [show Value.int (nar .char x) = Value.int (c16 x) from rfl, ← List.map_set] at this
    exact this
  exact End.back stp (w h' (Keep.of_wr W') A2 T' _ X' e' (Fr.snoc X' N (by rw [K.hn0]; exact ha)))
end Chars
end Jvm.OwnWP
namespace Jvm.OwnWP
open Sem ClassFile Op Lib Bundle Jvm.Stand Jvm.Free Jvm.LawKit Jvm.RoadKit
def OkH (k : Cx) (EL : List (String × Nat)) (s0 : State) (h0 : Heap) (k0 : Nat) (l : Launch) (Z : State) (n0 : Nat) (rm : Room) (bytes : ByteArray) (maxL : Nat) (y : MethodName) (ret : Option FieldType) (Q : Option Value → Heap → Prop) : Prop :=
  Ok k l Z n0 rm bytes maxL y ret (fun v h => Q v h ∧ k0 ≤ h.size ∧ CHr Z EL s0.vm h0 k.s.vm h) ∧ (∃ vm0, k.s = s0.setVm vm0 ∧ s0.Since vm0 k0) ∧ (k.Fin = fun o s₂ L => CHr Z EL s0.vm h0 s₂.vm s₂.heap ∧ ReturnedEndW s0 o s₂ L rm.cells rm.slots) ∧ ∀ v h, Q v h → k.Q v h
/-- the contract of a body that may load and read constants of EL -/
def ConH (l : Launch) (Z : State) (EL : List (String × Nat)) (y : MethodName) (bytes : ByteArray) (maxL : Nat) (ret : Option FieldType) (rm : Room) (n0 : Nat) (as : Array Value) (h0 : Heap) (Q : Option Value → Heap → Prop) : Prop :=
  ∀ ws, MetFree l y (head1 (Jvm.Cond.code y bytes maxL ret :: ws) rm) (fun a U => a = as ∧ Z.Warmed39 U.vm ∧ U.heap = h0 ∧ CHv Z EL U.vm h0) (fun _ _ _ _ _ => True) (fun _ U o U' => ∃ v L, o = .returned v ∧ (Q v U'.heap ∧ Fr n0 L) ∧ CHr Z EL U.vm U.heap U'.vm U'.heap ∧ ReturnedEndW U o U' L rm.cells rm.slots)
section HeldBase
variable {k : Cx} {EL : List (String × Nat)} {s0 : State} {h0 : Heap} {k0 : Nat} {l : Launch} {Z : State} {n0 : Nat} {rm : Room} {bytes : ByteArray} {maxL : Nat} {y : MethodName} {ret : Option FieldType} {Q : Option Value → Heap → Prop} {h h' : Heap} {cells slots pc : Nat} {ls : List Slot} {st : List Value} {a0 : Array Value} {a b : Addr}
theorem ch_at {W0 : State} {vm2 : Vm} (hZ : Z.Warmed39 W0.vm) (hEL : EW Z a0 EL) (H : CHv Z EL W0.vm h) (W : W0.WarmedH vm2) : CHr Z EL W0.vm h vm2 h := by
  have q := CHv.later (h' := h) hZ (hW := (show (Wst Z W0.vm h).Warmed39 vm2 from W.wide)) hEL ⟨Nat.le_refl _, fun _ _ q => q⟩ (Or.inl W.interned_eq) H
  exact ⟨q.1, Nat.le_refl _, q.2⟩
theorem OkH.re (hEL : EW Z a0 EL) (K : OkH k EL s0 h0 k0 l Z n0 rm bytes maxL y ret Q) {vm1 : Vm} {n1 : Nat} (hS : s0.Since vm1 n1) (hZ : Z.Warmed39 vm1) (hown : vm1.findClass y.cls = some k.m.cls) : OkH (k.re (s0.setVm vm1)) EL s0 h0 n1 l Z n0 rm bytes maxL y ret Q := by
  obtain ⟨K, -, hF, hQ⟩ := K
  refine ⟨⟨K.hx, hZ, K.hR, K.hby, K.hml, hown, K.hret, K.hlk, K.hnm, K.hl, K.hZe, K.hn0, fun v h q => hQ v h q.1, fun v s₂ L q F => ?_⟩, ⟨vm1, rfl, hS⟩, hF, hQ⟩
  show k.Fin (.returned v) s₂ L
  rw [hF]
  have F' : FrameEnd (s0.setVm vm1) (.returned v) s₂ L k.R.cells k.R.slots := F
  rw [K.hR] at F'
  obtain ⟨a, b, c⟩ := State.Since.ended hS (U := s₂) F'.2.1 q.2.1 F'.2.2
  have q3 : CHr Z EL s0.vm h0 vm1 s₂.heap := q.2.2
  exact ⟨q3.trans (ch_at (W0 := s0.setVm vm1) hZ hEL q3.1 F'.2.1), ⟨v, rfl⟩, a, b, c⟩
theorem ConH.of {as : Array Value} (hEL : EW Z a0 EL) (hp : plainFor y = true) (he : ∀ m, entryFrame m as maxL = mkF m 0 ls.toArray [])
    (hwp : ∀ k s0, OkH k EL s0 h0 0 l Z n0 rm bytes maxL y ret Q → CHr Z EL s0.vm h0 k.s.vm h0 → WP k h0 0 0 0 ls []) : ConH l Z EL y bytes maxL ret rm n0 as h0 Q := by
  intro ws
  refine MetFree.of_bodySF hp hisR ?_
  intro p e s m args below meth c s₁ Bd hml0 hP hK
  obtain ⟨rfl, hZ, hh, hC⟩ := hP
  have X0 : Stand p l e rm s m args below meth c s₁ [] 0 0 := Stand.of_body Bd
  have e0 : s₁.heap = h0 := by rw [← hh, Bd.state]; rfl
  have w := hwp (p, l, e, rm, s, m, args, below, meth, c, Z, n0, Q, fun o s₂ L => CHr Z EL s.vm h0 s₂.vm s₂.heap ∧ ReturnedEndW s o s₂ L rm.cells rm.slots) s
    ⟨⟨Bd.exec, hZ, rfl, Bd.bytes, hml0, findClass_of_methodNamed Bd.named, Bd.returns, Bd.notSynchronized, (name_of_methodNamed Bd.named Bd.method).1, rfl, rfl, rfl, fun _ _ q => q.1, fun v s₂ L q F => ⟨q.2.2.trans (ch_at (W0 := s) hZ hEL q.2.2.1 F.2.1), ReturnedEndW.of_narrow F.1 F.2.1 F.2.2⟩⟩, ⟨s.vm, rfl, (State.WarmedH.refl s).since 0⟩, rfl, fun _ _ q => q⟩ (CHr.refl hC) s₁ [] X0 e0 (Fr.nil n0)
  obtain ⟨s2, o, h1, h2, h3, v, L, e1, q, f⟩ := w
  refine ⟨s2, o, castTop (he m) h1, h2, h3, v, L, e1, q, ?_⟩
  rw [hh]; exact f
theorem OkH.base (K : OkH k EL s0 h0 k0 l Z n0 rm bytes maxL y ret Q) : ∃ vm0, k.s = s0.setVm vm0 ∧ s0.Since vm0 k0 ∧ Z.Warmed39 vm0 ∧ vm0.findClass y.cls = some k.m.cls := by
  obtain ⟨vm0, hks, hS⟩ := K.2.1
  have hZ := K.1.hZ
  have hown := K.1.hown
  rw [hks] at hZ hown
  exact ⟨vm0, hks, hS, hZ, hown⟩
/-- ldc "" , read -/
theorem WP.ldcE (hEL : EW Z a0 EL) (K : OkH k EL s0 h0 k0 l Z n0 rm bytes maxL y ret Q) {i : Nat} (pc' cells' slots' : Nat) (w1 : (Jvm.Cond.stringLink y.cls i "").before a0 Z = true) (wS : ∀ a ∈ Bundle.stringAtoms, a.before a0 Z = true) (hm : (y.cls, i) ∈ EL) (hd : decode bytes pc = .ok (.ldc i, 2)) (hp : pc + 2 = pc') (hk : k0 ≤ h.size) (H : CHr Z EL s0.vm h0 k.s.vm h)
    (hc : cells + 2 = cells') (hs : slots + 4 = slots') (hc' : cells' ≤ rm.cells) (hs' : slots' ≤ rm.slots)
    (w : ∀ k' h' (a b : Nat), OkH k' EL s0 h0 h'.size l Z n0 rm bytes maxL y ret Q → Ext h h' → CHr Z EL s0.vm h0 k'.s.vm h' → CHr Z EL k.s.vm h k'.s.vm h' → (∀ x : Nat, Safe Z EL k'.s.vm h' x → x ≠ a ∧ x ≠ b) → Exa Z h' a "java/lang/String" → Fld Z h' a "java/lang/String" "coder" "B" (.int 0) → Fld Z h' a "java/lang/String" "value" "[B" (.ref b) → ArB Z h' b [] → WP k' h' cells' slots' pc' ls (.ref a :: st)) : WP k h cells slots pc ls st := by
  subst hp hc hs
  intro T locs X e N
  obtain ⟨vm0, hks, hS, hZ, hown⟩ := K.base
  have X1 : Stand k.p k.l k.e k.R k.s k.m k.args k.below k.meth k.c T locs cells slots := X
  have H0 := H
  rw [hks] at X1 H0
  obtain ⟨a, T', h', k1, b, kk, X', e', E, hS1, hk1, hZ1, hown1, x1, x2, x3, x4, x5, x6, hC, -, hsafe, stp⟩ := RoadKit.ldcCH X1 K.1.hx hZ hown w1 wS e hS hk hEL hm H0.1 (vs := []) (z := 0) ⟨(by intro c hc; simp at hc), rfl⟩ (by decide) rfl (g := mkF k.m pc ls.toArray st) rfl (K.1.dec hd) (n := 0) (by decide) (by decide) (by rw [K.1.hR]; exact hc') (by rw [K.1.hR]; exact hs')
  have hS2 : s0.Since T'.vm h'.size := ⟨hS1.1, hS1.2.mono hk1⟩
  have A1 : ArB Z h' b [] := ArV.of_arv x4 rfl
  have hC' : CHr Z EL k.s.vm h T'.vm h' := by rw [hks]; exact hC
  exact End.re (s1 := s0.setVm T'.vm) (End.back stp (w _ h' a b (OkH.re hEL K hS2 hZ1 hown1) E (H0.trans hC) hC' hsafe x1 x2 x3 A1 T' locs X' e' N))
theorem WP.callIH (hEL : EW Z a0 EL) (K : OkH k EL s0 h0 k0 l Z n0 rm bytes maxL y ret Q) {i maxL' : Nat} {y' : MethodName} {bytes' : ByteArray} {rm' : Room} {as : Array Value} {Q' : Option Value → Heap → Prop} {ps : List FieldType} {rt : Option FieldType} (pc' cells' slots' W : Nat) (argsL rest : List Value)
    (h1 : (Jvm.Cond.methodLink y.cls i y').before a0 Z = true) (h2 : (Jvm.Cond.instanceMethod y').before a0 Z = true) (h3 : (Jvm.Cond.initialized y'.cls).before a0 Z = true) (h4 : (Jvm.Cond.code y' bytes' maxL' none).before a0 Z = true) (hy1 : y'.name = "<init>")
    (hy : y'.cls ≠ "java/lang/invoke/MethodHandle" ∧ y'.cls ≠ "java/lang/invoke/VarHandle") (hpd : parseMethodDescriptor y'.desc = some ⟨ps, rt⟩) (hlen : argsL.length = ps.length) (has : (.ref a :: argsL).toArray = as) (hst : argsL.reverse ++ .ref a :: rest = st)
    (hf : rm'.frames + 1 ≤ rm.frames) (hl : W + (maxL' + 11) + rm'.locals ≤ rm.locals) (hW : (rest.map fun v => v.category).sum ≤ W) (hsz : ls.length = maxL) (hd : decode bytes pc = .ok (.invokespecial i, 3)) (hp : pc + 3 = pc')
    (hc : cells + rm'.cells = cells') (hs : slots + rm'.slots = slots') (hc' : cells' ≤ rm.cells) (hs' : slots' ≤ rm.slots) (hk : k0 ≤ h.size) (H : CHr Z EL s0.vm h0 k.s.vm h) (C : ConH l Z EL y' bytes' maxL' none rm' n0 as h Q')
    (w : ∀ k' v h', OkH k' EL s0 h0 h'.size l Z n0 rm bytes maxL y ret Q → h.size ≤ h'.size → CHr Z EL s0.vm h0 k'.s.vm h' → Q' v h' → WP k' h' cells' slots' pc' ls (v.toList ++ rest)) : WP k h cells slots pc ls st := by
  subst hp hc hs hst has
  have K0 := K
  obtain ⟨vm0, hks, hS, hZ0, hown0⟩ := K.base
  obtain ⟨⟨hx, hZ, rfl, hby, hml, hown, hret, hlk, hnm, rfl, rfl, rfl, hQ0, hfin⟩, -, hF, hQ9⟩ := K
  intro T locs X e N
  have X1 : Stand k.p k.l k.e k.R k.s k.m k.args k.below k.meth k.c T locs cells slots := X
  rw [hks] at X1 H
  obtain ⟨v, vm1, ⟨T', L', k', n'⟩, -, X', hS2, hgr, ⟨Lc, ⟨hQ, hN⟩, l', y'', z', hC⟩, stp⟩ := Stand.specialBackS X1 hx hy1 hown0 (mvT (s := s0.setVm vm0) hZ0 h1) (mvT (s := s0.setVm vm0) hZ0 h2) (mvT (s := s0.setVm vm0) hZ0 h4) hy (backOfSH (W := W) (Q := fun v h L => Q' v h ∧ Fr k.n0 L) (C []) hZ0 h4 h3 hf hl hEL H.1) (g := mkF k.m pc ls.toArray (argsL.reverse ++ .ref a :: rest)) rfl (by rw [hml]; simpa using hsz) (Steps.refl _) (a := a) (argsL := argsL) (rest := rest) (lenOf hpd hlen) rfl (by show 2 * 0 + _ ≤ _; omega) (hb hby hd) (fun _ _ => ⟨rfl, e, hc', hs'⟩)
  dsimp only [Pt.U, Pt.locs, Pt.cells, Pt.slots] at X' l' y'' z' stp hQ hS2 hgr hC
  subst l' y'' z'
  rw [e] at hgr
  have hle := Nat.le_trans hk hgr
  have hown1 : T'.vm.findClass y.cls = some k.m.cls := by rw [show T'.vm.findClass y.cls = vm0.findClass y.cls from hS2.1.alike.findClass _ _]; exact hown0
  exact End.re (s1 := s0.setVm T'.vm) (End.back (fun t q => stp.trans q) (w _ v _ (OkH.re hEL K0 (hS.trans hS2 hle) (State.Warmed39.trans (t := s0.setVm vm0) hZ0 hS2.1) hown1) hgr (H.trans hC) hQ T' _ X' rfl (Fr.app N hN)))
theorem WP.callSH (hEL : EW Z a0 EL) (K : OkH k EL s0 h0 k0 l Z n0 rm bytes maxL y ret Q) {i maxL' : Nat} {y' : MethodName} {bytes' : ByteArray} {ret' : Option FieldType} {rm' : Room} {as : Array Value} {Q' : Option Value → Heap → Prop} {ps : List FieldType} {rt : Option FieldType} (pc' cells' slots' W : Nat) (argsL rest : List Value)
    (h1 : (Jvm.Cond.methodLink y.cls i y').before a0 Z = true) (h2 : (Jvm.Cond.static y').before a0 Z = true) (h3 : (Jvm.Cond.initialized y'.cls).before a0 Z = true) (h4 : (Jvm.Cond.code y' bytes' maxL' ret').before a0 Z = true)
    (hy : y'.cls ≠ "java/lang/invoke/MethodHandle" ∧ y'.cls ≠ "java/lang/invoke/VarHandle") (hpd : parseMethodDescriptor y'.desc = some ⟨ps, rt⟩) (hlen : argsL.length = ps.length) (has : argsL.toArray = as) (hst : argsL.reverse ++ rest = st)
    (hf : rm'.frames + 1 ≤ rm.frames) (hl : W + (maxL' + 11) + rm'.locals ≤ rm.locals) (hW : (rest.map fun v => v.category).sum ≤ W) (hsz : ls.length = maxL) (hd : decode bytes pc = .ok (.invokestatic i, 3)) (hp : pc + 3 = pc')
    (hc : cells + rm'.cells = cells') (hs : slots + rm'.slots = slots') (hc' : cells' ≤ rm.cells) (hs' : slots' ≤ rm.slots) (hk : k0 ≤ h.size) (H : CHr Z EL s0.vm h0 k.s.vm h) (C : ConH l Z EL y' bytes' maxL' ret' rm' n0 as h Q')
    (w : ∀ k' v h', OkH k' EL s0 h0 h'.size l Z n0 rm bytes maxL y ret Q → h.size ≤ h'.size → CHr Z EL s0.vm h0 k'.s.vm h' → Q' v h' → WP k' h' cells' slots' pc' ls (v.toList ++ rest)) : WP k h cells slots pc ls st := by
  subst hp hc hs hst has
  have K0 := K
  obtain ⟨vm0, hks, hS, hZ0, hown0⟩ := K.base
  obtain ⟨⟨hx, hZ, rfl, hby, hml, hown, hret, hlk, hnm, rfl, rfl, rfl, hQ0, hfin⟩, -, hF, hQ9⟩ := K
  intro T locs X e N
  have X1 : Stand k.p k.l k.e k.R k.s k.m k.args k.below k.meth k.c T locs cells slots := X
  rw [hks] at X1 H
  obtain ⟨v, vm1, ⟨T', L', k', n'⟩, -, X', hS2, hgr, ⟨Lc, ⟨hQ, hN⟩, l', y'', z', hC⟩, stp⟩ := RoadKit.callSS X1 hx hown0 (mvT (s := s0.setVm vm0) hZ0 h1) (mvT (s := s0.setVm vm0) hZ0 h2) (mvT (s := s0.setVm vm0) hZ0 h3) (mvT (s := s0.setVm vm0) hZ0 h4) hy (backOfSH (W := W) (Q := fun v h L => Q' v h ∧ Fr k.n0 L) (C []) hZ0 h4 h3 hf hl hEL H.1) (g := mkF k.m pc ls.toArray (argsL.reverse ++ rest)) rfl (by rw [hml]; simpa using hsz) (argsL := argsL) (rest := rest) (lenOf hpd hlen) rfl (by show 2 * 0 + _ ≤ _; omega) (hb hby hd) (fun _ _ => ⟨rfl, e, hc', hs'⟩)
  dsimp only [Pt.U, Pt.locs, Pt.cells, Pt.slots] at X' l' y'' z' stp hQ hS2 hgr hC
  subst l' y'' z'
  rw [e] at hgr
  have hle := Nat.le_trans hk hgr
  have hown1 : T'.vm.findClass y.cls = some k.m.cls := by rw [show T'.vm.findClass y.cls = vm0.findClass y.cls from hS2.1.alike.findClass _ _]; exact hown0
  exact End.re (s1 := s0.setVm T'.vm) (End.back (fun t q => stp.trans q) (w _ v _ (OkH.re hEL K0 (hS.trans hS2 hle) (State.Warmed39.trans (t := s0.setVm vm0) hZ0 hS2.1) hown1) hgr (H.trans hC) hQ T' _ X' rfl (Fr.app N hN)))
theorem h1_next {Q' : Value → Heap → Prop} {cells' slots' pc' : Nat} {rest : List Value} (w : ∀ k' r h', OkH k' EL s0 h0 h'.size l Z n0 rm bytes maxL y ret Q → h.size ≤ h'.size → CHr Z EL s0.vm h0 k'.s.vm h' → Q' r h' → WP k' h' cells' slots' pc' ls (r :: rest)) :
    ∀ k' v h', OkH k' EL s0 h0 h'.size l Z n0 rm bytes maxL y ret Q → h.size ≤ h'.size → CHr Z EL s0.vm h0 k'.s.vm h' → R1 Q' v h' → WP k' h' cells' slots' pc' ls (v.toList ++ rest) := fun k' v h' o z c q => by
  obtain ⟨r, rfl, q⟩ := q; exact w k' r h' o z c q
theorem h0_next {Q' : Heap → Prop} {cells' slots' pc' : Nat} {rest : List Value} (w : ∀ k' h', OkH k' EL s0 h0 h'.size l Z n0 rm bytes maxL y ret Q → h.size ≤ h'.size → CHr Z EL s0.vm h0 k'.s.vm h' → Q' h' → WP k' h' cells' slots' pc' ls rest) :
    ∀ k' v h', OkH k' EL s0 h0 h'.size l Z n0 rm bytes maxL y ret Q → h.size ≤ h'.size → CHr Z EL s0.vm h0 k'.s.vm h' → R0 Q' v h' → WP k' h' cells' slots' pc' ls (v.toList ++ rest) := fun k' v h' o z c q => by
  obtain ⟨rfl, q⟩ := q; exact w k' h' o z c q
/-- the contract of a law that reads constants of EL by its callees -/
def ConX (l : Launch) (Z : State) (EL : List (String × Nat)) (y : MethodName) (bytes : ByteArray) (maxL : Nat) (ret : Option FieldType) (rm : Room) (n0 : Nat) (as : Array Value) (h0 : Heap) (Q : Option Value → Heap → Prop) : Prop :=
  ∀ ws, MetFree l y (head1 (Jvm.Cond.code y bytes maxL ret :: ws) rm) (fun a U => a = as ∧ Z.Warmed39 U.vm ∧ U.heap = h0 ∧ CHv Z EL U.vm h0) (fun _ _ _ _ _ => True) (fun _ U o U' => ∃ v L, o = .returned v ∧ (Q v U'.heap ∧ Fr n0 L) ∧ ReturnedEndW U o U' L rm.cells rm.slots)
theorem ConX.of {as : Array Value} (hp : plainFor y = true) (he : ∀ m, entryFrame m as maxL = mkF m 0 ls.toArray [])
    (hwp : ∀ k s0, OkW k s0 0 l Z n0 rm bytes maxL y ret Q → CHv Z EL k.s.vm h0 → WP k h0 0 0 0 ls []) : ConX l Z EL y bytes maxL ret rm n0 as h0 Q := by
  intro ws
  refine MetFree.of_bodySF hp hisR ?_
  intro p e s m args below meth c s₁ Bd hml0 hP hK
  obtain ⟨rfl, hZ, hh, hC⟩ := hP
  have X0 : Stand p l e rm s m args below meth c s₁ [] 0 0 := Stand.of_body Bd
  have e0 : s₁.heap = h0 := by rw [← hh, Bd.state]; rfl
  have w := hwp (p, l, e, rm, s, m, args, below, meth, c, Z, n0, Q, fun o s₂ L => ReturnedEndW s o s₂ L rm.cells rm.slots) s
    ⟨⟨Bd.exec, hZ, rfl, Bd.bytes, hml0, findClass_of_methodNamed Bd.named, Bd.returns, Bd.notSynchronized, (name_of_methodNamed Bd.named Bd.method).1, rfl, rfl, rfl, fun _ _ q => q.1, fun v s₂ L _ F => ReturnedEndW.of_narrow F.1 F.2.1 F.2.2⟩, ⟨s.vm, rfl, (State.WarmedH.refl s).since 0⟩, rfl, fun _ _ q => q⟩ hC s₁ [] X0 e0 (Fr.nil n0)
  obtain ⟨s2, o, h1, h2, h3, h4⟩ := w
  exact ⟨s2, o, castTop (he m) h1, h2, h3, h4⟩
theorem WP.callSX (hEL : EW Z a0 EL) (K : OkW k s0 k0 l Z n0 rm bytes maxL y ret Q) {i maxL' : Nat} {y' : MethodName} {bytes' : ByteArray} {ret' : Option FieldType} {rm' : Room} {as : Array Value} {Q' : Option Value → Heap → Prop} {ps : List FieldType} {rt : Option FieldType} (pc' cells' slots' W : Nat) (argsL rest : List Value)
    (h1 : (Jvm.Cond.methodLink y.cls i y').before a0 Z = true) (h2 : (Jvm.Cond.static y').before a0 Z = true) (h3 : (Jvm.Cond.initialized y'.cls).before a0 Z = true) (h4 : (Jvm.Cond.code y' bytes' maxL' ret').before a0 Z = true)
    (hy : y'.cls ≠ "java/lang/invoke/MethodHandle" ∧ y'.cls ≠ "java/lang/invoke/VarHandle") (hpd : parseMethodDescriptor y'.desc = some ⟨ps, rt⟩) (hlen : argsL.length = ps.length) (has : argsL.toArray = as) (hst : argsL.reverse ++ rest = st)
    (hf : rm'.frames + 1 ≤ rm.frames) (hl : W + (maxL' + 11) + rm'.locals ≤ rm.locals) (hW : (rest.map fun v => v.category).sum ≤ W) (hsz : ls.length = maxL) (hd : decode bytes pc = .ok (.invokestatic i, 3)) (hp : pc + 3 = pc')
    (hc : cells + rm'.cells = cells') (hs : slots + rm'.slots = slots') (hc' : cells' ≤ rm.cells) (hs' : slots' ≤ rm.slots) (hk : k0 ≤ h.size) (H : CHv Z EL k.s.vm h) (C : ConH l Z EL y' bytes' maxL' ret' rm' n0 as h Q')
    (w : ∀ k' v h', OkW k' s0 h'.size l Z n0 rm bytes maxL y ret Q → h.size ≤ h'.size → CHv Z EL k'.s.vm h' → Q' v h' → WP k' h' cells' slots' pc' ls (v.toList ++ rest)) : WP k h cells slots pc ls st := by
  subst hp hc hs hst has
  have K0 := K
  obtain ⟨vm0, hks, hS, hZ0, hown0⟩ := K.base
  obtain ⟨⟨hx, hZ, rfl, hby, hml, hown, hret, hlk, hnm, rfl, rfl, rfl, hQ0, hfin⟩, -, hF, hQ9⟩ := K
  intro T locs X e N
  have X1 : Stand k.p k.l k.e k.R k.s k.m k.args k.below k.meth k.c T locs cells slots := X
  rw [hks] at X1 H
  obtain ⟨v, vm1, ⟨T', L', k', n'⟩, -, X', hS2, hgr, ⟨Lc, ⟨hQ, hN⟩, l', y'', z', hC⟩, stp⟩ := RoadKit.callSS X1 hx hown0 (mvT (s := s0.setVm vm0) hZ0 h1) (mvT (s := s0.setVm vm0) hZ0 h2) (mvT (s := s0.setVm vm0) hZ0 h3) (mvT (s := s0.setVm vm0) hZ0 h4) hy (backOfSH (W := W) (Q := fun v h L => Q' v h ∧ Fr k.n0 L) (C []) hZ0 h4 h3 hf hl hEL H) (g := mkF k.m pc ls.toArray (argsL.reverse ++ rest)) rfl (by rw [hml]; simpa using hsz) (argsL := argsL) (rest := rest) (lenOf hpd hlen) rfl (by show 2 * 0 + _ ≤ _; omega) (hb hby hd) (fun _ _ => ⟨rfl, e, hc', hs'⟩)
  dsimp only [Pt.U, Pt.locs, Pt.cells, Pt.slots] at X' l' y'' z' stp hQ hS2 hgr hC
  subst l' y'' z'
  rw [e] at hgr
  have hle := Nat.le_trans hk hgr
  have hown1 : T'.vm.findClass y.cls = some k.m.cls := by rw [show T'.vm.findClass y.cls = vm0.findClass y.cls from hS2.1.alike.findClass _ _]; exact hown0
  exact End.re (s1 := s0.setVm T'.vm) (End.back (fun t q => stp.trans q) (w _ v _ (OkW.re K0 (hS.trans hS2 hle) (State.Warmed39.trans (t := s0.setVm vm0) hZ0 hS2.1) hown1) hgr hC.1 hQ T' _ X' rfl (Fr.app N hN)))
theorem x1_next {Q' : Value → Heap → Prop} {cells' slots' pc' : Nat} {rest : List Value} (w : ∀ k' r h', OkW k' s0 h'.size l Z n0 rm bytes maxL y ret Q → h.size ≤ h'.size → CHv Z EL k'.s.vm h' → Q' r h' → WP k' h' cells' slots' pc' ls (r :: rest)) :
    ∀ k' v h', OkW k' s0 h'.size l Z n0 rm bytes maxL y ret Q → h.size ≤ h'.size → CHv Z EL k'.s.vm h' → R1 Q' v h' → WP k' h' cells' slots' pc' ls (v.toList ++ rest) := fun k' v h' o z c q => by
  obtain ⟨r, rfl, q⟩ := q; exact w k' r h' o z c q
theorem safeC {vm : Vm} {xs : List Int32} (hal : Z.vm.Alike vm) (A : ArC Z h a xs) : Safe Z EL vm h a := by
  obtain ⟨c, A, -⟩ := A
  exact Safe.arr hal A (by decide)
theorem safe1 {vm : Vm} (S : Safe Z EL vm h a) : ∀ x ∈ ([a] : List Addr), Safe Z EL vm h x := fun x hx => by cases List.mem_singleton.mp hx; exact S
theorem safe0 {vm : Vm} : ∀ x ∈ ([] : List Addr), Safe Z EL vm h x := fun x hx => absurd hx List.not_mem_nil
/-- a String whose value is still null is no booked one -/
theorem safe_fresh {vm : Vm} {o : Nat} (hal : Z.vm.Alike vm) (E : Exa Z h o "java/lang/String") (F : Fld Z h o "java/lang/String" "value" "[B" .null) : Safe Z EL vm h o := by
  intro B
  obtain ⟨p, -, u, a, -, q, -, S, ho | ho⟩ := B
  · subst ho
    obtain ⟨cell, cf, k1, i1, f1, f2, f3, -, -, -, -, f4⟩ := F
    cases (show h[q.sa]? = some q.sC from S.ha).symm.trans f2
    obtain ⟨cS, ⟨⟨-, -, -, ⟨cv, kv, iv, s4, -⟩, -, -, -, s8, -⟩, -, -⟩, -⟩ := S
    obtain ⟨kv', z4⟩ := ff_back hal s4
    cases z4.symm.trans f3
    rw [s8] at f4; cases f4
  · subst ho
    obtain ⟨cell, k, e1, e2, -, -, -⟩ := E
    cases (show h[q.sd]? = some q.SA from S.hd).symm.trans e1
    obtain ⟨cS, -, -, f, -⟩ := S
    have f' : Z.vm.findClass "[B" = some q.SA.cls := by rw [← hal.findClass]; exact f
    obtain ⟨k1, q1, q2⟩ := Vm.findClass_spec f'
    obtain ⟨k2, q3, q4⟩ := Vm.findClass_spec e2
    cases q1.symm.trans q3
    exact absurd (q2.symm.trans q4) (by decide)
end HeldBase
end Jvm.OwnWP

namespace Jvm.Pilot.@@N@@
open Jvm Jvm.ClassFile Sem Op Lib Jvm.Free Jvm.Stand Jvm.LawKit Jvm.RoadKit Bundle Jvm.OwnWP Jvm.Pilot.@@N@@.Jvm.D
def enc (g : Nat) : List Int8 := if g < 128 then [Int8.ofNat g] else Int8.ofNat (g % 128 + 128) :: enc (g / 128)
termination_by g
decreasing_by omega
theorem enc_small {g : Nat} (h : g < 128) : enc g = [Int8.ofNat g] := by rw [enc, if_pos h]
theorem enc_big {g : Nat} (h : ¬ g < 128) : enc g = Int8.ofNat (g % 128 + 128) :: enc (g / 128) := by rw [enc, if_neg h]
def el (g : Nat) : Nat := (enc g).length
theorem el_pos (g : Nat) : 1 ≤ el g := by
  unfold el
  by_cases h : g < 128
  · rw [enc_small h]; exact Nat.le_refl _
  · rw [enc_big h, List.length_cons]; omega
theorem el_big {g : Nat} (h : ¬ g < 128) : el g = el (g / 128) + 1 := by unfold el; rw [enc_big h, List.length_cons]
theorem el_small {g : Nat} (h : g < 128) : el g = 1 := by unfold el; rw [enc_small h]; rfl
theorem el_spec : ∀ (k g : Nat), 128 ^ k ≤ g → g < 128 ^ (k + 1) → el g = k + 1 := by
  intro k
  induction k with
  | zero => intro g h1 h2; exact el_small (by simpa using h2)
  | succ k ih =>
    intro g h1 h2
    have e1 : 128 ^ (k + 1) = 128 ^ k * 128 := Nat.pow_succ ..
    have e2 : 128 ^ (k + 1 + 1) = 128 ^ (k + 1) * 128 := Nat.pow_succ ..
    have p : 1 ≤ 128 ^ k := Nat.pow_pos (by decide)
    rw [el_big (by omega), ih (g / 128) (by omega) (by omega)]
theorem el_le : ∀ (k g : Nat), g < 128 ^ k → 1 ≤ k → el g ≤ k := by
  intro k
  induction k with
  | zero => intro g h h1; omega
  | succ k ih =>
    intro g h h1
    by_cases c : g < 128
    · rw [el_small c]; omega
    · have e1 : 128 ^ (k + 1) = 128 ^ k * 128 := Nat.pow_succ ..
      rw [el_big c]
      have k1 : 1 ≤ k := by
        rcases Nat.eq_zero_or_pos k with rfl | q
        · omega
        · exact q
      have := ih (g / 128) (by omega) k1
      omega
theorem el_lt (g : Nat) : g < 128 ^ el g := by
  induction g using Nat.strongRecOn with
  | ind g ih =>
    by_cases c : g < 128
    · rw [el_small c]; omega
    · rw [el_big c, Nat.pow_succ]
      have := ih (g / 128) (by omega)
      omega
theorem el_add (a b : Nat) : el (a + b) ≤ el a + el b := by
  have h1 := el_lt a
  have h2 := el_lt b
  have p1 := el_pos a
  have p2 := el_pos b
  refine el_le _ _ ?_ (by omega)
  rw [Nat.pow_add]
  have q1 : 128 ≤ 128 ^ el a := by
    have := Nat.pow_le_pow_right (n := 128) (by decide) p1
    simpa using this
  have q2 : 128 ≤ 128 ^ el b := by
    have := Nat.pow_le_pow_right (n := 128) (by decide) p2
    simpa using this
  generalize 128 ^ el a = A at *
  generalize 128 ^ el b = B at *
  have m1 : 128 * B ≤ A * B := Nat.mul_le_mul_right _ q1
  have m2 : A * 128 ≤ A * B := Nat.mul_le_mul_left _ q2
  omega
def encs (gs : List Nat) : List Int8 := gs.flatMap enc
theorem encs_nil : encs [] = [] := rfl
theorem encs_cons (g : Nat) (gs : List Nat) : encs (g :: gs) = enc g ++ encs gs := rfl
theorem encs_app (a b : List Nat) : encs (a ++ b) = encs a ++ encs b := by unfold encs; rw [List.flatMap_append]
theorem encs_len (gs : List Nat) (g : Nat) : (encs (g :: gs)).length = el g + (encs gs).length := by rw [encs_cons, List.length_append]; rfl
theorem encs_ge (gs : List Nat) : gs.length ≤ (encs gs).length := by
  induction gs with
  | nil => exact Nat.le_refl _
  | cons a gs ih => rw [encs_len, List.length_cons]; have := el_pos a; omega
theorem encs_one (g : Nat) : encs [g] = enc g := by rw [encs_cons, encs_nil, List.append_nil]
def enc0 (N : Nat) : List Int8 := if N = 0 then [] else enc N
def el0 (N : Nat) : Nat := (enc0 N).length
theorem el0_zero : el0 0 = 0 := rfl
theorem enc0_zero : enc0 0 = [] := rfl
theorem enc0_pos {N : Nat} (h : 1 ≤ N) : enc0 N = enc N := if_neg (by omega)
theorem el0_pos {N : Nat} (h : 1 ≤ N) : el0 N = el N := by unfold el0 el; rw [enc0_pos h]
/-! the bytes -/
theorem v_nat {v : Int64} {g : Nat} (hv : v.toInt = (g : Nat)) : v.toBitVec.toNat = g ∧ g < 9223372036854775808 := by
  have h1 := v.toInt_lt
  have e : v.toInt = v.toBitVec.toInt := rfl
  rw [BitVec.toInt_eq_toNat_cond] at e
  have h2 := v.toBitVec.isLt
  split at e <;> constructor <;> omega
theorem v_int {v : Int64} {g : Nat} (hv : v.toBitVec.toNat = g) (hg : g < 9223372036854775808) : v.toInt = (g : Nat) := by
  have e : v.toInt = v.toBitVec.toInt := rfl
  rw [e, BitVec.toInt_eq_toNat_cond, hv, if_pos (by omega)]
theorem w_nat (v : Int32) : (v.toBitVec.toNat < 2147483648 → v.toInt = (v.toBitVec.toNat : Nat)) ∧ (2147483648 ≤ v.toBitVec.toNat → v.toInt = (v.toBitVec.toNat : Nat) - 4294967296) ∧ v.toBitVec.toNat < 4294967296 := by
  have e : v.toInt = v.toBitVec.toInt := rfl
  rw [BitVec.toInt_eq_toNat_cond] at e
  have h2 := v.toBitVec.isLt
  split at e <;> refine ⟨?_, ?_, ?_⟩ <;> omega
theorem or128 : ∀ x, x < 256 → x ||| 128 = x % 128 + 128 := by decide +kernel
theorem or128g (g : Nat) : (g ||| 128) % 256 = g % 128 + 128 := by
  rw [show 256 = 2 ^ 8 from rfl, Nat.or_mod_two_pow, show 128 % 2 ^ 8 = 128 from rfl, or128 (g % 2 ^ 8) (by omega)]
  omega
theorem b8 : ∀ n, n < 256 → (Int8.ofNat n).toInt = if n < 128 then (n : Int) else (n : Int) - 256 := by decide +kernel
theorem b_and : ∀ n, n < 256 → ((Int8.ofNat n).toInt32 &&& (127 : Int32)).toInt = ((n % 128 : Nat) : Int) := by decide +kernel
theorem b_to (x : Int32) (n : Nat) (hn : n < 256) (h : (x.toInt - (n : Int)) % 256 = 0) : (x.toInt8.toInt32).toInt8 = Int8.ofNat n := by
  have c := c_i2b x
  have e1 : x.toInt8.toInt32.toInt8 = x.toInt8 := Int8.toInt8_toInt32 _
  have e2 : x.toInt8.toInt32.toInt = x.toInt8.toInt := Int8.toInt_toInt32 _
  rw [e1]
  apply Int8.toInt_inj.mp
  have := b8 n hn
  rw [this]
  split <;> omega
theorem by_big {v : Int64} {g : Nat} (hv : v.toInt = (g : Nat)) : (((v ||| (128 : Int64)).toInt32.toInt8.toInt32).toInt8 : Int8) = Int8.ofNat (g % 128 + 128) := by
  obtain ⟨h1, h2⟩ := v_nat hv
  have e : (v ||| (128 : Int64)).toBitVec.toNat = g ||| 128 := by rw [Int64.toBitVec_or, BitVec.toNat_or, h1]; rfl
  have lt : g ||| 128 < 9223372036854775808 := Nat.or_lt_two_pow (n := 63) (by omega) (by omega)
  have e2 := v_int e lt
  have e3 := c_l2i (v ||| (128 : Int64))
  have e4 := or128g g
  exact b_to _ _ (by omega) (by omega)
theorem by_small {v : Int64} {g : Nat} (hv : v.toInt = (g : Nat)) (hg : g < 128) : ((v.toInt32.toInt8.toInt32).toInt8 : Int8) = Int8.ofNat g := by
  have e3 := c_l2i v
  exact b_to _ _ (by omega) (by omega)
theorem ushrL_eq (x : Int64) (q : Int32) : XT.ushrL x q = (x.toUInt64 >>> (q &&& 0x3f).toInt64.toUInt64).toInt64 := by
  unfold XT.ushrL
  rw [show (q &&& 0x3f).toInt64 = q.toInt64 &&& 63 from by rw [Int32.toInt64_and]; rfl]
  rfl
theorem ushrLK {x : Int64} {n : Nat} {q : Int32} (k : Nat) (hk : q.toBitVec.toNat % 64 = k) (h0 : 0 < k) (hx : x.toInt = (n : Nat)) : (XT.ushrL x q).toInt = ((n / 2 ^ k : Nat) : Int) := by
  have := c_lushr x q k hk h0
  have r := i64_rng x
  rw [ushrL_eq, this, hx, show ((n : Nat) : Int) % 18446744073709551616 = ((n : Nat) : Int) by omega]
  norm_cast
theorem ushrL_le {x : Int64} {n : Nat} (q : Int32) (hx : x.toInt = (n : Nat)) : ∃ m : Nat, (XT.ushrL x q).toInt = (m : Nat) ∧ m ≤ n := by
  rcases Nat.eq_zero_or_pos (q.toBitVec.toNat % 64) with h | h
  · refine ⟨n, ?_, Nat.le_refl _⟩
    have e : XT.ushrL x q = x := by
      unfold XT.ushrL
      have : q.toInt64.toUInt64 &&& Int64.toUInt64 63 = 0 := by
        apply UInt64.toBitVec_inj.mp
        apply BitVec.eq_of_toNat_eq
        show ((q.toInt64.toUInt64 &&& Int64.toUInt64 63).toBitVec).toNat = 0
        rw [UInt64.toBitVec_and, BitVec.toNat_and, show (Int64.toUInt64 63).toBitVec.toNat = 2 ^ 6 - 1 from rfl, Nat.and_two_pow_sub_one_eq_mod]
        have e1 : q.toInt64.toUInt64.toBitVec.toNat % 2 ^ 6 = q.toBitVec.toNat % 64 := by
          show (q.toBitVec.signExtend 64).toNat % 64 = _
          rw [BitVec.toNat_signExtend]
          split <;> simp only [BitVec.toNat_setWidth] <;> omega
        omega
      rw [this]
      apply Int64.toBitVec_inj.mp
      show (x.toUInt64 >>> (0 : UInt64)).toBitVec = x.toBitVec
      rw [UInt64.shiftRight_zero]; rfl
    rw [e]; exact hx
  · exact ⟨n / 2 ^ (q.toBitVec.toNat % 64), ushrLK _ rfl h hx, Nat.div_le_self _ _⟩
theorem shl_eq (x : Int64) (q : Int32) : x <<< (q.toInt64 &&& 63) = x <<< (q &&& 0x3f).toInt64 := by
  rw [show (q &&& 0x3f).toInt64 = q.toInt64 &&& 63 from by rw [Int32.toInt64_and]; rfl]
theorem lor_shl {acc : Int64} {x sh : Int32} {an m i : Nat} (hacc : acc.toInt = (an : Nat)) (hx : x.toInt = (m : Nat)) (hs : sh.toInt = ((7 * i : Nat) : Int)) (hi : i ≤ 8) (han : an < 2 ^ (7 * i)) (hb : an + m * 2 ^ (7 * i) < 9223372036854775808) :
    (acc ||| (x.toInt64 <<< (sh.toInt64 &&& 63))).toInt = ((an + m * 2 ^ (7 * i) : Nat) : Int) := by
  have hq : sh.toBitVec.toNat % 64 = 7 * i := by have := w_nat sh; omega
  have e1 := c_lshl x.toInt64 sh (7 * i) hq
  have e2 := c_i2l x
  have ex : x.toInt64.toInt * ((2 ^ (7 * i) : Nat) : Int) = ((m * 2 ^ (7 * i) : Nat) : Int) := by rw [e2, hx]; norm_cast
  rw [ex, ← shl_eq] at e1
  have r1 := i64_rng (x.toInt64 <<< (sh.toInt64 &&& 63))
  have e3 : (x.toInt64 <<< (sh.toInt64 &&& 63)).toInt = ((m * 2 ^ (7 * i) : Nat) : Int) := by
    generalize m * 2 ^ (7 * i) = M at *
    generalize (x.toInt64 <<< (sh.toInt64 &&& 63)).toInt = T at *
    omega
  have e4 := c_orL' acc (x.toInt64 <<< (sh.toInt64 &&& 63)) (7 * i) (by omega) _ rfl (by rw [e3]; norm_cast; exact Nat.mul_mod_left _ _) (by omega) (by rw [hacc]; exact_mod_cast han)
  have r2 := i64_rng (acc ||| (x.toInt64 <<< (sh.toInt64 &&& 63)))
  rw [e3] at e4
  generalize m * 2 ^ (7 * i) = M at *
  omega
theorem nlz_lo {s n k : Nat} (h1 : 2 ^ s ≤ n) (h : n < 2 ^ k) : s < k := (Nat.pow_lt_pow_iff_right (a := 2) (by decide)).mp (Nat.lt_of_le_of_lt h1 h)
theorem nlz_hi {s n k : Nat} (h2 : n < 2 ^ (s + 1)) (h : 2 ^ k ≤ n) : k ≤ s := by have := (Nat.pow_lt_pow_iff_right (a := 2) (by decide)).mp (Nat.lt_of_le_of_lt h h2); omega
theorem nlz_div {s n k : Nat} (h : k ≤ s) (h1 : 2 ^ s ≤ n) (h2 : n < 2 ^ (s + 1)) : 2 ^ (s - k) ≤ n / 2 ^ k ∧ n / 2 ^ k < 2 ^ (s - k + 1) := by
  have e1 : 2 ^ s = 2 ^ (s - k) * 2 ^ k := by rw [← Nat.pow_add]; congr 1; omega
  have e2 : 2 ^ (s + 1) = 2 ^ k * 2 ^ (s - k + 1) := by rw [← Nat.pow_add]; congr 1; omega
  rw [e1] at h1; rw [e2] at h2
  exact ⟨(Nat.le_div_iff_mul_le (Nat.pow_pos (by decide))).mpr h1, Nat.div_lt_of_lt_mul h2⟩
theorem nlz_c {x y t : Int} {s k : Nat} (ha : x = y - (k : Nat)) (hc : y = 31 - t + (s : Nat)) (hk : k ≤ s) : x = 31 - t + ((s - k : Nat) : Int) := by omega
theorem nlz_end {s n : Nat} (h1 : 2 ^ s ≤ n) (h2 : n < 2 ^ (s + 1)) (h : s < 2) : n / 2 ^ 1 = s := by
  match s, h with
  | 0, _ => have h1 : 1 ≤ n := h1; have h2 : n < 2 := h2; show n / 2 = 0; omega
  | 1, _ => have h1 : 2 ≤ n := h1; have h2 : n < 4 := h2; show n / 2 = 1; omega
theorem ushrK {x q : Int32} {n : Nat} (k : Nat) (hk : q.toBitVec.toNat % 32 = k) (h0 : 0 < k) (hx : x.toInt = (n : Nat)) : (XT.ushr x q).toInt = ((n / 2 ^ k : Nat) : Int) := by
  have := c_iushr x q k hk h0
  have r := i32_rng x
  unfold XT.ushr
  rw [this, hx, show ((n : Nat) : Int) % 4294967296 = ((n : Nat) : Int) by omega]
  norm_cast
theorem nl_lo {v : Int64} {g : Nat} (hv : v.toInt = (g : Nat)) : v.toInt32.toBitVec.toNat = g % 4294967296 := by
  have e := c_l2i v
  have := w_nat v.toInt32
  omega
theorem nl_hi {v : Int64} {g : Nat} (hv : v.toInt = (g : Nat)) : (XT.ushrL v (32 : Int32)).toInt32.toBitVec.toNat = g / 4294967296 := by
  have e1 := ushrLK (x := v) (q := (32 : Int32)) 32 rfl (by decide) hv
  have h := v_nat hv
  rw [nl_lo e1]
  show g / 2 ^ 32 % 4294967296 = g / 4294967296
  have : (2 : Nat) ^ 32 = 4294967296 := rfl
  omega
theorem el_log {G t : Nat} (h1 : 2 ^ t ≤ G) (h2 : G < 2 ^ (t + 1)) : el G = t / 7 + 1 := by
  refine el_spec (t / 7) G (Nat.le_trans ?_ h1) (Nat.lt_of_lt_of_le h2 ?_)
  · rw [show 128 = 2 ^ 7 from rfl, ← Nat.pow_mul]; exact Nat.pow_le_pow_right (by decide) (by omega)
  · rw [show 128 = 2 ^ 7 from rfl, ← Nat.pow_mul]; exact Nat.pow_le_pow_right (by decide) (by omega)
theorem el_le9 {G : Nat} (h : G < 9223372036854775808) : el G ≤ 9 := el_le 9 G (by have : 128 ^ 9 = 9223372036854775808 := rfl; omega) (by decide)
theorem set_mid {α : Type} (U W Y : List α) (w x : α) : (U ++ w :: W ++ Y).set U.length x = U ++ x :: W ++ Y := by
  simp [List.set_append]
theorem get_mid {α : Type} (U W : List α) (w : α) : (U ++ w :: W)[U.length]? = some w := by simp
/-! the copies of a splice -/
theorem seg_X {α : Type} (P X L Y Q : List α) : ((P ++ (X ++ L ++ Y) ++ Q).drop P.length).take X.length = X := by simp [List.append_assoc]
theorem seg_Y {α : Type} (P X L Y Q : List α) : ((P ++ (X ++ L ++ Y) ++ Q).drop (P.length + X.length + L.length)).take Y.length = Y := by
  rw [show P ++ (X ++ L ++ Y) ++ Q = (P ++ X ++ L) ++ (Y ++ Q) by simp, show P.length + X.length + L.length = (P ++ X ++ L).length by simp; omega, List.drop_left]
  simp
theorem cp_fin {α : Type} (A B Y : List α) (w : Nat) (h : A.length + w + Y.length ≤ A.length + B.length) : ∃ V R : List α, V.length = w ∧ A.length + w + Y.length + R.length = A.length + B.length ∧ (A ++ B).take (A.length + w) ++ Y ++ (A ++ B).drop (A.length + w + Y.length) = A ++ V ++ (Y ++ R) := by
  refine ⟨B.take w, B.drop (w + Y.length), by rw [List.length_take]; omega, by rw [List.length_drop]; omega, ?_⟩
  rw [show A.length + w + Y.length = A.length + (w + Y.length) by omega, List.take_length_add_append, List.drop_length_add_append]
  simp
theorem cp_1 {α : Type} (X B : List α) : B.take 0 ++ X ++ B.drop (0 + X.length) = X ++ B.drop X.length := by simp
theorem cp_c {α : Type} (P X L Y Q : List α) : ((X ++ (P ++ (X ++ L ++ Y) ++ Q).drop X.length).drop (P.length + X.length + L.length)).take Y.length = Y := by
  rw [show P.length + X.length + L.length = X.length + (P.length + L.length) by omega, List.drop_length_add_append, List.drop_drop, show X.length + (P.length + L.length) = P.length + X.length + L.length by omega]
  exact seg_Y P X L Y Q
theorem sp_len {α : Type} (X W : List α) (h : X.length ≤ W.length) : (X ++ W.drop X.length).length = W.length := by rw [List.length_append, List.length_drop]; omega
theorem el_mono {a b : Nat} (h : a ≤ b) : el a ≤ el b := el_le (el b) a (Nat.lt_of_le_of_lt h (el_lt b)) (el_pos b)
theorem b_rel (y : Int32) : (y.toInt8.toInt32.toInt8.toInt - y.toInt) % 256 = 0 := by
  have h := c_i2b y
  have e := Int8.toInt_toInt32 y.toInt8
  rw [Int8.toInt8_toInt32]; omega
theorem and_hi {n : Nat} (h : n < 2 ^ 64) : n &&& 18446744073709551488 = 128 * (n / 128) := by
  have e1 : (18446744073709551488 : Nat) = (2 ^ 57 - 1) <<< 7 := by decide
  have e2 : 128 * (n / 128) = (n / 2 ^ 7) <<< 7 := by rw [Nat.shiftLeft_eq, Nat.mul_comm]
  rw [e1, e2]
  apply Nat.eq_of_testBit_eq
  intro i
  rw [Nat.testBit_and, Nat.testBit_shiftLeft, Nat.testBit_shiftLeft, Nat.testBit_two_pow_sub_one, Nat.testBit_div_two_pow]
  by_cases h7 : 7 ≤ i
  · have e3 : i - 7 + 7 = i := by omega
    by_cases h64 : i < 64
    · have e4 : i - 7 < 57 := by omega
      simp [h7, e4, e3]
    · have e5 : n.testBit i = false := Nat.testBit_lt_two_pow (Nat.lt_of_lt_of_le h (Nat.pow_le_pow_right (by decide) (by omega)))
      simp [e5, e3]
  · simp [h7]
theorem and_m128 {v : Int64} {g : Nat} (hv : v.toInt = (g : Nat)) : (v &&& (-128 : Int64)).toInt = ((128 * (g / 128) : Nat) : Int) := by
  obtain ⟨h1, h2⟩ := v_nat hv
  have e : (v &&& (-128 : Int64)).toBitVec.toNat = 128 * (g / 128) := by
    rw [Int64.toBitVec_and, BitVec.toNat_and, h1, show (-128 : Int64).toBitVec.toNat = 18446744073709551488 from rfl]
    exact and_hi (by have : (2 : Nat) ^ 64 = 18446744073709551616 := rfl; omega)
  exact v_int e (by omega)
theorem by_big' {v : Int64} {g : Nat} (hv : v.toInt = (g : Nat)) : ((((v &&& (127 : Int64)) ||| (128 : Int64)).toInt32.toInt8.toInt32).toInt8 : Int8) = Int8.ofNat (g % 128 + 128) := by
  have e := c_maskL v (127 : Int64) 7 (by decide) rfl
  have e2 : (v &&& (127 : Int64)).toInt = ((g % 128 : Nat) : Int) := by rw [e, hv, show ((2 ^ 7 : Nat) : Int) = 128 from rfl]; omega
  rw [by_big e2, Nat.mod_mod]
def u8c (x : Int32) : List Int8 :=
  if x.toInt < 128 then [(x.toInt8.toInt32).toInt8]
  else if x.toInt < 2048 then [(((192 : Int32) ||| (XT.ushr x (6 : Int32))).toInt8.toInt32).toInt8, (((128 : Int32) ||| (x &&& (63 : Int32))).toInt8.toInt32).toInt8]
  else [(((224 : Int32) ||| (XT.ushr x (12 : Int32))).toInt8.toInt32).toInt8, (((128 : Int32) ||| ((XT.ushr x (6 : Int32)) &&& (63 : Int32))).toInt8.toInt32).toInt8, (((128 : Int32) ||| (x &&& (63 : Int32))).toInt8.toInt32).toInt8]
theorem u8c_1 {x : Int32} (h : x.toInt < 128) : u8c x = [(x.toInt8.toInt32).toInt8] := if_pos h
theorem u8c_2 {x : Int32} (h : 128 ≤ x.toInt) (h' : x.toInt < 2048) : u8c x = [(((192 : Int32) ||| (XT.ushr x (6 : Int32))).toInt8.toInt32).toInt8, (((128 : Int32) ||| (x &&& (63 : Int32))).toInt8.toInt32).toInt8] := by
  unfold u8c; rw [if_neg (by omega), if_pos h']
theorem u8c_3 {x : Int32} (h : 2048 ≤ x.toInt) : u8c x = [(((224 : Int32) ||| (XT.ushr x (12 : Int32))).toInt8.toInt32).toInt8, (((128 : Int32) ||| ((XT.ushr x (6 : Int32)) &&& (63 : Int32))).toInt8.toInt32).toInt8, (((128 : Int32) ||| (x &&& (63 : Int32))).toInt8.toInt32).toInt8] := by
  unfold u8c; rw [if_neg (by omega), if_neg (by omega)]
theorem u8c_len (x : Int32) : 1 ≤ (u8c x).length ∧ (u8c x).length ≤ 3 := by
  unfold u8c; split
  · simp
  · split <;> simp
theorem u8c_l1 {x : Int32} (h : x.toInt < 128) : (u8c x).length = 1 := by rw [u8c_1 h]; simp only [List.length_cons, List.length_nil]
theorem u8c_l2 {x : Int32} (h : 128 ≤ x.toInt) (h' : x.toInt < 2048) : (u8c x).length = 2 := by rw [u8c_2 h h']; simp only [List.length_cons, List.length_nil]
theorem u8c_l3 {x : Int32} (h : 2048 ≤ x.toInt) : (u8c x).length = 3 := by rw [u8c_3 h]; simp only [List.length_cons, List.length_nil]
theorem u8c_cls {x y : Int32} (h : x.toInt / 128 = y.toInt / 128) (hx : 0 ≤ x.toInt) (hy : 0 ≤ y.toInt) : (u8c x).length = (u8c y).length := by
  by_cases c1 : x.toInt < 128
  · rw [u8c_l1 c1, u8c_l1 (x := y) (by omega)]
  · by_cases c2 : x.toInt < 2048
    · rw [u8c_l2 (by omega) c2, u8c_l2 (x := y) (by omega) (by omega)]
    · rw [u8c_l3 (by omega), u8c_l3 (x := y) (by omega)]
theorem xor_cls (x d : Int32) (hx : 0 ≤ x.toInt ∧ x.toInt ≤ 65535) (hd : 0 ≤ d.toInt ∧ d.toInt ≤ 127) : 0 ≤ (x ^^^ d).toInt ∧ (x ^^^ d).toInt ≤ 65535 ∧ (x ^^^ d).toInt / 128 = x.toInt / 128 := by
  have w1 := w_nat x
  have w2 := w_nat d
  have w3 := w_nat (x ^^^ d)
  have e : (x ^^^ d).toBitVec.toNat = x.toBitVec.toNat ^^^ d.toBitVec.toNat := by rw [Int32.toBitVec_xor, BitVec.toNat_xor]
  have e2 : (x.toBitVec.toNat ^^^ d.toBitVec.toNat) / 2 ^ 7 = x.toBitVec.toNat / 2 ^ 7 := by
    rw [← Nat.shiftRight_eq_div_pow, ← Nat.shiftRight_eq_div_pow, Nat.shiftRight_xor_distrib]
    rw [show d.toBitVec.toNat >>> 7 = 0 from by rw [Nat.shiftRight_eq_div_pow, show (2 : Nat) ^ 7 = 128 from rfl]; omega, Nat.xor_zero]
  rw [show (2 : Nat) ^ 7 = 128 from rfl] at e2
  rw [e] at w3
  generalize x.toBitVec.toNat ^^^ d.toBitVec.toNat = m at *
  refine ⟨?_, ?_, ?_⟩ <;> omega
def u8s (us : List Int32) : List Int8 := us.flatMap u8c
theorem u8s_nil : u8s [] = [] := rfl
theorem u8s_cons (x : Int32) (us : List Int32) : u8s (x :: us) = u8c x ++ u8s us := rfl
theorem u8s_app (a b : List Int32) : u8s (a ++ b) = u8s a ++ u8s b := by unfold u8s; rw [List.flatMap_append]
theorem u8s_le (us : List Int32) : (u8s us).length ≤ 3 * us.length := by
  induction us with
  | nil => exact Nat.le_refl _
  | cons x us ih => rw [u8s_cons, List.length_append, List.length_cons]; have := (u8c_len x).2; omega
theorem u8s_cls {b0 b1 c0 c1 : Int32} (L : Nat) (h0 : (u8c b0).length = (u8c c0).length) (h1 : (u8c b1).length = (u8c c1).length) : (u8s ([b0, b1].take L)).length = (u8s ([c0, c1].take L)).length := by
  match L with
  | 0 => rfl
  | 1 => simp [u8s_cons, u8s_nil, h0]
  | n + 2 => simp [u8s_cons, u8s_nil, h0, h1]
/-! the bytes of a String -/
def Lat (bs : List Int8) (us : List Int32) : Prop := bs.length = us.length ∧ ∀ (j : Nat) (x : Int32), us[j]? = some x → ∃ b : Int8, bs[j]? = some b ∧ (b.toInt - x.toInt) % 256 = 0 ∧ x.toInt ≤ 255
def Utf (bs : List Int8) (us : List Int32) : Prop := bs.length = 2 * us.length ∧ ∀ (j : Nat) (x : Int32), us[j]? = some x → ∃ p q : Int8, bs[2 * j]? = some p ∧ bs[2 * j + 1]? = some q ∧ (p.toInt - x.toInt) % 256 = 0 ∧ (q.toInt - x.toInt / 256) % 256 = 0
theorem b_and255 (b : Int8) : (b.toInt32 &&& (255 : Int32)).toInt = b.toInt % 256 := by
  have e := c_mask b.toInt32 (255 : Int32) 8 (by decide) rfl
  rw [e, Int8.toInt_toInt32]; rfl
theorem rd_lat {b : Int8} {x : Int32} (h : (b.toInt - x.toInt) % 256 = 0) (h0 : 0 ≤ x.toInt) (h1 : x.toInt ≤ 255) : c16 (b.toInt32 &&& (255 : Int32)) = x := by
  apply i32_eq
  rw [c16_spec, b_and255]; omega
theorem rd_utf {p q : Int8} {x : Int32} (hp : (p.toInt - x.toInt) % 256 = 0) (hq : (q.toInt - x.toInt / 256) % 256 = 0) (h0 : 0 ≤ x.toInt) (h1 : x.toInt ≤ 65535) :
    c16 (((p.toInt32 &&& (255 : Int32)) <<< ((0 : Int32) &&& 31)) ||| ((q.toInt32 &&& (255 : Int32)) <<< ((8 : Int32) &&& 31))) = x := by
  have a1 := b_and255 p
  have a2 := b_and255 q
  have s1 := c_ishl (p.toInt32 &&& (255 : Int32)) (0 : Int32) 0 rfl
  have s2 := c_ishl (q.toInt32 &&& (255 : Int32)) (8 : Int32) 8 rfl
  rw [show ((2 ^ 0 : Nat) : Int) = 1 from rfl] at s1
  rw [show ((2 ^ 8 : Nat) : Int) = 256 from rfl] at s2
  have r1 := i32_rng ((p.toInt32 &&& (255 : Int32)) <<< ((0 : Int32) &&& 31))
  have r2 := i32_rng ((q.toInt32 &&& (255 : Int32)) <<< ((8 : Int32) &&& 31))
  generalize (p.toInt32 &&& (255 : Int32)) <<< ((0 : Int32) &&& 31) = A at *
  generalize (q.toInt32 &&& (255 : Int32)) <<< ((8 : Int32) &&& 31) = B at *
  have eA : A.toInt = x.toInt % 256 := by omega
  have eB : B.toInt = x.toInt / 256 * 256 := by omega
  have o := c_or' A B 8 (by decide) 256 rfl (by omega) (by omega) (by omega)
  have r3 := i32_rng (A ||| B)
  apply i32_eq
  rw [c16_spec]; omega
theorem set2 {bs : List Int8} {j : Nat} {p q : Int8} (h : 2 * j + 1 < bs.length) : ((bs.set (2 * j) p).set (2 * j + 1) q)[2 * j]? = some p ∧ ((bs.set (2 * j) p).set (2 * j + 1) q)[2 * j + 1]? = some q ∧ ∀ i, i ≠ 2 * j → i ≠ 2 * j + 1 → ((bs.set (2 * j) p).set (2 * j + 1) q)[i]? = bs[i]? := by
  refine ⟨?_, ?_, fun i h1 h2 => ?_⟩
  · rw [List.getElem?_set_ne (by omega), List.getElem?_set_self (by omega)]
  · rw [List.getElem?_set_self (by rw [List.length_set]; omega)]
  · rw [List.getElem?_set_ne (by omega), List.getElem?_set_ne (by omega)]
theorem coder_0 {n m : Int32} (h : m.toInt = n.toInt) : ((XT.ushr (n - m) (31 : Int32)).toInt8.toInt32) = 0 := by
  obtain rfl : m = n := i32_eq h
  rw [Int32.sub_self]; rfl
theorem coder_1 {n m : Int32} (h : n.toInt < m.toInt) (h0 : 0 ≤ n.toInt) : ((XT.ushr (n - m) (31 : Int32)).toInt8.toInt32) = 1 := by
  have r := i32_rng m
  have r' := i32_rng n
  have e1 : (n - m).toInt = n.toInt - m.toInt := i32_sub (by omega) (by omega)
  have e2 := c_iushr (n - m) (31 : Int32) 31 rfl (by decide)
  have e3 : (XT.ushr (n - m) (31 : Int32)).toInt = 1 := by
    unfold XT.ushr
    rw [e2, e1, show ((2 ^ 31 : Nat) : Int) = 2147483648 from rfl]; omega
  have e4 := c_i2b (XT.ushr (n - m) (31 : Int32))
  apply i32_eq
  rw [show (1 : Int32).toInt = 1 from rfl]; omega
theorem lat_step {bs : List Int8} {us : List Int32} {i : Nat} {u : Int32} (hB : ∀ (j : Nat) (w : Int32), j < i → us[j]? = some w → ∃ y : Int8, bs[j]? = some y ∧ (y.toInt - w.toInt) % 256 = 0 ∧ w.toInt ≤ 255) (hu : us[i]? = some u) (hi : i < bs.length) (h255 : u.toInt ≤ 255) :
    ∀ (j : Nat) (w : Int32), j < i + 1 → us[j]? = some w → ∃ y : Int8, (bs.set i (u.toInt8.toInt32).toInt8)[j]? = some y ∧ (y.toInt - w.toInt) % 256 = 0 ∧ w.toInt ≤ 255 := by
  intro j w hj hw
  by_cases e : j = i
  · subst e
    obtain rfl : w = u := Option.some.inj (hw.symm.trans hu)
    exact ⟨_, List.getElem?_set_self hi, b_rel w, h255⟩
  · obtain ⟨y, h1, h2⟩ := hB j w (by omega) hw
    exact ⟨y, by rw [List.getElem?_set_ne (by omega)]; exact h1, h2⟩
theorem utf_step {bs : List Int8} {us : List Int32} {i : Nat} {u : Int32} {p q : Int8} (hB : ∀ (j : Nat) (w : Int32), j < i → us[j]? = some w → ∃ p q : Int8, bs[2 * j]? = some p ∧ bs[2 * j + 1]? = some q ∧ (p.toInt - w.toInt) % 256 = 0 ∧ (q.toInt - w.toInt / 256) % 256 = 0) (hu : us[i]? = some u) (hi : 2 * i + 1 < bs.length) (hp : (p.toInt - u.toInt) % 256 = 0) (hq : (q.toInt - u.toInt / 256) % 256 = 0) :
    ∀ (j : Nat) (w : Int32), j < i + 1 → us[j]? = some w → ∃ p' q' : Int8, ((bs.set (2 * i) p).set (2 * i + 1) q)[2 * j]? = some p' ∧ ((bs.set (2 * i) p).set (2 * i + 1) q)[2 * j + 1]? = some q' ∧ (p'.toInt - w.toInt) % 256 = 0 ∧ (q'.toInt - w.toInt / 256) % 256 = 0 := by
  intro j w hj hw
  obtain ⟨s1, s2, s3⟩ := set2 (p := p) (q := q) hi
  by_cases e : j = i
  · subst e
    obtain rfl : w = u := Option.some.inj (hw.symm.trans hu)
    exact ⟨p, q, s1, s2, hp, hq⟩
  · obtain ⟨p', q', h1, h2, h3⟩ := hB j w (by omega) hw
    exact ⟨p', q', by rw [s3 _ (by omega) (by omega)]; exact h1, by rw [s3 _ (by omega) (by omega)]; exact h2, h3⟩
theorem nar_cx {x : Int32} (h : 0 ≤ x.toInt ∧ x.toInt ≤ 65535) : narrow .char (.int x) = .int x := by
  show Value.int (c16 x) = _
  rw [c16_id h]
theorem lat_nil : Lat [] [] := ⟨rfl, fun j x h => by simp at h⟩
theorem set_m {α : Type} (U W : List α) (w x : α) : (U ++ w :: W).set U.length x = (U ++ [x]) ++ W := by simp [List.set_append]
theorem u8s_one (x : Int32) : u8s [x] = u8c x := by rw [u8s_cons, u8s_nil, List.append_nil]
theorem bv_of {x : Int32} {n : Nat} (h : x.toInt = (n : Nat)) : x.toBitVec.toNat = n := by have := w_nat x; omega
theorem pw_cases {b P : Nat} (hb : 2 ≤ b ∧ b ≤ 5) (hP : P = 2 ^ b) : 4 ≤ P ∧ P ≤ 32 := by
  rcases (show b = 2 ∨ b = 3 ∨ b = 4 ∨ b = 5 by omega) with rfl | rfl | rfl | rfl <;> subst hP <;> decide
theorem pl_shl {x bb : Int32} {c b P : Nat} (hx : x.toInt = (c : Nat)) (hbb : bb.toInt = (b : Nat)) (hb : 2 ≤ b ∧ b ≤ 5) (hP : P = 2 ^ b) (hc : c ≤ 8) : (x <<< (bb &&& 31)).toInt = ((c * P : Nat) : Int) := by
  have e := c_ishl x bb b (by rw [bv_of hbb]; omega)
  have r := i32_rng (x <<< (bb &&& 31))
  have p := pw_cases hb hP
  rw [← hP, hx] at e
  have e2 : ((c : Nat) : Int) * ((P : Nat) : Int) = ((c * P : Nat) : Int) := by norm_cast
  have b2 : c * P ≤ 8 * 32 := Nat.mul_le_mul hc p.2
  rw [e2] at e
  generalize c * P = M at *
  omega
theorem pl_or {x y : Int32} {c F b P : Nat} (hx : x.toInt = ((c * P : Nat) : Int)) (hy : y.toInt = (F : Nat)) (hb : 2 ≤ b ∧ b ≤ 5) (hP : P = 2 ^ b) (hF : F < P) (hc : c ≤ 8) : (x ||| y).toInt = ((c * P + F : Nat) : Int) := by
  have p := pw_cases hb hP
  have b2 : c * P ≤ 8 * 32 := Nat.mul_le_mul hc p.2
  have m : ((c * P : Nat) : Int) % ((P : Nat) : Int) = 0 := by norm_cast; exact Nat.mul_mod_left _ _
  have e := c_or x y b (by omega) ((P : Nat) : Int) (by rw [hP]) (by rw [hx]; exact m) (by omega) (by omega)
  have r := i32_rng (x ||| y)
  rw [hx] at e
  generalize c * P = M at *
  omega
theorem pl_shr {x bb : Int32} {c F b P : Nat} (hx : x.toInt = ((c * P + F : Nat) : Int)) (hbb : bb.toInt = (b : Nat)) (hb : 2 ≤ b ∧ b ≤ 5) (hP : P = 2 ^ b) (hF : F < P) (hc : c ≤ 8) : (XT.ushr x bb).toInt = (c : Nat) := by
  have p := pw_cases hb hP
  have e := ushrK (x := x) (q := bb) b (by rw [bv_of hbb]; omega) (by omega) hx
  rw [e, ← hP, Nat.mul_comm, Nat.mul_add_div (by omega), Nat.div_eq_of_lt hF, Nat.add_zero]
theorem pl_and {x om : Int32} {c F b P : Nat} (hx : x.toInt = ((c * P + F : Nat) : Int)) (hom : om.toInt = ((P - 1 : Nat) : Int)) (hb : 2 ≤ b ∧ b ≤ 5) (hP : P = 2 ^ b) (hF : F < P) : (x &&& om).toInt = (F : Nat) := by
  have p := pw_cases hb hP
  have e := c_mask x om b (by omega) (by rw [bv_of hom, hP])
  rw [e, ← hP, hx]
  have : (c * P + F) % P = F := by rw [Nat.mul_comm, Nat.mul_add_mod, Nat.mod_eq_of_lt hF]
  norm_cast
theorem one_shl {bb : Int32} {b P : Nat} (hbb : bb.toInt = (b : Nat)) (hb : 2 ≤ b ∧ b ≤ 5) (hP : P = 2 ^ b) : ((1 : Int32) <<< (bb &&& 31)).toInt = (P : Nat) := by
  have := pl_shl (x := (1 : Int32)) (c := 1) rfl hbb hb hP (by decide)
  rw [this, Nat.one_mul]
theorem cp_end {α : Type} (A V R u T : List α) (h : V.length = u.length) : (A ++ (V ++ R)).take A.length ++ ((u ++ T).drop 0).take u.length ++ (A ++ (V ++ R)).drop (A.length + u.length) = A ++ u ++ R := by
  rw [List.drop_zero, List.take_left, List.take_left, List.drop_length_add_append, ← h, List.drop_left]
theorem cut3 {α : Type} (Y : List α) (a b d : Nat) (h : a + b + d ≤ Y.length) : ∃ V1 V2 V3 R : List α, Y = V1 ++ (V2 ++ (V3 ++ R)) ∧ V1.length = a ∧ V2.length = b ∧ V3.length = d ∧ R.length + (a + b + d) = Y.length := by
  refine ⟨Y.take a, (Y.drop a).take b, ((Y.drop a).drop b).take d, ((Y.drop a).drop b).drop d, ?_, ?_, ?_, ?_, ?_⟩
  · rw [List.take_append_drop, List.take_append_drop, List.take_append_drop]
  · rw [List.length_take]; omega
  · rw [List.length_take, List.length_drop]; omega
  · simp only [List.length_take, List.length_drop]; omega
  · simp only [List.length_drop]; omega
theorem l_mask32 {x : Int64} {n : Nat} (h : x.toInt = (n : Nat)) (hn : n < 4294967296) : (x &&& (4294967295 : Int64)).toInt = (n : Nat) := by
  have e := c_maskL x (4294967295 : Int64) 32 (by decide) rfl
  rw [e, h, show ((2 ^ 32 : Nat) : Int) = 4294967296 from rfl]; omega
def STS (Z : State) (h : Heap) (n0 : Nat) (cs : Int32) (fm : Value) : Prop := StB Z h n0 "java/lang/String" "COMPACT_STRINGS" "Z" (.int cs) ∧ StB Z h n0 "java/lang/StringUTF16" "$assertionsDisabled" "Z" (.int 1) ∧ StB Z h n0 "java/lang/StringUTF16" "HI_BYTE_SHIFT" "I" (.int 0) ∧ StB Z h n0 "java/lang/StringUTF16" "LO_BYTE_SHIFT" "I" (.int 8) ∧ StB Z h n0 "jdk/internal/util/Preconditions" "SIOOBE_FORMATTER" "Ljava/util/function/BiFunction;" fm ∧ cs.toInt ≠ 0 ∧ (fm = .null ∨ ∃ a : Nat, fm = .ref a)
theorem STS.keep {Z : State} {h h' : Heap} {n0 : Nat} {cs : Int32} {fm : Value} {ws : List Nat} (F : STS Z h n0 cs fm) (K : Keep h h' ws) (q : ∀ x ∈ ws, @LE.le Nat _ n0 x) : STS Z h' n0 cs fm := by
  obtain ⟨a, b, c, d, e, f⟩ := F
  exact ⟨a.keep K q, b.keep K q, c.keep K q, d.keep K q, e.keep K q, f⟩
theorem STS.ext {Z : State} {h h' : Heap} {n0 : Nat} {cs : Int32} {fm : Value} (F : STS Z h n0 cs fm) (E : Ext h h') : STS Z h' n0 cs fm := by
  obtain ⟨a, b, c, d, e, f⟩ := F
  exact ⟨a.ext E, b.ext E, c.ext E, d.ext E, e.ext E, f⟩
theorem STS.rf {Z : State} {h : Heap} {n0 : Nat} {cs : Int32} {fm : Value} (F : STS Z h n0 cs fm) : fm.isRef = true := by
  obtain ⟨-, -, -, -, -, -, rfl | ⟨a, rfl⟩⟩ := F <;> rfl
def Str (Z : State) (h : Heap) (o vb : Nat) (us : List Int32) : Prop := ∃ (cd : Int32) (bs : List Int8), Exa Z h o "java/lang/String" ∧ Fld Z h o "java/lang/String" "value" "[B" (.ref vb) ∧ Fld Z h o "java/lang/String" "coder" "B" (.int cd) ∧ ArB Z h vb bs ∧ (∀ x ∈ us, 0 ≤ x.toInt ∧ x.toInt ≤ 65535) ∧ us.length ≤ 2 ∧ ((cd = 0 ∧ Lat bs us) ∨ (cd = 1 ∧ Utf bs us))
theorem Str.keep {Z : State} {h h' : Heap} {o vb : Nat} {us : List Int32} {ws : List Nat} (H : Str Z h o vb us) (K : Keep h h' ws) (q : o ∉ ws ∧ vb ∉ ws) : Str Z h' o vb us := by
  obtain ⟨cd, bs, a, b, c, d, e⟩ := H
  exact ⟨cd, bs, a.keep K, b.keep K q.1, c.keep K q.1, d.keep K q.2, e⟩
theorem Str.rg {Z : State} {h : Heap} {o vb : Nat} {us : List Int32} (H : Str Z h o vb us) : o < h.size ∧ vb < h.size := by
  obtain ⟨cd, bs, a, b, c, d, e⟩ := H
  exact ⟨b.lt, d.lt⟩
theorem Str.ex {Z : State} {h : Heap} {o vb : Nat} {us : List Int32} (H : Str Z h o vb us) : Exa Z h o "java/lang/String" := by obtain ⟨cd, bs, a, -⟩ := H; exact a
theorem Str.le {Z : State} {h : Heap} {o vb : Nat} {us : List Int32} (H : Str Z h o vb us) : us.length ≤ 2 ∧ ∀ x ∈ us, 0 ≤ x.toInt ∧ x.toInt ≤ 65535 := by obtain ⟨cd, bs, -, -, -, -, a, b, -⟩ := H; exact ⟨b, a⟩
theorem own_isref {args : Array Value} {s : State} {t : Term} (h : (Cond.isRef t).value args s none s [] = some true) : ∃ v, t.eval args s none [] s = some v ∧ (v = .null ∨ ∃ a : Nat, v = .ref a) := by
  simp only [Cond.value] at h
  cases q : t.eval args s none [] s with
  | none => simp [q] at h
  | some v => exact ⟨v, rfl, by cases v <;> simp [q] at h <;> first | exact Or.inl rfl | exact Or.inr ⟨_, rfl⟩⟩
def PW (b P : Nat) : Prop := P = 2 ^ b
def KTI (Z : State) (h : Heap) (n0 kt ba fa wb b P c : Nat) (vs : List Value) (fs : List Int32) (la : Int32) : Prop := ∃ bb om cc : Int32, Exa Z h kt "com/example/vestline/vestline/util/KeptTexts" ∧ Fld Z h kt "com/example/vestline/vestline/util/KeptTexts" "written" "[B" (.ref wb) ∧ Fld Z h kt "com/example/vestline/vestline/util/KeptTexts" "blockBits" "I" (.int bb) ∧ Fld Z h kt "com/example/vestline/vestline/util/KeptTexts" "offsetMask" "I" (.int om) ∧ Fld Z h kt "com/example/vestline/vestline/util/KeptTexts" "blocks" "[[B" (.ref ba) ∧ Fld Z h kt "com/example/vestline/vestline/util/KeptTexts" "filled" "[I" (.ref fa) ∧ Fld Z h kt "com/example/vestline/vestline/util/KeptTexts" "block" "I" (.int cc) ∧ Fld Z h kt "com/example/vestline/vestline/util/KeptTexts" "last" "I" (.int la) ∧ ArR Z h ba (.array .byte) "[B" vs ∧ ArI Z h fa fs ∧ bb.toInt = (b : Nat) ∧ om.toInt = ((P - 1 : Nat) : Int) ∧ cc.toInt = (c : Nat) ∧ (2 ≤ b ∧ b ≤ 5) ∧ PW b P ∧ vs.length = 8 ∧ fs.length = 8 ∧ (n0 ≤ kt ∧ n0 ≤ ba ∧ n0 ≤ fa ∧ n0 ≤ wb ∧ n0 ≤ h.size ∧ kt ≠ ba ∧ kt ≠ fa ∧ kt ≠ wb ∧ ba ≠ fa ∧ ba ≠ wb ∧ fa ≠ wb)
theorem KTI.keep {Z : State} {h h' : Heap} {n0 kt ba fa wb b P c : Nat} {vs : List Value} {fs : List Int32} {la : Int32} {ws : List Nat} (H : KTI Z h n0 kt ba fa wb b P c vs fs la) (K : Keep h h' ws) (q : kt ∉ ws ∧ ba ∉ ws ∧ fa ∉ ws) : KTI Z h' n0 kt ba fa wb b P c vs fs la := by
  obtain ⟨q1, q2, q3⟩ := q
  obtain ⟨bb, om, cc, a1, a2, a3, a4, a5, a6, a7, a8, a9, a10, b1, b2, b3, b4, b5, b6, b7, n1, n2, n3, n4, n5, n6⟩ := H
  exact ⟨bb, om, cc, a1.keep K, a2.keep K q1, a3.keep K q1, a4.keep K q1, a5.keep K q1, a6.keep K q1, a7.keep K q1, a8.keep K q1, a9.keep K q2, a10.keep K q3, b1, b2, b3, b4, b5, b6, b7, n1, n2, n3, n4, Nat.le_trans n5 K.1, n6⟩
theorem KTI.ex {Z : State} {h : Heap} {n0 kt ba fa wb b P c : Nat} {vs : List Value} {fs : List Int32} {la : Int32} (H : KTI Z h n0 kt ba fa wb b P c vs fs la) : Exa Z h kt "com/example/vestline/vestline/util/KeptTexts" := by obtain ⟨bb, om, cc, a, -⟩ := H; exact a
theorem KTI.rg {Z : State} {h : Heap} {n0 kt ba fa wb b P c : Nat} {vs : List Value} {fs : List Int32} {la : Int32} (H : KTI Z h n0 kt ba fa wb b P c vs fs la) : kt < h.size ∧ ba < h.size ∧ fa < h.size ∧ (2 ≤ b ∧ b ≤ 5) ∧ PW b P ∧ (n0 ≤ kt ∧ n0 ≤ ba ∧ n0 ≤ fa ∧ n0 ≤ wb ∧ n0 ≤ h.size ∧ kt ≠ ba ∧ kt ≠ fa ∧ kt ≠ wb ∧ ba ≠ fa ∧ ba ≠ wb ∧ fa ≠ wb) := by
  obtain ⟨bb, om, cc, a1, a2, a3, a4, a5, a6, a7, a8, a9, a10, b1, b2, b3, b4, b5, b6, b7, n1⟩ := H
  exact ⟨a2.lt, a9.lt, a10.lt, b4, b5, n1⟩
theorem own_b32_0 : decode jdk_41_method_11_code 0 = .ok (.iload_n 0, 1) := by decide +kernel
theorem own_b32_1 : decode jdk_41_method_11_code 1 = .ok (.ifCond .lt 8, 3) := by decide +kernel
theorem own_b32_4 : decode jdk_41_method_11_code 4 = .ok (.iload_n 0, 1) := by decide +kernel
theorem own_b32_5 : decode jdk_41_method_11_code 5 = .ok (.iload_n 1, 1) := by decide +kernel
theorem own_b32_6 : decode jdk_41_method_11_code 6 = .ok (.if_icmp .lt 10, 3) := by decide +kernel
theorem own_b32_9 : decode jdk_41_method_11_code 9 = .ok (.aload_n 2, 1) := by decide +kernel
theorem own_b32_10 : decode jdk_41_method_11_code 10 = .ok (.iload_n 0, 1) := by decide +kernel
theorem own_b32_11 : decode jdk_41_method_11_code 11 = .ok (.iload_n 1, 1) := by decide +kernel
theorem own_b32_12 : decode jdk_41_method_11_code 12 = .ok (.invokestatic 95, 3) := by decide +kernel
theorem own_b32_15 : decode jdk_41_method_11_code 15 = .ok (.athrow, 1) := by decide +kernel
theorem own_b32_16 : decode jdk_41_method_11_code 16 = .ok (.iload_n 0, 1) := by decide +kernel
theorem own_b32_17 : decode jdk_41_method_11_code 17 = .ok (.ireturn, 1) := by decide +kernel
theorem own_pf_b32 : plainFor (⟨"jdk/internal/util/Preconditions", "checkIndex", "(IILjava/util/function/BiFunction;)I"⟩ : MethodName) = true := by first | exact plainFor_of_name (by first | (simp [plainName, overriddenIn, x]; done) | decide +kernel) | decide +kernel
set_option maxRecDepth 65536 in
set_option maxHeartbeats 40000000 in
theorem own_pchkN (l : Launch) (Z : State) (a0 : Array Value) (hw : ∀ d ∈ tables_1, d.before a0 Z = true) (n0 : Nat) (h : Heap) (i n : Int32)  (h1 : 0 ≤ i.toInt) (h2 : i.toInt < n.toInt) :
    Con l Z (⟨"jdk/internal/util/Preconditions", "checkIndex", "(IILjava/util/function/BiFunction;)I"⟩ : MethodName) jdk_41_method_11_code 3 (some .int) ({ frames := 0, cells := 0, slots := 0, locals := 0 } : Room) n0 #[(.int i), (.int n), .null] h (R1 fun r h' => r = .int i ∧ h = h') := by
  refine Con.of (ls := [.val (.int i), .val (.int n), .val .null]) own_pf_b32 (fun m => by first | (simp [entryFrame, mkF, argsToLocals, Value.category]; done) | rfl) fun k K => ?_
  refine WP.iloadN K 1 own_b32_0 rfl rfl ?_
  refine WP.if_lt K 9 4 own_b32_1 (by decide) rfl (fun c1 => ?_) (fun c1 => ?_)
  · skip
    exfalso; omega
  · skip
    refine WP.iloadN K 5 own_b32_4 rfl rfl ?_
    refine WP.iloadN K 6 own_b32_5 rfl rfl ?_
    refine WP.icmp_lt K 16 9 own_b32_6 (by decide) rfl (fun c6 => ?_) (fun c6 => ?_)
    · skip
      refine WP.iloadN K 17 own_b32_16 rfl rfl ?_
      refine WP.iret K rfl (Or.inl rfl) rfl own_b32_17 ?_ (by decide) (by decide)
      exact ⟨_, rfl, rfl, rfl⟩
    · skip
      exfalso; omega
set_option maxRecDepth 65536 in
set_option maxHeartbeats 40000000 in
theorem own_pchkR (l : Launch) (Z : State) (a0 : Array Value) (hw : ∀ d ∈ tables_1, d.before a0 Z = true) (n0 : Nat) (h : Heap) (i n : Int32) (fa : Nat) (h1 : 0 ≤ i.toInt) (h2 : i.toInt < n.toInt) :
    Con l Z (⟨"jdk/internal/util/Preconditions", "checkIndex", "(IILjava/util/function/BiFunction;)I"⟩ : MethodName) jdk_41_method_11_code 3 (some .int) ({ frames := 0, cells := 0, slots := 0, locals := 0 } : Room) n0 #[(.int i), (.int n), (.ref fa)] h (R1 fun r h' => r = .int i ∧ h = h') := by
  refine Con.of (ls := [.val (.int i), .val (.int n), .val (.ref fa)]) own_pf_b32 (fun m => by first | (simp [entryFrame, mkF, argsToLocals, Value.category]; done) | rfl) fun k K => ?_
  refine WP.iloadN K 1 own_b32_0 rfl rfl ?_
  refine WP.if_lt K 9 4 own_b32_1 (by decide) rfl (fun c1 => ?_) (fun c1 => ?_)
  · skip
    exfalso; omega
  · skip
    refine WP.iloadN K 5 own_b32_4 rfl rfl ?_
    refine WP.iloadN K 6 own_b32_5 rfl rfl ?_
    refine WP.icmp_lt K 16 9 own_b32_6 (by decide) rfl (fun c6 => ?_) (fun c6 => ?_)
    · skip
      refine WP.iloadN K 17 own_b32_16 rfl rfl ?_
      refine WP.iret K rfl (Or.inl rfl) rfl own_b32_17 ?_ (by decide) (by decide)
      exact ⟨_, rfl, rfl, rfl⟩
    · skip
      exfalso; omega
theorem own_pchk (l : Launch) (Z : State) (a0 : Array Value) (hw : ∀ d ∈ tables_1, d.before a0 Z = true) (n0 : Nat) (h : Heap) (i n : Int32) (fm : Value) (hfm : fm = .null ∨ ∃ a : Nat, fm = .ref a) (h1 : 0 ≤ i.toInt) (h2 : i.toInt < n.toInt) :
    Con l Z (⟨"jdk/internal/util/Preconditions", "checkIndex", "(IILjava/util/function/BiFunction;)I"⟩ : MethodName) jdk_41_method_11_code 3 (some .int) ({ frames := 0, cells := 0, slots := 0, locals := 0 } : Room) n0 #[.int i, .int n, fm] h (R1 fun r h' => r = .int i ∧ h = h') := by
  rcases hfm with rfl | ⟨fa, rfl⟩
  · exact own_pchkN l Z a0 hw n0 h i n h1 h2
  · exact own_pchkR l Z a0 hw n0 h i n fa h1 h2
theorem own_b31_0 : decode jdk_42_method_155_code 0 = .ok (.iload_n 0, 1) := by decide +kernel
theorem own_b31_1 : decode jdk_42_method_155_code 1 = .ok (.iload_n 1, 1) := by decide +kernel
theorem own_b31_2 : decode jdk_42_method_155_code 2 = .ok (.getstatic 1053, 3) := by decide +kernel
theorem own_b31_5 : decode jdk_42_method_155_code 5 = .ok (.invokestatic 1059, 3) := by decide +kernel
theorem own_b31_8 : decode jdk_42_method_155_code 8 = .ok (.pop, 1) := by decide +kernel
theorem own_b31_9 : decode jdk_42_method_155_code 9 = .ok (.return_, 1) := by decide +kernel
theorem own_pf_b31 : plainFor (⟨"java/lang/String", "checkIndex", "(II)V"⟩ : MethodName) = true := by first | exact plainFor_of_name (by first | (simp [plainName, overriddenIn, x]; done) | decide +kernel) | decide +kernel
theorem own_pd_0 : parseMethodDescriptor "(IILjava/util/function/BiFunction;)I" = some ⟨[.int, .int, (.object "java/util/function/BiFunction")], some .int⟩ := by decide +kernel
set_option maxRecDepth 65536 in
set_option maxHeartbeats 40000000 in
theorem own_schk (l : Launch) (Z : State) (a0 : Array Value) (hw : ∀ d ∈ tables_1, d.before a0 Z = true) (n0 : Nat) (h : Heap) (i n : Int32) (cs : Int32) (fm : Value) (SS : STS Z h n0 cs fm) (h1 : 0 ≤ i.toInt) (h2 : i.toInt < n.toInt) :
    Con l Z (⟨"java/lang/String", "checkIndex", "(II)V"⟩ : MethodName) jdk_42_method_155_code 2 none ({ frames := 1, cells := 0, slots := 0, locals := 14 } : Room) n0 #[(.int i), (.int n)] h (R0 fun h' => h = h') := by
  refine Con.of (ls := [.val (.int i), .val (.int n)]) own_pf_b31 (fun m => by first | (simp [entryFrame, mkF, argsToLocals, Value.category]; done) | rfl) fun k K => ?_
  refine WP.iloadN K 1 own_b31_0 rfl rfl ?_
  refine WP.iloadN K 2 own_b31_1 rfl rfl ?_
  refine WP.getstatic K 5 (hw _ (List.mem_of_getElem? (i := 176) rfl)) Via.refl SS.2.2.2.2.1.sta own_b31_2 rfl ?_
  refine WP.callS K 8 0 0 0 [(.int i), (.int n), fm] [] (hw _ (List.mem_of_getElem? (i := 178) rfl)) (hw _ (List.mem_of_getElem? (i := 179) rfl)) (hw _ (List.mem_of_getElem? (i := 177) rfl)) (hw _ (List.mem_of_getElem? (i := 180) rfl)) (by decide) own_pd_0 rfl rfl rfl (by decide) (by decide) (Nat.le_of_eq rfl) rfl own_b31_5 rfl rfl rfl (by decide) (by decide) (own_pchk l Z a0 hw n0 h i n fm SS.2.2.2.2.2.2 h1 h2) (r1_next fun r3 h1 q2 => ?_)
  obtain ⟨rfl, rfl⟩ := q2
  refine WP.pop K 9 own_b31_8 rfl rfl ?_
  refine WP.retV K rfl own_b31_9 ?_ (by decide) (by decide)
  exact ⟨rfl, rfl⟩
theorem own_b40_0 : decode jdk_52_method_6_code 0 = .ok (.aload_n 0, 1) := by decide +kernel
theorem own_b40_1 : decode jdk_52_method_6_code 1 = .ok (.arraylength, 1) := by decide +kernel
theorem own_b40_2 : decode jdk_52_method_6_code 2 = .ok (.iconst 1, 1) := by decide +kernel
theorem own_b40_3 : decode jdk_52_method_6_code 3 = .ok (.ishr, 1) := by decide +kernel
theorem own_b40_4 : decode jdk_52_method_6_code 4 = .ok (.ireturn, 1) := by decide +kernel
theorem own_pf_b40 : plainFor (⟨"java/lang/StringUTF16", "length", "([B)I"⟩ : MethodName) = true := by first | exact plainFor_of_name (by first | (simp [plainName, overriddenIn, x]; done) | decide +kernel) | decide +kernel
set_option maxRecDepth 65536 in
set_option maxHeartbeats 40000000 in
theorem own_ulen (l : Launch) (Z : State) (a0 : Array Value) (hw : ∀ d ∈ tables_1, d.before a0 Z = true) (n0 : Nat) (h : Heap) (b : Nat) (bs : List Int8) (A_b : ArB Z h b bs) :
    Con l Z (⟨"java/lang/StringUTF16", "length", "([B)I"⟩ : MethodName) jdk_52_method_6_code 1 (some .int) ({ frames := 0, cells := 0, slots := 0, locals := 0 } : Room) n0 #[(.ref b)] h (R1 fun r h' => (∃ z : Int32, r = .int z ∧ z.toInt = ((bs.length / 2 : Nat) : Int)) ∧ h = h') := by
  refine Con.of (ls := [.val (.ref b)]) own_pf_b40 (fun m => by first | (simp [entryFrame, mkF, argsToLocals, Value.category]; done) | rfl) fun k K => ?_
  have k_1 : (1 : Int32).toInt = 1 := rfl
  obtain ⟨z, hz⟩ := i32_of A_b.len
  refine WP.aloadN K 1 own_b40_0 rfl rfl rfl ?_
  refine WP.arraylength K z 2 A_b (by rw [hz]; simp) own_b40_1 rfl ?_
  refine WP.iconst K (1 : Int32) 3 own_b40_2 rfl rfl ?_
  refine WP.ishr K 4 own_b40_3 rfl ?_
  refine WP.iret K rfl (Or.inl rfl) rfl own_b40_4 ?_ (by decide) (by decide)
  exact ⟨_, rfl, ⟨_, rfl, by rw [c_ishr z (1 : Int32) 1 rfl, hz]; omega⟩, rfl⟩
theorem own_b39_0 : decode jdk_52_method_91_code 0 = .ok (.iload_n 0, 1) := by decide +kernel
theorem own_b39_1 : decode jdk_52_method_91_code 1 = .ok (.aload_n 1, 1) := by decide +kernel
theorem own_b39_2 : decode jdk_52_method_91_code 2 = .ok (.invokestatic 48, 3) := by decide +kernel
theorem own_b39_5 : decode jdk_52_method_91_code 5 = .ok (.invokestatic 414, 3) := by decide +kernel
theorem own_b39_8 : decode jdk_52_method_91_code 8 = .ok (.return_, 1) := by decide +kernel
theorem own_pf_b39 : plainFor (⟨"java/lang/StringUTF16", "checkIndex", "(I[B)V"⟩ : MethodName) = true := by first | exact plainFor_of_name (by first | (simp [plainName, overriddenIn, x]; done) | decide +kernel) | decide +kernel
theorem own_pd_1 : parseMethodDescriptor "([B)I" = some ⟨[(.array .byte)], some .int⟩ := by decide +kernel
theorem own_pd_2 : parseMethodDescriptor "(II)V" = some ⟨[.int, .int], none⟩ := by decide +kernel
set_option maxRecDepth 65536 in
set_option maxHeartbeats 40000000 in
theorem own_uchk (l : Launch) (Z : State) (a0 : Array Value) (hw : ∀ d ∈ tables_1, d.before a0 Z = true) (n0 : Nat) (h : Heap) (i : Int32) (b : Nat) (j : Nat) (bs : List Int8) (A_b : ArB Z h b bs) (hi : i.toInt = (j : Nat)) (hj : 2 * j + 1 < bs.length) (cs : Int32) (fm : Value) (SS : STS Z h n0 cs fm) :
    Con l Z (⟨"java/lang/StringUTF16", "checkIndex", "(I[B)V"⟩ : MethodName) jdk_52_method_91_code 2 none ({ frames := 2, cells := 0, slots := 0, locals := 27 } : Room) n0 #[(.int i), (.ref b)] h (R0 fun h' => h = h') := by
  refine Con.of (ls := [.val (.int i), .val (.ref b)]) own_pf_b39 (fun m => by first | (simp [entryFrame, mkF, argsToLocals, Value.category]; done) | rfl) fun k K => ?_
  refine WP.iloadN K 1 own_b39_0 rfl rfl ?_
  refine WP.aloadN K 2 own_b39_1 rfl rfl rfl ?_
  refine WP.callS K 5 0 0 1 [(.ref b)] [(.int i)] (hw _ (List.mem_of_getElem? (i := 206) rfl)) (hw _ (List.mem_of_getElem? (i := 207) rfl)) (hw _ (List.mem_of_getElem? (i := 148) rfl)) (hw _ (List.mem_of_getElem? (i := 208) rfl)) (by decide) own_pd_1 rfl rfl rfl (by decide) (by decide) (Nat.le_of_eq rfl) rfl own_b39_2 rfl rfl rfl (by decide) (by decide) (own_ulen l Z a0 hw n0 h b bs A_b) (r1_next fun r3 h1 q2 => ?_)
  obtain ⟨⟨zl, rfl, hzl⟩, rfl⟩ := q2
  refine WP.callS K 8 0 0 0 [(.int i), (.int zl)] [] (hw _ (List.mem_of_getElem? (i := 209) rfl)) (hw _ (List.mem_of_getElem? (i := 174) rfl)) (hw _ (List.mem_of_getElem? (i := 7) rfl)) (hw _ (List.mem_of_getElem? (i := 175) rfl)) (by decide) own_pd_2 rfl rfl rfl (by decide) (by decide) (Nat.le_of_eq rfl) rfl own_b39_5 rfl rfl rfl (by decide) (by decide) (own_schk l Z a0 hw n0 h i zl cs fm SS (by omega) (by omega)) (r0_next fun h4 q5 => ?_)
  obtain rfl := q5
  refine WP.retV K rfl own_b39_8 ?_ (by decide) (by decide)
  exact ⟨rfl, rfl⟩
theorem own_b37_0 : decode jdk_52_method_5_code 0 = .ok (.getstatic 44, 3) := by decide +kernel
theorem own_b37_3 : decode jdk_52_method_5_code 3 = .ok (.ifCond .ne 25, 3) := by decide +kernel
theorem own_b37_6 : decode jdk_52_method_5_code 6 = .ok (.iload_n 1, 1) := by decide +kernel
theorem own_b37_7 : decode jdk_52_method_5_code 7 = .ok (.ifCond .lt 11, 3) := by decide +kernel
theorem own_b37_10 : decode jdk_52_method_5_code 10 = .ok (.iload_n 1, 1) := by decide +kernel
theorem own_b37_11 : decode jdk_52_method_5_code 11 = .ok (.aload_n 0, 1) := by decide +kernel
theorem own_b37_12 : decode jdk_52_method_5_code 12 = .ok (.invokestatic 48, 3) := by decide +kernel
theorem own_b37_15 : decode jdk_52_method_5_code 15 = .ok (.if_icmp .lt 13, 3) := by decide +kernel
theorem own_b37_18 : decode jdk_52_method_5_code 18 = .ok (.new 52, 3) := by decide +kernel
theorem own_b37_21 : decode jdk_52_method_5_code 21 = .ok (.dup, 1) := by decide +kernel
theorem own_b37_22 : decode jdk_52_method_5_code 22 = .ok (.ldc 54, 2) := by decide +kernel
theorem own_b37_24 : decode jdk_52_method_5_code 24 = .ok (.invokespecial 56, 3) := by decide +kernel
theorem own_b37_27 : decode jdk_52_method_5_code 27 = .ok (.athrow, 1) := by decide +kernel
theorem own_b37_28 : decode jdk_52_method_5_code 28 = .ok (.iload_n 1, 1) := by decide +kernel
theorem own_b37_29 : decode jdk_52_method_5_code 29 = .ok (.iconst 1, 1) := by decide +kernel
theorem own_b37_30 : decode jdk_52_method_5_code 30 = .ok (.ishl, 1) := by decide +kernel
theorem own_b37_31 : decode jdk_52_method_5_code 31 = .ok (.istore_n 1, 1) := by decide +kernel
theorem own_b37_32 : decode jdk_52_method_5_code 32 = .ok (.aload_n 0, 1) := by decide +kernel
theorem own_b37_33 : decode jdk_52_method_5_code 33 = .ok (.iload_n 1, 1) := by decide +kernel
theorem own_b37_34 : decode jdk_52_method_5_code 34 = .ok (.iinc 1 1, 3) := by decide +kernel
theorem own_b37_37 : decode jdk_52_method_5_code 37 = .ok (.baload, 1) := by decide +kernel
theorem own_b37_38 : decode jdk_52_method_5_code 38 = .ok (.sipush 255, 3) := by decide +kernel
theorem own_b37_41 : decode jdk_52_method_5_code 41 = .ok (.iand, 1) := by decide +kernel
theorem own_b37_42 : decode jdk_52_method_5_code 42 = .ok (.getstatic 59, 3) := by decide +kernel
theorem own_b37_45 : decode jdk_52_method_5_code 45 = .ok (.ishl, 1) := by decide +kernel
theorem own_b37_46 : decode jdk_52_method_5_code 46 = .ok (.aload_n 0, 1) := by decide +kernel
theorem own_b37_47 : decode jdk_52_method_5_code 47 = .ok (.iload_n 1, 1) := by decide +kernel
theorem own_b37_48 : decode jdk_52_method_5_code 48 = .ok (.baload, 1) := by decide +kernel
theorem own_b37_49 : decode jdk_52_method_5_code 49 = .ok (.sipush 255, 3) := by decide +kernel
theorem own_b37_52 : decode jdk_52_method_5_code 52 = .ok (.iand, 1) := by decide +kernel
theorem own_b37_53 : decode jdk_52_method_5_code 53 = .ok (.getstatic 63, 3) := by decide +kernel
theorem own_b37_56 : decode jdk_52_method_5_code 56 = .ok (.ishl, 1) := by decide +kernel
theorem own_b37_57 : decode jdk_52_method_5_code 57 = .ok (.ior, 1) := by decide +kernel
theorem own_b37_58 : decode jdk_52_method_5_code 58 = .ok (.i2c, 1) := by decide +kernel
theorem own_b37_59 : decode jdk_52_method_5_code 59 = .ok (.ireturn, 1) := by decide +kernel
theorem own_pf_b37 : plainFor (⟨"java/lang/StringUTF16", "getChar", "([BI)C"⟩ : MethodName) = true := by first | exact plainFor_of_name (by first | (simp [plainName, overriddenIn, x]; done) | decide +kernel) | decide +kernel
set_option maxRecDepth 65536 in
set_option maxHeartbeats 40000000 in
theorem own_getch (l : Launch) (Z : State) (a0 : Array Value) (hw : ∀ d ∈ tables_1, d.before a0 Z = true) (n0 : Nat) (h : Heap) (b : Nat) (i : Int32) (j : Nat) (x : Int32) (bs : List Int8) (us : List Int32) (A_b : ArB Z h b bs) (hU : Utf bs us) (hx : us[j]? = some x) (hi : i.toInt = (j : Nat)) (h0 : 0 ≤ x.toInt) (h1 : x.toInt ≤ 65535) (hl : us.length ≤ 2) (cs : Int32) (fm : Value) (SS : STS Z h n0 cs fm) :
    Con l Z (⟨"java/lang/StringUTF16", "getChar", "([BI)C"⟩ : MethodName) jdk_52_method_5_code 2 (some .char) ({ frames := 0, cells := 0, slots := 0, locals := 0 } : Room) n0 #[(.ref b), (.int i)] h (R1 fun r h' => r = .int x ∧ h = h') := by
  refine Con.of (ls := [.val (.ref b), .val (.int i)]) own_pf_b37 (fun m => by first | (simp [entryFrame, mkF, argsToLocals, Value.category]; done) | rfl) fun k K => ?_
  have k_1 : (1 : Int32).toInt = 1 := rfl
  have k_255 : (255 : Int32).toInt = 255 := rfl
  have hjl := (List.getElem?_eq_some_iff.mp hx).1
  obtain ⟨p, q_, hp1, hq1, hp, hq⟩ := hU.2 j x hx
  refine WP.getstatic K 3 (hw _ (List.mem_of_getElem? (i := 194) rfl)) Via.refl SS.2.1.sta own_b37_0 rfl ?_
  refine WP.if_ne K 28 6 own_b37_3 (by decide) rfl (fun c3 => ?_) (fun c3 => ?_)
  · skip
    refine WP.iloadN K 29 own_b37_28 rfl rfl ?_
    refine WP.iconst K (1 : Int32) 30 own_b37_29 rfl rfl ?_
    refine WP.ishl K 31 own_b37_30 rfl ?_
    have hi2 : (i <<< ((1 : Int32) &&& 31)).toInt = ((2 * j : Nat) : Int) := by
      have := c_ishl i (1 : Int32) 1 rfl
      have r := i32_rng (i <<< ((1 : Int32) &&& 31))
      rw [show ((2 ^ 1 : Nat) : Int) = 2 from rfl] at this
      omega
    generalize (i <<< ((1 : Int32) &&& 31)) = i2 at hi2 ⊢
    have hi3 := inc32 hi2 (by omega)
    refine WP.istoreN K 32 [.val (.ref b), .val (.int i2)] own_b37_31 rfl rfl ?_
    refine WP.aloadN K 33 own_b37_32 rfl rfl rfl ?_
    refine WP.iloadN K 34 own_b37_33 rfl rfl ?_
    refine WP.iinc K (1 : Int32) 37 [.val (.ref b), .val (.int (i2 + (1 : Int32)))] own_b37_34 rfl rfl rfl rfl ?_
    refine WP.baload K 38 (2 * j) A_b hi2 hp1 own_b37_37 rfl ?_
    refine WP.sipush K (255 : Int32) 41 own_b37_38 rfl rfl ?_
    refine WP.iand K 42 own_b37_41 rfl ?_
    refine WP.getstatic K 45 (hw _ (List.mem_of_getElem? (i := 195) rfl)) Via.refl SS.2.2.1.sta own_b37_42 rfl ?_
    refine WP.ishl K 46 own_b37_45 rfl ?_
    refine WP.aloadN K 47 own_b37_46 rfl rfl rfl ?_
    refine WP.iloadN K 48 own_b37_47 rfl rfl ?_
    refine WP.baload K 49 (2 * j + 1) A_b hi3 hq1 own_b37_48 rfl ?_
    refine WP.sipush K (255 : Int32) 52 own_b37_49 rfl rfl ?_
    refine WP.iand K 53 own_b37_52 rfl ?_
    refine WP.getstatic K 56 (hw _ (List.mem_of_getElem? (i := 196) rfl)) Via.refl SS.2.2.2.1.sta own_b37_53 rfl ?_
    refine WP.ishl K 57 own_b37_56 rfl ?_
    refine WP.ior K 58 own_b37_57 rfl ?_
    refine WP.i2cC K 59 own_b37_58 rfl ?_
    refine WP.iret K rfl (Or.inr (Or.inr (Or.inr (Or.inl rfl)))) (nar_c _) own_b37_59 ?_ (by decide) (by decide)
    exact ⟨_, rfl, congrArg Value.int (rd_utf hp hq h0 h1), rfl⟩
  · skip
    exact absurd c3 (by decide)
theorem own_b38_0 : decode jdk_52_method_83_code 0 = .ok (.iload_n 1, 1) := by decide +kernel
theorem own_b38_1 : decode jdk_52_method_83_code 1 = .ok (.aload_n 0, 1) := by decide +kernel
theorem own_b38_2 : decode jdk_52_method_83_code 2 = .ok (.invokestatic 67, 3) := by decide +kernel
theorem own_b38_5 : decode jdk_52_method_83_code 5 = .ok (.aload_n 0, 1) := by decide +kernel
theorem own_b38_6 : decode jdk_52_method_83_code 6 = .ok (.iload_n 1, 1) := by decide +kernel
theorem own_b38_7 : decode jdk_52_method_83_code 7 = .ok (.invokestatic 71, 3) := by decide +kernel
theorem own_b38_10 : decode jdk_52_method_83_code 10 = .ok (.ireturn, 1) := by decide +kernel
theorem own_pf_b38 : plainFor (⟨"java/lang/StringUTF16", "charAt", "([BI)C"⟩ : MethodName) = true := by first | exact plainFor_of_name (by first | (simp [plainName, overriddenIn, x]; done) | decide +kernel) | decide +kernel
theorem own_pd_3 : parseMethodDescriptor "(I[B)V" = some ⟨[.int, (.array .byte)], none⟩ := by decide +kernel
theorem own_pd_4 : parseMethodDescriptor "([BI)C" = some ⟨[(.array .byte), .int], some .char⟩ := by decide +kernel
set_option maxRecDepth 65536 in
set_option maxHeartbeats 40000000 in
theorem own_uchar (l : Launch) (Z : State) (a0 : Array Value) (hw : ∀ d ∈ tables_1, d.before a0 Z = true) (n0 : Nat) (h : Heap) (b : Nat) (i : Int32) (j : Nat) (x : Int32) (bs : List Int8) (us : List Int32) (A_b : ArB Z h b bs) (hU : Utf bs us) (hx : us[j]? = some x) (hi : i.toInt = (j : Nat)) (h0 : 0 ≤ x.toInt) (h1 : x.toInt ≤ 65535) (hl : us.length ≤ 2) (cs : Int32) (fm : Value) (SS : STS Z h n0 cs fm) :
    Con l Z (⟨"java/lang/StringUTF16", "charAt", "([BI)C"⟩ : MethodName) jdk_52_method_83_code 2 (some .char) ({ frames := 3, cells := 0, slots := 0, locals := 40 } : Room) n0 #[(.ref b), (.int i)] h (R1 fun r h' => r = .int x ∧ h = h') := by
  refine Con.of (ls := [.val (.ref b), .val (.int i)]) own_pf_b38 (fun m => by first | (simp [entryFrame, mkF, argsToLocals, Value.category]; done) | rfl) fun k K => ?_
  have hjl := (List.getElem?_eq_some_iff.mp hx).1
  have hul := hU.1
  refine WP.iloadN K 1 own_b38_0 rfl rfl ?_
  refine WP.aloadN K 2 own_b38_1 rfl rfl rfl ?_
  refine WP.callS K 5 0 0 0 [(.int i), (.ref b)] [] (hw _ (List.mem_of_getElem? (i := 203) rfl)) (hw _ (List.mem_of_getElem? (i := 204) rfl)) (hw _ (List.mem_of_getElem? (i := 148) rfl)) (hw _ (List.mem_of_getElem? (i := 205) rfl)) (by decide) own_pd_3 rfl rfl rfl (by decide) (by decide) (Nat.le_of_eq rfl) rfl own_b38_2 rfl rfl rfl (by decide) (by decide) (own_uchk l Z a0 hw n0 h i b j bs A_b hi (by omega) cs fm SS) (r0_next fun h1 q2 => ?_)
  obtain rfl := q2
  refine WP.aloadN K 6 own_b38_5 rfl rfl rfl ?_
  refine WP.iloadN K 7 own_b38_6 rfl rfl ?_
  refine WP.callS K 10 0 0 0 [(.ref b), (.int i)] [] (hw _ (List.mem_of_getElem? (i := 197) rfl)) (hw _ (List.mem_of_getElem? (i := 198) rfl)) (hw _ (List.mem_of_getElem? (i := 148) rfl)) (hw _ (List.mem_of_getElem? (i := 199) rfl)) (by decide) own_pd_4 rfl rfl rfl (by decide) (by decide) (Nat.le_of_eq rfl) rfl own_b38_7 rfl rfl rfl (by decide) (by decide) (own_getch l Z a0 hw n0 h b i j x bs us A_b hU hx hi h0 h1 hl cs fm SS) (r1_next fun r6 h4 q5 => ?_)
  obtain ⟨rfl, rfl⟩ := q5
  refine WP.iret K rfl (Or.inr (Or.inr (Or.inr (Or.inl rfl)))) (nar_cx ⟨h0, h1⟩) own_b38_10 ?_ (by decide) (by decide)
  exact ⟨_, rfl, rfl, rfl⟩
theorem own_b30_0 : decode jdk_43_method_2_code 0 = .ok (.iload_n 1, 1) := by decide +kernel
theorem own_b30_1 : decode jdk_43_method_2_code 1 = .ok (.aload_n 0, 1) := by decide +kernel
theorem own_b30_2 : decode jdk_43_method_2_code 2 = .ok (.arraylength, 1) := by decide +kernel
theorem own_b30_3 : decode jdk_43_method_2_code 3 = .ok (.invokestatic 9, 3) := by decide +kernel
theorem own_b30_6 : decode jdk_43_method_2_code 6 = .ok (.aload_n 0, 1) := by decide +kernel
theorem own_b30_7 : decode jdk_43_method_2_code 7 = .ok (.iload_n 1, 1) := by decide +kernel
theorem own_b30_8 : decode jdk_43_method_2_code 8 = .ok (.baload, 1) := by decide +kernel
theorem own_b30_9 : decode jdk_43_method_2_code 9 = .ok (.sipush 255, 3) := by decide +kernel
theorem own_b30_12 : decode jdk_43_method_2_code 12 = .ok (.iand, 1) := by decide +kernel
theorem own_b30_13 : decode jdk_43_method_2_code 13 = .ok (.i2c, 1) := by decide +kernel
theorem own_b30_14 : decode jdk_43_method_2_code 14 = .ok (.ireturn, 1) := by decide +kernel
theorem own_pf_b30 : plainFor (⟨"java/lang/StringLatin1", "charAt", "([BI)C"⟩ : MethodName) = true := by first | exact plainFor_of_name (by first | (simp [plainName, overriddenIn, x]; done) | decide +kernel) | decide +kernel
set_option maxRecDepth 65536 in
set_option maxHeartbeats 40000000 in
theorem own_lchar (l : Launch) (Z : State) (a0 : Array Value) (hw : ∀ d ∈ tables_1, d.before a0 Z = true) (n0 : Nat) (h : Heap) (b : Nat) (i : Int32) (j : Nat) (x : Int32) (bs : List Int8) (us : List Int32) (A_b : ArB Z h b bs) (hL : Lat bs us) (hx : us[j]? = some x) (hi : i.toInt = (j : Nat)) (h0 : 0 ≤ x.toInt) (h1 : x.toInt ≤ 65535) (hl : us.length ≤ 2) (cs : Int32) (fm : Value) (SS : STS Z h n0 cs fm) :
    Con l Z (⟨"java/lang/StringLatin1", "charAt", "([BI)C"⟩ : MethodName) jdk_43_method_2_code 2 (some .char) ({ frames := 2, cells := 0, slots := 0, locals := 27 } : Room) n0 #[(.ref b), (.int i)] h (R1 fun r h' => r = .int x ∧ h = h') := by
  refine Con.of (ls := [.val (.ref b), .val (.int i)]) own_pf_b30 (fun m => by first | (simp [entryFrame, mkF, argsToLocals, Value.category]; done) | rfl) fun k K => ?_
  have k_255 : (255 : Int32).toInt = 255 := rfl
  have hjl := (List.getElem?_eq_some_iff.mp hx).1
  obtain ⟨y, hy1, hy2, hy3⟩ := hL.2 j x hx
  have hll := hL.1
  obtain ⟨z, hz⟩ := i32_of A_b.len
  refine WP.iloadN K 1 own_b30_0 rfl rfl ?_
  refine WP.aloadN K 2 own_b30_1 rfl rfl rfl ?_
  refine WP.arraylength K z 3 A_b (by rw [hz]; simp) own_b30_2 rfl ?_
  refine WP.callS K 6 0 0 0 [(.int i), (.int z)] [] (hw _ (List.mem_of_getElem? (i := 173) rfl)) (hw _ (List.mem_of_getElem? (i := 174) rfl)) (hw _ (List.mem_of_getElem? (i := 7) rfl)) (hw _ (List.mem_of_getElem? (i := 175) rfl)) (by decide) own_pd_2 rfl rfl rfl (by decide) (by decide) (Nat.le_of_eq rfl) rfl own_b30_3 rfl rfl rfl (by decide) (by decide) (own_schk l Z a0 hw n0 h i z cs fm SS (by omega) (by omega)) (r0_next fun h1 q2 => ?_)
  obtain rfl := q2
  refine WP.aloadN K 7 own_b30_6 rfl rfl rfl ?_
  refine WP.iloadN K 8 own_b30_7 rfl rfl ?_
  refine WP.baload K 9 j A_b hi hy1 own_b30_8 rfl ?_
  refine WP.sipush K (255 : Int32) 12 own_b30_9 rfl rfl ?_
  refine WP.iand K 13 own_b30_12 rfl ?_
  refine WP.i2cC K 14 own_b30_13 rfl ?_
  refine WP.iret K rfl (Or.inr (Or.inr (Or.inr (Or.inl rfl)))) (nar_c _) own_b30_14 ?_ (by decide) (by decide)
  exact ⟨_, rfl, congrArg Value.int (rd_lat hy2 h0 hy3), rfl⟩
theorem own_b29_0 : decode jdk_42_method_154_code 0 = .ok (.getstatic 38, 3) := by decide +kernel
theorem own_b29_3 : decode jdk_42_method_154_code 3 = .ok (.ifCond .eq 14, 3) := by decide +kernel
theorem own_b29_6 : decode jdk_42_method_154_code 6 = .ok (.aload_n 0, 1) := by decide +kernel
theorem own_b29_7 : decode jdk_42_method_154_code 7 = .ok (.getfield 15, 3) := by decide +kernel
theorem own_b29_10 : decode jdk_42_method_154_code 10 = .ok (.ifCond .ne 7, 3) := by decide +kernel
theorem own_b29_13 : decode jdk_42_method_154_code 13 = .ok (.iconst 1, 1) := by decide +kernel
theorem own_b29_14 : decode jdk_42_method_154_code 14 = .ok (.goto 4, 3) := by decide +kernel
theorem own_b29_17 : decode jdk_42_method_154_code 17 = .ok (.iconst 0, 1) := by decide +kernel
theorem own_b29_18 : decode jdk_42_method_154_code 18 = .ok (.ireturn, 1) := by decide +kernel
theorem own_pf_b29 : plainFor (⟨"java/lang/String", "isLatin1", "()Z"⟩ : MethodName) = true := by first | exact plainFor_of_name (by first | (simp [plainName, overriddenIn, x]; done) | decide +kernel) | decide +kernel
set_option maxRecDepth 65536 in
set_option maxHeartbeats 40000000 in
theorem own_isl0 (l : Launch) (Z : State) (a0 : Array Value) (hw : ∀ d ∈ tables_1, d.before a0 Z = true) (n0 : Nat) (h : Heap) (o : Nat) (cs : Int32) (fm : Value) (SS : STS Z h n0 cs fm) (Fc : Fld Z h o "java/lang/String" "coder" "B" (.int (0 : Int32))) :
    Con l Z (⟨"java/lang/String", "isLatin1", "()Z"⟩ : MethodName) jdk_42_method_154_code 1 (some .boolean) ({ frames := 0, cells := 0, slots := 0, locals := 0 } : Room) n0 #[(.ref o)] h (R1 fun r h' => r = .int 1 ∧ h = h') := by
  refine Con.of (ls := [.val (.ref o)]) own_pf_b29 (fun m => by first | (simp [entryFrame, mkF, argsToLocals, Value.category]; done) | rfl) fun k K => ?_
  have k_0 : (0 : Int32).toInt = 0 := rfl
  have k_1 : (1 : Int32).toInt = 1 := rfl
  have hcs := SS.2.2.2.2.2.1
  refine WP.getstatic K 3 (hw _ (List.mem_of_getElem? (i := 77) rfl)) Via.refl SS.1.sta own_b29_0 rfl ?_
  refine WP.if_eq K 17 6 own_b29_3 (by decide) rfl (fun c3 => ?_) (fun c3 => ?_)
  · skip
    exfalso; omega
  · skip
    refine WP.aloadN K 7 own_b29_6 rfl rfl rfl ?_
    refine WP.getfield K (host := "") 10 (Or.inl (hw _ (List.mem_of_getElem? (i := 26) rfl))) Via.refl Fc own_b29_7 rfl ?_
    refine WP.if_ne K 17 13 own_b29_10 (by decide) rfl (fun c10 => ?_) (fun c10 => ?_)
    · skip
      exact absurd c10 (by decide)
    · skip
      refine WP.iconst K (1 : Int32) 14 own_b29_13 rfl rfl ?_
      refine WP.goto K 18 own_b29_14 (by decide) ?_
      refine WP.iret K rfl (Or.inr (Or.inl rfl)) rfl own_b29_18 ?_ (by decide) (by decide)
      exact ⟨_, rfl, rfl, rfl⟩
theorem own_b10_0 : decode jdk_42_method_152_code 0 = .ok (.getstatic 38, 3) := by decide +kernel
theorem own_b10_3 : decode jdk_42_method_152_code 3 = .ok (.ifCond .eq 10, 3) := by decide +kernel
theorem own_b10_6 : decode jdk_42_method_152_code 6 = .ok (.aload_n 0, 1) := by decide +kernel
theorem own_b10_7 : decode jdk_42_method_152_code 7 = .ok (.getfield 15, 3) := by decide +kernel
theorem own_b10_10 : decode jdk_42_method_152_code 10 = .ok (.goto 4, 3) := by decide +kernel
theorem own_b10_13 : decode jdk_42_method_152_code 13 = .ok (.iconst 1, 1) := by decide +kernel
theorem own_b10_14 : decode jdk_42_method_152_code 14 = .ok (.ireturn, 1) := by decide +kernel
theorem own_pf_b10 : plainFor (⟨"java/lang/String", "coder", "()B"⟩ : MethodName) = true := by first | exact plainFor_of_name (by first | (simp [plainName, overriddenIn, x]; done) | decide +kernel) | decide +kernel
set_option maxRecDepth 65536 in
set_option maxHeartbeats 40000000 in
theorem own_cod0 (l : Launch) (Z : State) (a0 : Array Value) (hw : ∀ d ∈ tables_1, d.before a0 Z = true) (n0 : Nat) (h : Heap) (o : Nat) (cs : Int32) (fm : Value) (SS : STS Z h n0 cs fm) (Fc : Fld Z h o "java/lang/String" "coder" "B" (.int (0 : Int32))) :
    Con l Z (⟨"java/lang/String", "coder", "()B"⟩ : MethodName) jdk_42_method_152_code 1 (some .byte) ({ frames := 0, cells := 0, slots := 0, locals := 0 } : Room) n0 #[(.ref o)] h (R1 fun r h' => r = .int 0 ∧ h = h') := by
  refine Con.of (ls := [.val (.ref o)]) own_pf_b10 (fun m => by first | (simp [entryFrame, mkF, argsToLocals, Value.category]; done) | rfl) fun k K => ?_
  have k_1 : (1 : Int32).toInt = 1 := rfl
  have hcs := SS.2.2.2.2.2.1
  refine WP.getstatic K 3 (hw _ (List.mem_of_getElem? (i := 77) rfl)) Via.refl SS.1.sta own_b10_0 rfl ?_
  refine WP.if_eq K 13 6 own_b10_3 (by decide) rfl (fun c3 => ?_) (fun c3 => ?_)
  · skip
    exfalso; omega
  · skip
    refine WP.aloadN K 7 own_b10_6 rfl rfl rfl ?_
    refine WP.getfield K (host := "") 10 (Or.inl (hw _ (List.mem_of_getElem? (i := 26) rfl))) Via.refl Fc own_b10_7 rfl ?_
    refine WP.goto K 14 own_b10_10 (by decide) ?_
    refine WP.iret K rfl (Or.inr (Or.inr (Or.inl rfl))) rfl own_b10_14 ?_ (by decide) (by decide)
    exact ⟨_, rfl, rfl, rfl⟩
set_option maxRecDepth 65536 in
set_option maxHeartbeats 40000000 in
theorem own_isl1 (l : Launch) (Z : State) (a0 : Array Value) (hw : ∀ d ∈ tables_1, d.before a0 Z = true) (n0 : Nat) (h : Heap) (o : Nat) (cs : Int32) (fm : Value) (SS : STS Z h n0 cs fm) (Fc : Fld Z h o "java/lang/String" "coder" "B" (.int (1 : Int32))) :
    Con l Z (⟨"java/lang/String", "isLatin1", "()Z"⟩ : MethodName) jdk_42_method_154_code 1 (some .boolean) ({ frames := 0, cells := 0, slots := 0, locals := 0 } : Room) n0 #[(.ref o)] h (R1 fun r h' => r = .int 0 ∧ h = h') := by
  refine Con.of (ls := [.val (.ref o)]) own_pf_b29 (fun m => by first | (simp [entryFrame, mkF, argsToLocals, Value.category]; done) | rfl) fun k K => ?_
  have k_0 : (0 : Int32).toInt = 0 := rfl
  have k_1 : (1 : Int32).toInt = 1 := rfl
  have hcs := SS.2.2.2.2.2.1
  refine WP.getstatic K 3 (hw _ (List.mem_of_getElem? (i := 77) rfl)) Via.refl SS.1.sta own_b29_0 rfl ?_
  refine WP.if_eq K 17 6 own_b29_3 (by decide) rfl (fun c3 => ?_) (fun c3 => ?_)
  · skip
    exfalso; omega
  · skip
    refine WP.aloadN K 7 own_b29_6 rfl rfl rfl ?_
    refine WP.getfield K (host := "") 10 (Or.inl (hw _ (List.mem_of_getElem? (i := 26) rfl))) Via.refl Fc own_b29_7 rfl ?_
    refine WP.if_ne K 17 13 own_b29_10 (by decide) rfl (fun c10 => ?_) (fun c10 => ?_)
    · skip
      refine WP.iconst K (0 : Int32) 18 own_b29_17 rfl rfl ?_
      refine WP.iret K rfl (Or.inr (Or.inl rfl)) rfl own_b29_18 ?_ (by decide) (by decide)
      exact ⟨_, rfl, rfl, rfl⟩
    · skip
      exact absurd c10 (by decide)
set_option maxRecDepth 65536 in
set_option maxHeartbeats 40000000 in
theorem own_cod1 (l : Launch) (Z : State) (a0 : Array Value) (hw : ∀ d ∈ tables_1, d.before a0 Z = true) (n0 : Nat) (h : Heap) (o : Nat) (cs : Int32) (fm : Value) (SS : STS Z h n0 cs fm) (Fc : Fld Z h o "java/lang/String" "coder" "B" (.int (1 : Int32))) :
    Con l Z (⟨"java/lang/String", "coder", "()B"⟩ : MethodName) jdk_42_method_152_code 1 (some .byte) ({ frames := 0, cells := 0, slots := 0, locals := 0 } : Room) n0 #[(.ref o)] h (R1 fun r h' => r = .int 1 ∧ h = h') := by
  refine Con.of (ls := [.val (.ref o)]) own_pf_b10 (fun m => by first | (simp [entryFrame, mkF, argsToLocals, Value.category]; done) | rfl) fun k K => ?_
  have k_1 : (1 : Int32).toInt = 1 := rfl
  have hcs := SS.2.2.2.2.2.1
  refine WP.getstatic K 3 (hw _ (List.mem_of_getElem? (i := 77) rfl)) Via.refl SS.1.sta own_b10_0 rfl ?_
  refine WP.if_eq K 13 6 own_b10_3 (by decide) rfl (fun c3 => ?_) (fun c3 => ?_)
  · skip
    exfalso; omega
  · skip
    refine WP.aloadN K 7 own_b10_6 rfl rfl rfl ?_
    refine WP.getfield K (host := "") 10 (Or.inl (hw _ (List.mem_of_getElem? (i := 26) rfl))) Via.refl Fc own_b10_7 rfl ?_
    refine WP.goto K 14 own_b10_10 (by decide) ?_
    refine WP.iret K rfl (Or.inr (Or.inr (Or.inl rfl))) rfl own_b10_14 ?_ (by decide) (by decide)
    exact ⟨_, rfl, rfl, rfl⟩
theorem own_b9_0 : decode jdk_42_method_54_code 0 = .ok (.aload_n 0, 1) := by decide +kernel
theorem own_b9_1 : decode jdk_42_method_54_code 1 = .ok (.getfield 9, 3) := by decide +kernel
theorem own_b9_4 : decode jdk_42_method_54_code 4 = .ok (.arraylength, 1) := by decide +kernel
theorem own_b9_5 : decode jdk_42_method_54_code 5 = .ok (.aload_n 0, 1) := by decide +kernel
theorem own_b9_6 : decode jdk_42_method_54_code 6 = .ok (.invokevirtual 335, 3) := by decide +kernel
theorem own_b9_9 : decode jdk_42_method_54_code 9 = .ok (.ishr, 1) := by decide +kernel
theorem own_b9_10 : decode jdk_42_method_54_code 10 = .ok (.ireturn, 1) := by decide +kernel
theorem own_pf_b9 : plainFor (⟨"java/lang/String", "length", "()I"⟩ : MethodName) = true := by first | exact plainFor_of_name (by first | (simp [plainName, overriddenIn, x]; done) | decide +kernel) | decide +kernel
theorem own_pd_5 : parseMethodDescriptor "()B" = some ⟨[], some .byte⟩ := by decide +kernel
set_option maxRecDepth 65536 in
set_option maxHeartbeats 40000000 in
theorem own_slen (l : Launch) (Z : State) (a0 : Array Value) (hw : ∀ d ∈ tables_1, d.before a0 Z = true) (n0 : Nat) (h : Heap) (o vb : Nat) (us : List Int32) (HS : Str Z h o vb us) (cs : Int32) (fm : Value) (SS : STS Z h n0 cs fm) :
    Con l Z (⟨"java/lang/String", "length", "()I"⟩ : MethodName) jdk_42_method_54_code 1 (some .int) ({ frames := 1, cells := 0, slots := 0, locals := 13 } : Room) n0 #[(.ref o)] h (R1 fun r h' => (∃ z : Int32, r = .int z ∧ z.toInt = (us.length : Nat)) ∧ h = h') := by
  refine Con.of (ls := [.val (.ref o)]) own_pf_b9 (fun m => by first | (simp [entryFrame, mkF, argsToLocals, Value.category]; done) | rfl) fun k K => ?_
  obtain ⟨cd, bs, Ex, Fv, Fc, A_vb, hrg, hl, hcd⟩ := HS
  obtain ⟨z, hz⟩ := i32_of A_vb.len
  rcases hcd with ⟨rfl, hL⟩ | ⟨rfl, hU⟩
  · skip
    refine WP.aloadN K 1 own_b9_0 rfl rfl rfl ?_
    refine WP.getfield K (host := "") 4 (Or.inl (hw _ (List.mem_of_getElem? (i := 25) rfl))) Via.refl Fv own_b9_1 rfl ?_
    refine WP.arraylength K z 5 A_vb (by rw [hz]; simp) own_b9_4 rfl ?_
    refine WP.aloadN K 6 own_b9_5 rfl rfl rfl ?_
    refine WP.callV K (a := o) (C := "java/lang/String") 9 0 0 1 [] [(.int z)] (hw _ (List.mem_of_getElem? (i := 72) rfl)) (hw _ (List.mem_of_getElem? (i := 73) rfl)) rfl (hw _ (List.mem_of_getElem? (i := 75) rfl)) (hw _ (List.mem_of_getElem? (i := 74) rfl)) (hw _ (List.mem_of_getElem? (i := 7) rfl)) (hw _ (List.mem_of_getElem? (i := 76) rfl)) (by decide) own_pd_5 rfl rfl rfl (by decide) (by decide) (Nat.le_of_eq rfl) rfl own_b9_6 rfl rfl rfl (by decide) (by decide) Ex (own_cod0 l Z a0 hw n0 h o cs fm SS Fc) (r1_next fun r3 h1 q2 => ?_)
    obtain ⟨rfl, rfl⟩ := q2
    refine WP.ishr K 10 own_b9_9 rfl ?_
    refine WP.iret K rfl (Or.inl rfl) rfl own_b9_10 ?_ (by decide) (by decide)
    exact ⟨_, rfl, ⟨_, rfl, by rw [c_ishr z (0 : Int32) 0 rfl, hz]; have := hL.1; simp only [Nat.pow_zero, Nat.pow_one]; omega⟩, rfl⟩
  · skip
    refine WP.aloadN K 1 own_b9_0 rfl rfl rfl ?_
    refine WP.getfield K (host := "") 4 (Or.inl (hw _ (List.mem_of_getElem? (i := 25) rfl))) Via.refl Fv own_b9_1 rfl ?_
    refine WP.arraylength K z 5 A_vb (by rw [hz]; simp) own_b9_4 rfl ?_
    refine WP.aloadN K 6 own_b9_5 rfl rfl rfl ?_
    refine WP.callV K (a := o) (C := "java/lang/String") 9 0 0 1 [] [(.int z)] (hw _ (List.mem_of_getElem? (i := 72) rfl)) (hw _ (List.mem_of_getElem? (i := 73) rfl)) rfl (hw _ (List.mem_of_getElem? (i := 75) rfl)) (hw _ (List.mem_of_getElem? (i := 74) rfl)) (hw _ (List.mem_of_getElem? (i := 7) rfl)) (hw _ (List.mem_of_getElem? (i := 76) rfl)) (by decide) own_pd_5 rfl rfl rfl (by decide) (by decide) (Nat.le_of_eq rfl) rfl own_b9_6 rfl rfl rfl (by decide) (by decide) Ex (own_cod1 l Z a0 hw n0 h o cs fm SS Fc) (r1_next fun r6 h4 q5 => ?_)
    obtain ⟨rfl, rfl⟩ := q5
    refine WP.ishr K 10 own_b9_9 rfl ?_
    refine WP.iret K rfl (Or.inl rfl) rfl own_b9_10 ?_ (by decide) (by decide)
    exact ⟨_, rfl, ⟨_, rfl, by rw [c_ishr z (1 : Int32) 1 rfl, hz]; have := hU.1; simp only [Nat.pow_zero, Nat.pow_one]; omega⟩, rfl⟩
theorem own_b28_0 : decode jdk_42_method_56_code 0 = .ok (.aload_n 0, 1) := by decide +kernel
theorem own_b28_1 : decode jdk_42_method_56_code 1 = .ok (.invokevirtual 492, 3) := by decide +kernel
theorem own_b28_4 : decode jdk_42_method_56_code 4 = .ok (.ifCond .eq 12, 3) := by decide +kernel
theorem own_b28_7 : decode jdk_42_method_56_code 7 = .ok (.aload_n 0, 1) := by decide +kernel
theorem own_b28_8 : decode jdk_42_method_56_code 8 = .ok (.getfield 9, 3) := by decide +kernel
theorem own_b28_11 : decode jdk_42_method_56_code 11 = .ok (.iload_n 1, 1) := by decide +kernel
theorem own_b28_12 : decode jdk_42_method_56_code 12 = .ok (.invokestatic 495, 3) := by decide +kernel
theorem own_b28_15 : decode jdk_42_method_56_code 15 = .ok (.ireturn, 1) := by decide +kernel
theorem own_b28_16 : decode jdk_42_method_56_code 16 = .ok (.aload_n 0, 1) := by decide +kernel
theorem own_b28_17 : decode jdk_42_method_56_code 17 = .ok (.getfield 9, 3) := by decide +kernel
theorem own_b28_20 : decode jdk_42_method_56_code 20 = .ok (.iload_n 1, 1) := by decide +kernel
theorem own_b28_21 : decode jdk_42_method_56_code 21 = .ok (.invokestatic 498, 3) := by decide +kernel
theorem own_b28_24 : decode jdk_42_method_56_code 24 = .ok (.ireturn, 1) := by decide +kernel
theorem own_pf_b28 : plainFor (⟨"java/lang/String", "charAt", "(I)C"⟩ : MethodName) = true := by first | exact plainFor_of_name (by first | (simp [plainName, overriddenIn, x]; done) | decide +kernel) | decide +kernel
theorem own_pd_6 : parseMethodDescriptor "()Z" = some ⟨[], some .boolean⟩ := by decide +kernel
set_option maxRecDepth 65536 in
set_option maxHeartbeats 40000000 in
theorem own_schar (l : Launch) (Z : State) (a0 : Array Value) (hw : ∀ d ∈ tables_1, d.before a0 Z = true) (n0 : Nat) (h : Heap) (o vb : Nat) (i : Int32) (us : List Int32) (j : Nat) (x : Int32) (HS : Str Z h o vb us) (hx : us[j]? = some x) (hi : i.toInt = (j : Nat)) (cs : Int32) (fm : Value) (SS : STS Z h n0 cs fm) :
    Con l Z (⟨"java/lang/String", "charAt", "(I)C"⟩ : MethodName) jdk_42_method_56_code 2 (some .char) ({ frames := 4, cells := 0, slots := 0, locals := 53 } : Room) n0 #[(.ref o), (.int i)] h (R1 fun r h' => r = .int x ∧ h = h') := by
  refine Con.of (ls := [.val (.ref o), .val (.int i)]) own_pf_b28 (fun m => by first | (simp [entryFrame, mkF, argsToLocals, Value.category]; done) | rfl) fun k K => ?_
  obtain ⟨cd, bs, Ex, Fv, Fc, A_vb, hrg, hl, hcd⟩ := HS
  obtain ⟨h0, h1⟩ := hrg x (List.mem_of_getElem? hx)
  rcases hcd with ⟨rfl, hL⟩ | ⟨rfl, hU⟩
  · skip
    refine WP.aloadN K 1 own_b28_0 rfl rfl rfl ?_
    refine WP.callV K (a := o) (C := "java/lang/String") 4 0 0 0 [] [] (hw _ (List.mem_of_getElem? (i := 164) rfl)) (hw _ (List.mem_of_getElem? (i := 165) rfl)) rfl (hw _ (List.mem_of_getElem? (i := 167) rfl)) (hw _ (List.mem_of_getElem? (i := 166) rfl)) (hw _ (List.mem_of_getElem? (i := 7) rfl)) (hw _ (List.mem_of_getElem? (i := 168) rfl)) (by decide) own_pd_6 rfl rfl rfl (by decide) (by decide) (Nat.le_of_eq rfl) rfl own_b28_1 rfl rfl rfl (by decide) (by decide) Ex (own_isl0 l Z a0 hw n0 h o cs fm SS Fc) (r1_next fun r3 h1 q2 => ?_)
    obtain ⟨rfl, rfl⟩ := q2
    refine WP.if_eq K 16 7 own_b28_4 (by decide) rfl (fun c4 => ?_) (fun c4 => ?_)
    · skip
      exact absurd c4 (by decide)
    · skip
      refine WP.aloadN K 8 own_b28_7 rfl rfl rfl ?_
      refine WP.getfield K (host := "") 11 (Or.inl (hw _ (List.mem_of_getElem? (i := 25) rfl))) Via.refl Fv own_b28_8 rfl ?_
      refine WP.iloadN K 12 own_b28_11 rfl rfl ?_
      refine WP.callS K 15 0 0 0 [(.ref vb), (.int i)] [] (hw _ (List.mem_of_getElem? (i := 169) rfl)) (hw _ (List.mem_of_getElem? (i := 170) rfl)) (hw _ (List.mem_of_getElem? (i := 171) rfl)) (hw _ (List.mem_of_getElem? (i := 172) rfl)) (by decide) own_pd_4 rfl rfl rfl (by decide) (by decide) (Nat.le_of_eq rfl) rfl own_b28_12 rfl rfl rfl (by decide) (by decide) (own_lchar l Z a0 hw n0 h vb i j x bs us A_vb hL hx hi h0 h1 hl cs fm SS) (r1_next fun r6 h4 q5 => ?_)
      obtain ⟨rfl, rfl⟩ := q5
      refine WP.iret K rfl (Or.inr (Or.inr (Or.inr (Or.inl rfl)))) (nar_cx ⟨h0, h1⟩) own_b28_15 ?_ (by decide) (by decide)
      exact ⟨_, rfl, rfl, rfl⟩
  · skip
    refine WP.aloadN K 1 own_b28_0 rfl rfl rfl ?_
    refine WP.callV K (a := o) (C := "java/lang/String") 4 0 0 0 [] [] (hw _ (List.mem_of_getElem? (i := 164) rfl)) (hw _ (List.mem_of_getElem? (i := 165) rfl)) rfl (hw _ (List.mem_of_getElem? (i := 167) rfl)) (hw _ (List.mem_of_getElem? (i := 166) rfl)) (hw _ (List.mem_of_getElem? (i := 7) rfl)) (hw _ (List.mem_of_getElem? (i := 168) rfl)) (by decide) own_pd_6 rfl rfl rfl (by decide) (by decide) (Nat.le_of_eq rfl) rfl own_b28_1 rfl rfl rfl (by decide) (by decide) Ex (own_isl1 l Z a0 hw n0 h o cs fm SS Fc) (r1_next fun r9 h7 q8 => ?_)
    obtain ⟨rfl, rfl⟩ := q8
    refine WP.if_eq K 16 7 own_b28_4 (by decide) rfl (fun c4 => ?_) (fun c4 => ?_)
    · skip
      refine WP.aloadN K 17 own_b28_16 rfl rfl rfl ?_
      refine WP.getfield K (host := "") 20 (Or.inl (hw _ (List.mem_of_getElem? (i := 25) rfl))) Via.refl Fv own_b28_17 rfl ?_
      refine WP.iloadN K 21 own_b28_20 rfl rfl ?_
      refine WP.callS K 24 0 0 0 [(.ref vb), (.int i)] [] (hw _ (List.mem_of_getElem? (i := 200) rfl)) (hw _ (List.mem_of_getElem? (i := 201) rfl)) (hw _ (List.mem_of_getElem? (i := 148) rfl)) (hw _ (List.mem_of_getElem? (i := 202) rfl)) (by decide) own_pd_4 rfl rfl rfl (by decide) (by decide) (Nat.le_of_eq rfl) rfl own_b28_21 rfl rfl rfl (by decide) (by decide) (own_uchar l Z a0 hw n0 h vb i j x bs us A_vb hU hx hi h0 h1 hl cs fm SS) (r1_next fun r12 h10 q11 => ?_)
      obtain ⟨rfl, rfl⟩ := q11
      refine WP.iret K rfl (Or.inr (Or.inr (Or.inr (Or.inl rfl)))) (nar_cx ⟨h0, h1⟩) own_b28_24 ?_ (by decide) (by decide)
      exact ⟨_, rfl, rfl, rfl⟩
    · skip
      exact absurd c4 (by decide)
theorem own_b27_0 : decode jdk_52_method_15_code 0 = .ok (.iload_n 1, 1) := by decide +kernel
theorem own_b27_1 : decode jdk_52_method_15_code 1 = .ok (.aload_n 0, 1) := by decide +kernel
theorem own_b27_2 : decode jdk_52_method_15_code 2 = .ok (.arraylength, 1) := by decide +kernel
theorem own_b27_3 : decode jdk_52_method_15_code 3 = .ok (.isub, 1) := by decide +kernel
theorem own_b27_4 : decode jdk_52_method_15_code 4 = .ok (.bipush 31, 2) := by decide +kernel
theorem own_b27_6 : decode jdk_52_method_15_code 6 = .ok (.iushr, 1) := by decide +kernel
theorem own_b27_7 : decode jdk_52_method_15_code 7 = .ok (.i2b, 1) := by decide +kernel
theorem own_b27_8 : decode jdk_52_method_15_code 8 = .ok (.ireturn, 1) := by decide +kernel
theorem own_pf_b27 : plainFor (⟨"java/lang/StringUTF16", "coderFromArrayLen", "([BI)B"⟩ : MethodName) = true := by first | exact plainFor_of_name (by first | (simp [plainName, overriddenIn, x]; done) | decide +kernel) | decide +kernel
set_option maxRecDepth 65536 in
set_option maxHeartbeats 40000000 in
theorem own_coder (l : Launch) (Z : State) (a0 : Array Value) (hw : ∀ d ∈ tables_1, d.before a0 Z = true) (n0 : Nat) (h : Heap) (b : Nat) (n : Int32) (N : Nat) (bs : List Int8) (A_b : ArB Z h b bs) (hn : n.toInt = (N : Nat)) (hN : N ≤ bs.length) :
    Con l Z (⟨"java/lang/StringUTF16", "coderFromArrayLen", "([BI)B"⟩ : MethodName) jdk_52_method_15_code 2 (some .byte) ({ frames := 0, cells := 0, slots := 0, locals := 0 } : Room) n0 #[(.ref b), (.int n)] h (R1 fun r h' => (∃ z : Int32, r = .int z ∧ (bs.length = N → z = 0) ∧ (N < bs.length → z = 1)) ∧ h = h') := by
  refine Con.of (ls := [.val (.ref b), .val (.int n)]) own_pf_b27 (fun m => by first | (simp [entryFrame, mkF, argsToLocals, Value.category]; done) | rfl) fun k K => ?_
  have k_31 : (31 : Int32).toInt = 31 := rfl
  obtain ⟨z, hz⟩ := i32_of A_b.len
  refine WP.iloadN K 1 own_b27_0 rfl rfl ?_
  refine WP.aloadN K 2 own_b27_1 rfl rfl rfl ?_
  refine WP.arraylength K z 3 A_b (by rw [hz]; simp) own_b27_2 rfl ?_
  refine WP.isub K 4 own_b27_3 rfl ?_
  refine WP.bipush K (31 : Int32) 6 own_b27_4 rfl rfl ?_
  refine WP.iushr K 7 own_b27_6 rfl ?_
  refine WP.i2b K 8 own_b27_7 rfl ?_
  refine WP.iret K rfl (Or.inr (Or.inr (Or.inl rfl))) (nar_b _) own_b27_8 ?_ (by decide) (by decide)
  exact ⟨_, rfl, ⟨_, rfl, fun q => coder_0 (by omega), fun q => coder_1 (by omega) (by omega)⟩, rfl⟩
theorem own_b26_0 : decode jdk_52_method_21_code 0 = .ok (.iconst 0, 1) := by decide +kernel
theorem own_b26_1 : decode jdk_52_method_21_code 1 = .ok (.istore 5, 2) := by decide +kernel
theorem own_b26_3 : decode jdk_52_method_21_code 3 = .ok (.iload 5, 2) := by decide +kernel
theorem own_b26_5 : decode jdk_52_method_21_code 5 = .ok (.iload 4, 2) := by decide +kernel
theorem own_b26_7 : decode jdk_52_method_21_code 7 = .ok (.if_icmp .ge 37, 3) := by decide +kernel
theorem own_b26_10 : decode jdk_52_method_21_code 10 = .ok (.aload_n 0, 1) := by decide +kernel
theorem own_b26_11 : decode jdk_52_method_21_code 11 = .ok (.iload_n 1, 1) := by decide +kernel
theorem own_b26_12 : decode jdk_52_method_21_code 12 = .ok (.caload, 1) := by decide +kernel
theorem own_b26_13 : decode jdk_52_method_21_code 13 = .ok (.istore 6, 2) := by decide +kernel
theorem own_b26_15 : decode jdk_52_method_21_code 15 = .ok (.iload 6, 2) := by decide +kernel
theorem own_b26_17 : decode jdk_52_method_21_code 17 = .ok (.sipush 255, 3) := by decide +kernel
theorem own_b26_20 : decode jdk_52_method_21_code 20 = .ok (.if_icmp .le 6, 3) := by decide +kernel
theorem own_b26_23 : decode jdk_52_method_21_code 23 = .ok (.iload 5, 2) := by decide +kernel
theorem own_b26_25 : decode jdk_52_method_21_code 25 = .ok (.ireturn, 1) := by decide +kernel
theorem own_b26_26 : decode jdk_52_method_21_code 26 = .ok (.aload_n 2, 1) := by decide +kernel
theorem own_b26_27 : decode jdk_52_method_21_code 27 = .ok (.iload_n 3, 1) := by decide +kernel
theorem own_b26_28 : decode jdk_52_method_21_code 28 = .ok (.iload 6, 2) := by decide +kernel
theorem own_b26_30 : decode jdk_52_method_21_code 30 = .ok (.i2b, 1) := by decide +kernel
theorem own_b26_31 : decode jdk_52_method_21_code 31 = .ok (.bastore, 1) := by decide +kernel
theorem own_b26_32 : decode jdk_52_method_21_code 32 = .ok (.iinc 1 1, 3) := by decide +kernel
theorem own_b26_35 : decode jdk_52_method_21_code 35 = .ok (.iinc 3 1, 3) := by decide +kernel
theorem own_b26_38 : decode jdk_52_method_21_code 38 = .ok (.iinc 5 1, 3) := by decide +kernel
theorem own_b26_41 : decode jdk_52_method_21_code 41 = .ok (.goto (-38), 3) := by decide +kernel
theorem own_b26_44 : decode jdk_52_method_21_code 44 = .ok (.iload 4, 2) := by decide +kernel
theorem own_b26_46 : decode jdk_52_method_21_code 46 = .ok (.ireturn, 1) := by decide +kernel
theorem own_pf_b26 : plainFor (⟨"java/lang/StringUTF16", "compress", "([CI[BII)I"⟩ : MethodName) = true := by first | exact plainFor_of_name (by first | (simp [plainName, overriddenIn, x]; done) | decide +kernel) | decide +kernel
set_option maxRecDepth 65536 in
set_option maxHeartbeats 40000000 in
theorem own_comp5 (l : Launch) (Z : State) (a0 : Array Value) (hw : ∀ d ∈ tables_1, d.before a0 Z = true) (n0 : Nat) (h : Heap) (x b : Nat) (n : Int32) (xs : List Int32) (bs0 : List Int8) (A_x : ArC Z h x xs) (A_b : ArB Z h b bs0) (hl0 : bs0.length = xs.length) (hn : n.toInt = (xs.length : Nat)) (hle : xs.length ≤ 2) (n0_b : n0 ≤ b) (ne : x < b) :
    Con l Z (⟨"java/lang/StringUTF16", "compress", "([CI[BII)I"⟩ : MethodName) jdk_52_method_21_code 7 (some .int) ({ frames := 0, cells := 0, slots := 0, locals := 0 } : Room) n0 #[(.ref x), (.int (0 : Int32)), (.ref b), (.int (0 : Int32)), (.int n)] h (R1 fun r h' => ∃ (z : Int32) (R : Nat) (bs : List Int8), r = .int z ∧ z.toInt = (R : Nat) ∧ Keep h h' [b] ∧ ArB Z h' b bs ∧ ((R = xs.length ∧ Lat bs xs) ∨ (R < xs.length ∧ ∃ u, xs[R]? = some u ∧ 255 < u.toInt))) := by
  refine Con.of (ls := [.val (.ref x), .val (.int (0 : Int32)), .val (.ref b), .val (.int (0 : Int32)), .val (.int n), .unset, .unset]) own_pf_b26 (fun m => by first | (simp [entryFrame, mkF, argsToLocals, Value.category]; done) | rfl) fun k K => ?_
  have k_0 : (0 : Int32).toInt = 0 := rfl
  have k_1 : (1 : Int32).toInt = 1 := rfl
  have k_255 : (255 : Int32).toInt = 255 := rfl
  have J3 : ∀ (f i : Nat) (hh : Heap) (bs : List Int8) (o1 o3 o5 : Int32) (s6 : Slot) (h_s6 : One s6), xs.length - i ≤ f → i ≤ xs.length → o1.toInt = (i : Nat) → o3.toInt = (i : Nat) → o5.toInt = (i : Nat) → Keep h hh [b] → ArC Z hh x xs → ArB Z hh b bs → bs.length = xs.length → (∀ (j : Nat) (w : Int32), j < i → xs[j]? = some w → ∃ y : Int8, bs[j]? = some y ∧ (y.toInt - w.toInt) % 256 = 0 ∧ w.toInt ≤ 255) → WP k hh 0 0 3 [.val (.ref x), .val (.int o1), .val (.ref b), .val (.int o3), .val (.int n), .val (.int o5), s6] [] := by
    intro f
    induction f with
    | zero =>
      intro i hh bs o1 o3 o5 s6 h_s6 hf hi ho1 ho3 ho5 Kp A_x A_b hbl hB
      refine WP.iload K 5 own_b26_3 rfl rfl ?_
      refine WP.iload K 7 own_b26_5 rfl rfl ?_
      refine WP.icmp_ge K 44 10 own_b26_7 (by decide) rfl (fun c7 => ?_) (fun c7 => ?_)
      · skip
        refine WP.iload K 46 own_b26_44 rfl rfl ?_
        refine WP.iret K rfl (Or.inl rfl) rfl own_b26_46 ?_ (by decide) (by decide)
        exact ⟨_, rfl, n, xs.length, bs, rfl, hn, Kp, A_b, Or.inl ⟨rfl, hbl, fun j u hu => hB j u (by have := (List.getElem?_eq_some_iff.mp hu).1; omega) hu⟩⟩
      · skip
        exfalso; omega
    | succ f ih =>
      intro i hh bs o1 o3 o5 s6 h_s6 hf hi ho1 ho3 ho5 Kp A_x A_b hbl hB
      refine WP.iload K 5 own_b26_3 rfl rfl ?_
      refine WP.iload K 7 own_b26_5 rfl rfl ?_
      refine WP.icmp_ge K 44 10 own_b26_7 (by decide) rfl (fun c7 => ?_) (fun c7 => ?_)
      · skip
        refine WP.iload K 46 own_b26_44 rfl rfl ?_
        refine WP.iret K rfl (Or.inl rfl) rfl own_b26_46 ?_ (by decide) (by decide)
        exact ⟨_, rfl, n, xs.length, bs, rfl, hn, Kp, A_b, Or.inl ⟨rfl, hbl, fun j u hu => hB j u (by have := (List.getElem?_eq_some_iff.mp hu).1; omega) hu⟩⟩
      · skip
        obtain ⟨u, hu⟩ : ∃ u, xs[i]? = some u := ⟨_, List.getElem?_eq_getElem (by omega)⟩
        refine WP.aloadN K 11 own_b26_10 rfl rfl rfl ?_
        refine WP.iloadN K 12 own_b26_11 rfl rfl ?_
        refine WP.caload K 13 i A_x ho1 hu own_b26_12 rfl ?_
        refine WP.istore K 15 [.val (.ref x), .val (.int o1), .val (.ref b), .val (.int o3), .val (.int n), .val (.int o5), .val (.int u)] own_b26_13 rfl (st1 rfl h_s6 rfl) ?_
        refine WP.iload K 17 own_b26_15 rfl rfl ?_
        refine WP.sipush K (255 : Int32) 20 own_b26_17 rfl rfl ?_
        refine WP.icmp_le K 26 23 own_b26_20 (by decide) rfl (fun c20 => ?_) (fun c20 => ?_)
        · skip
          refine WP.aloadN K 27 own_b26_26 rfl rfl rfl ?_
          refine WP.iloadN K 28 own_b26_27 rfl rfl ?_
          refine WP.iload K 30 own_b26_28 rfl rfl ?_
          refine WP.i2b K 31 own_b26_30 rfl ?_
          refine WP.bastore K 32 i A_b ho3 (by omega) own_b26_31 rfl n0_b (fun h1 K2 A_b => ?_)
          have A_x := A_x.keep K2 (nm1 (by omega))
          have Kp := Kp.trans K2 (ks1 (by first | (refine Or.inl ?_; simp; done) | (refine Or.inr ?_; omega)))
          refine WP.iinc K (1 : Int32) 35 [.val (.ref x), .val (.int (o1 + (1 : Int32))), .val (.ref b), .val (.int o3), .val (.int n), .val (.int o5), .val (.int u)] own_b26_32 rfl rfl rfl rfl ?_
          refine WP.iinc K (1 : Int32) 38 [.val (.ref x), .val (.int (o1 + (1 : Int32))), .val (.ref b), .val (.int (o3 + (1 : Int32))), .val (.int n), .val (.int o5), .val (.int u)] own_b26_35 rfl rfl rfl rfl ?_
          refine WP.iinc K (1 : Int32) 41 [.val (.ref x), .val (.int (o1 + (1 : Int32))), .val (.ref b), .val (.int (o3 + (1 : Int32))), .val (.int n), .val (.int (o5 + (1 : Int32))), .val (.int u)] own_b26_38 rfl rfl rfl rfl ?_
          refine WP.goto K 3 own_b26_41 (by decide) ?_
          exact ih (i + 1) _ _ _ _ _ _ (One.val rfl) (by omega) (by omega) (inc32 ho1 (by omega)) (inc32 ho3 (by omega)) (inc32 ho5 (by omega)) Kp A_x A_b (by rw [List.length_set]; exact hbl) (lat_step hB hu (by omega) (by omega))
        · skip
          refine WP.iload K 25 own_b26_23 rfl rfl ?_
          refine WP.iret K rfl (Or.inl rfl) rfl own_b26_25 ?_ (by decide) (by decide)
          exact ⟨_, rfl, o5, i, bs, rfl, ho5, Kp, A_b, Or.inr ⟨by omega, u, hu, by omega⟩⟩
  refine WP.iconst K (0 : Int32) 1 own_b26_0 rfl rfl ?_
  refine WP.istore K 3 [.val (.ref x), .val (.int (0 : Int32)), .val (.ref b), .val (.int (0 : Int32)), .val (.int n), .val (.int (0 : Int32)), .unset] own_b26_1 rfl rfl ?_
  exact J3 xs.length 0 h bs0 _ _ _ _ One.u (by omega) (by omega) rfl rfl rfl (Keep.refl h _) A_x A_b hl0 (fun j w hj => absurd hj (Nat.not_lt_zero _))
theorem own_b35_0 : decode jdk_52_method_3_code 0 = .ok (.iload_n 0, 1) := by decide +kernel
theorem own_b35_1 : decode jdk_52_method_3_code 1 = .ok (.ifCond .ge 11, 3) := by decide +kernel
theorem own_b35_4 : decode jdk_52_method_3_code 4 = .ok (.new 17, 3) := by decide +kernel
theorem own_b35_7 : decode jdk_52_method_3_code 7 = .ok (.dup, 1) := by decide +kernel
theorem own_b35_8 : decode jdk_52_method_3_code 8 = .ok (.invokespecial 19, 3) := by decide +kernel
theorem own_b35_11 : decode jdk_52_method_3_code 11 = .ok (.athrow, 1) := by decide +kernel
theorem own_b35_12 : decode jdk_52_method_3_code 12 = .ok (.iload_n 0, 1) := by decide +kernel
theorem own_b35_13 : decode jdk_52_method_3_code 13 = .ok (.ldc 20, 2) := by decide +kernel
theorem own_b35_15 : decode jdk_52_method_3_code 15 = .ok (.if_icmp .lt 40, 3) := by decide +kernel
theorem own_b35_18 : decode jdk_52_method_3_code 18 = .ok (.new 21, 3) := by decide +kernel
theorem own_b35_21 : decode jdk_52_method_3_code 21 = .ok (.dup, 1) := by decide +kernel
theorem own_b35_22 : decode jdk_52_method_3_code 22 = .ok (.new 23, 3) := by decide +kernel
theorem own_b35_25 : decode jdk_52_method_3_code 25 = .ok (.dup, 1) := by decide +kernel
theorem own_b35_26 : decode jdk_52_method_3_code 26 = .ok (.invokespecial 25, 3) := by decide +kernel
theorem own_b35_29 : decode jdk_52_method_3_code 29 = .ok (.ldc 26, 2) := by decide +kernel
theorem own_b35_31 : decode jdk_52_method_3_code 31 = .ok (.invokevirtual 28, 3) := by decide +kernel
theorem own_b35_34 : decode jdk_52_method_3_code 34 = .ok (.iload_n 0, 1) := by decide +kernel
theorem own_b35_35 : decode jdk_52_method_3_code 35 = .ok (.invokevirtual 32, 3) := by decide +kernel
theorem own_b35_38 : decode jdk_52_method_3_code 38 = .ok (.ldc 35, 2) := by decide +kernel
theorem own_b35_40 : decode jdk_52_method_3_code 40 = .ok (.invokevirtual 28, 3) := by decide +kernel
theorem own_b35_43 : decode jdk_52_method_3_code 43 = .ok (.ldc 20, 2) := by decide +kernel
theorem own_b35_45 : decode jdk_52_method_3_code 45 = .ok (.invokevirtual 32, 3) := by decide +kernel
theorem own_b35_48 : decode jdk_52_method_3_code 48 = .ok (.invokevirtual 37, 3) := by decide +kernel
theorem own_b35_51 : decode jdk_52_method_3_code 51 = .ok (.invokespecial 41, 3) := by decide +kernel
theorem own_b35_54 : decode jdk_52_method_3_code 54 = .ok (.athrow, 1) := by decide +kernel
theorem own_b35_55 : decode jdk_52_method_3_code 55 = .ok (.iload_n 0, 1) := by decide +kernel
theorem own_b35_56 : decode jdk_52_method_3_code 56 = .ok (.iconst 1, 1) := by decide +kernel
theorem own_b35_57 : decode jdk_52_method_3_code 57 = .ok (.ishl, 1) := by decide +kernel
theorem own_b35_58 : decode jdk_52_method_3_code 58 = .ok (.ireturn, 1) := by decide +kernel
theorem own_pf_b35 : plainFor (⟨"java/lang/StringUTF16", "newBytesLength", "(I)I"⟩ : MethodName) = true := by first | exact plainFor_of_name (by first | (simp [plainName, overriddenIn, x]; done) | decide +kernel) | decide +kernel
set_option maxRecDepth 65536 in
set_option maxHeartbeats 40000000 in
theorem own_nbl (l : Launch) (Z : State) (a0 : Array Value) (hw : ∀ d ∈ tables_1, d.before a0 Z = true) (n0 : Nat) (h : Heap) (n : Int32) (N : Nat) (hn : n.toInt = (N : Nat)) (hle : N ≤ 2) :
    Con l Z (⟨"java/lang/StringUTF16", "newBytesLength", "(I)I"⟩ : MethodName) jdk_52_method_3_code 1 (some .int) ({ frames := 0, cells := 0, slots := 0, locals := 0 } : Room) n0 #[(.int n)] h (R1 fun r h' => (∃ z : Int32, r = .int z ∧ z.toInt = ((2 * N : Nat) : Int)) ∧ h = h') := by
  refine Con.of (ls := [.val (.int n)]) own_pf_b35 (fun m => by first | (simp [entryFrame, mkF, argsToLocals, Value.category]; done) | rfl) fun k K => ?_
  have k_1 : (1 : Int32).toInt = 1 := rfl
  have k_1073741823 : (1073741823 : Int32).toInt = 1073741823 := rfl
  refine WP.iloadN K 1 own_b35_0 rfl rfl ?_
  refine WP.if_ge K 12 4 own_b35_1 (by decide) rfl (fun c1 => ?_) (fun c1 => ?_)
  · skip
    refine WP.iloadN K 13 own_b35_12 rfl rfl ?_
    refine WP.ldcI K (v := (1073741823 : Int32)) 15 (hw _ (List.mem_of_getElem? (i := 190) rfl)) own_b35_13 rfl ?_
    refine WP.icmp_lt K 55 18 own_b35_15 (by decide) rfl (fun c15 => ?_) (fun c15 => ?_)
    · skip
      refine WP.iloadN K 56 own_b35_55 rfl rfl ?_
      refine WP.iconst K (1 : Int32) 57 own_b35_56 rfl rfl ?_
      refine WP.ishl K 58 own_b35_57 rfl ?_
      refine WP.iret K rfl (Or.inl rfl) rfl own_b35_58 ?_ (by decide) (by decide)
      exact ⟨_, rfl, ⟨_, rfl, by have e := c_ishl n (1 : Int32) 1 rfl; have r := i32_rng (n <<< ((1 : Int32) &&& 31)); rw [show ((2 ^ 1 : Nat) : Int) = 2 from rfl] at e; omega⟩, rfl⟩
    · skip
      exfalso; omega
  · skip
    exfalso; omega
theorem own_b34_0 : decode jdk_52_method_2_code 0 = .ok (.iload_n 0, 1) := by decide +kernel
theorem own_b34_1 : decode jdk_52_method_2_code 1 = .ok (.invokestatic 11, 3) := by decide +kernel
theorem own_b34_4 : decode jdk_52_method_2_code 4 = .ok (.newarray .byte, 2) := by decide +kernel
theorem own_b34_6 : decode jdk_52_method_2_code 6 = .ok (.areturn, 1) := by decide +kernel
theorem own_pf_b34 : plainFor (⟨"java/lang/StringUTF16", "newBytesFor", "(I)[B"⟩ : MethodName) = true := by first | exact plainFor_of_name (by first | (simp [plainName, overriddenIn, x]; done) | decide +kernel) | decide +kernel
theorem own_pd_7 : parseMethodDescriptor "(I)I" = some ⟨[.int], some .int⟩ := by decide +kernel
set_option maxRecDepth 65536 in
set_option maxHeartbeats 40000000 in
theorem own_nbf (l : Launch) (Z : State) (a0 : Array Value) (hw : ∀ d ∈ tables_1, d.before a0 Z = true) (n0 : Nat) (h : Heap) (n : Int32) (N : Nat) (hn : n.toInt = (N : Nat)) (hle : N ≤ 2) (Z0 : n0 ≤ h.size) :
    Con l Z (⟨"java/lang/StringUTF16", "newBytesFor", "(I)[B"⟩ : MethodName) jdk_52_method_2_code 1 (some (.array .byte)) ({ frames := 1, cells := 1, slots := 4, locals := 12 } : Room) n0 #[(.int n)] h (R1 fun r h' => ∃ b : Nat, r = .ref b ∧ Keep h h' [] ∧ h.size ≤ b ∧ ArB Z h' b (List.replicate (2 * N) 0)) := by
  refine Con.of (ls := [.val (.int n)]) own_pf_b34 (fun m => by first | (simp [entryFrame, mkF, argsToLocals, Value.category]; done) | rfl) fun k K => ?_
  have Kp := Keep.refl h []
  refine WP.iloadN K 1 own_b34_0 rfl rfl ?_
  refine WP.callS K 4 0 0 0 [(.int n)] [] (hw _ (List.mem_of_getElem? (i := 187) rfl)) (hw _ (List.mem_of_getElem? (i := 188) rfl)) (hw _ (List.mem_of_getElem? (i := 148) rfl)) (hw _ (List.mem_of_getElem? (i := 189) rfl)) (by decide) own_pd_7 rfl rfl rfl (by decide) (by decide) (Nat.le_of_eq rfl) rfl own_b34_1 rfl rfl rfl (by decide) (by decide) (own_nbl l Z a0 hw n0 h n N hn hle) (r1_next fun r3 h1 q2 => ?_)
  obtain ⟨⟨z, rfl, hz⟩, rfl⟩ := q2
  refine WP.newarray K 6 (2 * N) 4 1 4 (hw _ (List.mem_of_getElem? (i := 20) rfl)) own_b34_4 rfl hz (by omega) (by decide) rfl rfl (by decide) (by decide) (fun h4 b z_b E5 V6 => ?_)
  have n0_b : @LE.le Nat _ n0 b := z_b ▸ Z0
  have Z0 : n0 ≤ (h4).size := Nat.le_trans Z0 E5.1
  have Kp := Kp.ext E5
  have A_b := ArB.of_new V6
  refine WP.aret K rfl rfl rfl rfl own_b34_6 ?_ (by decide) (by decide)
  exact ⟨_, rfl, b, rfl, Kp, Nat.le_of_eq z_b.symm, A_b⟩
theorem own_b36_0 : decode jdk_52_method_4_code 0 = .ok (.getstatic 44, 3) := by decide +kernel
theorem own_b36_3 : decode jdk_52_method_4_code 3 = .ok (.ifCond .ne 25, 3) := by decide +kernel
theorem own_b36_6 : decode jdk_52_method_4_code 6 = .ok (.iload_n 1, 1) := by decide +kernel
theorem own_b36_7 : decode jdk_52_method_4_code 7 = .ok (.ifCond .lt 11, 3) := by decide +kernel
theorem own_b36_10 : decode jdk_52_method_4_code 10 = .ok (.iload_n 1, 1) := by decide +kernel
theorem own_b36_11 : decode jdk_52_method_4_code 11 = .ok (.aload_n 0, 1) := by decide +kernel
theorem own_b36_12 : decode jdk_52_method_4_code 12 = .ok (.invokestatic 48, 3) := by decide +kernel
theorem own_b36_15 : decode jdk_52_method_4_code 15 = .ok (.if_icmp .lt 13, 3) := by decide +kernel
theorem own_b36_18 : decode jdk_52_method_4_code 18 = .ok (.new 52, 3) := by decide +kernel
theorem own_b36_21 : decode jdk_52_method_4_code 21 = .ok (.dup, 1) := by decide +kernel
theorem own_b36_22 : decode jdk_52_method_4_code 22 = .ok (.ldc 54, 2) := by decide +kernel
theorem own_b36_24 : decode jdk_52_method_4_code 24 = .ok (.invokespecial 56, 3) := by decide +kernel
theorem own_b36_27 : decode jdk_52_method_4_code 27 = .ok (.athrow, 1) := by decide +kernel
theorem own_b36_28 : decode jdk_52_method_4_code 28 = .ok (.iload_n 1, 1) := by decide +kernel
theorem own_b36_29 : decode jdk_52_method_4_code 29 = .ok (.iconst 1, 1) := by decide +kernel
theorem own_b36_30 : decode jdk_52_method_4_code 30 = .ok (.ishl, 1) := by decide +kernel
theorem own_b36_31 : decode jdk_52_method_4_code 31 = .ok (.istore_n 1, 1) := by decide +kernel
theorem own_b36_32 : decode jdk_52_method_4_code 32 = .ok (.aload_n 0, 1) := by decide +kernel
theorem own_b36_33 : decode jdk_52_method_4_code 33 = .ok (.iload_n 1, 1) := by decide +kernel
theorem own_b36_34 : decode jdk_52_method_4_code 34 = .ok (.iinc 1 1, 3) := by decide +kernel
theorem own_b36_37 : decode jdk_52_method_4_code 37 = .ok (.iload_n 2, 1) := by decide +kernel
theorem own_b36_38 : decode jdk_52_method_4_code 38 = .ok (.getstatic 59, 3) := by decide +kernel
theorem own_b36_41 : decode jdk_52_method_4_code 41 = .ok (.ishr, 1) := by decide +kernel
theorem own_b36_42 : decode jdk_52_method_4_code 42 = .ok (.i2b, 1) := by decide +kernel
theorem own_b36_43 : decode jdk_52_method_4_code 43 = .ok (.bastore, 1) := by decide +kernel
theorem own_b36_44 : decode jdk_52_method_4_code 44 = .ok (.aload_n 0, 1) := by decide +kernel
theorem own_b36_45 : decode jdk_52_method_4_code 45 = .ok (.iload_n 1, 1) := by decide +kernel
theorem own_b36_46 : decode jdk_52_method_4_code 46 = .ok (.iload_n 2, 1) := by decide +kernel
theorem own_b36_47 : decode jdk_52_method_4_code 47 = .ok (.getstatic 63, 3) := by decide +kernel
theorem own_b36_50 : decode jdk_52_method_4_code 50 = .ok (.ishr, 1) := by decide +kernel
theorem own_b36_51 : decode jdk_52_method_4_code 51 = .ok (.i2b, 1) := by decide +kernel
theorem own_b36_52 : decode jdk_52_method_4_code 52 = .ok (.bastore, 1) := by decide +kernel
theorem own_b36_53 : decode jdk_52_method_4_code 53 = .ok (.return_, 1) := by decide +kernel
theorem own_pf_b36 : plainFor (⟨"java/lang/StringUTF16", "putChar", "([BII)V"⟩ : MethodName) = true := by first | exact plainFor_of_name (by first | (simp [plainName, overriddenIn, x]; done) | decide +kernel) | decide +kernel
set_option maxRecDepth 65536 in
set_option maxHeartbeats 40000000 in
theorem own_putch (l : Launch) (Z : State) (a0 : Array Value) (hw : ∀ d ∈ tables_1, d.before a0 Z = true) (n0 : Nat) (h : Heap) (b : Nat) (i u : Int32) (j : Nat) (bs : List Int8) (A_b : ArB Z h b bs) (hi : i.toInt = (j : Nat)) (hj : 2 * j + 1 < bs.length) (hl : bs.length ≤ 4) (n0_b : n0 ≤ b) (cs : Int32) (fm : Value) (SS : STS Z h n0 cs fm) :
    Con l Z (⟨"java/lang/StringUTF16", "putChar", "([BII)V"⟩ : MethodName) jdk_52_method_4_code 3 none ({ frames := 0, cells := 0, slots := 0, locals := 0 } : Room) n0 #[(.ref b), (.int i), (.int u)] h (R0 fun h' => Keep h h' [b] ∧ ∃ p q : Int8, ArB Z h' b ((bs.set (2 * j) p).set (2 * j + 1) q) ∧ (p.toInt - u.toInt) % 256 = 0 ∧ (q.toInt - u.toInt / 256) % 256 = 0) := by
  refine Con.of (ls := [.val (.ref b), .val (.int i), .val (.int u)]) own_pf_b36 (fun m => by first | (simp [entryFrame, mkF, argsToLocals, Value.category]; done) | rfl) fun k K => ?_
  have k_1 : (1 : Int32).toInt = 1 := rfl
  have Kp := Keep.refl h [b]
  refine WP.getstatic K 3 (hw _ (List.mem_of_getElem? (i := 194) rfl)) Via.refl SS.2.1.sta own_b36_0 rfl ?_
  refine WP.if_ne K 28 6 own_b36_3 (by decide) rfl (fun c3 => ?_) (fun c3 => ?_)
  · skip
    refine WP.iloadN K 29 own_b36_28 rfl rfl ?_
    refine WP.iconst K (1 : Int32) 30 own_b36_29 rfl rfl ?_
    refine WP.ishl K 31 own_b36_30 rfl ?_
    have hi2 : (i <<< ((1 : Int32) &&& 31)).toInt = ((2 * j : Nat) : Int) := by
      have := c_ishl i (1 : Int32) 1 rfl
      have r := i32_rng (i <<< ((1 : Int32) &&& 31))
      rw [show ((2 ^ 1 : Nat) : Int) = 2 from rfl] at this
      omega
    generalize (i <<< ((1 : Int32) &&& 31)) = i2 at hi2 ⊢
    have hi3 := inc32 hi2 (by omega)
    refine WP.istoreN K 32 [.val (.ref b), .val (.int i2), .val (.int u)] own_b36_31 rfl rfl ?_
    refine WP.aloadN K 33 own_b36_32 rfl rfl rfl ?_
    refine WP.iloadN K 34 own_b36_33 rfl rfl ?_
    refine WP.iinc K (1 : Int32) 37 [.val (.ref b), .val (.int (i2 + (1 : Int32))), .val (.int u)] own_b36_34 rfl rfl rfl rfl ?_
    refine WP.iloadN K 38 own_b36_37 rfl rfl ?_
    refine WP.getstatic K 41 (hw _ (List.mem_of_getElem? (i := 195) rfl)) Via.refl SS.2.2.1.sta own_b36_38 rfl ?_
    refine WP.ishr K 42 own_b36_41 rfl ?_
    refine WP.i2b K 43 own_b36_42 rfl ?_
    refine WP.bastore K 44 (2 * j) A_b hi2 (by omega) own_b36_43 rfl n0_b (fun h1 K2 A_b => ?_)
    have SS := SS.keep K2 (kn1 (by omega))
    have Kp := Kp.trans K2 (ks1 (by first | (refine Or.inl ?_; simp; done) | (refine Or.inr ?_; omega)))
    refine WP.aloadN K 45 own_b36_44 rfl rfl rfl ?_
    refine WP.iloadN K 46 own_b36_45 rfl rfl ?_
    refine WP.iloadN K 47 own_b36_46 rfl rfl ?_
    refine WP.getstatic K 50 (hw _ (List.mem_of_getElem? (i := 196) rfl)) Via.refl SS.2.2.2.1.sta own_b36_47 rfl ?_
    refine WP.ishr K 51 own_b36_50 rfl ?_
    refine WP.i2b K 52 own_b36_51 rfl ?_
    refine WP.bastore K 53 (2 * j + 1) A_b hi3 (by rw [List.length_set]; omega) own_b36_52 rfl n0_b (fun h3 K4 A_b => ?_)
    have SS := SS.keep K4 (kn1 (by omega))
    have Kp := Kp.trans K4 (ks1 (by first | (refine Or.inl ?_; simp; done) | (refine Or.inr ?_; omega)))
    refine WP.retV K rfl own_b36_53 ?_ (by decide) (by decide)
    refine ⟨rfl, Kp, _, _, A_b, ?_, ?_⟩
    · have e := b_rel (u >>> ((0 : Int32) &&& 31))
      rw [c_ishr u (0 : Int32) 0 rfl] at e; simpa using e
    · have e := b_rel (u >>> ((8 : Int32) &&& 31))
      rw [c_ishr u (8 : Int32) 8 rfl] at e; exact e
  · skip
    exact absurd c3 (by decide)
theorem own_b33_0 : decode jdk_52_method_14_code 0 = .ok (.iload_n 2, 1) := by decide +kernel
theorem own_b33_1 : decode jdk_52_method_14_code 1 = .ok (.invokestatic 107, 3) := by decide +kernel
theorem own_b33_4 : decode jdk_52_method_14_code 4 = .ok (.astore_n 3, 1) := by decide +kernel
theorem own_b33_5 : decode jdk_52_method_14_code 5 = .ok (.iconst 0, 1) := by decide +kernel
theorem own_b33_6 : decode jdk_52_method_14_code 6 = .ok (.istore 4, 2) := by decide +kernel
theorem own_b33_8 : decode jdk_52_method_14_code 8 = .ok (.iload 4, 2) := by decide +kernel
theorem own_b33_10 : decode jdk_52_method_14_code 10 = .ok (.iload_n 2, 1) := by decide +kernel
theorem own_b33_11 : decode jdk_52_method_14_code 11 = .ok (.if_icmp .ge 21, 3) := by decide +kernel
theorem own_b33_14 : decode jdk_52_method_14_code 14 = .ok (.aload_n 3, 1) := by decide +kernel
theorem own_b33_15 : decode jdk_52_method_14_code 15 = .ok (.iload 4, 2) := by decide +kernel
theorem own_b33_17 : decode jdk_52_method_14_code 17 = .ok (.aload_n 0, 1) := by decide +kernel
theorem own_b33_18 : decode jdk_52_method_14_code 18 = .ok (.iload_n 1, 1) := by decide +kernel
theorem own_b33_19 : decode jdk_52_method_14_code 19 = .ok (.caload, 1) := by decide +kernel
theorem own_b33_20 : decode jdk_52_method_14_code 20 = .ok (.invokestatic 111, 3) := by decide +kernel
theorem own_b33_23 : decode jdk_52_method_14_code 23 = .ok (.iinc 1 1, 3) := by decide +kernel
theorem own_b33_26 : decode jdk_52_method_14_code 26 = .ok (.iinc 4 1, 3) := by decide +kernel
theorem own_b33_29 : decode jdk_52_method_14_code 29 = .ok (.goto (-21), 3) := by decide +kernel
theorem own_b33_32 : decode jdk_52_method_14_code 32 = .ok (.aload_n 3, 1) := by decide +kernel
theorem own_b33_33 : decode jdk_52_method_14_code 33 = .ok (.areturn, 1) := by decide +kernel
theorem own_pf_b33 : plainFor (⟨"java/lang/StringUTF16", "toBytes", "([CII)[B"⟩ : MethodName) = true := by first | exact plainFor_of_name (by first | (simp [plainName, overriddenIn, x]; done) | decide +kernel) | decide +kernel
theorem own_pd_8 : parseMethodDescriptor "(I)[B" = some ⟨[.int], some (.array .byte)⟩ := by decide +kernel
theorem own_pd_9 : parseMethodDescriptor "([BII)V" = some ⟨[(.array .byte), .int, .int], none⟩ := by decide +kernel
set_option maxRecDepth 65536 in
set_option maxHeartbeats 40000000 in
theorem own_tob (l : Launch) (Z : State) (a0 : Array Value) (hw : ∀ d ∈ tables_1, d.before a0 Z = true) (n0 : Nat) (h : Heap) (x : Nat) (n : Int32) (xs : List Int32) (A_x : ArC Z h x xs) (hn : n.toInt = (xs.length : Nat)) (hle : xs.length ≤ 2) (Z0 : n0 ≤ h.size) (cs : Int32) (fm : Value) (SS : STS Z h n0 cs fm) :
    Con l Z (⟨"java/lang/StringUTF16", "toBytes", "([CII)[B"⟩ : MethodName) jdk_52_method_14_code 5 (some (.array .byte)) ({ frames := 2, cells := 1, slots := 4, locals := 24 } : Room) n0 #[(.ref x), (.int (0 : Int32)), (.int n)] h (R1 fun r h' => ∃ (b : Nat) (bs : List Int8), r = .ref b ∧ Keep h h' [] ∧ h.size ≤ b ∧ ArB Z h' b bs ∧ Utf bs xs) := by
  refine Con.of (ls := [.val (.ref x), .val (.int (0 : Int32)), .val (.int n), .unset, .unset]) own_pf_b33 (fun m => by first | (simp [entryFrame, mkF, argsToLocals, Value.category]; done) | rfl) fun k K => ?_
  have k_0 : (0 : Int32).toInt = 0 := rfl
  have k_1 : (1 : Int32).toInt = 1 := rfl
  have Kp := Keep.refl h []
  refine WP.iloadN K 1 own_b33_0 rfl rfl ?_
  refine WP.callS K 4 1 4 0 [(.int n)] [] (hw _ (List.mem_of_getElem? (i := 184) rfl)) (hw _ (List.mem_of_getElem? (i := 185) rfl)) (hw _ (List.mem_of_getElem? (i := 148) rfl)) (hw _ (List.mem_of_getElem? (i := 186) rfl)) (by decide) own_pd_8 rfl rfl rfl (by decide) (by decide) (Nat.le_of_eq rfl) rfl own_b33_1 rfl rfl rfl (by decide) (by decide) (own_nbf l Z a0 hw n0 h n xs.length hn hle Z0) (r1_next fun r3 h1 q2 => ?_)
  obtain ⟨b, rfl, Kc, sz_b, A_b⟩ := q2
  have l_x_b : @LT.lt Nat _ x b := Nat.lt_of_lt_of_le A_x.lt sz_b
  have n0_b : @LE.le Nat _ n0 b := Nat.le_trans Z0 sz_b
  have Z0 : n0 ≤ (h1).size := Nat.le_trans Z0 Kc.1
  have SS := SS.keep Kc (kn0)
  have A_x := A_x.keep Kc (nm0 (by omega))
  have Kp := Kp.trans Kc (ks0 )
  refine WP.astoreN K 5 [.val (.ref x), .val (.int (0 : Int32)), .val (.int n), .val (.ref b), .unset] own_b33_4 rfl rfl rfl ?_
  refine WP.iconst K (0 : Int32) 6 own_b33_5 rfl rfl ?_
  refine WP.istore K 8 [.val (.ref x), .val (.int (0 : Int32)), .val (.int n), .val (.ref b), .val (.int (0 : Int32))] own_b33_6 rfl rfl ?_
  have J8 : ∀ (f i : Nat) (hh : Heap) (bs : List Int8) (o1 o4 : Int32), xs.length - i ≤ f → i ≤ xs.length → o1.toInt = (i : Nat) → o4.toInt = (i : Nat) → Keep h hh [] → ArC Z hh x xs → ArB Z hh b bs → bs.length = 2 * xs.length → (∀ (j : Nat) (w : Int32), j < i → xs[j]? = some w → ∃ p q : Int8, bs[2 * j]? = some p ∧ bs[2 * j + 1]? = some q ∧ (p.toInt - w.toInt) % 256 = 0 ∧ (q.toInt - w.toInt / 256) % 256 = 0) → STS Z hh n0 cs fm → WP k hh 1 4 8 [.val (.ref x), .val (.int o1), .val (.int n), .val (.ref b), .val (.int o4)] [] := by
    intro f
    induction f with
    | zero =>
      intro i hh bs o1 o4 hf hi ho1 ho4 Kp A_x A_b hbl hB SS
      refine WP.iload K 10 own_b33_8 rfl rfl ?_
      refine WP.iloadN K 11 own_b33_10 rfl rfl ?_
      refine WP.icmp_ge K 32 14 own_b33_11 (by decide) rfl (fun c11 => ?_) (fun c11 => ?_)
      · skip
        refine WP.aloadN K 33 own_b33_32 rfl rfl rfl ?_
        refine WP.aret K rfl rfl rfl rfl own_b33_33 ?_ (by decide) (by decide)
        exact ⟨_, rfl, b, bs, rfl, Kp, sz_b, A_b, hbl, fun j u hu => hB j u (by have := (List.getElem?_eq_some_iff.mp hu).1; omega) hu⟩
      · skip
        exfalso; omega
    | succ f ih =>
      intro i hh bs o1 o4 hf hi ho1 ho4 Kp A_x A_b hbl hB SS
      refine WP.iload K 10 own_b33_8 rfl rfl ?_
      refine WP.iloadN K 11 own_b33_10 rfl rfl ?_
      refine WP.icmp_ge K 32 14 own_b33_11 (by decide) rfl (fun c11 => ?_) (fun c11 => ?_)
      · skip
        refine WP.aloadN K 33 own_b33_32 rfl rfl rfl ?_
        refine WP.aret K rfl rfl rfl rfl own_b33_33 ?_ (by decide) (by decide)
        exact ⟨_, rfl, b, bs, rfl, Kp, sz_b, A_b, hbl, fun j u hu => hB j u (by have := (List.getElem?_eq_some_iff.mp hu).1; omega) hu⟩
      · skip
        obtain ⟨u, hu⟩ : ∃ u, xs[i]? = some u := ⟨_, List.getElem?_eq_getElem (by omega)⟩
        refine WP.aloadN K 15 own_b33_14 rfl rfl rfl ?_
        refine WP.iload K 17 own_b33_15 rfl rfl ?_
        refine WP.aloadN K 18 own_b33_17 rfl rfl rfl ?_
        refine WP.iloadN K 19 own_b33_18 rfl rfl ?_
        refine WP.caload K 20 i A_x ho1 hu own_b33_19 rfl ?_
        refine WP.callS K 23 1 4 0 [(.ref b), (.int o4), (.int u)] [] (hw _ (List.mem_of_getElem? (i := 191) rfl)) (hw _ (List.mem_of_getElem? (i := 192) rfl)) (hw _ (List.mem_of_getElem? (i := 148) rfl)) (hw _ (List.mem_of_getElem? (i := 193) rfl)) (by decide) own_pd_9 rfl rfl rfl (by decide) (by decide) (Nat.le_of_eq rfl) rfl own_b33_20 rfl rfl rfl (by decide) (by decide) (own_putch l Z a0 hw n0 hh b o4 u i bs A_b ho4 (by omega) (by omega) n0_b cs fm SS) (r0_next fun h4 q5 => ?_)
        obtain ⟨Kc, p, q_, A_b, hp, hq⟩ := q5
        have SS := SS.keep Kc (kn1 (by omega))
        have A_x := A_x.keep Kc (nm1 (by omega))
        have Kp := Kp.trans Kc (ks1 (by first | (refine Or.inl ?_; simp; done) | (refine Or.inr ?_; omega)))
        refine WP.iinc K (1 : Int32) 26 [.val (.ref x), .val (.int (o1 + (1 : Int32))), .val (.int n), .val (.ref b), .val (.int o4)] own_b33_23 rfl rfl rfl rfl ?_
        refine WP.iinc K (1 : Int32) 29 [.val (.ref x), .val (.int (o1 + (1 : Int32))), .val (.int n), .val (.ref b), .val (.int (o4 + (1 : Int32)))] own_b33_26 rfl rfl rfl rfl ?_
        refine WP.goto K 8 own_b33_29 (by decide) ?_
        exact ih (i + 1) _ _ _ _ (by omega) (by omega) (inc32 ho1 (by omega)) (inc32 ho4 (by omega)) Kp A_x A_b (by simp only [List.length_set]; exact hbl) (utf_step hB hu (by omega) hp hq) SS
  exact J8 xs.length 0 _ _ _ _ (by omega) (by omega) rfl rfl Kp A_x A_b (by simp) (fun j w hj => absurd hj (Nat.not_lt_zero _)) SS
theorem own_b25_0 : decode jdk_52_method_16_code 0 = .ok (.iload_n 2, 1) := by decide +kernel
theorem own_b25_1 : decode jdk_52_method_16_code 1 = .ok (.newarray .byte, 2) := by decide +kernel
theorem own_b25_3 : decode jdk_52_method_16_code 3 = .ok (.astore_n 3, 1) := by decide +kernel
theorem own_b25_4 : decode jdk_52_method_16_code 4 = .ok (.aload_n 0, 1) := by decide +kernel
theorem own_b25_5 : decode jdk_52_method_16_code 5 = .ok (.iload_n 1, 1) := by decide +kernel
theorem own_b25_6 : decode jdk_52_method_16_code 6 = .ok (.aload_n 3, 1) := by decide +kernel
theorem own_b25_7 : decode jdk_52_method_16_code 7 = .ok (.iconst 0, 1) := by decide +kernel
theorem own_b25_8 : decode jdk_52_method_16_code 8 = .ok (.iload_n 2, 1) := by decide +kernel
theorem own_b25_9 : decode jdk_52_method_16_code 9 = .ok (.invokestatic 115, 3) := by decide +kernel
theorem own_b25_12 : decode jdk_52_method_16_code 12 = .ok (.istore 4, 2) := by decide +kernel
theorem own_b25_14 : decode jdk_52_method_16_code 14 = .ok (.iload 4, 2) := by decide +kernel
theorem own_b25_16 : decode jdk_52_method_16_code 16 = .ok (.iload_n 2, 1) := by decide +kernel
theorem own_b25_17 : decode jdk_52_method_16_code 17 = .ok (.if_icmp .eq 40, 3) := by decide +kernel
theorem own_b25_20 : decode jdk_52_method_16_code 20 = .ok (.aload_n 0, 1) := by decide +kernel
theorem own_b25_21 : decode jdk_52_method_16_code 21 = .ok (.iload_n 1, 1) := by decide +kernel
theorem own_b25_22 : decode jdk_52_method_16_code 22 = .ok (.iload_n 2, 1) := by decide +kernel
theorem own_b25_23 : decode jdk_52_method_16_code 23 = .ok (.invokestatic 119, 3) := by decide +kernel
theorem own_b25_26 : decode jdk_52_method_16_code 26 = .ok (.astore 5, 2) := by decide +kernel
theorem own_b25_28 : decode jdk_52_method_16_code 28 = .ok (.aload 5, 2) := by decide +kernel
theorem own_b25_30 : decode jdk_52_method_16_code 30 = .ok (.iload 4, 2) := by decide +kernel
theorem own_b25_32 : decode jdk_52_method_16_code 32 = .ok (.invokestatic 71, 3) := by decide +kernel
theorem own_b25_35 : decode jdk_52_method_16_code 35 = .ok (.sipush 255, 3) := by decide +kernel
theorem own_b25_38 : decode jdk_52_method_16_code 38 = .ok (.if_icmp .gt 16, 3) := by decide +kernel
theorem own_b25_41 : decode jdk_52_method_16_code 41 = .ok (.aload 5, 2) := by decide +kernel
theorem own_b25_43 : decode jdk_52_method_16_code 43 = .ok (.iconst 0, 1) := by decide +kernel
theorem own_b25_44 : decode jdk_52_method_16_code 44 = .ok (.aload_n 3, 1) := by decide +kernel
theorem own_b25_45 : decode jdk_52_method_16_code 45 = .ok (.iconst 0, 1) := by decide +kernel
theorem own_b25_46 : decode jdk_52_method_16_code 46 = .ok (.iload_n 2, 1) := by decide +kernel
theorem own_b25_47 : decode jdk_52_method_16_code 47 = .ok (.invokestatic 123, 3) := by decide +kernel
theorem own_b25_50 : decode jdk_52_method_16_code 50 = .ok (.iload_n 2, 1) := by decide +kernel
theorem own_b25_51 : decode jdk_52_method_16_code 51 = .ok (.if_icmp .eq 6, 3) := by decide +kernel
theorem own_b25_54 : decode jdk_52_method_16_code 54 = .ok (.aload 5, 2) := by decide +kernel
theorem own_b25_56 : decode jdk_52_method_16_code 56 = .ok (.areturn, 1) := by decide +kernel
theorem own_b25_57 : decode jdk_52_method_16_code 57 = .ok (.aload_n 3, 1) := by decide +kernel
theorem own_b25_58 : decode jdk_52_method_16_code 58 = .ok (.areturn, 1) := by decide +kernel
theorem own_pf_b25 : plainFor (⟨"java/lang/StringUTF16", "compress", "([CII)[B"⟩ : MethodName) = true := by first | exact plainFor_of_name (by first | (simp [plainName, overriddenIn, x]; done) | decide +kernel) | decide +kernel
theorem own_pd_10 : parseMethodDescriptor "([CI[BII)I" = some ⟨[(.array .char), .int, (.array .byte), .int, .int], some .int⟩ := by decide +kernel
theorem own_pd_11 : parseMethodDescriptor "([CII)[B" = some ⟨[(.array .char), .int, .int], some (.array .byte)⟩ := by decide +kernel
set_option maxRecDepth 65536 in
set_option maxHeartbeats 40000000 in
theorem own_comp3 (l : Launch) (Z : State) (a0 : Array Value) (hw : ∀ d ∈ tables_1, d.before a0 Z = true) (n0 : Nat) (h : Heap) (x : Nat) (n : Int32) (xs : List Int32) (A_x : ArC Z h x xs) (hn : n.toInt = (xs.length : Nat)) (hle : xs.length ≤ 2) (Z0 : n0 ≤ h.size) (cs : Int32) (fm : Value) (SS : STS Z h n0 cs fm) :
    Con l Z (⟨"java/lang/StringUTF16", "compress", "([CII)[B"⟩ : MethodName) jdk_52_method_16_code 6 (some (.array .byte)) ({ frames := 3, cells := 2, slots := 6, locals := 40 } : Room) n0 #[(.ref x), (.int (0 : Int32)), (.int n)] h (R1 fun r h' => ∃ (b : Nat) (bs : List Int8), r = .ref b ∧ Keep h h' [] ∧ h.size ≤ b ∧ ArB Z h' b bs ∧ (Lat bs xs ∨ Utf bs xs)) := by
  refine Con.of (ls := [.val (.ref x), .val (.int (0 : Int32)), .val (.int n), .unset, .unset, .unset]) own_pf_b25 (fun m => by first | (simp [entryFrame, mkF, argsToLocals, Value.category]; done) | rfl) fun k K => ?_
  have k_0 : (0 : Int32).toInt = 0 := rfl
  have k_255 : (255 : Int32).toInt = 255 := rfl
  have Kp := Keep.refl h []
  have hrg := fun (u : Int32) (hu : u ∈ xs) => A_x.rng hu
  refine WP.iloadN K 1 own_b25_0 rfl rfl ?_
  refine WP.newarray K 3 xs.length 2 1 2 (hw _ (List.mem_of_getElem? (i := 20) rfl)) own_b25_1 rfl hn (by omega) (by decide) rfl rfl (by decide) (by decide) (fun h1 b z_b E2 V3 => ?_)
  have l_x_b : @LT.lt Nat _ x b := z_b ▸ A_x.lt
  have n0_b : @LE.le Nat _ n0 b := z_b ▸ Z0
  have Z0 : n0 ≤ (h1).size := Nat.le_trans Z0 E2.1
  have SS := SS.ext E2
  have A_x := A_x.ext E2
  have Kp := Kp.ext E2
  have A_b := ArB.of_new V3
  refine WP.astoreN K 4 [.val (.ref x), .val (.int (0 : Int32)), .val (.int n), .val (.ref b), .unset, .unset] own_b25_3 rfl rfl rfl ?_
  refine WP.aloadN K 5 own_b25_4 rfl rfl rfl ?_
  refine WP.iloadN K 6 own_b25_5 rfl rfl ?_
  refine WP.aloadN K 7 own_b25_6 rfl rfl rfl ?_
  refine WP.iconst K (0 : Int32) 8 own_b25_7 rfl rfl ?_
  refine WP.iloadN K 9 own_b25_8 rfl rfl ?_
  refine WP.callS K 12 1 2 0 [(.ref x), (.int (0 : Int32)), (.ref b), (.int (0 : Int32)), (.int n)] [] (hw _ (List.mem_of_getElem? (i := 150) rfl)) (hw _ (List.mem_of_getElem? (i := 151) rfl)) (hw _ (List.mem_of_getElem? (i := 148) rfl)) (hw _ (List.mem_of_getElem? (i := 152) rfl)) (by decide) own_pd_10 rfl rfl rfl (by decide) (by decide) (Nat.le_of_eq rfl) rfl own_b25_9 rfl rfl rfl (by decide) (by decide) (own_comp5 l Z a0 hw n0 h1 x b n xs _ A_x A_b (by simp) hn hle n0_b (by omega)) (r1_next fun r6 h4 q5 => ?_)
  obtain ⟨z, R, bs, rfl, hz, Kc, A_b, hR⟩ := q5
  have Z0 : n0 ≤ (h4).size := Nat.le_trans Z0 Kc.1
  have SS := SS.keep Kc (kn1 (by omega))
  have A_x := A_x.keep Kc (nm1 (by omega))
  have Kp := Kp.trans Kc (ks1 (by first | (refine Or.inl ?_; simp; done) | (refine Or.inr ?_; omega)))
  rcases hR with ⟨rfl, hL⟩ | ⟨hR, u, hu, hu2⟩
  · skip
    refine WP.istore K 14 [.val (.ref x), .val (.int (0 : Int32)), .val (.int n), .val (.ref b), .val (.int z), .unset] own_b25_12 rfl rfl ?_
    refine WP.iload K 16 own_b25_14 rfl rfl ?_
    refine WP.iloadN K 17 own_b25_16 rfl rfl ?_
    refine WP.icmp_eq K 57 20 own_b25_17 (by decide) rfl (fun c17 => ?_) (fun c17 => ?_)
    · skip
      refine WP.aloadN K 58 own_b25_57 rfl rfl rfl ?_
      refine WP.aret K rfl rfl rfl rfl own_b25_58 ?_ (by decide) (by decide)
      exact ⟨_, rfl, b, bs, rfl, Kp, Nat.le_of_eq z_b.symm, A_b, Or.inl hL⟩
    · skip
      exfalso; omega
  · skip
    refine WP.istore K 14 [.val (.ref x), .val (.int (0 : Int32)), .val (.int n), .val (.ref b), .val (.int z), .unset] own_b25_12 rfl rfl ?_
    refine WP.iload K 16 own_b25_14 rfl rfl ?_
    refine WP.iloadN K 17 own_b25_16 rfl rfl ?_
    refine WP.icmp_eq K 57 20 own_b25_17 (by decide) rfl (fun c17 => ?_) (fun c17 => ?_)
    · skip
      exfalso; omega
    · skip
      refine WP.aloadN K 21 own_b25_20 rfl rfl rfl ?_
      refine WP.iloadN K 22 own_b25_21 rfl rfl ?_
      refine WP.iloadN K 23 own_b25_22 rfl rfl ?_
      refine WP.callS K 26 2 6 0 [(.ref x), (.int (0 : Int32)), (.int n)] [] (hw _ (List.mem_of_getElem? (i := 181) rfl)) (hw _ (List.mem_of_getElem? (i := 182) rfl)) (hw _ (List.mem_of_getElem? (i := 148) rfl)) (hw _ (List.mem_of_getElem? (i := 183) rfl)) (by decide) own_pd_11 rfl rfl rfl (by decide) (by decide) (Nat.le_of_eq rfl) rfl own_b25_23 rfl rfl rfl (by decide) (by decide) (own_tob l Z a0 hw n0 h4 x n xs A_x hn hle Z0 cs fm SS) (r1_next fun r9 h7 q8 => ?_)
      obtain ⟨e, bu, rfl, Kc, sz_e, A_e, hU⟩ := q8
      have sz_e2 := Nat.le_trans Kp.1 sz_e
      have l_x_e : @LT.lt Nat _ x e := Nat.lt_of_lt_of_le A_x.lt sz_e
      have l_b_e : @LT.lt Nat _ b e := Nat.lt_of_lt_of_le A_b.lt sz_e
      have n0_e : @LE.le Nat _ n0 e := Nat.le_trans Z0 sz_e
      have Z0 : n0 ≤ (h7).size := Nat.le_trans Z0 Kc.1
      have SS := SS.keep Kc (kn0)
      have A_x := A_x.keep Kc (nm0 (by omega))
      have Kp := Kp.trans Kc (ks0 )
      have A_b := A_b.keep Kc (nm0 (by omega))
      refine WP.astore K 28 [.val (.ref x), .val (.int (0 : Int32)), .val (.int n), .val (.ref b), .val (.int z), .val (.ref e)] own_b25_26 rfl rfl rfl ?_
      refine WP.aload K 30 own_b25_28 rfl rfl rfl ?_
      refine WP.iload K 32 own_b25_30 rfl rfl ?_
      refine WP.callS K 35 2 6 0 [(.ref e), (.int z)] [] (hw _ (List.mem_of_getElem? (i := 197) rfl)) (hw _ (List.mem_of_getElem? (i := 198) rfl)) (hw _ (List.mem_of_getElem? (i := 148) rfl)) (hw _ (List.mem_of_getElem? (i := 199) rfl)) (by decide) own_pd_4 rfl rfl rfl (by decide) (by decide) (Nat.le_of_eq rfl) rfl own_b25_32 rfl rfl rfl (by decide) (by decide) (own_getch l Z a0 hw n0 h7 e z R u bu xs A_e hU hu hz (hrg u (List.mem_of_getElem? hu)).1 (hrg u (List.mem_of_getElem? hu)).2 hle cs fm SS) (r1_next fun r12 h10 q11 => ?_)
      obtain ⟨rfl, rfl⟩ := q11
      refine WP.sipush K (255 : Int32) 38 own_b25_35 rfl rfl ?_
      refine WP.icmp_gt K 54 41 own_b25_38 (by decide) rfl (fun c38 => ?_) (fun c38 => ?_)
      · skip
        refine WP.aload K 56 own_b25_54 rfl rfl rfl ?_
        refine WP.aret K rfl rfl rfl rfl own_b25_56 ?_ (by decide) (by decide)
        exact ⟨_, rfl, e, bu, rfl, Kp, by have := Kp.1; omega, A_e, Or.inr hU⟩
      · skip
        exfalso; omega
theorem own_strAtoms {Z : State} {a0 : Array Value} (hw : ∀ d ∈ tables_1, d.before a0 Z = true) : ∀ a ∈ Bundle.stringAtoms, a.before a0 Z = true := by
  intro a ha
  simp only [Bundle.stringAtoms, List.mem_cons, List.not_mem_nil, or_false] at ha
  rcases ha with rfl | rfl | rfl | rfl | rfl | rfl | rfl
  · exact (hw _ (List.mem_of_getElem? (i := 7) rfl))
  · exact (hw _ (List.mem_of_getElem? (i := 6) rfl))
  · exact (hw _ (List.mem_of_getElem? (i := 20) rfl))
  · exact (hw _ (List.mem_of_getElem? (i := 21) rfl))
  · exact (hw _ (List.mem_of_getElem? (i := 22) rfl))
  · exact (hw _ (List.mem_of_getElem? (i := 23) rfl))
  · exact (hw _ (List.mem_of_getElem? (i := 24) rfl))
def own_EL : List (String × Nat) := [("java/lang/String", 7)]
theorem own_EW {Z : State} {a0 : Array Value} (hw : ∀ d ∈ tables_1, d.before a0 Z = true) : EW Z a0 own_EL := EW.cons (text := "") (hw _ (List.mem_of_getElem? (i := 19) rfl)) (by intro c hc; simp at hc) EW.nil
theorem own_b3_0 : decode jdk_42_method_149_code 0 = .ok (.aload_n 0, 1) := by decide +kernel
theorem own_b3_1 : decode jdk_42_method_149_code 1 = .ok (.invokespecial 1, 3) := by decide +kernel
theorem own_b3_4 : decode jdk_42_method_149_code 4 = .ok (.iload_n 3, 1) := by decide +kernel
theorem own_b3_5 : decode jdk_42_method_149_code 5 = .ok (.ifCond .ne 22, 3) := by decide +kernel
theorem own_b3_8 : decode jdk_42_method_149_code 8 = .ok (.aload_n 0, 1) := by decide +kernel
theorem own_b3_9 : decode jdk_42_method_149_code 9 = .ok (.ldc 7, 2) := by decide +kernel
theorem own_b3_11 : decode jdk_42_method_149_code 11 = .ok (.getfield 9, 3) := by decide +kernel
theorem own_b3_14 : decode jdk_42_method_149_code 14 = .ok (.putfield 9, 3) := by decide +kernel
theorem own_b3_17 : decode jdk_42_method_149_code 17 = .ok (.aload_n 0, 1) := by decide +kernel
theorem own_b3_18 : decode jdk_42_method_149_code 18 = .ok (.ldc 7, 2) := by decide +kernel
theorem own_b3_20 : decode jdk_42_method_149_code 20 = .ok (.getfield 15, 3) := by decide +kernel
theorem own_b3_23 : decode jdk_42_method_149_code 23 = .ok (.putfield 15, 3) := by decide +kernel
theorem own_b3_26 : decode jdk_42_method_149_code 26 = .ok (.return_, 1) := by decide +kernel
theorem own_b3_27 : decode jdk_42_method_149_code 27 = .ok (.getstatic 38, 3) := by decide +kernel
theorem own_b3_30 : decode jdk_42_method_149_code 30 = .ok (.ifCond .eq 28, 3) := by decide +kernel
theorem own_b3_33 : decode jdk_42_method_149_code 33 = .ok (.aload_n 1, 1) := by decide +kernel
theorem own_b3_34 : decode jdk_42_method_149_code 34 = .ok (.iload_n 2, 1) := by decide +kernel
theorem own_b3_35 : decode jdk_42_method_149_code 35 = .ok (.iload_n 3, 1) := by decide +kernel
theorem own_b3_36 : decode jdk_42_method_149_code 36 = .ok (.invokestatic 177, 3) := by decide +kernel
theorem own_b3_39 : decode jdk_42_method_149_code 39 = .ok (.astore 5, 2) := by decide +kernel
theorem own_b3_41 : decode jdk_42_method_149_code 41 = .ok (.aload_n 0, 1) := by decide +kernel
theorem own_b3_42 : decode jdk_42_method_149_code 42 = .ok (.aload 5, 2) := by decide +kernel
theorem own_b3_44 : decode jdk_42_method_149_code 44 = .ok (.iload_n 3, 1) := by decide +kernel
theorem own_b3_45 : decode jdk_42_method_149_code 45 = .ok (.invokestatic 47, 3) := by decide +kernel
theorem own_b3_48 : decode jdk_42_method_149_code 48 = .ok (.putfield 15, 3) := by decide +kernel
theorem own_b3_51 : decode jdk_42_method_149_code 51 = .ok (.aload_n 0, 1) := by decide +kernel
theorem own_b3_52 : decode jdk_42_method_149_code 52 = .ok (.aload 5, 2) := by decide +kernel
theorem own_b3_54 : decode jdk_42_method_149_code 54 = .ok (.putfield 9, 3) := by decide +kernel
theorem own_b3_57 : decode jdk_42_method_149_code 57 = .ok (.return_, 1) := by decide +kernel
theorem own_b3_58 : decode jdk_42_method_149_code 58 = .ok (.aload_n 0, 1) := by decide +kernel
theorem own_b3_59 : decode jdk_42_method_149_code 59 = .ok (.iconst 1, 1) := by decide +kernel
theorem own_b3_60 : decode jdk_42_method_149_code 60 = .ok (.putfield 15, 3) := by decide +kernel
theorem own_b3_63 : decode jdk_42_method_149_code 63 = .ok (.aload_n 0, 1) := by decide +kernel
theorem own_b3_64 : decode jdk_42_method_149_code 64 = .ok (.aload_n 1, 1) := by decide +kernel
theorem own_b3_65 : decode jdk_42_method_149_code 65 = .ok (.iload_n 2, 1) := by decide +kernel
theorem own_b3_66 : decode jdk_42_method_149_code 66 = .ok (.iload_n 3, 1) := by decide +kernel
theorem own_b3_67 : decode jdk_42_method_149_code 67 = .ok (.invokestatic 180, 3) := by decide +kernel
theorem own_b3_70 : decode jdk_42_method_149_code 70 = .ok (.putfield 9, 3) := by decide +kernel
theorem own_b3_73 : decode jdk_42_method_149_code 73 = .ok (.return_, 1) := by decide +kernel
theorem own_pf_b3 : plainFor (⟨"java/lang/String", "<init>", "([CIILjava/lang/Void;)V"⟩ : MethodName) = true := by first | exact plainFor_of_name (by first | (simp [plainName, overriddenIn, x]; done) | decide +kernel) | decide +kernel
theorem own_pd_12 : parseMethodDescriptor "([BI)B" = some ⟨[(.array .byte), .int], some .byte⟩ := by decide +kernel
set_option maxRecDepth 65536 in
set_option maxHeartbeats 40000000 in
theorem own_str4 (l : Launch) (Z : State) (a0 : Array Value) (hw : ∀ d ∈ tables_1, d.before a0 Z = true) (n0 : Nat) (h : Heap) (o x : Nat) (xs : List Int32) (A_x : ArC Z h x xs) (hle : xs.length ≤ 2) (Ex : Exa Z h o "java/lang/String") (Fv : Fld Z h o "java/lang/String" "value" "[B" .null) (Fc : Fld Z h o "java/lang/String" "coder" "B" (.int (0 : Int32))) (n0_o : n0 ≤ o) (Z0 : n0 ≤ h.size) (cs : Int32) (fm : Value) (SS : STS Z h n0 cs fm) (ne : o ≠ x) (n : Int32) (hn : n.toInt = (xs.length : Nat)) :
    ConH l Z own_EL (⟨"java/lang/String", "<init>", "([CIILjava/lang/Void;)V"⟩ : MethodName) jdk_42_method_149_code 6 none ({ frames := 4, cells := 4, slots := 8, locals := 57 } : Room) n0 #[(.ref o), (.ref x), (.int (0 : Int32)), (.int n), .null] h (R0 fun h' => Keep h h' [o] ∧ ∃ vb, Str Z h' o vb xs) := by
  refine ConH.of (own_EW hw) (ls := [.val (.ref o), .val (.ref x), .val (.int (0 : Int32)), .val (.int n), .val .null, .unset]) own_pf_b3 (fun m => by first | (simp [entryFrame, mkF, argsToLocals, Value.category]; done) | rfl) fun k s0 KW HC => ?_
  have k_1 : (1 : Int32).toInt = 1 := rfl
  have Kp := Keep.refl h [o]
  have hcs := SS.2.2.2.2.2.1
  have hrg := fun (u : Int32) (hu : u ∈ xs) => A_x.rng hu
  have So := safe_fresh (EL := own_EL) KW.1.hZ.alike Ex Fv
  by_cases hN : xs = []
  · skip
    subst hN
    have hn0 : n.toInt = 0 := hn
    refine WP.aloadN KW.1 1 own_b3_0 rfl rfl rfl ?_
    refine WP.initO KW.1 4 0 (hw _ (List.mem_of_getElem? (i := 16) rfl)) (hw _ (List.mem_of_getElem? (i := 17) rfl)) (hw _ (List.mem_of_getElem? (i := 18) rfl)) own_b3_1 rfl rfl (by decide) (Nat.le_of_eq rfl) (by decide) ?_
    refine WP.iloadN KW.1 5 own_b3_4 rfl rfl ?_
    refine WP.if_ne KW.1 27 8 own_b3_5 (by decide) rfl (fun c5 => ?_) (fun c5 => ?_)
    · skip
      exfalso; omega
    · skip
      refine WP.aloadN KW.1 9 own_b3_8 rfl rfl rfl ?_
      have lo1 : @LT.lt Nat _ o _ := Fv.lt
      refine WP.ldcE (own_EW hw) KW 11 2 4 (hw _ (List.mem_of_getElem? (i := 19) rfl)) (own_strAtoms hw) (by simp [own_EL]) own_b3_9 rfl (Nat.zero_le _) HC rfl rfl (by decide) (by decide) (fun k1 h2 la1 vb1 KW4 E3 HC st5 hs6 X_la1 Fc_la1 Fv_la1 A_vb1 => ?_)
      have So := CHr.safe st5 lo1 So
      have ne1 := hs6 o So
      have Z0 : n0 ≤ (h2).size := Nat.le_trans Z0 E3.1
      have SS := SS.ext E3
      have Ex := Ex.ext E3
      have Fv := Fv.ext E3
      have Fc := Fc.ext E3
      have Kp := Kp.ext E3
      have SW : h2.size ≤ h2.size := Nat.le_refl _
      refine WP.getfield KW4.1 (host := "") 14 (Or.inl (hw _ (List.mem_of_getElem? (i := 25) rfl))) Via.refl Fv_la1 own_b3_11 rfl ?_
      refine WP.putfield KW4.1 (host := "") (a := o) 17 (Or.inl (hw _ (List.mem_of_getElem? (i := 25) rfl))) Via.refl Fv Ex (Or.inr ⟨(hw _ (List.mem_of_getElem? (i := 21) rfl)), rfl, rfl⟩) (hw _ (List.mem_of_getElem? (i := 6) rfl)) (ty := (.array .byte)) (by decide) rfl rfl own_b3_14 rfl n0_o (fun h7 W8 => ?_)
      have So' := Safe.wr W8 So HC.1 So
      have HC := HC.trans (CHr.wr W8 So HC.1)
      have So := So'
      have Z0 : n0 ≤ (h7).size := by rw [W8.size]; exact Z0
      have SS := SS.keep (Keep.of_wr W8) (kn1 (by omega))
      have Ex := Ex.wr W8
      have Fv := Fv.same W8
      have Fc := Fc.other W8 (Or.inr (slot_ne (Or.inr (hw _ (List.mem_of_getElem? (i := 22) rfl))) (Or.inr (hw _ (List.mem_of_getElem? (i := 21) rfl))) (by decide) (t := .byte) (t' := (.array .byte)) (by decide) (by decide)))
      have Kp := Kp.wr W8 (by first | (refine Or.inl ?_; simp; done) | (refine Or.inr ?_; omega))
      have X_la1 := X_la1.wr W8
      have Fc_la1 := Fc_la1.other W8 (Or.inl (ne_addr (by omega)))
      have Fv_la1 := Fv_la1.other W8 (Or.inl (ne_addr (by omega)))
      have A_vb1 := A_vb1.other W8 (ne_addr (by omega))
      have SW : h2.size ≤ (h7).size := by rw [W8.size]; exact SW
      refine WP.aloadN KW4.1 18 own_b3_17 rfl rfl rfl ?_
      have lo2 : @LT.lt Nat _ o _ := Fv.lt
      refine WP.ldcE (own_EW hw) KW4 20 4 8 (hw _ (List.mem_of_getElem? (i := 19) rfl)) (own_strAtoms hw) (by simp [own_EL]) own_b3_18 rfl SW HC rfl rfl (by decide) (by decide) (fun k9 h10 la2 vb2 KW12 E11 HC st13 hs14 X_la2 Fc_la2 Fv_la2 A_vb2 => ?_)
      have So := CHr.safe st13 lo2 So
      have ne2 := hs14 o So
      have Z0 : n0 ≤ (h10).size := Nat.le_trans Z0 E11.1
      have SS := SS.ext E11
      have Ex := Ex.ext E11
      have Fv := Fv.ext E11
      have Fc := Fc.ext E11
      have Kp := Kp.ext E11
      have X_la1 := X_la1.ext E11
      have Fc_la1 := Fc_la1.ext E11
      have Fv_la1 := Fv_la1.ext E11
      have A_vb1 := A_vb1.ext E11
      have SW : h10.size ≤ h10.size := Nat.le_refl _
      refine WP.getfield KW12.1 (host := "") 23 (Or.inl (hw _ (List.mem_of_getElem? (i := 26) rfl))) Via.refl Fc_la2 own_b3_20 rfl ?_
      refine WP.putfield KW12.1 (host := "") (a := o) 26 (Or.inl (hw _ (List.mem_of_getElem? (i := 26) rfl))) Via.refl Fc Ex (Or.inr ⟨(hw _ (List.mem_of_getElem? (i := 22) rfl)), rfl, rfl⟩) (hw _ (List.mem_of_getElem? (i := 6) rfl)) (ty := .byte) (by decide) rfl rfl own_b3_23 rfl n0_o (fun h15 W16 => ?_)
      have So' := Safe.wr W16 So HC.1 So
      have HC := HC.trans (CHr.wr W16 So HC.1)
      have So := So'
      have Z0 : n0 ≤ (h15).size := by rw [W16.size]; exact Z0
      have SS := SS.keep (Keep.of_wr W16) (kn1 (by omega))
      have Ex := Ex.wr W16
      have Fv := Fv.other W16 (Or.inr (slot_ne (Or.inr (hw _ (List.mem_of_getElem? (i := 21) rfl))) (Or.inr (hw _ (List.mem_of_getElem? (i := 22) rfl))) (by decide) (t := (.array .byte)) (t' := .byte) (by decide) (by decide)))
      have Fc := Fc.same W16
      have Kp := Kp.wr W16 (by first | (refine Or.inl ?_; simp; done) | (refine Or.inr ?_; omega))
      have X_la1 := X_la1.wr W16
      have Fc_la1 := Fc_la1.other W16 (Or.inl (ne_addr (by omega)))
      have Fv_la1 := Fv_la1.other W16 (Or.inl (ne_addr (by omega)))
      have A_vb1 := A_vb1.other W16 (ne_addr (by omega))
      have X_la2 := X_la2.wr W16
      have Fc_la2 := Fc_la2.other W16 (Or.inl (ne_addr (by omega)))
      have Fv_la2 := Fv_la2.other W16 (Or.inl (ne_addr (by omega)))
      have A_vb2 := A_vb2.other W16 (ne_addr (by omega))
      have SW : h10.size ≤ (h15).size := by rw [W16.size]; exact SW
      refine WP.retV KW12.1 rfl own_b3_26 ?_ (by decide) (by decide)
      exact ⟨⟨rfl, Kp, vb1, _, _, Ex, Fv, Fc, A_vb1, hrg, hle, Or.inl ⟨rfl, lat_nil⟩⟩, SW, HC⟩
  · skip
    have hpos : 1 ≤ xs.length := by
      cases xs with
      | nil => exact absurd rfl hN
      | cons a as => simp
    refine WP.aloadN KW.1 1 own_b3_0 rfl rfl rfl ?_
    refine WP.initO KW.1 4 0 (hw _ (List.mem_of_getElem? (i := 16) rfl)) (hw _ (List.mem_of_getElem? (i := 17) rfl)) (hw _ (List.mem_of_getElem? (i := 18) rfl)) own_b3_1 rfl rfl (by decide) (Nat.le_of_eq rfl) (by decide) ?_
    refine WP.iloadN KW.1 5 own_b3_4 rfl rfl ?_
    refine WP.if_ne KW.1 27 8 own_b3_5 (by decide) rfl (fun c5 => ?_) (fun c5 => ?_)
    · skip
      refine WP.getstatic KW.1 30 (hw _ (List.mem_of_getElem? (i := 77) rfl)) Via.refl SS.1.sta own_b3_27 rfl ?_
      refine WP.if_eq KW.1 58 33 own_b3_30 (by decide) rfl (fun c30 => ?_) (fun c30 => ?_)
      · skip
        exfalso; omega
      · skip
        refine WP.aloadN KW.1 34 own_b3_33 rfl rfl rfl ?_
        refine WP.iloadN KW.1 35 own_b3_34 rfl rfl ?_
        refine WP.iloadN KW.1 36 own_b3_35 rfl rfl ?_
        refine WP.callS KW.1 39 2 6 0 [(.ref x), (.int (0 : Int32)), (.int n)] [] (hw _ (List.mem_of_getElem? (i := 146) rfl)) (hw _ (List.mem_of_getElem? (i := 147) rfl)) (hw _ (List.mem_of_getElem? (i := 148) rfl)) (hw _ (List.mem_of_getElem? (i := 149) rfl)) (by decide) own_pd_11 rfl rfl rfl (by decide) (by decide) (Nat.le_of_eq rfl) rfl own_b3_36 rfl rfl rfl (by decide) (by decide) (own_comp3 l Z a0 hw n0 h x n xs A_x hn hle Z0 cs fm SS) (r1_next fun r19 h17 q18 => ?_)
        obtain ⟨vb, bs, rfl, Kc, sz_vb, A_vb, hLU⟩ := q18
        have l_o_vb : @LT.lt Nat _ o vb := Nat.lt_of_lt_of_le Ex.lt sz_vb
        have l_x_vb : @LT.lt Nat _ x vb := Nat.lt_of_lt_of_le A_x.lt sz_vb
        have n0_vb : @LE.le Nat _ n0 vb := Nat.le_trans Z0 sz_vb
        have So' := Safe.keep Kc safe0 HC.1 So
        have HC := HC.trans (CHr.keep Kc safe0 HC.1)
        have So := So'
        have Z0 : n0 ≤ (h17).size := Nat.le_trans Z0 Kc.1
        have SS := SS.keep Kc (kn0)
        have Ex := Ex.keep Kc
        have Fv := Fv.keep Kc (nm0 (by omega))
        have Fc := Fc.keep Kc (nm0 (by omega))
        have Kp := Kp.trans Kc (ks0 )
        have A_x := A_x.keep Kc (nm0 (by omega))
        have hbl : xs.length ≤ bs.length := by rcases hLU with q | q <;> have := q.1 <;> omega
        refine WP.astore KW.1 41 [.val (.ref o), .val (.ref x), .val (.int (0 : Int32)), .val (.int n), .val .null, .val (.ref vb)] own_b3_39 rfl rfl rfl ?_
        refine WP.aloadN KW.1 42 own_b3_41 rfl rfl rfl ?_
        refine WP.aload KW.1 44 own_b3_42 rfl rfl rfl ?_
        refine WP.iloadN KW.1 45 own_b3_44 rfl rfl ?_
        refine WP.callS KW.1 48 2 6 1 [(.ref vb), (.int n)] [(.ref o)] (hw _ (List.mem_of_getElem? (i := 153) rfl)) (hw _ (List.mem_of_getElem? (i := 154) rfl)) (hw _ (List.mem_of_getElem? (i := 148) rfl)) (hw _ (List.mem_of_getElem? (i := 155) rfl)) (by decide) own_pd_12 rfl rfl rfl (by decide) (by decide) (Nat.le_of_eq rfl) rfl own_b3_45 rfl rfl rfl (by decide) (by decide) (own_coder l Z a0 hw n0 h17 vb n xs.length bs A_vb hn hbl) (r1_next fun r22 h20 q21 => ?_)
        obtain ⟨⟨zc, rfl, hz0, hz1⟩, rfl⟩ := q21
        have hz : (zc = 0 ∧ Lat bs xs) ∨ (zc = 1 ∧ Utf bs xs) := by
          rcases hLU with q | q
          · exact Or.inl ⟨hz0 q.1, q⟩
          · exact Or.inr ⟨hz1 (by have := q.1; omega), q⟩
        refine WP.putfield KW.1 (host := "") (a := o) 51 (Or.inl (hw _ (List.mem_of_getElem? (i := 26) rfl))) Via.refl Fc Ex (Or.inr ⟨(hw _ (List.mem_of_getElem? (i := 22) rfl)), rfl, rfl⟩) (hw _ (List.mem_of_getElem? (i := 6) rfl)) (ty := .byte) (by decide) (by rcases hz with ⟨rfl, -⟩ | ⟨rfl, -⟩ <;> rfl) (by rcases hz with ⟨rfl, -⟩ | ⟨rfl, -⟩ <;> rfl) own_b3_48 rfl n0_o (fun h23 W24 => ?_)
        have So' := Safe.wr W24 So HC.1 So
        have HC := HC.trans (CHr.wr W24 So HC.1)
        have So := So'
        have Z0 : n0 ≤ (h23).size := by rw [W24.size]; exact Z0
        have SS := SS.keep (Keep.of_wr W24) (kn1 (by omega))
        have Ex := Ex.wr W24
        have Fv := Fv.other W24 (Or.inr (slot_ne (Or.inr (hw _ (List.mem_of_getElem? (i := 21) rfl))) (Or.inr (hw _ (List.mem_of_getElem? (i := 22) rfl))) (by decide) (t := (.array .byte)) (t' := .byte) (by decide) (by decide)))
        have Fc := Fc.same W24
        have Kp := Kp.wr W24 (by first | (refine Or.inl ?_; simp; done) | (refine Or.inr ?_; omega))
        have A_x := A_x.other W24 (ne_addr (by omega))
        have A_vb := A_vb.other W24 (ne_addr (by omega))
        refine WP.aloadN KW.1 52 own_b3_51 rfl rfl rfl ?_
        refine WP.aload KW.1 54 own_b3_52 rfl rfl rfl ?_
        refine WP.putfield KW.1 (host := "") (a := o) 57 (Or.inl (hw _ (List.mem_of_getElem? (i := 25) rfl))) Via.refl Fv Ex (Or.inr ⟨(hw _ (List.mem_of_getElem? (i := 21) rfl)), rfl, rfl⟩) (hw _ (List.mem_of_getElem? (i := 6) rfl)) (ty := (.array .byte)) (by decide) rfl rfl own_b3_54 rfl n0_o (fun h25 W26 => ?_)
        have So' := Safe.wr W26 So HC.1 So
        have HC := HC.trans (CHr.wr W26 So HC.1)
        have So := So'
        have Z0 : n0 ≤ (h25).size := by rw [W26.size]; exact Z0
        have SS := SS.keep (Keep.of_wr W26) (kn1 (by omega))
        have Ex := Ex.wr W26
        have Fv := Fv.same W26
        have Fc := Fc.other W26 (Or.inr (slot_ne (Or.inr (hw _ (List.mem_of_getElem? (i := 22) rfl))) (Or.inr (hw _ (List.mem_of_getElem? (i := 21) rfl))) (by decide) (t := .byte) (t' := (.array .byte)) (by decide) (by decide)))
        have Kp := Kp.wr W26 (by first | (refine Or.inl ?_; simp; done) | (refine Or.inr ?_; omega))
        have A_x := A_x.other W26 (ne_addr (by omega))
        have A_vb := A_vb.other W26 (ne_addr (by omega))
        refine WP.retV KW.1 rfl own_b3_57 ?_ (by decide) (by decide)
        exact ⟨⟨rfl, Kp, vb, _, _, Ex, Fv, Fc, A_vb, hrg, hle, hz⟩, Nat.zero_le _, HC⟩
    · skip
      exfalso; omega
theorem own_b2_0 : decode jdk_42_method_3_code 0 = .ok (.aload_n 0, 1) := by decide +kernel
theorem own_b2_1 : decode jdk_42_method_3_code 1 = .ok (.aload_n 1, 1) := by decide +kernel
theorem own_b2_2 : decode jdk_42_method_3_code 2 = .ok (.iconst 0, 1) := by decide +kernel
theorem own_b2_3 : decode jdk_42_method_3_code 3 = .ok (.aload_n 1, 1) := by decide +kernel
theorem own_b2_4 : decode jdk_42_method_3_code 4 = .ok (.arraylength, 1) := by decide +kernel
theorem own_b2_5 : decode jdk_42_method_3_code 5 = .ok (.aconst_null, 1) := by decide +kernel
theorem own_b2_6 : decode jdk_42_method_3_code 6 = .ok (.invokespecial 27, 3) := by decide +kernel
theorem own_b2_9 : decode jdk_42_method_3_code 9 = .ok (.return_, 1) := by decide +kernel
theorem own_pf_b2 : plainFor (⟨"java/lang/String", "<init>", "([C)V"⟩ : MethodName) = true := by first | exact plainFor_of_name (by first | (simp [plainName, overriddenIn, x]; done) | decide +kernel) | decide +kernel
theorem own_pd_13 : parseMethodDescriptor "([CIILjava/lang/Void;)V" = some ⟨[(.array .char), .int, .int, (.object "java/lang/Void")], none⟩ := by decide +kernel
set_option maxRecDepth 65536 in
set_option maxHeartbeats 40000000 in
theorem own_str1 (l : Launch) (Z : State) (a0 : Array Value) (hw : ∀ d ∈ tables_1, d.before a0 Z = true) (n0 : Nat) (h : Heap) (o x : Nat) (xs : List Int32) (A_x : ArC Z h x xs) (hle : xs.length ≤ 2) (Ex : Exa Z h o "java/lang/String") (Fv : Fld Z h o "java/lang/String" "value" "[B" .null) (Fc : Fld Z h o "java/lang/String" "coder" "B" (.int (0 : Int32))) (n0_o : n0 ≤ o) (Z0 : n0 ≤ h.size) (cs : Int32) (fm : Value) (SS : STS Z h n0 cs fm) (ne : o ≠ x) :
    ConH l Z own_EL (⟨"java/lang/String", "<init>", "([C)V"⟩ : MethodName) jdk_42_method_3_code 2 none ({ frames := 5, cells := 4, slots := 8, locals := 74 } : Room) n0 #[(.ref o), (.ref x)] h (R0 fun h' => Keep h h' [o] ∧ ∃ vb, Str Z h' o vb xs) := by
  refine ConH.of (own_EW hw) (ls := [.val (.ref o), .val (.ref x)]) own_pf_b2 (fun m => by first | (simp [entryFrame, mkF, argsToLocals, Value.category]; done) | rfl) fun k s0 KW HC => ?_
  have k_0 : (0 : Int32).toInt = 0 := rfl
  obtain ⟨zn, hzn⟩ := i32_of A_x.len
  refine WP.aloadN KW.1 1 own_b2_0 rfl rfl rfl ?_
  refine WP.aloadN KW.1 2 own_b2_1 rfl rfl rfl ?_
  refine WP.iconst KW.1 (0 : Int32) 3 own_b2_2 rfl rfl ?_
  refine WP.aloadN KW.1 4 own_b2_3 rfl rfl rfl ?_
  refine WP.arraylength KW.1 zn 5 A_x (by rw [hzn]; simp) own_b2_4 rfl ?_
  refine WP.aconstNull KW.1 6 own_b2_5 rfl ?_
  refine WP.callIH (own_EW hw) KW (a := o) 9 4 8 0 [(.ref x), (.int (0 : Int32)), (.int zn), .null] [] (hw _ (List.mem_of_getElem? (i := 12) rfl)) (hw _ (List.mem_of_getElem? (i := 13) rfl)) (hw _ (List.mem_of_getElem? (i := 7) rfl)) (hw _ (List.mem_of_getElem? (i := 15) rfl)) rfl (by decide) own_pd_13 rfl rfl rfl (by decide) (by decide) (Nat.le_of_eq rfl) rfl own_b2_6 rfl rfl rfl (by decide) (by decide) (Nat.zero_le _) HC (own_str4 l Z a0 hw n0 h o x xs A_x hle Ex Fv Fc n0_o Z0 cs fm SS ne zn hzn) (h0_next (fun k4 h1 KW5 sz6 HC q2 => ?_))
  have SW : h1.size ≤ h1.size := Nat.le_refl _
  obtain ⟨Kc, vb, HS⟩ := q2
  refine WP.retV KW5.1 rfl own_b2_9 ?_ (by decide) (by decide)
  exact ⟨⟨rfl, Kc, vb, HS⟩, SW, HC⟩
theorem own_b1_0 : decode method_2_code 0 = .ok (.iload_n 0, 1) := by decide +kernel
theorem own_b1_1 : decode method_2_code 1 = .ok (.ifCond .ne 14, 3) := by decide +kernel
theorem own_b1_4 : decode method_2_code 4 = .ok (.new 7, 3) := by decide +kernel
theorem own_b1_7 : decode method_2_code 7 = .ok (.dup, 1) := by decide +kernel
theorem own_b1_8 : decode method_2_code 8 = .ok (.iconst 0, 1) := by decide +kernel
theorem own_b1_9 : decode method_2_code 9 = .ok (.newarray .char, 2) := by decide +kernel
theorem own_b1_11 : decode method_2_code 11 = .ok (.invokespecial 9, 3) := by decide +kernel
theorem own_b1_14 : decode method_2_code 14 = .ok (.areturn, 1) := by decide +kernel
theorem own_b1_15 : decode method_2_code 15 = .ok (.iload_n 0, 1) := by decide +kernel
theorem own_b1_16 : decode method_2_code 16 = .ok (.iconst 1, 1) := by decide +kernel
theorem own_b1_17 : decode method_2_code 17 = .ok (.if_icmp .ne 18, 3) := by decide +kernel
theorem own_b1_20 : decode method_2_code 20 = .ok (.new 7, 3) := by decide +kernel
theorem own_b1_23 : decode method_2_code 23 = .ok (.dup, 1) := by decide +kernel
theorem own_b1_24 : decode method_2_code 24 = .ok (.iconst 1, 1) := by decide +kernel
theorem own_b1_25 : decode method_2_code 25 = .ok (.newarray .char, 2) := by decide +kernel
theorem own_b1_27 : decode method_2_code 27 = .ok (.dup, 1) := by decide +kernel
theorem own_b1_28 : decode method_2_code 28 = .ok (.iconst 0, 1) := by decide +kernel
theorem own_b1_29 : decode method_2_code 29 = .ok (.iload_n 1, 1) := by decide +kernel
theorem own_b1_30 : decode method_2_code 30 = .ok (.castore, 1) := by decide +kernel
theorem own_b1_31 : decode method_2_code 31 = .ok (.invokespecial 9, 3) := by decide +kernel
theorem own_b1_34 : decode method_2_code 34 = .ok (.areturn, 1) := by decide +kernel
theorem own_b1_35 : decode method_2_code 35 = .ok (.new 7, 3) := by decide +kernel
theorem own_b1_38 : decode method_2_code 38 = .ok (.dup, 1) := by decide +kernel
theorem own_b1_39 : decode method_2_code 39 = .ok (.iconst 2, 1) := by decide +kernel
theorem own_b1_40 : decode method_2_code 40 = .ok (.newarray .char, 2) := by decide +kernel
theorem own_b1_42 : decode method_2_code 42 = .ok (.dup, 1) := by decide +kernel
theorem own_b1_43 : decode method_2_code 43 = .ok (.iconst 0, 1) := by decide +kernel
theorem own_b1_44 : decode method_2_code 44 = .ok (.iload_n 1, 1) := by decide +kernel
theorem own_b1_45 : decode method_2_code 45 = .ok (.castore, 1) := by decide +kernel
theorem own_b1_46 : decode method_2_code 46 = .ok (.dup, 1) := by decide +kernel
theorem own_b1_47 : decode method_2_code 47 = .ok (.iconst 1, 1) := by decide +kernel
theorem own_b1_48 : decode method_2_code 48 = .ok (.iload_n 2, 1) := by decide +kernel
theorem own_b1_49 : decode method_2_code 49 = .ok (.castore, 1) := by decide +kernel
theorem own_b1_50 : decode method_2_code 50 = .ok (.invokespecial 9, 3) := by decide +kernel
theorem own_b1_53 : decode method_2_code 53 = .ok (.areturn, 1) := by decide +kernel
theorem own_pf_b1 : plainFor (⟨"com/example/vestline/vestline/util/KeptTextsForgetLastPinLaw", "text", "(ICC)Ljava/lang/String;"⟩ : MethodName) = true := by first | exact plainFor_of_name (by first | (simp [plainName, overriddenIn, x]; done) | decide +kernel) | decide +kernel
theorem own_pd_14 : parseMethodDescriptor "([C)V" = some ⟨[(.array .char)], none⟩ := by decide +kernel
set_option maxRecDepth 65536 in
set_option maxHeartbeats 40000000 in
theorem own_text (l : Launch) (Z : State) (a0 : Array Value) (hw : ∀ d ∈ tables_1, d.before a0 Z = true) (n0 : Nat) (h : Heap) (len g0 g1 : Int32) (L : Nat) (hL : len.toInt = (L : Nat)) (hL2 : L ≤ 2) (hg0 : 0 ≤ g0.toInt ∧ g0.toInt ≤ 65535) (hg1 : 0 ≤ g1.toInt ∧ g1.toInt ≤ 65535) (Z0 : n0 ≤ h.size) (cs : Int32) (fm : Value) (SS : STS Z h n0 cs fm) :
    ConH l Z own_EL (⟨"com/example/vestline/vestline/util/KeptTextsForgetLastPinLaw", "text", "(ICC)Ljava/lang/String;"⟩ : MethodName) method_2_code 3 (some (.object "java/lang/String")) ({ frames := 6, cells := 6, slots := 14, locals := 88 } : Room) n0 #[(.int len), (.int g0), (.int g1)] h (R1 fun r h' => ∃ o vb : Nat, r = .ref o ∧ Str Z h' o vb ([g0, g1].take L) ∧ Keep h h' [] ∧ h.size ≤ o) := by
  refine ConH.of (own_EW hw) (ls := [.val (.int len), .val (.int g0), .val (.int g1)]) own_pf_b1 (fun m => by first | (simp [entryFrame, mkF, argsToLocals, Value.category]; done) | rfl) fun k s0 KW HC => ?_
  have k_0 : (0 : Int32).toInt = 0 := rfl
  have k_1 : (1 : Int32).toInt = 1 := rfl
  have k_2 : (2 : Int32).toInt = 2 := rfl
  have Kp := Keep.refl h []
  rcases (show L = 0 ∨ L = 1 ∨ L = 2 by omega) with rfl | rfl | rfl
  · skip
    refine WP.iloadN KW.1 1 own_b1_0 rfl rfl ?_
    refine WP.if_ne KW.1 15 4 own_b1_1 (by decide) rfl (fun c1 => ?_) (fun c1 => ?_)
    · skip
      exfalso; omega
    · skip
      refine WP.new KW.1 7 1 4 (hw _ (List.mem_of_getElem? (i := 5) rfl)) (hw _ (List.mem_of_getElem? (i := 6) rfl)) (hw _ (List.mem_of_getElem? (i := 7) rfl)) own_b1_4 rfl rfl rfl (by decide) (by decide) (fun h1 o z_o E2 X_o D3 => ?_)
      have n0_o : @LE.le Nat _ n0 o := z_o ▸ Z0
      have HC := HC.trans (CHr.ext E2 HC.1)
      have Z0 : n0 ≤ (h1).size := Nat.le_trans Z0 E2.1
      have SS := SS.ext E2
      have Kp := Kp.ext E2
      have F_value_o : Fld Z h1 o "java/lang/String" "value" "[B" .null := D3 (Or.inr (hw _ (List.mem_of_getElem? (i := 21) rfl))) (ty := (.array .byte)) (by decide)
      have F_coder_o : Fld Z h1 o "java/lang/String" "coder" "B" (.int (0 : Int32)) := D3 (Or.inr (hw _ (List.mem_of_getElem? (i := 22) rfl))) (ty := .byte) (by decide)
      refine WP.dup KW.1 8 own_b1_7 rfl rfl ?_
      refine WP.iconst KW.1 (0 : Int32) 9 own_b1_8 rfl rfl ?_
      refine WP.newarray KW.1 11 0 0 2 4 (hw _ (List.mem_of_getElem? (i := 8) rfl)) own_b1_9 rfl rfl (Nat.le_refl _) (by decide) rfl rfl (by decide) (by decide) (fun h4 x z_x E5 V6 => ?_)
      have l_o_x : @LT.lt Nat _ o x := z_x ▸ X_o.lt
      have n0_x : @LE.le Nat _ n0 x := z_x ▸ Z0
      have HC := HC.trans (CHr.ext E5 HC.1)
      have Z0 : n0 ≤ (h4).size := Nat.le_trans Z0 E5.1
      have SS := SS.ext E5
      have Kp := Kp.ext E5
      have X_o := X_o.ext E5
      have F_value_o := F_value_o.ext E5
      have F_coder_o := F_coder_o.ext E5
      have A_x := ArC.of_new V6
      have A_x : ArC Z h4 x [] := A_x
      have Sx := safeC (EL := own_EL) KW.1.hZ.alike A_x
      refine WP.callIH (own_EW hw) KW (a := o) 14 6 12 1 [(.ref x)] [(.ref o)] (hw _ (List.mem_of_getElem? (i := 9) rfl)) (hw _ (List.mem_of_getElem? (i := 10) rfl)) (hw _ (List.mem_of_getElem? (i := 7) rfl)) (hw _ (List.mem_of_getElem? (i := 11) rfl)) rfl (by decide) own_pd_14 rfl rfl rfl (by decide) (by decide) (Nat.le_of_eq rfl) rfl own_b1_11 rfl rfl rfl (by decide) (by decide) (Nat.zero_le _) HC (own_str1 l Z a0 hw n0 h4 o x [] A_x (by simp) X_o F_value_o F_coder_o n0_o Z0 cs fm SS (by omega)) (h0_next (fun k10 h7 KW11 sz12 HC q8 => ?_))
      obtain ⟨Kc, vb, HS⟩ := q8
      have Kp := Kp.trans Kc (ks1 (by first | (refine Or.inl ?_; simp; done) | (refine Or.inr ?_; omega)))
      have SW : h7.size ≤ h7.size := Nat.le_refl _
      refine WP.aret KW11.1 rfl rfl rfl rfl own_b1_14 ?_ (by decide) (by decide)
      exact ⟨⟨_, rfl, o, vb, rfl, HS, Kp, Nat.le_of_eq z_o.symm⟩, SW, HC⟩
  · skip
    refine WP.iloadN KW.1 1 own_b1_0 rfl rfl ?_
    refine WP.if_ne KW.1 15 4 own_b1_1 (by decide) rfl (fun c1 => ?_) (fun c1 => ?_)
    · skip
      refine WP.iloadN KW.1 16 own_b1_15 rfl rfl ?_
      refine WP.iconst KW.1 (1 : Int32) 17 own_b1_16 rfl rfl ?_
      refine WP.icmp_ne KW.1 35 20 own_b1_17 (by decide) rfl (fun c17 => ?_) (fun c17 => ?_)
      · skip
        exfalso; omega
      · skip
        refine WP.new KW.1 23 1 4 (hw _ (List.mem_of_getElem? (i := 5) rfl)) (hw _ (List.mem_of_getElem? (i := 6) rfl)) (hw _ (List.mem_of_getElem? (i := 7) rfl)) own_b1_20 rfl rfl rfl (by decide) (by decide) (fun h13 o z_o E14 X_o D15 => ?_)
        have n0_o : @LE.le Nat _ n0 o := z_o ▸ Z0
        have HC := HC.trans (CHr.ext E14 HC.1)
        have Z0 : n0 ≤ (h13).size := Nat.le_trans Z0 E14.1
        have SS := SS.ext E14
        have Kp := Kp.ext E14
        have F_value_o : Fld Z h13 o "java/lang/String" "value" "[B" .null := D15 (Or.inr (hw _ (List.mem_of_getElem? (i := 21) rfl))) (ty := (.array .byte)) (by decide)
        have F_coder_o : Fld Z h13 o "java/lang/String" "coder" "B" (.int (0 : Int32)) := D15 (Or.inr (hw _ (List.mem_of_getElem? (i := 22) rfl))) (ty := .byte) (by decide)
        refine WP.dup KW.1 24 own_b1_23 rfl rfl ?_
        refine WP.iconst KW.1 (1 : Int32) 25 own_b1_24 rfl rfl ?_
        refine WP.newarray KW.1 27 1 1 2 5 (hw _ (List.mem_of_getElem? (i := 8) rfl)) own_b1_25 rfl rfl (Nat.le_refl _) (by decide) rfl rfl (by decide) (by decide) (fun h16 x z_x E17 V18 => ?_)
        have l_o_x : @LT.lt Nat _ o x := z_x ▸ X_o.lt
        have n0_x : @LE.le Nat _ n0 x := z_x ▸ Z0
        have HC := HC.trans (CHr.ext E17 HC.1)
        have Z0 : n0 ≤ (h16).size := Nat.le_trans Z0 E17.1
        have SS := SS.ext E17
        have Kp := Kp.ext E17
        have X_o := X_o.ext E17
        have F_value_o := F_value_o.ext E17
        have F_coder_o := F_coder_o.ext E17
        have A_x := ArC.of_new V18
        have A_x : ArC Z h16 x [(0 : Int32)] := A_x
        have Sx := safeC (EL := own_EL) KW.1.hZ.alike A_x
        refine WP.dup KW.1 28 own_b1_27 rfl rfl ?_
        refine WP.iconst KW.1 (0 : Int32) 29 own_b1_28 rfl rfl ?_
        refine WP.iloadN KW.1 30 own_b1_29 rfl rfl ?_
        refine WP.castore KW.1 31 0 A_x rfl (by simp) own_b1_30 rfl n0_x (fun h19 K20 A_x => ?_)
        have Sx' := Safe.keep K20 (safe1 Sx) HC.1 Sx
        have HC := HC.trans (CHr.keep K20 (safe1 Sx) HC.1)
        have Sx := Sx'
        have Z0 : n0 ≤ (h19).size := Nat.le_trans Z0 K20.1
        have SS := SS.keep K20 (kn1 (by omega))
        have Kp := Kp.trans K20 (ks1 (by first | (refine Or.inl ?_; simp; done) | (refine Or.inr ?_; omega)))
        have X_o := X_o.keep K20
        have F_value_o := F_value_o.keep K20 (nm1 (by omega))
        have F_coder_o := F_coder_o.keep K20 (nm1 (by omega))
        have A_x : ArC Z h19 x [(c16 g0)] := A_x
        rw [c16_id hg0] at A_x
        refine WP.callIH (own_EW hw) KW (a := o) 34 6 13 1 [(.ref x)] [(.ref o)] (hw _ (List.mem_of_getElem? (i := 9) rfl)) (hw _ (List.mem_of_getElem? (i := 10) rfl)) (hw _ (List.mem_of_getElem? (i := 7) rfl)) (hw _ (List.mem_of_getElem? (i := 11) rfl)) rfl (by decide) own_pd_14 rfl rfl rfl (by decide) (by decide) (Nat.le_of_eq rfl) rfl own_b1_31 rfl rfl rfl (by decide) (by decide) (Nat.zero_le _) HC (own_str1 l Z a0 hw n0 h19 o x [g0] A_x (by simp) X_o F_value_o F_coder_o n0_o Z0 cs fm SS (by omega)) (h0_next (fun k24 h21 KW25 sz26 HC q22 => ?_))
        obtain ⟨Kc, vb, HS⟩ := q22
        have Kp := Kp.trans Kc (ks1 (by first | (refine Or.inl ?_; simp; done) | (refine Or.inr ?_; omega)))
        have SW : h21.size ≤ h21.size := Nat.le_refl _
        refine WP.aret KW25.1 rfl rfl rfl rfl own_b1_34 ?_ (by decide) (by decide)
        exact ⟨⟨_, rfl, o, vb, rfl, HS, Kp, Nat.le_of_eq z_o.symm⟩, SW, HC⟩
    · skip
      exfalso; omega
  · skip
    refine WP.iloadN KW.1 1 own_b1_0 rfl rfl ?_
    refine WP.if_ne KW.1 15 4 own_b1_1 (by decide) rfl (fun c1 => ?_) (fun c1 => ?_)
    · skip
      refine WP.iloadN KW.1 16 own_b1_15 rfl rfl ?_
      refine WP.iconst KW.1 (1 : Int32) 17 own_b1_16 rfl rfl ?_
      refine WP.icmp_ne KW.1 35 20 own_b1_17 (by decide) rfl (fun c17 => ?_) (fun c17 => ?_)
      · skip
        refine WP.new KW.1 38 1 4 (hw _ (List.mem_of_getElem? (i := 5) rfl)) (hw _ (List.mem_of_getElem? (i := 6) rfl)) (hw _ (List.mem_of_getElem? (i := 7) rfl)) own_b1_35 rfl rfl rfl (by decide) (by decide) (fun h27 o z_o E28 X_o D29 => ?_)
        have n0_o : @LE.le Nat _ n0 o := z_o ▸ Z0
        have HC := HC.trans (CHr.ext E28 HC.1)
        have Z0 : n0 ≤ (h27).size := Nat.le_trans Z0 E28.1
        have SS := SS.ext E28
        have Kp := Kp.ext E28
        have F_value_o : Fld Z h27 o "java/lang/String" "value" "[B" .null := D29 (Or.inr (hw _ (List.mem_of_getElem? (i := 21) rfl))) (ty := (.array .byte)) (by decide)
        have F_coder_o : Fld Z h27 o "java/lang/String" "coder" "B" (.int (0 : Int32)) := D29 (Or.inr (hw _ (List.mem_of_getElem? (i := 22) rfl))) (ty := .byte) (by decide)
        refine WP.dup KW.1 39 own_b1_38 rfl rfl ?_
        refine WP.iconst KW.1 (2 : Int32) 40 own_b1_39 rfl rfl ?_
        refine WP.newarray KW.1 42 2 2 2 6 (hw _ (List.mem_of_getElem? (i := 8) rfl)) own_b1_40 rfl rfl (Nat.le_refl _) (by decide) rfl rfl (by decide) (by decide) (fun h30 x z_x E31 V32 => ?_)
        have l_o_x : @LT.lt Nat _ o x := z_x ▸ X_o.lt
        have n0_x : @LE.le Nat _ n0 x := z_x ▸ Z0
        have HC := HC.trans (CHr.ext E31 HC.1)
        have Z0 : n0 ≤ (h30).size := Nat.le_trans Z0 E31.1
        have SS := SS.ext E31
        have Kp := Kp.ext E31
        have X_o := X_o.ext E31
        have F_value_o := F_value_o.ext E31
        have F_coder_o := F_coder_o.ext E31
        have A_x := ArC.of_new V32
        have A_x : ArC Z h30 x [(0 : Int32), (0 : Int32)] := A_x
        have Sx := safeC (EL := own_EL) KW.1.hZ.alike A_x
        refine WP.dup KW.1 43 own_b1_42 rfl rfl ?_
        refine WP.iconst KW.1 (0 : Int32) 44 own_b1_43 rfl rfl ?_
        refine WP.iloadN KW.1 45 own_b1_44 rfl rfl ?_
        refine WP.castore KW.1 46 0 A_x rfl (by simp) own_b1_45 rfl n0_x (fun h33 K34 A_x => ?_)
        have Sx' := Safe.keep K34 (safe1 Sx) HC.1 Sx
        have HC := HC.trans (CHr.keep K34 (safe1 Sx) HC.1)
        have Sx := Sx'
        have Z0 : n0 ≤ (h33).size := Nat.le_trans Z0 K34.1
        have SS := SS.keep K34 (kn1 (by omega))
        have Kp := Kp.trans K34 (ks1 (by first | (refine Or.inl ?_; simp; done) | (refine Or.inr ?_; omega)))
        have X_o := X_o.keep K34
        have F_value_o := F_value_o.keep K34 (nm1 (by omega))
        have F_coder_o := F_coder_o.keep K34 (nm1 (by omega))
        have A_x : ArC Z h33 x [(c16 g0), (0 : Int32)] := A_x
        refine WP.dup KW.1 47 own_b1_46 rfl rfl ?_
        refine WP.iconst KW.1 (1 : Int32) 48 own_b1_47 rfl rfl ?_
        refine WP.iloadN KW.1 49 own_b1_48 rfl rfl ?_
        refine WP.castore KW.1 50 1 A_x rfl (by simp) own_b1_49 rfl n0_x (fun h35 K36 A_x => ?_)
        have Sx' := Safe.keep K36 (safe1 Sx) HC.1 Sx
        have HC := HC.trans (CHr.keep K36 (safe1 Sx) HC.1)
        have Sx := Sx'
        have Z0 : n0 ≤ (h35).size := Nat.le_trans Z0 K36.1
        have SS := SS.keep K36 (kn1 (by omega))
        have Kp := Kp.trans K36 (ks1 (by first | (refine Or.inl ?_; simp; done) | (refine Or.inr ?_; omega)))
        have X_o := X_o.keep K36
        have F_value_o := F_value_o.keep K36 (nm1 (by omega))
        have F_coder_o := F_coder_o.keep K36 (nm1 (by omega))
        have A_x : ArC Z h35 x [(c16 g0), (c16 g1)] := A_x
        rw [c16_id hg0, c16_id hg1] at A_x
        refine WP.callIH (own_EW hw) KW (a := o) 53 6 14 1 [(.ref x)] [(.ref o)] (hw _ (List.mem_of_getElem? (i := 9) rfl)) (hw _ (List.mem_of_getElem? (i := 10) rfl)) (hw _ (List.mem_of_getElem? (i := 7) rfl)) (hw _ (List.mem_of_getElem? (i := 11) rfl)) rfl (by decide) own_pd_14 rfl rfl rfl (by decide) (by decide) (Nat.le_of_eq rfl) rfl own_b1_50 rfl rfl rfl (by decide) (by decide) (Nat.zero_le _) HC (own_str1 l Z a0 hw n0 h35 o x [g0, g1] A_x (by simp) X_o F_value_o F_coder_o n0_o Z0 cs fm SS (by omega)) (h0_next (fun k40 h37 KW41 sz42 HC q38 => ?_))
        obtain ⟨Kc, vb, HS⟩ := q38
        have Kp := Kp.trans Kc (ks1 (by first | (refine Or.inl ?_; simp; done) | (refine Or.inr ?_; omega)))
        have SW : h37.size ≤ h37.size := Nat.le_refl _
        refine WP.aret KW41.1 rfl rfl rfl rfl own_b1_53 ?_ (by decide) (by decide)
        exact ⟨⟨_, rfl, o, vb, rfl, HS, Kp, Nat.le_of_eq z_o.symm⟩, SW, HC⟩
      · skip
        exfalso; omega
    · skip
      exfalso; omega
theorem own_b6_0 : decode jdk_29_method_69_code 0 = .ok (.iload_n 0, 1) := by decide +kernel
theorem own_b6_1 : decode jdk_29_method_69_code 1 = .ok (.iload_n 1, 1) := by decide +kernel
theorem own_b6_2 : decode jdk_29_method_69_code 2 = .ok (.if_icmp .gt 7, 3) := by decide +kernel
theorem own_b6_5 : decode jdk_29_method_69_code 5 = .ok (.iload_n 0, 1) := by decide +kernel
theorem own_b6_6 : decode jdk_29_method_69_code 6 = .ok (.goto 4, 3) := by decide +kernel
theorem own_b6_9 : decode jdk_29_method_69_code 9 = .ok (.iload_n 1, 1) := by decide +kernel
theorem own_b6_10 : decode jdk_29_method_69_code 10 = .ok (.ireturn, 1) := by decide +kernel
theorem own_pf_b6 : plainFor (⟨"java/lang/Math", "min", "(II)I"⟩ : MethodName) = true := by first | exact plainFor_of_name (by first | (simp [plainName, overriddenIn, x]; done) | decide +kernel) | decide +kernel
set_option maxRecDepth 65536 in
set_option maxHeartbeats 40000000 in
theorem own_min (l : Launch) (Z : State) (a0 : Array Value) (hw : ∀ d ∈ tables_1, d.before a0 Z = true) (n0 : Nat) (h : Heap) (x z : Int32) :
    Con l Z (⟨"java/lang/Math", "min", "(II)I"⟩ : MethodName) jdk_29_method_69_code 2 (some .int) ({ frames := 0, cells := 0, slots := 0, locals := 0 } : Room) n0 #[(.int x), (.int z)] h (R1 fun r h' => r = .int (min32 x z) ∧ h = h') := by
  refine Con.of (ls := [.val (.int x), .val (.int z)]) own_pf_b6 (fun m => by first | (simp [entryFrame, mkF, argsToLocals, Value.category]; done) | rfl) fun k K => ?_
  refine WP.iloadN K 1 own_b6_0 rfl rfl ?_
  refine WP.iloadN K 2 own_b6_1 rfl rfl ?_
  refine WP.icmp_gt K 9 5 own_b6_2 (by decide) rfl (fun c2 => ?_) (fun c2 => ?_)
  · skip
    refine WP.iloadN K 10 own_b6_9 rfl rfl ?_
    refine WP.iret K rfl (Or.inl rfl) rfl own_b6_10 ?_ (by decide) (by decide)
    refine ⟨_, rfl, ?_, rfl⟩
    simp only [min32]; congr 1; split <;> first | rfl | exact i32_eq (by omega) | (exfalso; omega)
  · skip
    refine WP.iloadN K 6 own_b6_5 rfl rfl ?_
    refine WP.goto K 10 own_b6_6 (by decide) ?_
    refine WP.iret K rfl (Or.inl rfl) rfl own_b6_10 ?_ (by decide) (by decide)
    refine ⟨_, rfl, ?_, rfl⟩
    simp only [min32]; congr 1; split <;> first | rfl | exact i32_eq (by omega) | (exfalso; omega)
theorem own_b14_0 : decode jdk_29_method_65_code 0 = .ok (.iload_n 0, 1) := by decide +kernel
theorem own_b14_1 : decode jdk_29_method_65_code 1 = .ok (.iload_n 1, 1) := by decide +kernel
theorem own_b14_2 : decode jdk_29_method_65_code 2 = .ok (.if_icmp .lt 7, 3) := by decide +kernel
theorem own_b14_5 : decode jdk_29_method_65_code 5 = .ok (.iload_n 0, 1) := by decide +kernel
theorem own_b14_6 : decode jdk_29_method_65_code 6 = .ok (.goto 4, 3) := by decide +kernel
theorem own_b14_9 : decode jdk_29_method_65_code 9 = .ok (.iload_n 1, 1) := by decide +kernel
theorem own_b14_10 : decode jdk_29_method_65_code 10 = .ok (.ireturn, 1) := by decide +kernel
theorem own_pf_b14 : plainFor (⟨"java/lang/Math", "max", "(II)I"⟩ : MethodName) = true := by first | exact plainFor_of_name (by first | (simp [plainName, overriddenIn, x]; done) | decide +kernel) | decide +kernel
set_option maxRecDepth 65536 in
set_option maxHeartbeats 40000000 in
theorem own_max (l : Launch) (Z : State) (a0 : Array Value) (hw : ∀ d ∈ tables_1, d.before a0 Z = true) (n0 : Nat) (h : Heap) (x z : Int32) :
    Con l Z (⟨"java/lang/Math", "max", "(II)I"⟩ : MethodName) jdk_29_method_65_code 2 (some .int) ({ frames := 0, cells := 0, slots := 0, locals := 0 } : Room) n0 #[(.int x), (.int z)] h (R1 fun r h' => r = .int (max32 x z) ∧ h = h') := by
  refine Con.of (ls := [.val (.int x), .val (.int z)]) own_pf_b14 (fun m => by first | (simp [entryFrame, mkF, argsToLocals, Value.category]; done) | rfl) fun k K => ?_
  refine WP.iloadN K 1 own_b14_0 rfl rfl ?_
  refine WP.iloadN K 2 own_b14_1 rfl rfl ?_
  refine WP.icmp_lt K 9 5 own_b14_2 (by decide) rfl (fun c2 => ?_) (fun c2 => ?_)
  · skip
    refine WP.iloadN K 10 own_b14_9 rfl rfl ?_
    refine WP.iret K rfl (Or.inl rfl) rfl own_b14_10 ?_ (by decide) (by decide)
    refine ⟨_, rfl, ?_, rfl⟩
    simp only [max32]; congr 1; split <;> first | rfl | exact i32_eq (by omega) | (exfalso; omega)
  · skip
    refine WP.iloadN K 6 own_b14_5 rfl rfl ?_
    refine WP.goto K 10 own_b14_6 (by decide) ?_
    refine WP.iret K rfl (Or.inl rfl) rfl own_b14_10 ?_ (by decide) (by decide)
    refine ⟨_, rfl, ?_, rfl⟩
    simp only [max32]; congr 1; split <;> first | rfl | exact i32_eq (by omega) | (exfalso; omega)
theorem own_b24_0 : decode jdk_29_method_70_code 0 = .ok (.lload_n 0, 1) := by decide +kernel
theorem own_b24_1 : decode jdk_29_method_70_code 1 = .ok (.lload_n 2, 1) := by decide +kernel
theorem own_b24_2 : decode jdk_29_method_70_code 2 = .ok (.lcmp, 1) := by decide +kernel
theorem own_b24_3 : decode jdk_29_method_70_code 3 = .ok (.ifCond .gt 7, 3) := by decide +kernel
theorem own_b24_6 : decode jdk_29_method_70_code 6 = .ok (.lload_n 0, 1) := by decide +kernel
theorem own_b24_7 : decode jdk_29_method_70_code 7 = .ok (.goto 4, 3) := by decide +kernel
theorem own_b24_10 : decode jdk_29_method_70_code 10 = .ok (.lload_n 2, 1) := by decide +kernel
theorem own_b24_11 : decode jdk_29_method_70_code 11 = .ok (.lreturn, 1) := by decide +kernel
theorem own_pf_b24 : plainFor (⟨"java/lang/Math", "min", "(JJ)J"⟩ : MethodName) = true := by first | exact plainFor_of_name (by first | (simp [plainName, overriddenIn, x]; done) | decide +kernel) | decide +kernel
set_option maxRecDepth 65536 in
set_option maxHeartbeats 40000000 in
theorem own_minL (l : Launch) (Z : State) (a0 : Array Value) (hw : ∀ d ∈ tables_1, d.before a0 Z = true) (n0 : Nat) (h : Heap) (x z : Int64) :
    Con l Z (⟨"java/lang/Math", "min", "(JJ)J"⟩ : MethodName) jdk_29_method_70_code 4 (some .long) ({ frames := 0, cells := 0, slots := 0, locals := 0 } : Room) n0 #[(.long x), (.long z)] h (R1 fun r h' => r = .long (min64 x z) ∧ h = h') := by
  refine Con.of (ls := [.val (.long x), .second, .val (.long z), .second]) own_pf_b24 (fun m => by first | (simp [entryFrame, mkF, argsToLocals, Value.category]; done) | rfl) fun k K => ?_
  refine WP.lloadN K 1 own_b24_0 rfl rfl ?_
  refine WP.lloadN K 2 own_b24_1 rfl rfl ?_
  refine WP.lcmp K 3 own_b24_2 rfl ?_
  refine WP.ifl_gt K 10 6 own_b24_3 (by decide) rfl (fun c3 => ?_) (fun c3 => ?_)
  · skip
    refine WP.lloadN K 11 own_b24_10 rfl rfl ?_
    refine WP.lret K rfl own_b24_11 ?_ (by decide) (by decide)
    refine ⟨_, rfl, ?_, rfl⟩
    simp only [min64]; congr 1; split <;> first | rfl | exact i64_eq (by omega) | (exfalso; omega)
  · skip
    refine WP.lloadN K 7 own_b24_6 rfl rfl ?_
    refine WP.goto K 11 own_b24_7 (by decide) ?_
    refine WP.lret K rfl own_b24_11 ?_ (by decide) (by decide)
    refine ⟨_, rfl, ?_, rfl⟩
    simp only [min64]; congr 1; split <;> first | rfl | exact i64_eq (by omega) | (exfalso; omega)
theorem own_b13_0 : decode jdk_33_method_47_code 0 = .ok (.iload_n 0, 1) := by decide +kernel
theorem own_b13_1 : decode jdk_33_method_47_code 1 = .ok (.ifCond .gt 14, 3) := by decide +kernel
theorem own_b13_4 : decode jdk_33_method_47_code 4 = .ok (.iload_n 0, 1) := by decide +kernel
theorem own_b13_5 : decode jdk_33_method_47_code 5 = .ok (.ifCond .ne 8, 3) := by decide +kernel
theorem own_b13_8 : decode jdk_33_method_47_code 8 = .ok (.bipush 32, 2) := by decide +kernel
theorem own_b13_10 : decode jdk_33_method_47_code 10 = .ok (.goto 4, 3) := by decide +kernel
theorem own_b13_13 : decode jdk_33_method_47_code 13 = .ok (.iconst 0, 1) := by decide +kernel
theorem own_b13_14 : decode jdk_33_method_47_code 14 = .ok (.ireturn, 1) := by decide +kernel
theorem own_b13_15 : decode jdk_33_method_47_code 15 = .ok (.bipush 31, 2) := by decide +kernel
theorem own_b13_17 : decode jdk_33_method_47_code 17 = .ok (.istore_n 1, 1) := by decide +kernel
theorem own_b13_18 : decode jdk_33_method_47_code 18 = .ok (.iload_n 0, 1) := by decide +kernel
theorem own_b13_19 : decode jdk_33_method_47_code 19 = .ok (.ldc_w 264, 3) := by decide +kernel
theorem own_b13_22 : decode jdk_33_method_47_code 22 = .ok (.if_icmp .lt 11, 3) := by decide +kernel
theorem own_b13_25 : decode jdk_33_method_47_code 25 = .ok (.iinc 1 (-16), 3) := by decide +kernel
theorem own_b13_28 : decode jdk_33_method_47_code 28 = .ok (.iload_n 0, 1) := by decide +kernel
theorem own_b13_29 : decode jdk_33_method_47_code 29 = .ok (.bipush 16, 2) := by decide +kernel
theorem own_b13_31 : decode jdk_33_method_47_code 31 = .ok (.iushr, 1) := by decide +kernel
theorem own_b13_32 : decode jdk_33_method_47_code 32 = .ok (.istore_n 0, 1) := by decide +kernel
theorem own_b13_33 : decode jdk_33_method_47_code 33 = .ok (.iload_n 0, 1) := by decide +kernel
theorem own_b13_34 : decode jdk_33_method_47_code 34 = .ok (.sipush 256, 3) := by decide +kernel
theorem own_b13_37 : decode jdk_33_method_47_code 37 = .ok (.if_icmp .lt 11, 3) := by decide +kernel
theorem own_b13_40 : decode jdk_33_method_47_code 40 = .ok (.iinc 1 (-8), 3) := by decide +kernel
theorem own_b13_43 : decode jdk_33_method_47_code 43 = .ok (.iload_n 0, 1) := by decide +kernel
theorem own_b13_44 : decode jdk_33_method_47_code 44 = .ok (.bipush 8, 2) := by decide +kernel
theorem own_b13_46 : decode jdk_33_method_47_code 46 = .ok (.iushr, 1) := by decide +kernel
theorem own_b13_47 : decode jdk_33_method_47_code 47 = .ok (.istore_n 0, 1) := by decide +kernel
theorem own_b13_48 : decode jdk_33_method_47_code 48 = .ok (.iload_n 0, 1) := by decide +kernel
theorem own_b13_49 : decode jdk_33_method_47_code 49 = .ok (.bipush 16, 2) := by decide +kernel
theorem own_b13_51 : decode jdk_33_method_47_code 51 = .ok (.if_icmp .lt 10, 3) := by decide +kernel
theorem own_b13_54 : decode jdk_33_method_47_code 54 = .ok (.iinc 1 (-4), 3) := by decide +kernel
theorem own_b13_57 : decode jdk_33_method_47_code 57 = .ok (.iload_n 0, 1) := by decide +kernel
theorem own_b13_58 : decode jdk_33_method_47_code 58 = .ok (.iconst 4, 1) := by decide +kernel
theorem own_b13_59 : decode jdk_33_method_47_code 59 = .ok (.iushr, 1) := by decide +kernel
theorem own_b13_60 : decode jdk_33_method_47_code 60 = .ok (.istore_n 0, 1) := by decide +kernel
theorem own_b13_61 : decode jdk_33_method_47_code 61 = .ok (.iload_n 0, 1) := by decide +kernel
theorem own_b13_62 : decode jdk_33_method_47_code 62 = .ok (.iconst 4, 1) := by decide +kernel
theorem own_b13_63 : decode jdk_33_method_47_code 63 = .ok (.if_icmp .lt 10, 3) := by decide +kernel
theorem own_b13_66 : decode jdk_33_method_47_code 66 = .ok (.iinc 1 (-2), 3) := by decide +kernel
theorem own_b13_69 : decode jdk_33_method_47_code 69 = .ok (.iload_n 0, 1) := by decide +kernel
theorem own_b13_70 : decode jdk_33_method_47_code 70 = .ok (.iconst 2, 1) := by decide +kernel
theorem own_b13_71 : decode jdk_33_method_47_code 71 = .ok (.iushr, 1) := by decide +kernel
theorem own_b13_72 : decode jdk_33_method_47_code 72 = .ok (.istore_n 0, 1) := by decide +kernel
theorem own_b13_73 : decode jdk_33_method_47_code 73 = .ok (.iload_n 1, 1) := by decide +kernel
theorem own_b13_74 : decode jdk_33_method_47_code 74 = .ok (.iload_n 0, 1) := by decide +kernel
theorem own_b13_75 : decode jdk_33_method_47_code 75 = .ok (.iconst 1, 1) := by decide +kernel
theorem own_b13_76 : decode jdk_33_method_47_code 76 = .ok (.iushr, 1) := by decide +kernel
theorem own_b13_77 : decode jdk_33_method_47_code 77 = .ok (.isub, 1) := by decide +kernel
theorem own_b13_78 : decode jdk_33_method_47_code 78 = .ok (.ireturn, 1) := by decide +kernel
theorem own_pf_b13 : plainFor (⟨"java/lang/Integer", "numberOfLeadingZeros", "(I)I"⟩ : MethodName) = true := by first | exact plainFor_of_name (by first | (simp [plainName, overriddenIn, x]; done) | decide +kernel) | decide +kernel
set_option maxRecDepth 65536 in
set_option maxHeartbeats 40000000 in
theorem own_nlzI (l : Launch) (Z : State) (a0 : Array Value) (hw : ∀ d ∈ tables_1, d.before a0 Z = true) (n0 : Nat) (h : Heap) (v : Int32) (n t : Nat) (hv : v.toBitVec.toNat = n) (h1 : 2 ^ t ≤ n) (h2 : n < 2 ^ (t + 1)) :
    Con l Z (⟨"java/lang/Integer", "numberOfLeadingZeros", "(I)I"⟩ : MethodName) jdk_33_method_47_code 2 (some .int) ({ frames := 0, cells := 0, slots := 0, locals := 0 } : Room) n0 #[(.int v)] h (R1 fun r h' => (∃ z : Int32, r = .int z ∧ z.toInt = 31 - (t : Int)) ∧ h = h') := by
  refine Con.of (ls := [.val (.int v), .unset]) own_pf_b13 (fun m => by first | (simp [entryFrame, mkF, argsToLocals, Value.category]; done) | rfl) fun k K => ?_
  have k_m16 : ((-16) : Int32).toInt = -16 := rfl
  have k_m2 : ((-2) : Int32).toInt = -2 := rfl
  have k_m4 : ((-4) : Int32).toInt = -4 := rfl
  have k_m8 : ((-8) : Int32).toInt = -8 := rfl
  have k_0 : (0 : Int32).toInt = 0 := rfl
  have k_1 : (1 : Int32).toInt = 1 := rfl
  have k_16 : (16 : Int32).toInt = 16 := rfl
  have k_2 : (2 : Int32).toInt = 2 := rfl
  have k_256 : (256 : Int32).toInt = 256 := rfl
  have k_31 : (31 : Int32).toInt = 31 := rfl
  have k_32 : (32 : Int32).toInt = 32 := rfl
  have k_4 : (4 : Int32).toInt = 4 := rfl
  have k_65536 : (65536 : Int32).toInt = 65536 := rfl
  have k_8 : (8 : Int32).toInt = 8 := rfl
  have hw_ := w_nat v
  have hp2 := Nat.pow_pos (n := t) (show 0 < 2 by decide)
  have ht31 : t < 32 := nlz_lo h1 (by have : 2 ^ 32 = 4294967296 := rfl; omega)
  have J73 : ∀ (s n : Nat) (p c : Int32), p.toInt = (n : Nat) → 2 ^ s ≤ n → n < 2 ^ (s + 1) → s < 2 → c.toInt = 31 - (t : Int) + s → WP k h 0 0 73 [.val (.int p), .val (.int c)] [] := by
    intro s n p c hp h1 h2 hs hc
    have hu := ushrK (x := p) (q := (1 : Int32)) 1 rfl (by decide) hp
    rw [nlz_end h1 h2 hs] at hu
    refine WP.iloadN K 74 own_b13_73 rfl rfl ?_
    refine WP.iloadN K 75 own_b13_74 rfl rfl ?_
    refine WP.iconst K (1 : Int32) 76 own_b13_75 rfl rfl ?_
    refine WP.iushr K 77 own_b13_76 rfl ?_
    refine WP.isub K 78 own_b13_77 rfl ?_
    refine WP.iret K rfl (Or.inl rfl) rfl own_b13_78 ?_ (by decide) (by decide)
    exact ⟨_, rfl, ⟨_, rfl, by rw [i32_sub (by omega) (by omega)]; omega⟩, rfl⟩
  have J61 : ∀ (s n : Nat) (p c : Int32), p.toInt = (n : Nat) → 2 ^ s ≤ n → n < 2 ^ (s + 1) → s < 4 → c.toInt = 31 - (t : Int) + s → WP k h 0 0 61 [.val (.int p), .val (.int c)] [] := by
    intro s n p c hp h1 h2 hs hc
    have ek : 2 ^ 2 = 4 := rfl
    refine WP.iloadN K 62 own_b13_61 rfl rfl ?_
    refine WP.iconst K (4 : Int32) 63 own_b13_62 rfl rfl ?_
    refine WP.icmp_lt K 73 66 own_b13_63 (by decide) rfl (fun c63 => ?_) (fun c63 => ?_)
    · skip
      exact J73 s n _ _ hp h1 h2 (nlz_lo h1 (by clear h1 h2; omega)) hc
    · skip
      have hk : 2 ≤ s := nlz_hi h2 (by clear h1 h2; omega)
      have hu := ushrK (x := p) (q := (2 : Int32)) 2 rfl (by decide) hp
      have hd := nlz_div hk h1 h2
      have ha : (c + (-2 : Int32)).toInt = c.toInt - 2 := by
        have e : (-2 : Int32).toInt = -2 := rfl
        rw [i32_add (by omega) (by omega)]; omega
      refine WP.iinc K (-2 : Int32) 69 [.val (.int p), .val (.int (c + (-2 : Int32)))] own_b13_66 rfl rfl rfl rfl ?_
      refine WP.iloadN K 70 own_b13_69 rfl rfl ?_
      refine WP.iconst K (2 : Int32) 71 own_b13_70 rfl rfl ?_
      refine WP.iushr K 72 own_b13_71 rfl ?_
      refine WP.istoreN K 73 [.val (.int (XT.ushr p (2 : Int32))), .val (.int (c + (-2 : Int32)))] own_b13_72 rfl rfl ?_
      exact J73 (s - 2) (n / 2 ^ 2) _ _ hu hd.1 hd.2 (by clear hd hu h1 h2; omega) (nlz_c (k := 2) ha hc hk)
  have J48 : ∀ (s n : Nat) (p c : Int32), p.toInt = (n : Nat) → 2 ^ s ≤ n → n < 2 ^ (s + 1) → s < 8 → c.toInt = 31 - (t : Int) + s → WP k h 0 0 48 [.val (.int p), .val (.int c)] [] := by
    intro s n p c hp h1 h2 hs hc
    have ek : 2 ^ 4 = 16 := rfl
    refine WP.iloadN K 49 own_b13_48 rfl rfl ?_
    refine WP.bipush K (16 : Int32) 51 own_b13_49 rfl rfl ?_
    refine WP.icmp_lt K 61 54 own_b13_51 (by decide) rfl (fun c51 => ?_) (fun c51 => ?_)
    · skip
      exact J61 s n _ _ hp h1 h2 (nlz_lo h1 (by clear h1 h2; omega)) hc
    · skip
      have hk : 4 ≤ s := nlz_hi h2 (by clear h1 h2; omega)
      have hu := ushrK (x := p) (q := (4 : Int32)) 4 rfl (by decide) hp
      have hd := nlz_div hk h1 h2
      have ha : (c + (-4 : Int32)).toInt = c.toInt - 4 := by
        have e : (-4 : Int32).toInt = -4 := rfl
        rw [i32_add (by omega) (by omega)]; omega
      refine WP.iinc K (-4 : Int32) 57 [.val (.int p), .val (.int (c + (-4 : Int32)))] own_b13_54 rfl rfl rfl rfl ?_
      refine WP.iloadN K 58 own_b13_57 rfl rfl ?_
      refine WP.iconst K (4 : Int32) 59 own_b13_58 rfl rfl ?_
      refine WP.iushr K 60 own_b13_59 rfl ?_
      refine WP.istoreN K 61 [.val (.int (XT.ushr p (4 : Int32))), .val (.int (c + (-4 : Int32)))] own_b13_60 rfl rfl ?_
      exact J61 (s - 4) (n / 2 ^ 4) _ _ hu hd.1 hd.2 (by clear hd hu h1 h2; omega) (nlz_c (k := 4) ha hc hk)
  have J33 : ∀ (s n : Nat) (p c : Int32), p.toInt = (n : Nat) → 2 ^ s ≤ n → n < 2 ^ (s + 1) → s < 16 → c.toInt = 31 - (t : Int) + s → WP k h 0 0 33 [.val (.int p), .val (.int c)] [] := by
    intro s n p c hp h1 h2 hs hc
    have ek : 2 ^ 8 = 256 := rfl
    refine WP.iloadN K 34 own_b13_33 rfl rfl ?_
    refine WP.sipush K (256 : Int32) 37 own_b13_34 rfl rfl ?_
    refine WP.icmp_lt K 48 40 own_b13_37 (by decide) rfl (fun c37 => ?_) (fun c37 => ?_)
    · skip
      exact J48 s n _ _ hp h1 h2 (nlz_lo h1 (by clear h1 h2; omega)) hc
    · skip
      have hk : 8 ≤ s := nlz_hi h2 (by clear h1 h2; omega)
      have hu := ushrK (x := p) (q := (8 : Int32)) 8 rfl (by decide) hp
      have hd := nlz_div hk h1 h2
      have ha : (c + (-8 : Int32)).toInt = c.toInt - 8 := by
        have e : (-8 : Int32).toInt = -8 := rfl
        rw [i32_add (by omega) (by omega)]; omega
      refine WP.iinc K (-8 : Int32) 43 [.val (.int p), .val (.int (c + (-8 : Int32)))] own_b13_40 rfl rfl rfl rfl ?_
      refine WP.iloadN K 44 own_b13_43 rfl rfl ?_
      refine WP.bipush K (8 : Int32) 46 own_b13_44 rfl rfl ?_
      refine WP.iushr K 47 own_b13_46 rfl ?_
      refine WP.istoreN K 48 [.val (.int (XT.ushr p (8 : Int32))), .val (.int (c + (-8 : Int32)))] own_b13_47 rfl rfl ?_
      exact J48 (s - 8) (n / 2 ^ 8) _ _ hu hd.1 hd.2 (by clear hd hu h1 h2; omega) (nlz_c (k := 8) ha hc hk)
  have J18 : ∀ (s n : Nat) (p c : Int32), p.toInt = (n : Nat) → 2 ^ s ≤ n → n < 2 ^ (s + 1) → s < 32 → c.toInt = 31 - (t : Int) + s → WP k h 0 0 18 [.val (.int p), .val (.int c)] [] := by
    intro s n p c hp h1 h2 hs hc
    have ek : 2 ^ 16 = 65536 := rfl
    refine WP.iloadN K 19 own_b13_18 rfl rfl ?_
    refine WP.ldcWI K (v := (65536 : Int32)) 22 (hw _ (List.mem_of_getElem? (i := 90) rfl)) own_b13_19 rfl ?_
    refine WP.icmp_lt K 33 25 own_b13_22 (by decide) rfl (fun c22 => ?_) (fun c22 => ?_)
    · skip
      exact J33 s n _ _ hp h1 h2 (nlz_lo h1 (by clear h1 h2; omega)) hc
    · skip
      have hk : 16 ≤ s := nlz_hi h2 (by clear h1 h2; omega)
      have hu := ushrK (x := p) (q := (16 : Int32)) 16 rfl (by decide) hp
      have hd := nlz_div hk h1 h2
      have ha : (c + (-16 : Int32)).toInt = c.toInt - 16 := by
        have e : (-16 : Int32).toInt = -16 := rfl
        rw [i32_add (by omega) (by omega)]; omega
      refine WP.iinc K (-16 : Int32) 28 [.val (.int p), .val (.int (c + (-16 : Int32)))] own_b13_25 rfl rfl rfl rfl ?_
      refine WP.iloadN K 29 own_b13_28 rfl rfl ?_
      refine WP.bipush K (16 : Int32) 31 own_b13_29 rfl rfl ?_
      refine WP.iushr K 32 own_b13_31 rfl ?_
      refine WP.istoreN K 33 [.val (.int (XT.ushr p (16 : Int32))), .val (.int (c + (-16 : Int32)))] own_b13_32 rfl rfl ?_
      exact J33 (s - 16) (n / 2 ^ 16) _ _ hu hd.1 hd.2 (by clear hd hu h1 h2; omega) (nlz_c (k := 16) ha hc hk)
  refine WP.iloadN K 1 own_b13_0 rfl rfl ?_
  refine WP.if_gt K 15 4 own_b13_1 (by decide) rfl (fun c1 => ?_) (fun c1 => ?_)
  · skip
    refine WP.bipush K (31 : Int32) 17 own_b13_15 rfl rfl ?_
    refine WP.istoreN K 18 [.val (.int v), .val (.int (31 : Int32))] own_b13_17 rfl rfl ?_
    have ht := nlz_lo (k := 31) h1 (by have : 2 ^ 31 = 2147483648 := rfl; omega)
    exact J18 t n _ _ (by omega) h1 h2 (by omega) (by omega)
  · skip
    refine WP.iloadN K 5 own_b13_4 rfl rfl ?_
    refine WP.if_ne K 13 8 own_b13_5 (by decide) rfl (fun c5 => ?_) (fun c5 => ?_)
    · skip
      refine WP.iconst K (0 : Int32) 14 own_b13_13 rfl rfl ?_
      refine WP.iret K rfl (Or.inl rfl) rfl own_b13_14 ?_ (by decide) (by decide)
      have e31 : 2 ^ 31 = 2147483648 := rfl
      have e32 : 2 ^ 32 = 4294967296 := rfl
      have q1 := nlz_hi (k := 31) h2 (by omega)
      have q2 := nlz_lo (k := 32) h1 (by omega)
      exact ⟨_, rfl, ⟨_, rfl, by omega⟩, rfl⟩
    · skip
      exfalso; omega
theorem own_b12_0 : decode jdk_35_method_48_code 0 = .ok (.lload_n 0, 1) := by decide +kernel
theorem own_b12_1 : decode jdk_35_method_48_code 1 = .ok (.bipush 32, 2) := by decide +kernel
theorem own_b12_3 : decode jdk_35_method_48_code 3 = .ok (.lushr, 1) := by decide +kernel
theorem own_b12_4 : decode jdk_35_method_48_code 4 = .ok (.l2i, 1) := by decide +kernel
theorem own_b12_5 : decode jdk_35_method_48_code 5 = .ok (.istore_n 2, 1) := by decide +kernel
theorem own_b12_6 : decode jdk_35_method_48_code 6 = .ok (.iload_n 2, 1) := by decide +kernel
theorem own_b12_7 : decode jdk_35_method_48_code 7 = .ok (.ifCond .ne 14, 3) := by decide +kernel
theorem own_b12_10 : decode jdk_35_method_48_code 10 = .ok (.bipush 32, 2) := by decide +kernel
theorem own_b12_12 : decode jdk_35_method_48_code 12 = .ok (.lload_n 0, 1) := by decide +kernel
theorem own_b12_13 : decode jdk_35_method_48_code 13 = .ok (.l2i, 1) := by decide +kernel
theorem own_b12_14 : decode jdk_35_method_48_code 14 = .ok (.invokestatic 308, 3) := by decide +kernel
theorem own_b12_17 : decode jdk_35_method_48_code 17 = .ok (.iadd, 1) := by decide +kernel
theorem own_b12_18 : decode jdk_35_method_48_code 18 = .ok (.goto 7, 3) := by decide +kernel
theorem own_b12_21 : decode jdk_35_method_48_code 21 = .ok (.iload_n 2, 1) := by decide +kernel
theorem own_b12_22 : decode jdk_35_method_48_code 22 = .ok (.invokestatic 308, 3) := by decide +kernel
theorem own_b12_25 : decode jdk_35_method_48_code 25 = .ok (.ireturn, 1) := by decide +kernel
theorem own_pf_b12 : plainFor (⟨"java/lang/Long", "numberOfLeadingZeros", "(J)I"⟩ : MethodName) = true := by first | exact plainFor_of_name (by first | (simp [plainName, overriddenIn, x]; done) | decide +kernel) | decide +kernel
set_option maxRecDepth 65536 in
set_option maxHeartbeats 40000000 in
theorem own_nlzL (l : Launch) (Z : State) (a0 : Array Value) (hw : ∀ d ∈ tables_1, d.before a0 Z = true) (n0 : Nat) (h : Heap) (v : Int64) (G t : Nat) (hv : v.toInt = (G : Nat)) (h1 : 2 ^ t ≤ G) (h2 : G < 2 ^ (t + 1)) :
    Con l Z (⟨"java/lang/Long", "numberOfLeadingZeros", "(J)I"⟩ : MethodName) jdk_35_method_48_code 3 (some .int) ({ frames := 1, cells := 0, slots := 0, locals := 14 } : Room) n0 #[(.long v)] h (R1 fun r h' => (∃ z : Int32, r = .int z ∧ z.toInt = 63 - (t : Int)) ∧ h = h') := by
  refine Con.of (ls := [.val (.long v), .second, .unset]) own_pf_b12 (fun m => by first | (simp [entryFrame, mkF, argsToLocals, Value.category]; done) | rfl) fun k K => ?_
  have k_32 : (32 : Int32).toInt = 32 := rfl
  have e1 := nl_hi hv
  have e2 := nl_lo hv
  have e3 := w_nat (XT.ushrL v (32 : Int32)).toInt32
  have e32 : 2 ^ 32 = 4294967296 := rfl
  have hvn := v_nat hv
  refine WP.lloadN K 1 own_b12_0 rfl rfl ?_
  refine WP.bipush K (32 : Int32) 3 own_b12_1 rfl rfl ?_
  refine WP.lushr K 4 own_b12_3 rfl ?_
  refine WP.l2i K 5 own_b12_4 rfl ?_
  refine WP.istoreN K 6 [.val (.long v), .second, .val (.int (XT.ushrL v (32 : Int32)).toInt32)] own_b12_5 rfl rfl ?_
  refine WP.iloadN K 7 own_b12_6 rfl rfl ?_
  refine WP.if_ne K 21 10 own_b12_7 (by decide) rfl (fun c7 => ?_) (fun c7 => ?_)
  · skip
    have hk : 32 ≤ t := nlz_hi h2 (by omega)
    have hd := nlz_div hk h1 h2
    rw [e32] at hd
    refine WP.iloadN K 22 own_b12_21 rfl rfl ?_
    refine WP.callS K 25 0 0 0 [(.int (XT.ushrL v (32 : Int32)).toInt32)] [] (hw _ (List.mem_of_getElem? (i := 86) rfl)) (hw _ (List.mem_of_getElem? (i := 87) rfl)) (hw _ (List.mem_of_getElem? (i := 88) rfl)) (hw _ (List.mem_of_getElem? (i := 89) rfl)) (by decide) own_pd_7 rfl rfl rfl (by decide) (by decide) (Nat.le_of_eq rfl) rfl own_b12_22 rfl rfl rfl (by decide) (by decide) (own_nlzI l Z a0 hw n0 h (XT.ushrL v (32 : Int32)).toInt32 (G / 4294967296) (t - 32) e1 hd.1 hd.2) (r1_next fun r3 h1 q2 => ?_)
    obtain ⟨⟨zi, rfl, hzi⟩, rfl⟩ := q2
    refine WP.iret K rfl (Or.inl rfl) rfl own_b12_25 ?_ (by decide) (by decide)
    exact ⟨_, rfl, ⟨_, rfl, by omega⟩, rfl⟩
  · skip
    have hk : t < 32 := nlz_lo h1 (by omega)
    refine WP.bipush K (32 : Int32) 12 own_b12_10 rfl rfl ?_
    refine WP.lloadN K 13 own_b12_12 rfl rfl ?_
    refine WP.l2i K 14 own_b12_13 rfl ?_
    refine WP.callS K 17 0 0 1 [(.int v.toInt32)] [(.int (32 : Int32))] (hw _ (List.mem_of_getElem? (i := 86) rfl)) (hw _ (List.mem_of_getElem? (i := 87) rfl)) (hw _ (List.mem_of_getElem? (i := 88) rfl)) (hw _ (List.mem_of_getElem? (i := 89) rfl)) (by decide) own_pd_7 rfl rfl rfl (by decide) (by decide) (Nat.le_of_eq rfl) rfl own_b12_14 rfl rfl rfl (by decide) (by decide) (own_nlzI l Z a0 hw n0 h v.toInt32 G t (by omega) h1 h2) (r1_next fun r6 h4 q5 => ?_)
    obtain ⟨⟨zi, rfl, hzi⟩, rfl⟩ := q5
    refine WP.iadd K 18 own_b12_17 rfl ?_
    refine WP.goto K 25 own_b12_18 (by decide) ?_
    refine WP.iret K rfl (Or.inl rfl) rfl own_b12_25 ?_ (by decide) (by decide)
    exact ⟨_, rfl, ⟨_, rfl, by rw [i32_add (by omega) (by omega)]; omega⟩, rfl⟩
set_option maxRecDepth 65536 in
set_option maxHeartbeats 40000000 in
theorem own_nlzI0 (l : Launch) (Z : State) (a0 : Array Value) (hw : ∀ d ∈ tables_1, d.before a0 Z = true) (n0 : Nat) (h : Heap) (v : Int32) (hv : v.toInt = 0) :
    Con l Z (⟨"java/lang/Integer", "numberOfLeadingZeros", "(I)I"⟩ : MethodName) jdk_33_method_47_code 2 (some .int) ({ frames := 0, cells := 0, slots := 0, locals := 0 } : Room) n0 #[(.int v)] h (R1 fun r h' => r = .int 32 ∧ h = h') := by
  refine Con.of (ls := [.val (.int v), .unset]) own_pf_b13 (fun m => by first | (simp [entryFrame, mkF, argsToLocals, Value.category]; done) | rfl) fun k K => ?_
  have k_m16 : ((-16) : Int32).toInt = -16 := rfl
  have k_m2 : ((-2) : Int32).toInt = -2 := rfl
  have k_m4 : ((-4) : Int32).toInt = -4 := rfl
  have k_m8 : ((-8) : Int32).toInt = -8 := rfl
  have k_0 : (0 : Int32).toInt = 0 := rfl
  have k_1 : (1 : Int32).toInt = 1 := rfl
  have k_16 : (16 : Int32).toInt = 16 := rfl
  have k_2 : (2 : Int32).toInt = 2 := rfl
  have k_256 : (256 : Int32).toInt = 256 := rfl
  have k_31 : (31 : Int32).toInt = 31 := rfl
  have k_32 : (32 : Int32).toInt = 32 := rfl
  have k_4 : (4 : Int32).toInt = 4 := rfl
  have k_65536 : (65536 : Int32).toInt = 65536 := rfl
  have k_8 : (8 : Int32).toInt = 8 := rfl
  refine WP.iloadN K 1 own_b13_0 rfl rfl ?_
  refine WP.if_gt K 15 4 own_b13_1 (by decide) rfl (fun c1 => ?_) (fun c1 => ?_)
  · skip
    exfalso; omega
  · skip
    refine WP.iloadN K 5 own_b13_4 rfl rfl ?_
    refine WP.if_ne K 13 8 own_b13_5 (by decide) rfl (fun c5 => ?_) (fun c5 => ?_)
    · skip
      exfalso; omega
    · skip
      refine WP.bipush K (32 : Int32) 10 own_b13_8 rfl rfl ?_
      refine WP.goto K 14 own_b13_10 (by decide) ?_
      refine WP.iret K rfl (Or.inl rfl) rfl own_b13_14 ?_ (by decide) (by decide)
      exact ⟨_, rfl, rfl, rfl⟩
set_option maxRecDepth 65536 in
set_option maxHeartbeats 40000000 in
theorem own_nlzL0 (l : Launch) (Z : State) (a0 : Array Value) (hw : ∀ d ∈ tables_1, d.before a0 Z = true) (n0 : Nat) (h : Heap) (v : Int64) (hv : v.toInt = ((0 : Nat) : Int)) :
    Con l Z (⟨"java/lang/Long", "numberOfLeadingZeros", "(J)I"⟩ : MethodName) jdk_35_method_48_code 3 (some .int) ({ frames := 1, cells := 0, slots := 0, locals := 14 } : Room) n0 #[(.long v)] h (R1 fun r h' => (∃ z : Int32, r = .int z ∧ z.toInt = 64) ∧ h = h') := by
  refine Con.of (ls := [.val (.long v), .second, .unset]) own_pf_b12 (fun m => by first | (simp [entryFrame, mkF, argsToLocals, Value.category]; done) | rfl) fun k K => ?_
  have k_32 : (32 : Int32).toInt = 32 := rfl
  have e1 := nl_hi hv
  have e2 := nl_lo hv
  have e3 := w_nat (XT.ushrL v (32 : Int32)).toInt32
  have e4 := w_nat v.toInt32
  refine WP.lloadN K 1 own_b12_0 rfl rfl ?_
  refine WP.bipush K (32 : Int32) 3 own_b12_1 rfl rfl ?_
  refine WP.lushr K 4 own_b12_3 rfl ?_
  refine WP.l2i K 5 own_b12_4 rfl ?_
  refine WP.istoreN K 6 [.val (.long v), .second, .val (.int (XT.ushrL v (32 : Int32)).toInt32)] own_b12_5 rfl rfl ?_
  refine WP.iloadN K 7 own_b12_6 rfl rfl ?_
  refine WP.if_ne K 21 10 own_b12_7 (by decide) rfl (fun c7 => ?_) (fun c7 => ?_)
  · skip
    exfalso; omega
  · skip
    refine WP.bipush K (32 : Int32) 12 own_b12_10 rfl rfl ?_
    refine WP.lloadN K 13 own_b12_12 rfl rfl ?_
    refine WP.l2i K 14 own_b12_13 rfl ?_
    refine WP.callS K 17 0 0 1 [(.int v.toInt32)] [(.int (32 : Int32))] (hw _ (List.mem_of_getElem? (i := 86) rfl)) (hw _ (List.mem_of_getElem? (i := 87) rfl)) (hw _ (List.mem_of_getElem? (i := 88) rfl)) (hw _ (List.mem_of_getElem? (i := 89) rfl)) (by decide) own_pd_7 rfl rfl rfl (by decide) (by decide) (Nat.le_of_eq rfl) rfl own_b12_14 rfl rfl rfl (by decide) (by decide) (own_nlzI0 l Z a0 hw n0 h v.toInt32 (by omega)) (r1_next fun r3 h1 q2 => ?_)
    obtain ⟨rfl, rfl⟩ := q2
    refine WP.iadd K 18 own_b12_17 rfl ?_
    refine WP.goto K 25 own_b12_18 (by decide) ?_
    refine WP.iret K rfl (Or.inl rfl) rfl own_b12_25 ?_ (by decide) (by decide)
    exact ⟨_, rfl, ⟨_, rfl, rfl⟩, rfl⟩
theorem own_b11_0 : decode prog_136_method_11_code 0 = .ok (.iconst 1, 1) := by decide +kernel
theorem own_b11_1 : decode prog_136_method_11_code 1 = .ok (.bipush 64, 2) := by decide +kernel
theorem own_b11_3 : decode prog_136_method_11_code 3 = .ok (.lload_n 0, 1) := by decide +kernel
theorem own_b11_4 : decode prog_136_method_11_code 4 = .ok (.invokestatic 118, 3) := by decide +kernel
theorem own_b11_7 : decode prog_136_method_11_code 7 = .ok (.isub, 1) := by decide +kernel
theorem own_b11_8 : decode prog_136_method_11_code 8 = .ok (.bipush 6, 2) := by decide +kernel
theorem own_b11_10 : decode prog_136_method_11_code 10 = .ok (.iadd, 1) := by decide +kernel
theorem own_b11_11 : decode prog_136_method_11_code 11 = .ok (.bipush 7, 2) := by decide +kernel
theorem own_b11_13 : decode prog_136_method_11_code 13 = .ok (.idiv, 1) := by decide +kernel
theorem own_b11_14 : decode prog_136_method_11_code 14 = .ok (.invokestatic 97, 3) := by decide +kernel
theorem own_b11_17 : decode prog_136_method_11_code 17 = .ok (.ireturn, 1) := by decide +kernel
theorem own_pf_b11 : plainFor (⟨"com/example/vestline/vestline/util/KeptTexts", "varintSize", "(J)I"⟩ : MethodName) = true := by first | exact plainFor_of_name (by first | (simp [plainName, overriddenIn, x]; done) | decide +kernel) | decide +kernel
theorem own_pd_15 : parseMethodDescriptor "(J)I" = some ⟨[.long], some .int⟩ := by decide +kernel
theorem own_pd_16 : parseMethodDescriptor "(II)I" = some ⟨[.int, .int], some .int⟩ := by decide +kernel
set_option maxRecDepth 65536 in
set_option maxHeartbeats 40000000 in
theorem own_vsize (l : Launch) (Z : State) (a0 : Array Value) (hw : ∀ d ∈ tables_1, d.before a0 Z = true) (n0 : Nat) (h : Heap) (v : Int64) (G : Nat) (hv : v.toInt = (G : Nat)) :
    Con l Z (⟨"com/example/vestline/vestline/util/KeptTexts", "varintSize", "(J)I"⟩ : MethodName) prog_136_method_11_code 2 (some .int) ({ frames := 2, cells := 0, slots := 0, locals := 30 } : Room) n0 #[(.long v)] h (R1 fun r h' => (∃ z : Int32, r = .int z ∧ z.toInt = (el G : Nat)) ∧ h = h') := by
  refine Con.of (ls := [.val (.long v), .second]) own_pf_b11 (fun m => by first | (simp [entryFrame, mkF, argsToLocals, Value.category]; done) | rfl) fun k K => ?_
  have k_1 : (1 : Int32).toInt = 1 := rfl
  have k_6 : (6 : Int32).toInt = 6 := rfl
  have k_64 : (64 : Int32).toInt = 64 := rfl
  have k_7 : (7 : Int32).toInt = 7 := rfl
  by_cases hG : G = 0
  · skip
    subst hG
    have hel : el 0 = 1 := el_small (by decide)
    refine WP.iconst K (1 : Int32) 1 own_b11_0 rfl rfl ?_
    refine WP.bipush K (64 : Int32) 3 own_b11_1 rfl rfl ?_
    refine WP.lloadN K 4 own_b11_3 rfl rfl ?_
    refine WP.callS K 7 0 0 2 [(.long v)] [(.int (64 : Int32)), (.int (1 : Int32))] (hw _ (List.mem_of_getElem? (i := 82) rfl)) (hw _ (List.mem_of_getElem? (i := 83) rfl)) (hw _ (List.mem_of_getElem? (i := 84) rfl)) (hw _ (List.mem_of_getElem? (i := 85) rfl)) (by decide) own_pd_15 rfl rfl rfl (by decide) (by decide) (Nat.le_of_eq rfl) rfl own_b11_4 rfl rfl rfl (by decide) (by decide) (own_nlzL0 l Z a0 hw n0 h v hv) (r1_next fun r3 h1 q2 => ?_)
    obtain ⟨⟨z1, rfl, hz1⟩, rfl⟩ := q2
    refine WP.isub K 8 own_b11_7 rfl ?_
    refine WP.bipush K (6 : Int32) 10 own_b11_8 rfl rfl ?_
    refine WP.iadd K 11 own_b11_10 rfl ?_
    refine WP.bipush K (7 : Int32) 13 own_b11_11 rfl rfl ?_
    refine WP.idiv K 14 own_b11_13 rfl (by decide) ?_
    have a1 : ((64 : Int32) - z1).toInt = 0 := by rw [i32_sub (by omega) (by omega)]; omega
    have a2 : (((64 : Int32) - z1) + (6 : Int32)).toInt = 6 + 0 := by rw [i32_add (by omega) (by omega)]; omega
    have a3 : ((((64 : Int32) - z1) + (6 : Int32)) / (7 : Int32)).toInt = (6 + 0) / 7 := by rw [(c_idiv _ (7 : Int32) 7 rfl (by decide)).1 (by omega), a2]
    have a4 := max32_spec (1 : Int32) ((((64 : Int32) - z1) + (6 : Int32)) / (7 : Int32))
    refine WP.callS K 17 0 0 0 [(.int (1 : Int32)), (.int ((((64 : Int32) - z1) + (6 : Int32)) / (7 : Int32)))] [] (hw _ (List.mem_of_getElem? (i := 91) rfl)) (hw _ (List.mem_of_getElem? (i := 92) rfl)) (hw _ (List.mem_of_getElem? (i := 50) rfl)) (hw _ (List.mem_of_getElem? (i := 93) rfl)) (by decide) own_pd_16 rfl rfl rfl (by decide) (by decide) (Nat.le_of_eq rfl) rfl own_b11_14 rfl rfl rfl (by decide) (by decide) (own_max l Z a0 hw n0 h (1 : Int32) ((((64 : Int32) - z1) + (6 : Int32)) / (7 : Int32)) ) (r1_next fun r6 h4 q5 => ?_)
    obtain ⟨rfl, rfl⟩ := q5
    refine WP.iret K rfl (Or.inl rfl) rfl own_b11_17 ?_ (by decide) (by decide)
    exact ⟨_, rfl, ⟨_, rfl, by omega⟩, rfl⟩
  · skip
    obtain ⟨t, h1, h2⟩ : ∃ t, 2 ^ t ≤ G ∧ G < 2 ^ (t + 1) := ⟨G.log2, Nat.log2_self_le (by omega), Nat.lt_log2_self⟩
    have hvn := v_nat hv
    have ht : t < 63 := nlz_lo h1 (by have : 2 ^ 63 = 9223372036854775808 := rfl; omega)
    have hel := el_log h1 h2
    refine WP.iconst K (1 : Int32) 1 own_b11_0 rfl rfl ?_
    refine WP.bipush K (64 : Int32) 3 own_b11_1 rfl rfl ?_
    refine WP.lloadN K 4 own_b11_3 rfl rfl ?_
    refine WP.callS K 7 0 0 2 [(.long v)] [(.int (64 : Int32)), (.int (1 : Int32))] (hw _ (List.mem_of_getElem? (i := 82) rfl)) (hw _ (List.mem_of_getElem? (i := 83) rfl)) (hw _ (List.mem_of_getElem? (i := 84) rfl)) (hw _ (List.mem_of_getElem? (i := 85) rfl)) (by decide) own_pd_15 rfl rfl rfl (by decide) (by decide) (Nat.le_of_eq rfl) rfl own_b11_4 rfl rfl rfl (by decide) (by decide) (own_nlzL l Z a0 hw n0 h v G t hv h1 h2) (r1_next fun r9 h7 q8 => ?_)
    obtain ⟨⟨z1, rfl, hz1⟩, rfl⟩ := q8
    clear h1 h2
    refine WP.isub K 8 own_b11_7 rfl ?_
    refine WP.bipush K (6 : Int32) 10 own_b11_8 rfl rfl ?_
    refine WP.iadd K 11 own_b11_10 rfl ?_
    refine WP.bipush K (7 : Int32) 13 own_b11_11 rfl rfl ?_
    refine WP.idiv K 14 own_b11_13 rfl (by decide) ?_
    have a1 : ((64 : Int32) - z1).toInt = (1 + (t : Int)) := by rw [i32_sub (by omega) (by omega)]; omega
    have a2 : (((64 : Int32) - z1) + (6 : Int32)).toInt = 6 + (1 + (t : Int)) := by rw [i32_add (by omega) (by omega)]; omega
    have a3 : ((((64 : Int32) - z1) + (6 : Int32)) / (7 : Int32)).toInt = (6 + (1 + (t : Int))) / 7 := by rw [(c_idiv _ (7 : Int32) 7 rfl (by decide)).1 (by omega), a2]
    have a4 := max32_spec (1 : Int32) ((((64 : Int32) - z1) + (6 : Int32)) / (7 : Int32))
    refine WP.callS K 17 0 0 0 [(.int (1 : Int32)), (.int ((((64 : Int32) - z1) + (6 : Int32)) / (7 : Int32)))] [] (hw _ (List.mem_of_getElem? (i := 91) rfl)) (hw _ (List.mem_of_getElem? (i := 92) rfl)) (hw _ (List.mem_of_getElem? (i := 50) rfl)) (hw _ (List.mem_of_getElem? (i := 93) rfl)) (by decide) own_pd_16 rfl rfl rfl (by decide) (by decide) (Nat.le_of_eq rfl) rfl own_b11_14 rfl rfl rfl (by decide) (by decide) (own_max l Z a0 hw n0 h (1 : Int32) ((((64 : Int32) - z1) + (6 : Int32)) / (7 : Int32)) ) (r1_next fun r12 h10 q11 => ?_)
    obtain ⟨rfl, rfl⟩ := q11
    refine WP.iret K rfl (Or.inl rfl) rfl own_b11_17 ?_ (by decide) (by decide)
    exact ⟨_, rfl, ⟨_, rfl, by omega⟩, rfl⟩
theorem own_b16_0 : decode prog_136_method_10_code 0 = .ok (.iload_n 1, 1) := by decide +kernel
theorem own_b16_1 : decode prog_136_method_10_code 1 = .ok (.istore 4, 2) := by decide +kernel
theorem own_b16_3 : decode prog_136_method_10_code 3 = .ok (.lload_n 2, 1) := by decide +kernel
theorem own_b16_4 : decode prog_136_method_10_code 4 = .ok (.lstore 5, 2) := by decide +kernel
theorem own_b16_6 : decode prog_136_method_10_code 6 = .ok (.lload 5, 2) := by decide +kernel
theorem own_b16_8 : decode prog_136_method_10_code 8 = .ok (.ldc2_w 110, 3) := by decide +kernel
theorem own_b16_11 : decode prog_136_method_10_code 11 = .ok (.land, 1) := by decide +kernel
theorem own_b16_12 : decode prog_136_method_10_code 12 = .ok (.lconst 0, 1) := by decide +kernel
theorem own_b16_13 : decode prog_136_method_10_code 13 = .ok (.lcmp, 1) := by decide +kernel
theorem own_b16_14 : decode prog_136_method_10_code 14 = .ok (.ifCond .eq 32, 3) := by decide +kernel
theorem own_b16_17 : decode prog_136_method_10_code 17 = .ok (.aload_n 0, 1) := by decide +kernel
theorem own_b16_18 : decode prog_136_method_10_code 18 = .ok (.iload 4, 2) := by decide +kernel
theorem own_b16_20 : decode prog_136_method_10_code 20 = .ok (.iinc 4 1, 3) := by decide +kernel
theorem own_b16_23 : decode prog_136_method_10_code 23 = .ok (.lload 5, 2) := by decide +kernel
theorem own_b16_25 : decode prog_136_method_10_code 25 = .ok (.ldc2_w 112, 3) := by decide +kernel
theorem own_b16_28 : decode prog_136_method_10_code 28 = .ok (.land, 1) := by decide +kernel
theorem own_b16_29 : decode prog_136_method_10_code 29 = .ok (.ldc2_w 114, 3) := by decide +kernel
theorem own_b16_32 : decode prog_136_method_10_code 32 = .ok (.lor, 1) := by decide +kernel
theorem own_b16_33 : decode prog_136_method_10_code 33 = .ok (.l2i, 1) := by decide +kernel
theorem own_b16_34 : decode prog_136_method_10_code 34 = .ok (.i2b, 1) := by decide +kernel
theorem own_b16_35 : decode prog_136_method_10_code 35 = .ok (.bastore, 1) := by decide +kernel
theorem own_b16_36 : decode prog_136_method_10_code 36 = .ok (.lload 5, 2) := by decide +kernel
theorem own_b16_38 : decode prog_136_method_10_code 38 = .ok (.bipush 7, 2) := by decide +kernel
theorem own_b16_40 : decode prog_136_method_10_code 40 = .ok (.lushr, 1) := by decide +kernel
theorem own_b16_41 : decode prog_136_method_10_code 41 = .ok (.lstore 5, 2) := by decide +kernel
theorem own_b16_43 : decode prog_136_method_10_code 43 = .ok (.goto (-37), 3) := by decide +kernel
theorem own_b16_46 : decode prog_136_method_10_code 46 = .ok (.aload_n 0, 1) := by decide +kernel
theorem own_b16_47 : decode prog_136_method_10_code 47 = .ok (.iload 4, 2) := by decide +kernel
theorem own_b16_49 : decode prog_136_method_10_code 49 = .ok (.iinc 4 1, 3) := by decide +kernel
theorem own_b16_52 : decode prog_136_method_10_code 52 = .ok (.lload 5, 2) := by decide +kernel
theorem own_b16_54 : decode prog_136_method_10_code 54 = .ok (.l2i, 1) := by decide +kernel
theorem own_b16_55 : decode prog_136_method_10_code 55 = .ok (.i2b, 1) := by decide +kernel
theorem own_b16_56 : decode prog_136_method_10_code 56 = .ok (.bastore, 1) := by decide +kernel
theorem own_b16_57 : decode prog_136_method_10_code 57 = .ok (.iload 4, 2) := by decide +kernel
theorem own_b16_59 : decode prog_136_method_10_code 59 = .ok (.ireturn, 1) := by decide +kernel
theorem own_pf_b16 : plainFor (⟨"com/example/vestline/vestline/util/KeptTexts", "putVarint", "([BIJ)I"⟩ : MethodName) = true := by first | exact plainFor_of_name (by first | (simp [plainName, overriddenIn, x]; done) | decide +kernel) | decide +kernel
set_option maxRecDepth 65536 in
set_option maxHeartbeats 40000000 in
theorem own_put (l : Launch) (Z : State) (a0 : Array Value) (hw : ∀ d ∈ tables_1, d.before a0 Z = true) (n0 : Nat) (h : Heap) (g : Nat) (at_ : Int32) (v : Int64) (X V Y : List Int8) (G : Nat) (A_g : ArB Z h g (X ++ V ++ Y)) (hV : V.length = el G) (ha : at_.toInt = (X.length : Nat)) (hv : v.toInt = (G : Nat)) (hl : X.length + V.length + Y.length ≤ 64) (n0_g : n0 ≤ g) :
    Con l Z (⟨"com/example/vestline/vestline/util/KeptTexts", "putVarint", "([BIJ)I"⟩ : MethodName) prog_136_method_10_code 7 (some .int) ({ frames := 0, cells := 0, slots := 0, locals := 0 } : Room) n0 #[(.ref g), (.int at_), (.long v)] h (R1 fun r h' => (∃ z : Int32, r = .int z ∧ z.toInt = ((X.length + el G : Nat) : Int)) ∧ ArB Z h' g (X ++ enc G ++ Y) ∧ Keep h h' [g]) := by
  refine Con.of (ls := [.val (.ref g), .val (.int at_), .val (.long v), .second, .unset, .unset, .unset]) own_pf_b16 (fun m => by first | (simp [entryFrame, mkF, argsToLocals, Value.category]; done) | rfl) fun k K => ?_
  have kL_m128 : (-128 : Int64).toInt = -128 := rfl
  have kL_0 : (0 : Int64).toInt = 0 := rfl
  have k_1 : (1 : Int32).toInt = 1 := rfl
  have kL_127 : (127 : Int64).toInt = 127 := rfl
  have kL_128 : (128 : Int64).toInt = 128 := rfl
  have k_7 : (7 : Int32).toInt = 7 := rfl
  have J6 : ∀ (D : Nat) (hh : Heap) (U W : List Int8) (pos : Int32) (v5 : Int64), Keep h hh [g] → ArB Z hh g (U ++ W ++ Y) → W.length = el D → pos.toInt = (U.length : Nat) → v5.toInt = (D : Nat) → U.length + W.length + Y.length ≤ 64 → U ++ enc D = X ++ enc G → WP k hh 0 0 6 [.val (.ref g), .val (.int at_), .val (.long v), .second, .val (.int pos), .val (.long v5), .second] [] := by
    intro D
    induction D using Nat.strongRecOn with
    | ind D ih =>
      intro hh U W pos v5 Kp A_g hW hpos hv5 hlen hT
      have hp := el_pos D
      obtain ⟨w0, W', rfl⟩ : ∃ w0 W', W = w0 :: W' := by
        cases W with
        | nil => exfalso; simp at hW; omega
        | cons a b => exact ⟨a, b, rfl⟩
      have hTl := congrArg List.length hT
      simp only [List.length_append] at hTl
      have eD : (enc D).length = el D := rfl
      have eG : (enc G).length = el G := rfl
      simp only [List.length_cons] at hW hlen
      have hinc := inc32 hpos (by omega)
      have hm := and_m128 hv5
      refine WP.lload K 8 own_b16_6 rfl rfl ?_
      refine WP.ldc2J K (v := (-128 : Int64)) 11 (hw _ (List.mem_of_getElem? (i := 103) rfl)) own_b16_8 rfl ?_
      refine WP.land K 12 own_b16_11 rfl ?_
      refine WP.lconst K (0 : Int64) 13 own_b16_12 rfl rfl ?_
      refine WP.lcmp K 14 own_b16_13 rfl ?_
      refine WP.ifl_eq K 46 17 own_b16_14 (by decide) rfl (fun c14 => ?_) (fun c14 => ?_)
      · skip
        have hD : D < 128 := by omega
        refine WP.aloadN K 47 own_b16_46 rfl rfl rfl ?_
        refine WP.iload K 49 own_b16_47 rfl rfl ?_
        refine WP.iinc K (1 : Int32) 52 [.val (.ref g), .val (.int at_), .val (.long v), .second, .val (.int (pos + (1 : Int32))), .val (.long v5), .second] own_b16_49 rfl rfl rfl rfl ?_
        refine WP.lload K 54 own_b16_52 rfl rfl ?_
        refine WP.l2i K 55 own_b16_54 rfl ?_
        refine WP.i2b K 56 own_b16_55 rfl ?_
        refine WP.bastore K 57 U.length A_g hpos (by simp) own_b16_56 rfl n0_g (fun h1 K2 A_g => ?_)
        have Kp := Kp.trans K2 (ks1 (by first | (refine Or.inl ?_; simp; done) | (refine Or.inr ?_; omega)))
        rw [set_mid, by_small hv5 hD] at A_g
        refine WP.iload K 59 own_b16_57 rfl rfl ?_
        refine WP.iret K rfl (Or.inl rfl) rfl own_b16_59 ?_ (by decide) (by decide)
        have hs := el_small hD
        refine ⟨_, rfl, ⟨_, rfl, by rw [hinc]; omega⟩, ?_, Kp⟩
        rw [← hT, enc_small hD]
        obtain rfl : W' = [] := List.length_eq_zero_iff.mp (by omega)
        simpa using A_g
      · skip
        have hD : ¬ D < 128 := by omega
        have hsh := ushrLK (x := v5) (q := (7 : Int32)) 7 rfl (by decide) hv5
        rw [show 2 ^ 7 = 128 from rfl] at hsh
        refine WP.aloadN K 18 own_b16_17 rfl rfl rfl ?_
        refine WP.iload K 20 own_b16_18 rfl rfl ?_
        refine WP.iinc K (1 : Int32) 23 [.val (.ref g), .val (.int at_), .val (.long v), .second, .val (.int (pos + (1 : Int32))), .val (.long v5), .second] own_b16_20 rfl rfl rfl rfl ?_
        refine WP.lload K 25 own_b16_23 rfl rfl ?_
        refine WP.ldc2J K (v := (127 : Int64)) 28 (hw _ (List.mem_of_getElem? (i := 111) rfl)) own_b16_25 rfl ?_
        refine WP.land K 29 own_b16_28 rfl ?_
        refine WP.ldc2J K (v := (128 : Int64)) 32 (hw _ (List.mem_of_getElem? (i := 112) rfl)) own_b16_29 rfl ?_
        refine WP.lor K 33 own_b16_32 rfl ?_
        refine WP.l2i K 34 own_b16_33 rfl ?_
        refine WP.i2b K 35 own_b16_34 rfl ?_
        refine WP.bastore K 36 U.length A_g hpos (by simp) own_b16_35 rfl n0_g (fun h3 K4 A_g => ?_)
        have Kp := Kp.trans K4 (ks1 (by first | (refine Or.inl ?_; simp; done) | (refine Or.inr ?_; omega)))
        rw [set_mid, by_big' hv5] at A_g
        refine WP.lload K 38 own_b16_36 rfl rfl ?_
        refine WP.bipush K (7 : Int32) 40 own_b16_38 rfl rfl ?_
        refine WP.lushr K 41 own_b16_40 rfl ?_
        refine WP.lstore K 43 [.val (.ref g), .val (.int at_), .val (.long v), .second, .val (.int (pos + (1 : Int32))), .val (.long (XT.ushrL v5 (7 : Int32))), .second] own_b16_41 rfl rfl ?_
        refine WP.goto K 6 own_b16_43 (by decide) ?_
        exact ih (D / 128) (by omega) _ (U ++ [Int8.ofNat (D % 128 + 128)]) W' _ _ Kp (by simpa using A_g) (by have := el_big hD; omega) (by rw [hinc, List.length_append]; rfl) hsh (by rw [List.length_append, List.length_singleton]; omega) (by rw [← hT, enc_big hD]; simp)
  refine WP.iloadN K 1 own_b16_0 rfl rfl ?_
  refine WP.istore K 3 [.val (.ref g), .val (.int at_), .val (.long v), .second, .val (.int at_), .unset, .unset] own_b16_1 rfl rfl ?_
  refine WP.lloadN K 4 own_b16_3 rfl rfl ?_
  refine WP.lstore K 6 [.val (.ref g), .val (.int at_), .val (.long v), .second, .val (.int at_), .val (.long v), .second] own_b16_4 rfl rfl ?_
  exact J6 G h X V _ _ (Keep.refl h _) A_g hV ha hv hl rfl
theorem own_b19_0 : decode prog_136_method_9_code 0 = .ok (.lconst 0, 1) := by decide +kernel
theorem own_b19_1 : decode prog_136_method_9_code 1 = .ok (.lstore_n 2, 1) := by decide +kernel
theorem own_b19_2 : decode prog_136_method_9_code 2 = .ok (.iconst 0, 1) := by decide +kernel
theorem own_b19_3 : decode prog_136_method_9_code 3 = .ok (.istore 4, 2) := by decide +kernel
theorem own_b19_5 : decode prog_136_method_9_code 5 = .ok (.iload_n 1, 1) := by decide +kernel
theorem own_b19_6 : decode prog_136_method_9_code 6 = .ok (.istore 5, 2) := by decide +kernel
theorem own_b19_8 : decode prog_136_method_9_code 8 = .ok (.aload_n 0, 1) := by decide +kernel
theorem own_b19_9 : decode prog_136_method_9_code 9 = .ok (.iload 5, 2) := by decide +kernel
theorem own_b19_11 : decode prog_136_method_9_code 11 = .ok (.iinc 5 1, 3) := by decide +kernel
theorem own_b19_14 : decode prog_136_method_9_code 14 = .ok (.baload, 1) := by decide +kernel
theorem own_b19_15 : decode prog_136_method_9_code 15 = .ok (.istore 6, 2) := by decide +kernel
theorem own_b19_17 : decode prog_136_method_9_code 17 = .ok (.lload_n 2, 1) := by decide +kernel
theorem own_b19_18 : decode prog_136_method_9_code 18 = .ok (.iload 6, 2) := by decide +kernel
theorem own_b19_20 : decode prog_136_method_9_code 20 = .ok (.bipush 127, 2) := by decide +kernel
theorem own_b19_22 : decode prog_136_method_9_code 22 = .ok (.iand, 1) := by decide +kernel
theorem own_b19_23 : decode prog_136_method_9_code 23 = .ok (.i2l, 1) := by decide +kernel
theorem own_b19_24 : decode prog_136_method_9_code 24 = .ok (.iload 4, 2) := by decide +kernel
theorem own_b19_26 : decode prog_136_method_9_code 26 = .ok (.lshl, 1) := by decide +kernel
theorem own_b19_27 : decode prog_136_method_9_code 27 = .ok (.lor, 1) := by decide +kernel
theorem own_b19_28 : decode prog_136_method_9_code 28 = .ok (.lstore_n 2, 1) := by decide +kernel
theorem own_b19_29 : decode prog_136_method_9_code 29 = .ok (.iinc 4 7, 3) := by decide +kernel
theorem own_b19_32 : decode prog_136_method_9_code 32 = .ok (.iload 6, 2) := by decide +kernel
theorem own_b19_34 : decode prog_136_method_9_code 34 = .ok (.ifCond .lt (-26), 3) := by decide +kernel
theorem own_b19_37 : decode prog_136_method_9_code 37 = .ok (.lload_n 2, 1) := by decide +kernel
theorem own_b19_38 : decode prog_136_method_9_code 38 = .ok (.lreturn, 1) := by decide +kernel
theorem own_pf_b19 : plainFor (⟨"com/example/vestline/vestline/util/KeptTexts", "varint", "([BI)J"⟩ : MethodName) = true := by first | exact plainFor_of_name (by first | (simp [plainName, overriddenIn, x]; done) | decide +kernel) | decide +kernel
set_option maxRecDepth 65536 in
set_option maxHeartbeats 40000000 in
theorem own_get (l : Launch) (Z : State) (a0 : Array Value) (hw : ∀ d ∈ tables_1, d.before a0 Z = true) (n0 : Nat) (h : Heap) (g : Nat) (at_ : Int32) (X Y : List Int8) (G : Nat) (A_g : ArB Z h g (X ++ enc G ++ Y)) (ha : at_.toInt = (X.length : Nat)) (hl : X.length + el G + Y.length ≤ 64) (hG : G < 9223372036854775808) :
    Con l Z (⟨"com/example/vestline/vestline/util/KeptTexts", "varint", "([BI)J"⟩ : MethodName) prog_136_method_9_code 7 (some .long) ({ frames := 0, cells := 0, slots := 0, locals := 0 } : Room) n0 #[(.ref g), (.int at_)] h (R1 fun r h' => (∃ z : Int64, r = .long z ∧ z.toInt = (G : Nat)) ∧ h = h') := by
  refine Con.of (ls := [.val (.ref g), .val (.int at_), .unset, .unset, .unset, .unset, .unset]) own_pf_b19 (fun m => by first | (simp [entryFrame, mkF, argsToLocals, Value.category]; done) | rfl) fun k K => ?_
  have k_0 : (0 : Int32).toInt = 0 := rfl
  have kL_0 : (0 : Int64).toInt = 0 := rfl
  have k_1 : (1 : Int32).toInt = 1 := rfl
  have k_127 : (127 : Int32).toInt = 127 := rfl
  have k_7 : (7 : Int32).toInt = 7 := rfl
  have J8 : ∀ (D : Nat) (U : List Int8) (pos : Int32) (acc : Int64) (sh : Int32) (i an : Nat) (s6 : Slot) (h_s6 : One s6), X ++ enc G = U ++ enc D → pos.toInt = (U.length : Nat) → acc.toInt = (an : Nat) → sh.toInt = ((7 * i : Nat) : Int) → an < 2 ^ (7 * i) → an + D * 2 ^ (7 * i) = G → (i = 0 ∨ 1 ≤ D) → WP k h 0 0 8 [.val (.ref g), .val (.int at_), .val (.long acc), .second, .val (.int sh), .val (.int pos), s6] [] := by
    intro D
    induction D using Nat.strongRecOn with
    | ind D ih =>
      intro U pos acc sh i an s6 h_s6 hT hpos hacc hsh han hsum hi
      have hTl := congrArg List.length hT
      simp only [List.length_append] at hTl
      have eD : (enc D).length = el D := rfl
      have eG : (enc G).length = el G := rfl
      have hpw : 1 ≤ 2 ^ (7 * i) := Nat.pow_pos (by decide)
      have hi8 : i ≤ 8 := by
        rcases hi with rfl | hi
        · omega
        · have h1 : 2 ^ (7 * i) ≤ G := by
            have := Nat.mul_le_mul_right (2 ^ (7 * i)) hi
            omega
          have := nlz_lo (s := 7 * i) (k := 63) h1 (by have : 2 ^ 63 = 9223372036854775808 := rfl; omega)
          omega
      have hp := el_pos D
      have hinc := inc32 hpos (by omega)
      have hsh7 : (sh + (7 : Int32)).toInt = ((7 * (i + 1) : Nat) : Int) := by rw [i32_add (by omega) (by omega)]; omega
      by_cases hD : D < 128
      · skip
        have hb := b8 D (by omega)
        have hba := b_and D (by omega)
        have hb2 : (Int8.ofNat D).toInt32.toInt = (Int8.ofNat D).toInt := Int8.toInt_toInt32 _
        rw [if_pos hD] at hb
        rw [Nat.mod_eq_of_lt hD] at hba
        rw [enc_small hD] at hT
        have hor := lor_shl hacc hba hsh hi8 han (by omega)
        have hg : (X ++ enc G ++ Y)[U.length]? = some (Int8.ofNat D) := by rw [hT, List.append_assoc, List.cons_append]; exact get_mid _ _ _
        refine WP.aloadN K 9 own_b19_8 rfl rfl rfl ?_
        refine WP.iload K 11 own_b19_9 rfl rfl ?_
        refine WP.iinc K (1 : Int32) 14 [.val (.ref g), .val (.int at_), .val (.long acc), .second, .val (.int sh), .val (.int (pos + (1 : Int32))), s6] own_b19_11 rfl rfl rfl rfl ?_
        refine WP.baload K 15 U.length A_g hpos hg own_b19_14 rfl ?_
        refine WP.istore K 17 [.val (.ref g), .val (.int at_), .val (.long acc), .second, .val (.int sh), .val (.int (pos + (1 : Int32))), .val (.int (Int8.ofNat D).toInt32)] own_b19_15 rfl (st1 rfl h_s6 rfl) ?_
        refine WP.lloadN K 18 own_b19_17 rfl rfl ?_
        refine WP.iload K 20 own_b19_18 rfl rfl ?_
        refine WP.bipush K (127 : Int32) 22 own_b19_20 rfl rfl ?_
        refine WP.iand K 23 own_b19_22 rfl ?_
        refine WP.i2l K 24 own_b19_23 rfl ?_
        refine WP.iload K 26 own_b19_24 rfl rfl ?_
        refine WP.lshl K 27 own_b19_26 rfl ?_
        refine WP.lor K 28 own_b19_27 rfl ?_
        refine WP.lstoreN K 29 [.val (.ref g), .val (.int at_), .val (.long (acc ||| (((((Int8.ofNat D).toInt32) &&& (127 : Int32)).toInt64) <<< (sh.toInt64 &&& 63)))), .second, .val (.int sh), .val (.int (pos + (1 : Int32))), .val (.int (Int8.ofNat D).toInt32)] own_b19_28 rfl rfl ?_
        refine WP.iinc K (7 : Int32) 32 [.val (.ref g), .val (.int at_), .val (.long (acc ||| (((((Int8.ofNat D).toInt32) &&& (127 : Int32)).toInt64) <<< (sh.toInt64 &&& 63)))), .second, .val (.int (sh + (7 : Int32))), .val (.int (pos + (1 : Int32))), .val (.int (Int8.ofNat D).toInt32)] own_b19_29 rfl rfl rfl rfl ?_
        refine WP.iload K 34 own_b19_32 rfl rfl ?_
        refine WP.if_lt K 8 37 own_b19_34 (by decide) rfl (fun c34 => ?_) (fun c34 => ?_)
        · skip
          exfalso; omega
        · skip
          refine WP.lloadN K 38 own_b19_37 rfl rfl ?_
          refine WP.lret K rfl own_b19_38 ?_ (by decide) (by decide)
          exact ⟨_, rfl, ⟨_, rfl, by rw [hor, hsum]⟩, rfl⟩
      · skip
        have hb := b8 (D % 128 + 128) (by omega)
        have hba := b_and (D % 128 + 128) (by omega)
        have hb2 : (Int8.ofNat (D % 128 + 128)).toInt32.toInt = (Int8.ofNat (D % 128 + 128)).toInt := Int8.toInt_toInt32 _
        rw [if_neg (by omega)] at hb
        rw [show (D % 128 + 128) % 128 = D % 128 by omega] at hba
        rw [enc_big hD] at hT
        have hdm := Nat.div_add_mod D 128
        have e7 : 2 ^ (7 * (i + 1)) = 128 * 2 ^ (7 * i) := by rw [show 7 * (i + 1) = 7 + 7 * i by omega, Nat.pow_add]
        have hs2 : (an + D % 128 * 2 ^ (7 * i)) + D / 128 * 2 ^ (7 * (i + 1)) = G := by
          rw [e7, ← hsum]
          have : D * 2 ^ (7 * i) = (128 * (D / 128) + D % 128) * 2 ^ (7 * i) := by rw [hdm]
          rw [this, Nat.add_mul, ← Nat.mul_assoc, Nat.mul_comm (D / 128) 128]; omega
        have hlt : an + D % 128 * 2 ^ (7 * i) < 2 ^ (7 * (i + 1)) := by
          rw [e7]
          have := Nat.mul_le_mul_right (2 ^ (7 * i)) (show D % 128 ≤ 127 by omega)
          omega
        have hor := lor_shl hacc hba hsh hi8 han (by omega)
        have hg : (X ++ enc G ++ Y)[U.length]? = some (Int8.ofNat (D % 128 + 128)) := by rw [hT, List.append_assoc, List.cons_append]; exact get_mid _ _ _
        refine WP.aloadN K 9 own_b19_8 rfl rfl rfl ?_
        refine WP.iload K 11 own_b19_9 rfl rfl ?_
        refine WP.iinc K (1 : Int32) 14 [.val (.ref g), .val (.int at_), .val (.long acc), .second, .val (.int sh), .val (.int (pos + (1 : Int32))), s6] own_b19_11 rfl rfl rfl rfl ?_
        refine WP.baload K 15 U.length A_g hpos hg own_b19_14 rfl ?_
        refine WP.istore K 17 [.val (.ref g), .val (.int at_), .val (.long acc), .second, .val (.int sh), .val (.int (pos + (1 : Int32))), .val (.int (Int8.ofNat (D % 128 + 128)).toInt32)] own_b19_15 rfl (st1 rfl h_s6 rfl) ?_
        refine WP.lloadN K 18 own_b19_17 rfl rfl ?_
        refine WP.iload K 20 own_b19_18 rfl rfl ?_
        refine WP.bipush K (127 : Int32) 22 own_b19_20 rfl rfl ?_
        refine WP.iand K 23 own_b19_22 rfl ?_
        refine WP.i2l K 24 own_b19_23 rfl ?_
        refine WP.iload K 26 own_b19_24 rfl rfl ?_
        refine WP.lshl K 27 own_b19_26 rfl ?_
        refine WP.lor K 28 own_b19_27 rfl ?_
        refine WP.lstoreN K 29 [.val (.ref g), .val (.int at_), .val (.long (acc ||| (((((Int8.ofNat (D % 128 + 128)).toInt32) &&& (127 : Int32)).toInt64) <<< (sh.toInt64 &&& 63)))), .second, .val (.int sh), .val (.int (pos + (1 : Int32))), .val (.int (Int8.ofNat (D % 128 + 128)).toInt32)] own_b19_28 rfl rfl ?_
        refine WP.iinc K (7 : Int32) 32 [.val (.ref g), .val (.int at_), .val (.long (acc ||| (((((Int8.ofNat (D % 128 + 128)).toInt32) &&& (127 : Int32)).toInt64) <<< (sh.toInt64 &&& 63)))), .second, .val (.int (sh + (7 : Int32))), .val (.int (pos + (1 : Int32))), .val (.int (Int8.ofNat (D % 128 + 128)).toInt32)] own_b19_29 rfl rfl rfl rfl ?_
        refine WP.iload K 34 own_b19_32 rfl rfl ?_
        refine WP.if_lt K 8 37 own_b19_34 (by decide) rfl (fun c34 => ?_) (fun c34 => ?_)
        · skip
          exact ih (D / 128) (by omega) (U ++ [(Int8.ofNat (D % 128 + 128))]) _ _ _ (i + 1) (an + D % 128 * 2 ^ (7 * i)) _ (One.val rfl) (by rw [hT]; simp) (by rw [hinc, List.length_append]; rfl) hor hsh7 hlt hs2 (Or.inr (by omega))
        · skip
          exfalso; omega
  refine WP.lconst K (0 : Int64) 1 own_b19_0 rfl rfl ?_
  refine WP.lstoreN K 2 [.val (.ref g), .val (.int at_), .val (.long (0 : Int64)), .second, .unset, .unset, .unset] own_b19_1 rfl rfl ?_
  refine WP.iconst K (0 : Int32) 3 own_b19_2 rfl rfl ?_
  refine WP.istore K 5 [.val (.ref g), .val (.int at_), .val (.long (0 : Int64)), .second, .val (.int (0 : Int32)), .unset, .unset] own_b19_3 rfl rfl ?_
  refine WP.iloadN K 6 own_b19_5 rfl rfl ?_
  refine WP.istore K 8 [.val (.ref g), .val (.int at_), .val (.long (0 : Int64)), .second, .val (.int (0 : Int32)), .val (.int at_), .unset] own_b19_6 rfl rfl ?_
  exact J8 G X _ _ _ 0 0 _ One.u rfl ha rfl rfl (by decide) (by simp) (Or.inl rfl)
theorem own_b21_0 : decode jdk_65_method_30_code 0 = .ok (.iload_n 1, 1) := by decide +kernel
theorem own_b21_1 : decode jdk_65_method_30_code 1 = .ok (.iload_n 2, 1) := by decide +kernel
theorem own_b21_2 : decode jdk_65_method_30_code 2 = .ok (.if_icmp .le 44, 3) := by decide +kernel
theorem own_b21_5 : decode jdk_65_method_30_code 5 = .ok (.new 43, 3) := by decide +kernel
theorem own_b21_8 : decode jdk_65_method_30_code 8 = .ok (.dup, 1) := by decide +kernel
theorem own_b21_9 : decode jdk_65_method_30_code 9 = .ok (.new 45, 3) := by decide +kernel
theorem own_b21_12 : decode jdk_65_method_30_code 12 = .ok (.dup, 1) := by decide +kernel
theorem own_b21_13 : decode jdk_65_method_30_code 13 = .ok (.invokespecial 47, 3) := by decide +kernel
theorem own_b21_16 : decode jdk_65_method_30_code 16 = .ok (.ldc 48, 2) := by decide +kernel
theorem own_b21_18 : decode jdk_65_method_30_code 18 = .ok (.invokevirtual 50, 3) := by decide +kernel
theorem own_b21_21 : decode jdk_65_method_30_code 21 = .ok (.iload_n 1, 1) := by decide +kernel
theorem own_b21_22 : decode jdk_65_method_30_code 22 = .ok (.invokevirtual 54, 3) := by decide +kernel
theorem own_b21_25 : decode jdk_65_method_30_code 25 = .ok (.ldc 57, 2) := by decide +kernel
theorem own_b21_27 : decode jdk_65_method_30_code 27 = .ok (.invokevirtual 50, 3) := by decide +kernel
theorem own_b21_30 : decode jdk_65_method_30_code 30 = .ok (.iload_n 2, 1) := by decide +kernel
theorem own_b21_31 : decode jdk_65_method_30_code 31 = .ok (.invokevirtual 54, 3) := by decide +kernel
theorem own_b21_34 : decode jdk_65_method_30_code 34 = .ok (.ldc 59, 2) := by decide +kernel
theorem own_b21_36 : decode jdk_65_method_30_code 36 = .ok (.invokevirtual 50, 3) := by decide +kernel
theorem own_b21_39 : decode jdk_65_method_30_code 39 = .ok (.invokevirtual 61, 3) := by decide +kernel
theorem own_b21_42 : decode jdk_65_method_30_code 42 = .ok (.invokespecial 65, 3) := by decide +kernel
theorem own_b21_45 : decode jdk_65_method_30_code 45 = .ok (.athrow, 1) := by decide +kernel
theorem own_b21_46 : decode jdk_65_method_30_code 46 = .ok (.iload_n 1, 1) := by decide +kernel
theorem own_b21_47 : decode jdk_65_method_30_code 47 = .ok (.ifCond .ge 12, 3) := by decide +kernel
theorem own_b21_50 : decode jdk_65_method_30_code 50 = .ok (.new 68, 3) := by decide +kernel
theorem own_b21_53 : decode jdk_65_method_30_code 53 = .ok (.dup, 1) := by decide +kernel
theorem own_b21_54 : decode jdk_65_method_30_code 54 = .ok (.iload_n 1, 1) := by decide +kernel
theorem own_b21_55 : decode jdk_65_method_30_code 55 = .ok (.invokespecial 70, 3) := by decide +kernel
theorem own_b21_58 : decode jdk_65_method_30_code 58 = .ok (.athrow, 1) := by decide +kernel
theorem own_b21_59 : decode jdk_65_method_30_code 59 = .ok (.iload_n 2, 1) := by decide +kernel
theorem own_b21_60 : decode jdk_65_method_30_code 60 = .ok (.iload_n 0, 1) := by decide +kernel
theorem own_b21_61 : decode jdk_65_method_30_code 61 = .ok (.if_icmp .le 12, 3) := by decide +kernel
theorem own_b21_64 : decode jdk_65_method_30_code 64 = .ok (.new 68, 3) := by decide +kernel
theorem own_b21_67 : decode jdk_65_method_30_code 67 = .ok (.dup, 1) := by decide +kernel
theorem own_b21_68 : decode jdk_65_method_30_code 68 = .ok (.iload_n 2, 1) := by decide +kernel
theorem own_b21_69 : decode jdk_65_method_30_code 69 = .ok (.invokespecial 70, 3) := by decide +kernel
theorem own_b21_72 : decode jdk_65_method_30_code 72 = .ok (.athrow, 1) := by decide +kernel
theorem own_b21_73 : decode jdk_65_method_30_code 73 = .ok (.return_, 1) := by decide +kernel
theorem own_pf_b21 : plainFor (⟨"java/util/Arrays", "rangeCheck", "(III)V"⟩ : MethodName) = true := by first | exact plainFor_of_name (by first | (simp [plainName, overriddenIn, x]; done) | decide +kernel) | decide +kernel
set_option maxRecDepth 65536 in
set_option maxHeartbeats 40000000 in
theorem own_rchk (l : Launch) (Z : State) (a0 : Array Value) (hw : ∀ d ∈ tables_1, d.before a0 Z = true) (n0 : Nat) (h : Heap) (n f t : Int32) (h1 : f.toInt ≤ t.toInt) (h2 : 0 ≤ f.toInt) (h3 : t.toInt ≤ n.toInt) :
    Con l Z (⟨"java/util/Arrays", "rangeCheck", "(III)V"⟩ : MethodName) jdk_65_method_30_code 3 none ({ frames := 0, cells := 0, slots := 0, locals := 0 } : Room) n0 #[(.int n), (.int f), (.int t)] h (R0 fun h' => h = h') := by
  refine Con.of (ls := [.val (.int n), .val (.int f), .val (.int t)]) own_pf_b21 (fun m => by first | (simp [entryFrame, mkF, argsToLocals, Value.category]; done) | rfl) fun k K => ?_
  refine WP.iloadN K 1 own_b21_0 rfl rfl ?_
  refine WP.iloadN K 2 own_b21_1 rfl rfl ?_
  refine WP.icmp_le K 46 5 own_b21_2 (by decide) rfl (fun c2 => ?_) (fun c2 => ?_)
  · skip
    refine WP.iloadN K 47 own_b21_46 rfl rfl ?_
    refine WP.if_ge K 59 50 own_b21_47 (by decide) rfl (fun c47 => ?_) (fun c47 => ?_)
    · skip
      refine WP.iloadN K 60 own_b21_59 rfl rfl ?_
      refine WP.iloadN K 61 own_b21_60 rfl rfl ?_
      refine WP.icmp_le K 73 64 own_b21_61 (by decide) rfl (fun c61 => ?_) (fun c61 => ?_)
      · skip
        refine WP.retV K rfl own_b21_73 ?_ (by decide) (by decide)
        exact ⟨rfl, rfl⟩
      · skip
        exfalso; omega
    · skip
      exfalso; omega
  · skip
    exfalso; omega
theorem own_b22_0 : decode jdk_48_method_14_code 0 = .ok (.iconst 0, 1) := by decide +kernel
theorem own_b22_1 : decode jdk_48_method_14_code 1 = .ok (.istore 5, 2) := by decide +kernel
theorem own_b22_3 : decode jdk_48_method_14_code 3 = .ok (.iload 4, 2) := by decide +kernel
theorem own_b22_5 : decode jdk_48_method_14_code 5 = .ok (.bipush 7, 2) := by decide +kernel
theorem own_b22_7 : decode jdk_48_method_14_code 7 = .ok (.if_icmp .le 63, 3) := by decide +kernel
theorem own_b22_10 : decode jdk_48_method_14_code 10 = .ok (.aload_n 0, 1) := by decide +kernel
theorem own_b22_11 : decode jdk_48_method_14_code 11 = .ok (.iload_n 1, 1) := by decide +kernel
theorem own_b22_12 : decode jdk_48_method_14_code 12 = .ok (.baload, 1) := by decide +kernel
theorem own_b22_13 : decode jdk_48_method_14_code 13 = .ok (.aload_n 2, 1) := by decide +kernel
theorem own_b22_14 : decode jdk_48_method_14_code 14 = .ok (.iload_n 3, 1) := by decide +kernel
theorem own_b22_15 : decode jdk_48_method_14_code 15 = .ok (.baload, 1) := by decide +kernel
theorem own_b22_16 : decode jdk_48_method_14_code 16 = .ok (.if_icmp .eq 5, 3) := by decide +kernel
theorem own_b22_19 : decode jdk_48_method_14_code 19 = .ok (.iconst 0, 1) := by decide +kernel
theorem own_b22_20 : decode jdk_48_method_14_code 20 = .ok (.ireturn, 1) := by decide +kernel
theorem own_b22_21 : decode jdk_48_method_14_code 21 = .ok (.getstatic 126, 3) := by decide +kernel
theorem own_b22_24 : decode jdk_48_method_14_code 24 = .ok (.iload_n 1, 1) := by decide +kernel
theorem own_b22_25 : decode jdk_48_method_14_code 25 = .ok (.iadd, 1) := by decide +kernel
theorem own_b22_26 : decode jdk_48_method_14_code 26 = .ok (.istore 6, 2) := by decide +kernel
theorem own_b22_28 : decode jdk_48_method_14_code 28 = .ok (.getstatic 126, 3) := by decide +kernel
theorem own_b22_31 : decode jdk_48_method_14_code 31 = .ok (.iload_n 3, 1) := by decide +kernel
theorem own_b22_32 : decode jdk_48_method_14_code 32 = .ok (.iadd, 1) := by decide +kernel
theorem own_b22_33 : decode jdk_48_method_14_code 33 = .ok (.istore 7, 2) := by decide +kernel
theorem own_b22_35 : decode jdk_48_method_14_code 35 = .ok (.aload_n 0, 1) := by decide +kernel
theorem own_b22_36 : decode jdk_48_method_14_code 36 = .ok (.iload 6, 2) := by decide +kernel
theorem own_b22_38 : decode jdk_48_method_14_code 38 = .ok (.i2l, 1) := by decide +kernel
theorem own_b22_39 : decode jdk_48_method_14_code 39 = .ok (.aload_n 2, 1) := by decide +kernel
theorem own_b22_40 : decode jdk_48_method_14_code 40 = .ok (.iload 7, 2) := by decide +kernel
theorem own_b22_42 : decode jdk_48_method_14_code 42 = .ok (.i2l, 1) := by decide +kernel
theorem own_b22_43 : decode jdk_48_method_14_code 43 = .ok (.iload 4, 2) := by decide +kernel
theorem own_b22_45 : decode jdk_48_method_14_code 45 = .ok (.getstatic 129, 3) := by decide +kernel
theorem own_b22_48 : decode jdk_48_method_14_code 48 = .ok (.invokestatic 122, 3) := by decide +kernel
theorem own_b22_51 : decode jdk_48_method_14_code 51 = .ok (.istore 5, 2) := by decide +kernel
theorem own_b22_53 : decode jdk_48_method_14_code 53 = .ok (.iload 5, 2) := by decide +kernel
theorem own_b22_55 : decode jdk_48_method_14_code 55 = .ok (.ifCond .lt 6, 3) := by decide +kernel
theorem own_b22_58 : decode jdk_48_method_14_code 58 = .ok (.iload 5, 2) := by decide +kernel
theorem own_b22_60 : decode jdk_48_method_14_code 60 = .ok (.ireturn, 1) := by decide +kernel
theorem own_b22_61 : decode jdk_48_method_14_code 61 = .ok (.iload 4, 2) := by decide +kernel
theorem own_b22_63 : decode jdk_48_method_14_code 63 = .ok (.iload 5, 2) := by decide +kernel
theorem own_b22_65 : decode jdk_48_method_14_code 65 = .ok (.iconst (-1), 1) := by decide +kernel
theorem own_b22_66 : decode jdk_48_method_14_code 66 = .ok (.ixor, 1) := by decide +kernel
theorem own_b22_67 : decode jdk_48_method_14_code 67 = .ok (.isub, 1) := by decide +kernel
theorem own_b22_68 : decode jdk_48_method_14_code 68 = .ok (.istore 5, 2) := by decide +kernel
theorem own_b22_70 : decode jdk_48_method_14_code 70 = .ok (.iload 5, 2) := by decide +kernel
theorem own_b22_72 : decode jdk_48_method_14_code 72 = .ok (.iload 4, 2) := by decide +kernel
theorem own_b22_74 : decode jdk_48_method_14_code 74 = .ok (.if_icmp .ge 27, 3) := by decide +kernel
theorem own_b22_77 : decode jdk_48_method_14_code 77 = .ok (.aload_n 0, 1) := by decide +kernel
theorem own_b22_78 : decode jdk_48_method_14_code 78 = .ok (.iload_n 1, 1) := by decide +kernel
theorem own_b22_79 : decode jdk_48_method_14_code 79 = .ok (.iload 5, 2) := by decide +kernel
theorem own_b22_81 : decode jdk_48_method_14_code 81 = .ok (.iadd, 1) := by decide +kernel
theorem own_b22_82 : decode jdk_48_method_14_code 82 = .ok (.baload, 1) := by decide +kernel
theorem own_b22_83 : decode jdk_48_method_14_code 83 = .ok (.aload_n 2, 1) := by decide +kernel
theorem own_b22_84 : decode jdk_48_method_14_code 84 = .ok (.iload_n 3, 1) := by decide +kernel
theorem own_b22_85 : decode jdk_48_method_14_code 85 = .ok (.iload 5, 2) := by decide +kernel
theorem own_b22_87 : decode jdk_48_method_14_code 87 = .ok (.iadd, 1) := by decide +kernel
theorem own_b22_88 : decode jdk_48_method_14_code 88 = .ok (.baload, 1) := by decide +kernel
theorem own_b22_89 : decode jdk_48_method_14_code 89 = .ok (.if_icmp .eq 6, 3) := by decide +kernel
theorem own_b22_92 : decode jdk_48_method_14_code 92 = .ok (.iload 5, 2) := by decide +kernel
theorem own_b22_94 : decode jdk_48_method_14_code 94 = .ok (.ireturn, 1) := by decide +kernel
theorem own_b22_95 : decode jdk_48_method_14_code 95 = .ok (.iinc 5 1, 3) := by decide +kernel
theorem own_b22_98 : decode jdk_48_method_14_code 98 = .ok (.goto (-28), 3) := by decide +kernel
theorem own_b22_101 : decode jdk_48_method_14_code 101 = .ok (.iconst (-1), 1) := by decide +kernel
theorem own_b22_102 : decode jdk_48_method_14_code 102 = .ok (.ireturn, 1) := by decide +kernel
theorem own_pf_b22 : plainFor (⟨"jdk/internal/util/ArraysSupport", "mismatch", "([BI[BII)I"⟩ : MethodName) = true := by first | exact plainFor_of_name (by first | (simp [plainName, overriddenIn, x]; done) | decide +kernel) | decide +kernel
set_option maxRecDepth 65536 in
set_option maxHeartbeats 40000000 in
theorem own_mis (l : Launch) (Z : State) (a0 : Array Value) (hw : ∀ d ∈ tables_1, d.before a0 Z = true) (n0 : Nat) (h : Heap) (a e : Nat) (ai ei n : Int32) (S_ D N : Nat) (xs ys : List Int8) (A_a : ArB Z h a xs) (A_e : ArB Z h e ys) (hai : ai.toInt = (S_ : Nat)) (hei : ei.toInt = (D : Nat)) (hx : S_ + N ≤ xs.length) (hy : D + N ≤ ys.length) (hl : xs.length ≤ 64 ∧ ys.length ≤ 64) (hN : N ≤ 7) (hE : ∀ i, i < N → ∃ u, xs[S_ + i]? = some u ∧ ys[D + i]? = some u) (hn : n.toInt = (N : Nat)) :
    Con l Z (⟨"jdk/internal/util/ArraysSupport", "mismatch", "([BI[BII)I"⟩ : MethodName) jdk_48_method_14_code 8 (some .int) ({ frames := 0, cells := 0, slots := 0, locals := 0 } : Room) n0 #[(.ref a), (.int ai), (.ref e), (.int ei), (.int n)] h (R1 fun r h' => r = .int (-1) ∧ h = h') := by
  refine Con.of (ls := [.val (.ref a), .val (.int ai), .val (.ref e), .val (.int ei), .val (.int n), .unset, .unset, .unset]) own_pf_b22 (fun m => by first | (simp [entryFrame, mkF, argsToLocals, Value.category]; done) | rfl) fun k K => ?_
  have k_m1 : ((-1) : Int32).toInt = -1 := rfl
  have k_0 : (0 : Int32).toInt = 0 := rfl
  have k_1 : (1 : Int32).toInt = 1 := rfl
  have k_7 : (7 : Int32).toInt = 7 := rfl
  have J70 : ∀ (f i : Nat) (i5 : Int32), N - i ≤ f → i ≤ N → i5.toInt = (i : Nat) → WP k h 0 0 70 [.val (.ref a), .val (.int ai), .val (.ref e), .val (.int ei), .val (.int n), .val (.int i5), .unset, .unset] [] := by
    intro f
    induction f with
    | zero =>
      intro i i5 hf hi hi5
      refine WP.iload K 72 own_b22_70 rfl rfl ?_
      refine WP.iload K 74 own_b22_72 rfl rfl ?_
      refine WP.icmp_ge K 101 77 own_b22_74 (by decide) rfl (fun c74 => ?_) (fun c74 => ?_)
      · skip
        refine WP.iconst K ((-1) : Int32) 102 own_b22_101 rfl rfl ?_
        refine WP.iret K rfl (Or.inl rfl) rfl own_b22_102 ?_ (by decide) (by decide)
        exact ⟨_, rfl, rfl, rfl⟩
      · skip
        exfalso; omega
    | succ f ih =>
      intro i i5 hf hi hi5
      refine WP.iload K 72 own_b22_70 rfl rfl ?_
      refine WP.iload K 74 own_b22_72 rfl rfl ?_
      refine WP.icmp_ge K 101 77 own_b22_74 (by decide) rfl (fun c74 => ?_) (fun c74 => ?_)
      · skip
        refine WP.iconst K ((-1) : Int32) 102 own_b22_101 rfl rfl ?_
        refine WP.iret K rfl (Or.inl rfl) rfl own_b22_102 ?_ (by decide) (by decide)
        exact ⟨_, rfl, rfl, rfl⟩
      · skip
        obtain ⟨u, hu1, hu2⟩ := hE i (by omega)
        refine WP.aloadN K 78 own_b22_77 rfl rfl rfl ?_
        refine WP.iloadN K 79 own_b22_78 rfl rfl ?_
        refine WP.iload K 81 own_b22_79 rfl rfl ?_
        refine WP.iadd K 82 own_b22_81 rfl ?_
        refine WP.baload K 83 (S_ + i) A_a (by rw [i32_add (by omega) (by omega)]; omega) hu1 own_b22_82 rfl ?_
        refine WP.aloadN K 84 own_b22_83 rfl rfl rfl ?_
        refine WP.iloadN K 85 own_b22_84 rfl rfl ?_
        refine WP.iload K 87 own_b22_85 rfl rfl ?_
        refine WP.iadd K 88 own_b22_87 rfl ?_
        refine WP.baload K 89 (D + i) A_e (by rw [i32_add (by omega) (by omega)]; omega) hu2 own_b22_88 rfl ?_
        refine WP.icmp_eq K 95 92 own_b22_89 (by decide) rfl (fun c89 => ?_) (fun c89 => ?_)
        · skip
          refine WP.iinc K (1 : Int32) 98 [.val (.ref a), .val (.int ai), .val (.ref e), .val (.int ei), .val (.int n), .val (.int (i5 + (1 : Int32))), .unset, .unset] own_b22_95 rfl rfl rfl rfl ?_
          refine WP.goto K 70 own_b22_98 (by decide) ?_
          exact ih (i + 1) _ (by omega) (by omega) (inc32 hi5 (by omega))
        · skip
          exact absurd rfl c89
  refine WP.iconst K (0 : Int32) 1 own_b22_0 rfl rfl ?_
  refine WP.istore K 3 [.val (.ref a), .val (.int ai), .val (.ref e), .val (.int ei), .val (.int n), .val (.int (0 : Int32)), .unset, .unset] own_b22_1 rfl rfl ?_
  refine WP.iload K 5 own_b22_3 rfl rfl ?_
  refine WP.bipush K (7 : Int32) 7 own_b22_5 rfl rfl ?_
  refine WP.icmp_le K 70 10 own_b22_7 (by decide) rfl (fun c7 => ?_) (fun c7 => ?_)
  · skip
    exact J70 N 0 _ (by omega) (by omega) rfl
  · skip
    exfalso; omega
theorem own_b20_0 : decode jdk_65_method_90_code 0 = .ok (.aload_n 0, 1) := by decide +kernel
theorem own_b20_1 : decode jdk_65_method_90_code 1 = .ok (.arraylength, 1) := by decide +kernel
theorem own_b20_2 : decode jdk_65_method_90_code 2 = .ok (.iload_n 1, 1) := by decide +kernel
theorem own_b20_3 : decode jdk_65_method_90_code 3 = .ok (.iload_n 2, 1) := by decide +kernel
theorem own_b20_4 : decode jdk_65_method_90_code 4 = .ok (.invokestatic 13, 3) := by decide +kernel
theorem own_b20_7 : decode jdk_65_method_90_code 7 = .ok (.aload_n 3, 1) := by decide +kernel
theorem own_b20_8 : decode jdk_65_method_90_code 8 = .ok (.arraylength, 1) := by decide +kernel
theorem own_b20_9 : decode jdk_65_method_90_code 9 = .ok (.iload 4, 2) := by decide +kernel
theorem own_b20_11 : decode jdk_65_method_90_code 11 = .ok (.iload 5, 2) := by decide +kernel
theorem own_b20_13 : decode jdk_65_method_90_code 13 = .ok (.invokestatic 13, 3) := by decide +kernel
theorem own_b20_16 : decode jdk_65_method_90_code 16 = .ok (.iload_n 2, 1) := by decide +kernel
theorem own_b20_17 : decode jdk_65_method_90_code 17 = .ok (.iload_n 1, 1) := by decide +kernel
theorem own_b20_18 : decode jdk_65_method_90_code 18 = .ok (.isub, 1) := by decide +kernel
theorem own_b20_19 : decode jdk_65_method_90_code 19 = .ok (.istore 6, 2) := by decide +kernel
theorem own_b20_21 : decode jdk_65_method_90_code 21 = .ok (.iload 5, 2) := by decide +kernel
theorem own_b20_23 : decode jdk_65_method_90_code 23 = .ok (.iload 4, 2) := by decide +kernel
theorem own_b20_25 : decode jdk_65_method_90_code 25 = .ok (.isub, 1) := by decide +kernel
theorem own_b20_26 : decode jdk_65_method_90_code 26 = .ok (.istore 7, 2) := by decide +kernel
theorem own_b20_28 : decode jdk_65_method_90_code 28 = .ok (.iload 6, 2) := by decide +kernel
theorem own_b20_30 : decode jdk_65_method_90_code 30 = .ok (.iload 7, 2) := by decide +kernel
theorem own_b20_32 : decode jdk_65_method_90_code 32 = .ok (.if_icmp .eq 5, 3) := by decide +kernel
theorem own_b20_35 : decode jdk_65_method_90_code 35 = .ok (.iconst 0, 1) := by decide +kernel
theorem own_b20_36 : decode jdk_65_method_90_code 36 = .ok (.ireturn, 1) := by decide +kernel
theorem own_b20_37 : decode jdk_65_method_90_code 37 = .ok (.aload_n 0, 1) := by decide +kernel
theorem own_b20_38 : decode jdk_65_method_90_code 38 = .ok (.iload_n 1, 1) := by decide +kernel
theorem own_b20_39 : decode jdk_65_method_90_code 39 = .ok (.aload_n 3, 1) := by decide +kernel
theorem own_b20_40 : decode jdk_65_method_90_code 40 = .ok (.iload 4, 2) := by decide +kernel
theorem own_b20_42 : decode jdk_65_method_90_code 42 = .ok (.iload 6, 2) := by decide +kernel
theorem own_b20_44 : decode jdk_65_method_90_code 44 = .ok (.invokestatic 275, 3) := by decide +kernel
theorem own_b20_47 : decode jdk_65_method_90_code 47 = .ok (.ifCond .ge 7, 3) := by decide +kernel
theorem own_b20_50 : decode jdk_65_method_90_code 50 = .ok (.iconst 1, 1) := by decide +kernel
theorem own_b20_51 : decode jdk_65_method_90_code 51 = .ok (.goto 4, 3) := by decide +kernel
theorem own_b20_54 : decode jdk_65_method_90_code 54 = .ok (.iconst 0, 1) := by decide +kernel
theorem own_b20_55 : decode jdk_65_method_90_code 55 = .ok (.ireturn, 1) := by decide +kernel
theorem own_pf_b20 : plainFor (⟨"java/util/Arrays", "equals", "([BII[BII)Z"⟩ : MethodName) = true := by first | exact plainFor_of_name (by first | (simp [plainName, overriddenIn, x]; done) | decide +kernel) | decide +kernel
theorem own_pd_17 : parseMethodDescriptor "(III)V" = some ⟨[.int, .int, .int], none⟩ := by decide +kernel
theorem own_pd_18 : parseMethodDescriptor "([BI[BII)I" = some ⟨[(.array .byte), .int, (.array .byte), .int, .int], some .int⟩ := by decide +kernel
set_option maxRecDepth 65536 in
set_option maxHeartbeats 40000000 in
theorem own_eqs (l : Launch) (Z : State) (a0 : Array Value) (hw : ∀ d ∈ tables_1, d.before a0 Z = true) (n0 : Nat) (h : Heap) (a e : Nat) (ai aj ei ej : Int32) (S_ D N : Nat) (xs ys : List Int8) (A_a : ArB Z h a xs) (A_e : ArB Z h e ys) (hai : ai.toInt = (S_ : Nat)) (hei : ei.toInt = (D : Nat)) (hx : S_ + N ≤ xs.length) (hy : D + N ≤ ys.length) (hl : xs.length ≤ 64 ∧ ys.length ≤ 64) (hN : N ≤ 7) (hE : ∀ i, i < N → ∃ u, xs[S_ + i]? = some u ∧ ys[D + i]? = some u) (haj : aj.toInt = ((S_ + N : Nat) : Int)) (hej : ej.toInt = ((D + N : Nat) : Int)) :
    Con l Z (⟨"java/util/Arrays", "equals", "([BII[BII)Z"⟩ : MethodName) jdk_65_method_90_code 8 (some .boolean) ({ frames := 1, cells := 0, slots := 0, locals := 19 } : Room) n0 #[(.ref a), (.int ai), (.int aj), (.ref e), (.int ei), (.int ej)] h (R1 fun r h' => r = .int 1 ∧ h = h') := by
  refine Con.of (ls := [.val (.ref a), .val (.int ai), .val (.int aj), .val (.ref e), .val (.int ei), .val (.int ej), .unset, .unset]) own_pf_b20 (fun m => by first | (simp [entryFrame, mkF, argsToLocals, Value.category]; done) | rfl) fun k K => ?_
  have k_0 : (0 : Int32).toInt = 0 := rfl
  have k_1 : (1 : Int32).toInt = 1 := rfl
  obtain ⟨z1, hz1⟩ := i32_of A_a.len
  obtain ⟨z2, hz2⟩ := i32_of A_e.len
  have t1 : (aj - ai).toInt = (N : Nat) := by rw [i32_sub (by omega) (by omega)]; omega
  have t2 : (ej - ei).toInt = (N : Nat) := by rw [i32_sub (by omega) (by omega)]; omega
  refine WP.aloadN K 1 own_b20_0 rfl rfl rfl ?_
  refine WP.arraylength K z1 2 A_a (by rw [hz1]; simp) own_b20_1 rfl ?_
  refine WP.iloadN K 3 own_b20_2 rfl rfl ?_
  refine WP.iloadN K 4 own_b20_3 rfl rfl ?_
  refine WP.callS K 7 0 0 0 [(.int z1), (.int ai), (.int aj)] [] (hw _ (List.mem_of_getElem? (i := 130) rfl)) (hw _ (List.mem_of_getElem? (i := 131) rfl)) (hw _ (List.mem_of_getElem? (i := 128) rfl)) (hw _ (List.mem_of_getElem? (i := 132) rfl)) (by decide) own_pd_17 rfl rfl rfl (by decide) (by decide) (Nat.le_of_eq rfl) rfl own_b20_4 rfl rfl rfl (by decide) (by decide) (own_rchk l Z a0 hw n0 h z1 ai aj (by omega) (by omega) (by omega)) (r0_next fun h1 q2 => ?_)
  obtain rfl := q2
  refine WP.aloadN K 8 own_b20_7 rfl rfl rfl ?_
  refine WP.arraylength K z2 9 A_e (by rw [hz2]; simp) own_b20_8 rfl ?_
  refine WP.iload K 11 own_b20_9 rfl rfl ?_
  refine WP.iload K 13 own_b20_11 rfl rfl ?_
  refine WP.callS K 16 0 0 0 [(.int z2), (.int ei), (.int ej)] [] (hw _ (List.mem_of_getElem? (i := 130) rfl)) (hw _ (List.mem_of_getElem? (i := 131) rfl)) (hw _ (List.mem_of_getElem? (i := 128) rfl)) (hw _ (List.mem_of_getElem? (i := 132) rfl)) (by decide) own_pd_17 rfl rfl rfl (by decide) (by decide) (Nat.le_of_eq rfl) rfl own_b20_13 rfl rfl rfl (by decide) (by decide) (own_rchk l Z a0 hw n0 h z2 ei ej (by omega) (by omega) (by omega)) (r0_next fun h4 q5 => ?_)
  obtain rfl := q5
  refine WP.iloadN K 17 own_b20_16 rfl rfl ?_
  refine WP.iloadN K 18 own_b20_17 rfl rfl ?_
  refine WP.isub K 19 own_b20_18 rfl ?_
  refine WP.istore K 21 [.val (.ref a), .val (.int ai), .val (.int aj), .val (.ref e), .val (.int ei), .val (.int ej), .val (.int (aj - ai)), .unset] own_b20_19 rfl rfl ?_
  refine WP.iload K 23 own_b20_21 rfl rfl ?_
  refine WP.iload K 25 own_b20_23 rfl rfl ?_
  refine WP.isub K 26 own_b20_25 rfl ?_
  refine WP.istore K 28 [.val (.ref a), .val (.int ai), .val (.int aj), .val (.ref e), .val (.int ei), .val (.int ej), .val (.int (aj - ai)), .val (.int (ej - ei))] own_b20_26 rfl rfl ?_
  refine WP.iload K 30 own_b20_28 rfl rfl ?_
  refine WP.iload K 32 own_b20_30 rfl rfl ?_
  refine WP.icmp_eq K 37 35 own_b20_32 (by decide) rfl (fun c32 => ?_) (fun c32 => ?_)
  · skip
    refine WP.aloadN K 38 own_b20_37 rfl rfl rfl ?_
    refine WP.iloadN K 39 own_b20_38 rfl rfl ?_
    refine WP.aloadN K 40 own_b20_39 rfl rfl rfl ?_
    refine WP.iload K 42 own_b20_40 rfl rfl ?_
    refine WP.iload K 44 own_b20_42 rfl rfl ?_
    refine WP.callS K 47 0 0 0 [(.ref a), (.int ai), (.ref e), (.int ei), (.int (aj - ai))] [] (hw _ (List.mem_of_getElem? (i := 133) rfl)) (hw _ (List.mem_of_getElem? (i := 134) rfl)) (hw _ (List.mem_of_getElem? (i := 135) rfl)) (hw _ (List.mem_of_getElem? (i := 136) rfl)) (by decide) own_pd_18 rfl rfl rfl (by decide) (by decide) (Nat.le_of_eq rfl) rfl own_b20_44 rfl rfl rfl (by decide) (by decide) (own_mis l Z a0 hw n0 h a e ai ei (aj - ai) S_ D N xs ys A_a A_e hai hei hx hy hl hN hE t1) (r1_next fun r9 h7 q8 => ?_)
    obtain ⟨rfl, rfl⟩ := q8
    refine WP.if_ge K 54 50 own_b20_47 (by decide) rfl (fun c47 => ?_) (fun c47 => ?_)
    · skip
      exact absurd c47 (by decide)
    · skip
      refine WP.iconst K (1 : Int32) 51 own_b20_50 rfl rfl ?_
      refine WP.goto K 55 own_b20_51 (by decide) ?_
      refine WP.iret K rfl (Or.inr (Or.inl rfl)) rfl own_b20_55 ?_ (by decide) (by decide)
      exact ⟨_, rfl, rfl, rfl⟩
  · skip
    exfalso; omega
theorem own_b5_0 : decode prog_136_method_2_code 0 = .ok (.aload_n 0, 1) := by decide +kernel
theorem own_b5_1 : decode prog_136_method_2_code 1 = .ok (.invokespecial 9, 3) := by decide +kernel
theorem own_b5_4 : decode prog_136_method_2_code 4 = .ok (.aload_n 0, 1) := by decide +kernel
theorem own_b5_5 : decode prog_136_method_2_code 5 = .ok (.bipush 64, 2) := by decide +kernel
theorem own_b5_7 : decode prog_136_method_2_code 7 = .ok (.newarray .byte, 2) := by decide +kernel
theorem own_b5_9 : decode prog_136_method_2_code 9 = .ok (.putfield 14, 3) := by decide +kernel
theorem own_b5_12 : decode prog_136_method_2_code 12 = .ok (.aload_n 0, 1) := by decide +kernel
theorem own_b5_13 : decode prog_136_method_2_code 13 = .ok (.iload_n 1, 1) := by decide +kernel
theorem own_b5_14 : decode prog_136_method_2_code 14 = .ok (.putfield 18, 3) := by decide +kernel
theorem own_b5_17 : decode prog_136_method_2_code 17 = .ok (.aload_n 0, 1) := by decide +kernel
theorem own_b5_18 : decode prog_136_method_2_code 18 = .ok (.iconst 1, 1) := by decide +kernel
theorem own_b5_19 : decode prog_136_method_2_code 19 = .ok (.iload_n 1, 1) := by decide +kernel
theorem own_b5_20 : decode prog_136_method_2_code 20 = .ok (.ishl, 1) := by decide +kernel
theorem own_b5_21 : decode prog_136_method_2_code 21 = .ok (.iconst 1, 1) := by decide +kernel
theorem own_b5_22 : decode prog_136_method_2_code 22 = .ok (.isub, 1) := by decide +kernel
theorem own_b5_23 : decode prog_136_method_2_code 23 = .ok (.putfield 22, 3) := by decide +kernel
theorem own_b5_26 : decode prog_136_method_2_code 26 = .ok (.aload_n 0, 1) := by decide +kernel
theorem own_b5_27 : decode prog_136_method_2_code 27 = .ok (.iload_n 2, 1) := by decide +kernel
theorem own_b5_28 : decode prog_136_method_2_code 28 = .ok (.anewarray 25, 3) := by decide +kernel
theorem own_b5_31 : decode prog_136_method_2_code 31 = .ok (.putfield 26, 3) := by decide +kernel
theorem own_b5_34 : decode prog_136_method_2_code 34 = .ok (.aload_n 0, 1) := by decide +kernel
theorem own_b5_35 : decode prog_136_method_2_code 35 = .ok (.iload_n 2, 1) := by decide +kernel
theorem own_b5_36 : decode prog_136_method_2_code 36 = .ok (.newarray .int, 2) := by decide +kernel
theorem own_b5_38 : decode prog_136_method_2_code 38 = .ok (.putfield 30, 3) := by decide +kernel
theorem own_b5_41 : decode prog_136_method_2_code 41 = .ok (.aload_n 0, 1) := by decide +kernel
theorem own_b5_42 : decode prog_136_method_2_code 42 = .ok (.getfield 26, 3) := by decide +kernel
theorem own_b5_45 : decode prog_136_method_2_code 45 = .ok (.iconst 0, 1) := by decide +kernel
theorem own_b5_46 : decode prog_136_method_2_code 46 = .ok (.ldc 34, 2) := by decide +kernel
theorem own_b5_48 : decode prog_136_method_2_code 48 = .ok (.iconst 1, 1) := by decide +kernel
theorem own_b5_49 : decode prog_136_method_2_code 49 = .ok (.iload_n 1, 1) := by decide +kernel
theorem own_b5_50 : decode prog_136_method_2_code 50 = .ok (.ishl, 1) := by decide +kernel
theorem own_b5_51 : decode prog_136_method_2_code 51 = .ok (.invokestatic 35, 3) := by decide +kernel
theorem own_b5_54 : decode prog_136_method_2_code 54 = .ok (.newarray .byte, 2) := by decide +kernel
theorem own_b5_56 : decode prog_136_method_2_code 56 = .ok (.aastore, 1) := by decide +kernel
theorem own_b5_57 : decode prog_136_method_2_code 57 = .ok (.return_, 1) := by decide +kernel
theorem own_pf_b5 : plainFor (⟨"com/example/vestline/vestline/util/KeptTexts", "<init>", "(II)V"⟩ : MethodName) = true := by first | exact plainFor_of_name (by first | (simp [plainName, overriddenIn, x]; done) | decide +kernel) | decide +kernel
set_option maxRecDepth 65536 in
set_option maxHeartbeats 40000000 in
theorem own_ktinit (l : Launch) (Z : State) (a0 : Array Value) (hw : ∀ d ∈ tables_1, d.before a0 Z = true) (n0 : Nat) (h : Heap) (kt : Nat) (bb : Int32) (b P : Nat) (hbb : bb.toInt = (b : Nat)) (hb : 2 ≤ b ∧ b ≤ 5) (hP : PW b P) (Ex : Exa Z h kt "com/example/vestline/vestline/util/KeptTexts") (Fw : Fld Z h kt "com/example/vestline/vestline/util/KeptTexts" "written" "[B" .null) (Fb : Fld Z h kt "com/example/vestline/vestline/util/KeptTexts" "blockBits" "I" (.int (0 : Int32))) (Fo : Fld Z h kt "com/example/vestline/vestline/util/KeptTexts" "offsetMask" "I" (.int (0 : Int32))) (Fk : Fld Z h kt "com/example/vestline/vestline/util/KeptTexts" "blocks" "[[B" .null) (Ff : Fld Z h kt "com/example/vestline/vestline/util/KeptTexts" "filled" "[I" .null) (Fc : Fld Z h kt "com/example/vestline/vestline/util/KeptTexts" "block" "I" (.int (0 : Int32))) (Fl : Fld Z h kt "com/example/vestline/vestline/util/KeptTexts" "last" "I" (.int (0 : Int32))) (n0_kt : n0 ≤ kt) (Z0 : n0 ≤ h.size) :
    Con l Z (⟨"com/example/vestline/vestline/util/KeptTexts", "<init>", "(II)V"⟩ : MethodName) prog_136_method_2_code 3 none ({ frames := 1, cells := 4, slots := 112, locals := 15 } : Room) n0 #[(.ref kt), (.int bb), (.int (8 : Int32))] h (R0 fun h' => ∃ ba fa wb ca : Nat, KTI Z h' n0 kt ba fa wb b P 0 [.ref ca, .null, .null, .null, .null, .null, .null, .null] [(0 : Int32), (0 : Int32), (0 : Int32), (0 : Int32), (0 : Int32), (0 : Int32), (0 : Int32), (0 : Int32)] 0 ∧ ArB Z h' wb (List.replicate 64 0) ∧ ArB Z h' ca (List.replicate P 0) ∧ Keep h h' [kt] ∧ h.size ≤ ba ∧ h.size ≤ fa ∧ h.size ≤ wb ∧ h.size ≤ ca ∧ ca ≠ ba ∧ ca ≠ fa ∧ ca ≠ wb ∧ kt < ca ∧ n0 ≤ ca) := by
  refine Con.of (ls := [.val (.ref kt), .val (.int bb), .val (.int (8 : Int32))]) own_pf_b5 (fun m => by first | (simp [entryFrame, mkF, argsToLocals, Value.category]; done) | rfl) fun k K => ?_
  have k_0 : (0 : Int32).toInt = 0 := rfl
  have k_1 : (1 : Int32).toInt = 1 := rfl
  have k_64 : (64 : Int32).toInt = 64 := rfl
  have k_65536 : (65536 : Int32).toInt = 65536 := rfl
  have Kp := Keep.refl h [kt]
  have hpc := pw_cases hb hP
  have lkt : @LT.lt Nat _ kt h.size := Fw.lt
  refine WP.aloadN K 1 own_b5_0 rfl rfl rfl ?_
  refine WP.initO K 4 0 (hw _ (List.mem_of_getElem? (i := 33) rfl)) (hw _ (List.mem_of_getElem? (i := 17) rfl)) (hw _ (List.mem_of_getElem? (i := 18) rfl)) own_b5_1 rfl rfl (by decide) (Nat.le_of_eq rfl) (by decide) ?_
  refine WP.aloadN K 5 own_b5_4 rfl rfl rfl ?_
  refine WP.bipush K (64 : Int32) 7 own_b5_5 rfl rfl ?_
  refine WP.newarray K 9 64 64 1 64 (hw _ (List.mem_of_getElem? (i := 20) rfl)) own_b5_7 rfl rfl (Nat.le_refl _) (by decide) rfl rfl (by decide) (by decide) (fun h1 wb z_wb E2 V3 => ?_)
  have l_kt_wb : @LT.lt Nat _ kt wb := z_wb ▸ Fw.lt
  have n0_wb : @LE.le Nat _ n0 wb := z_wb ▸ Z0
  have Fw := Fw.ext E2
  have Fb := Fb.ext E2
  have Fo := Fo.ext E2
  have Fk := Fk.ext E2
  have Ff := Ff.ext E2
  have Fc := Fc.ext E2
  have Fl := Fl.ext E2
  have Z0 : n0 ≤ (h1).size := Nat.le_trans Z0 E2.1
  have Ex := Ex.ext E2
  have Kp := Kp.ext E2
  have A_wb := ArB.of_new V3
  have s_wb : h.size ≤ wb := by omega
  refine WP.putfield K (host := "") (a := kt) 12 (Or.inl (hw _ (List.mem_of_getElem? (i := 34) rfl))) Via.refl Fw Ex (Or.inl (hw _ (List.mem_of_getElem? (i := 35) rfl))) (hw _ (List.mem_of_getElem? (i := 28) rfl)) (ty := (.array .byte)) (by decide) rfl rfl own_b5_9 rfl n0_kt (fun h4 W5 => ?_)
  have Fw := Fw.same W5
  have Fb := Fb.other W5 (Or.inr (slot_ne (Or.inr (hw _ (List.mem_of_getElem? (i := 37) rfl))) (Or.inl (hw _ (List.mem_of_getElem? (i := 35) rfl))) (by decide) (t := .int) (t' := (.array .byte)) (by decide) (by decide)))
  have Fo := Fo.other W5 (Or.inr (slot_ne (Or.inr (hw _ (List.mem_of_getElem? (i := 39) rfl))) (Or.inl (hw _ (List.mem_of_getElem? (i := 35) rfl))) (by decide) (t := .int) (t' := (.array .byte)) (by decide) (by decide)))
  have Fk := Fk.other W5 (Or.inr (slot_ne (Or.inr (hw _ (List.mem_of_getElem? (i := 43) rfl))) (Or.inl (hw _ (List.mem_of_getElem? (i := 35) rfl))) (by decide) (t := (.array (.array .byte))) (t' := (.array .byte)) (by decide) (by decide)))
  have Ff := Ff.other W5 (Or.inr (slot_ne (Or.inr (hw _ (List.mem_of_getElem? (i := 46) rfl))) (Or.inl (hw _ (List.mem_of_getElem? (i := 35) rfl))) (by decide) (t := (.array .int)) (t' := (.array .byte)) (by decide) (by decide)))
  have Fc := Fc.other W5 (Or.inr (slot_ne (Or.inl (hw _ (List.mem_of_getElem? (i := 99) rfl))) (Or.inl (hw _ (List.mem_of_getElem? (i := 35) rfl))) (by decide) (t := .int) (t' := (.array .byte)) (by decide) (by decide)))
  have Fl := Fl.other W5 (Or.inr (slot_ne (Or.inl (hw _ (List.mem_of_getElem? (i := 109) rfl))) (Or.inl (hw _ (List.mem_of_getElem? (i := 35) rfl))) (by decide) (t := .int) (t' := (.array .byte)) (by decide) (by decide)))
  have Z0 : n0 ≤ (h4).size := by rw [W5.size]; exact Z0
  have Ex := Ex.wr W5
  have Kp := Kp.wr W5 (by first | (refine Or.inl ?_; simp; done) | (refine Or.inr ?_; omega))
  have A_wb := A_wb.other W5 (ne_addr (by omega))
  refine WP.aloadN K 13 own_b5_12 rfl rfl rfl ?_
  refine WP.iloadN K 14 own_b5_13 rfl rfl ?_
  refine WP.putfield K (host := "") (a := kt) 17 (Or.inl (hw _ (List.mem_of_getElem? (i := 36) rfl))) Via.refl Fb Ex (Or.inr ⟨(hw _ (List.mem_of_getElem? (i := 37) rfl)), rfl, rfl⟩) (hw _ (List.mem_of_getElem? (i := 28) rfl)) (ty := .int) (by decide) rfl rfl own_b5_14 rfl n0_kt (fun h6 W7 => ?_)
  have Fw := Fw.other W7 (Or.inr (slot_ne (Or.inl (hw _ (List.mem_of_getElem? (i := 35) rfl))) (Or.inr (hw _ (List.mem_of_getElem? (i := 37) rfl))) (by decide) (t := (.array .byte)) (t' := .int) (by decide) (by decide)))
  have Fb := Fb.same W7
  have Fo := Fo.other W7 (Or.inr (slot_ne (Or.inr (hw _ (List.mem_of_getElem? (i := 39) rfl))) (Or.inr (hw _ (List.mem_of_getElem? (i := 37) rfl))) (by decide) (t := .int) (t' := .int) (by decide) (by decide)))
  have Fk := Fk.other W7 (Or.inr (slot_ne (Or.inr (hw _ (List.mem_of_getElem? (i := 43) rfl))) (Or.inr (hw _ (List.mem_of_getElem? (i := 37) rfl))) (by decide) (t := (.array (.array .byte))) (t' := .int) (by decide) (by decide)))
  have Ff := Ff.other W7 (Or.inr (slot_ne (Or.inr (hw _ (List.mem_of_getElem? (i := 46) rfl))) (Or.inr (hw _ (List.mem_of_getElem? (i := 37) rfl))) (by decide) (t := (.array .int)) (t' := .int) (by decide) (by decide)))
  have Fc := Fc.other W7 (Or.inr (slot_ne (Or.inl (hw _ (List.mem_of_getElem? (i := 99) rfl))) (Or.inr (hw _ (List.mem_of_getElem? (i := 37) rfl))) (by decide) (t := .int) (t' := .int) (by decide) (by decide)))
  have Fl := Fl.other W7 (Or.inr (slot_ne (Or.inl (hw _ (List.mem_of_getElem? (i := 109) rfl))) (Or.inr (hw _ (List.mem_of_getElem? (i := 37) rfl))) (by decide) (t := .int) (t' := .int) (by decide) (by decide)))
  have Z0 : n0 ≤ (h6).size := by rw [W7.size]; exact Z0
  have Ex := Ex.wr W7
  have Kp := Kp.wr W7 (by first | (refine Or.inl ?_; simp; done) | (refine Or.inr ?_; omega))
  have A_wb := A_wb.other W7 (ne_addr (by omega))
  refine WP.aloadN K 18 own_b5_17 rfl rfl rfl ?_
  refine WP.iconst K (1 : Int32) 19 own_b5_18 rfl rfl ?_
  refine WP.iloadN K 20 own_b5_19 rfl rfl ?_
  refine WP.ishl K 21 own_b5_20 rfl ?_
  refine WP.iconst K (1 : Int32) 22 own_b5_21 rfl rfl ?_
  refine WP.isub K 23 own_b5_22 rfl ?_
  refine WP.putfield K (host := "") (a := kt) 26 (Or.inl (hw _ (List.mem_of_getElem? (i := 38) rfl))) Via.refl Fo Ex (Or.inr ⟨(hw _ (List.mem_of_getElem? (i := 39) rfl)), rfl, rfl⟩) (hw _ (List.mem_of_getElem? (i := 28) rfl)) (ty := .int) (by decide) rfl rfl own_b5_23 rfl n0_kt (fun h8 W9 => ?_)
  have Fw := Fw.other W9 (Or.inr (slot_ne (Or.inl (hw _ (List.mem_of_getElem? (i := 35) rfl))) (Or.inr (hw _ (List.mem_of_getElem? (i := 39) rfl))) (by decide) (t := (.array .byte)) (t' := .int) (by decide) (by decide)))
  have Fb := Fb.other W9 (Or.inr (slot_ne (Or.inr (hw _ (List.mem_of_getElem? (i := 37) rfl))) (Or.inr (hw _ (List.mem_of_getElem? (i := 39) rfl))) (by decide) (t := .int) (t' := .int) (by decide) (by decide)))
  have Fo := Fo.same W9
  have Fk := Fk.other W9 (Or.inr (slot_ne (Or.inr (hw _ (List.mem_of_getElem? (i := 43) rfl))) (Or.inr (hw _ (List.mem_of_getElem? (i := 39) rfl))) (by decide) (t := (.array (.array .byte))) (t' := .int) (by decide) (by decide)))
  have Ff := Ff.other W9 (Or.inr (slot_ne (Or.inr (hw _ (List.mem_of_getElem? (i := 46) rfl))) (Or.inr (hw _ (List.mem_of_getElem? (i := 39) rfl))) (by decide) (t := (.array .int)) (t' := .int) (by decide) (by decide)))
  have Fc := Fc.other W9 (Or.inr (slot_ne (Or.inl (hw _ (List.mem_of_getElem? (i := 99) rfl))) (Or.inr (hw _ (List.mem_of_getElem? (i := 39) rfl))) (by decide) (t := .int) (t' := .int) (by decide) (by decide)))
  have Fl := Fl.other W9 (Or.inr (slot_ne (Or.inl (hw _ (List.mem_of_getElem? (i := 109) rfl))) (Or.inr (hw _ (List.mem_of_getElem? (i := 39) rfl))) (by decide) (t := .int) (t' := .int) (by decide) (by decide)))
  have Z0 : n0 ≤ (h8).size := by rw [W9.size]; exact Z0
  have Ex := Ex.wr W9
  have Kp := Kp.wr W9 (by first | (refine Or.inl ?_; simp; done) | (refine Or.inr ?_; omega))
  have A_wb := A_wb.other W9 (ne_addr (by omega))
  refine WP.aloadN K 27 own_b5_26 rfl rfl rfl ?_
  refine WP.iloadN K 28 own_b5_27 rfl rfl ?_
  refine WP.anewarrayA K 31 8 8 2 72 (et := .byte) (C := "[B") (by decide) (hw _ (List.mem_of_getElem? (i := 40) rfl)) (hw _ (List.mem_of_getElem? (i := 41) rfl)) own_b5_28 rfl rfl (Nat.le_refl _) (by decide) rfl rfl (by decide) (by decide) (fun h10 ba z_ba E11 R_ba => ?_)
  have l_kt_ba : @LT.lt Nat _ kt ba := z_ba ▸ Fw.lt
  have l_wb_ba : @LT.lt Nat _ wb ba := z_ba ▸ A_wb.lt
  have n0_ba : @LE.le Nat _ n0 ba := z_ba ▸ Z0
  have Fw := Fw.ext E11
  have Fb := Fb.ext E11
  have Fo := Fo.ext E11
  have Fk := Fk.ext E11
  have Ff := Ff.ext E11
  have Fc := Fc.ext E11
  have Fl := Fl.ext E11
  have Z0 : n0 ≤ (h10).size := Nat.le_trans Z0 E11.1
  have Ex := Ex.ext E11
  have Kp := Kp.ext E11
  have A_wb := A_wb.ext E11
  have s_ba : h.size ≤ ba := by have := Kp.1; omega
  refine WP.putfield K (host := "") (a := kt) 34 (Or.inl (hw _ (List.mem_of_getElem? (i := 42) rfl))) Via.refl Fk Ex (Or.inr ⟨(hw _ (List.mem_of_getElem? (i := 43) rfl)), rfl, rfl⟩) (hw _ (List.mem_of_getElem? (i := 28) rfl)) (ty := (.array (.array .byte))) (by decide) rfl rfl own_b5_31 rfl n0_kt (fun h12 W13 => ?_)
  have Fw := Fw.other W13 (Or.inr (slot_ne (Or.inl (hw _ (List.mem_of_getElem? (i := 35) rfl))) (Or.inr (hw _ (List.mem_of_getElem? (i := 43) rfl))) (by decide) (t := (.array .byte)) (t' := (.array (.array .byte))) (by decide) (by decide)))
  have Fb := Fb.other W13 (Or.inr (slot_ne (Or.inr (hw _ (List.mem_of_getElem? (i := 37) rfl))) (Or.inr (hw _ (List.mem_of_getElem? (i := 43) rfl))) (by decide) (t := .int) (t' := (.array (.array .byte))) (by decide) (by decide)))
  have Fo := Fo.other W13 (Or.inr (slot_ne (Or.inr (hw _ (List.mem_of_getElem? (i := 39) rfl))) (Or.inr (hw _ (List.mem_of_getElem? (i := 43) rfl))) (by decide) (t := .int) (t' := (.array (.array .byte))) (by decide) (by decide)))
  have Fk := Fk.same W13
  have Ff := Ff.other W13 (Or.inr (slot_ne (Or.inr (hw _ (List.mem_of_getElem? (i := 46) rfl))) (Or.inr (hw _ (List.mem_of_getElem? (i := 43) rfl))) (by decide) (t := (.array .int)) (t' := (.array (.array .byte))) (by decide) (by decide)))
  have Fc := Fc.other W13 (Or.inr (slot_ne (Or.inl (hw _ (List.mem_of_getElem? (i := 99) rfl))) (Or.inr (hw _ (List.mem_of_getElem? (i := 43) rfl))) (by decide) (t := .int) (t' := (.array (.array .byte))) (by decide) (by decide)))
  have Fl := Fl.other W13 (Or.inr (slot_ne (Or.inl (hw _ (List.mem_of_getElem? (i := 109) rfl))) (Or.inr (hw _ (List.mem_of_getElem? (i := 43) rfl))) (by decide) (t := .int) (t' := (.array (.array .byte))) (by decide) (by decide)))
  have Z0 : n0 ≤ (h12).size := by rw [W13.size]; exact Z0
  have Ex := Ex.wr W13
  have Kp := Kp.wr W13 (by first | (refine Or.inl ?_; simp; done) | (refine Or.inr ?_; omega))
  have A_wb := A_wb.other W13 (ne_addr (by omega))
  have R_ba := R_ba.other W13 (ne_addr (by omega))
  refine WP.aloadN K 35 own_b5_34 rfl rfl rfl ?_
  refine WP.iloadN K 36 own_b5_35 rfl rfl ?_
  refine WP.newarray K 38 8 8 3 80 (hw _ (List.mem_of_getElem? (i := 44) rfl)) own_b5_36 rfl rfl (Nat.le_refl _) (by decide) rfl rfl (by decide) (by decide) (fun h14 fa z_fa E15 V16 => ?_)
  have l_kt_fa : @LT.lt Nat _ kt fa := z_fa ▸ Fw.lt
  have l_wb_fa : @LT.lt Nat _ wb fa := z_fa ▸ A_wb.lt
  have l_ba_fa : @LT.lt Nat _ ba fa := z_fa ▸ R_ba.lt
  have n0_fa : @LE.le Nat _ n0 fa := z_fa ▸ Z0
  have Fw := Fw.ext E15
  have Fb := Fb.ext E15
  have Fo := Fo.ext E15
  have Fk := Fk.ext E15
  have Ff := Ff.ext E15
  have Fc := Fc.ext E15
  have Fl := Fl.ext E15
  have Z0 : n0 ≤ (h14).size := Nat.le_trans Z0 E15.1
  have Ex := Ex.ext E15
  have Kp := Kp.ext E15
  have A_wb := A_wb.ext E15
  have R_ba := R_ba.ext E15
  have A_fa := ArI.of_new V16
  have A_fa : ArI Z h14 fa [(0 : Int32), (0 : Int32), (0 : Int32), (0 : Int32), (0 : Int32), (0 : Int32), (0 : Int32), (0 : Int32)] := A_fa
  have s_fa : h.size ≤ fa := by have := Kp.1; omega
  refine WP.putfield K (host := "") (a := kt) 41 (Or.inl (hw _ (List.mem_of_getElem? (i := 45) rfl))) Via.refl Ff Ex (Or.inr ⟨(hw _ (List.mem_of_getElem? (i := 46) rfl)), rfl, rfl⟩) (hw _ (List.mem_of_getElem? (i := 28) rfl)) (ty := (.array .int)) (by decide) rfl rfl own_b5_38 rfl n0_kt (fun h17 W18 => ?_)
  have Fw := Fw.other W18 (Or.inr (slot_ne (Or.inl (hw _ (List.mem_of_getElem? (i := 35) rfl))) (Or.inr (hw _ (List.mem_of_getElem? (i := 46) rfl))) (by decide) (t := (.array .byte)) (t' := (.array .int)) (by decide) (by decide)))
  have Fb := Fb.other W18 (Or.inr (slot_ne (Or.inr (hw _ (List.mem_of_getElem? (i := 37) rfl))) (Or.inr (hw _ (List.mem_of_getElem? (i := 46) rfl))) (by decide) (t := .int) (t' := (.array .int)) (by decide) (by decide)))
  have Fo := Fo.other W18 (Or.inr (slot_ne (Or.inr (hw _ (List.mem_of_getElem? (i := 39) rfl))) (Or.inr (hw _ (List.mem_of_getElem? (i := 46) rfl))) (by decide) (t := .int) (t' := (.array .int)) (by decide) (by decide)))
  have Fk := Fk.other W18 (Or.inr (slot_ne (Or.inr (hw _ (List.mem_of_getElem? (i := 43) rfl))) (Or.inr (hw _ (List.mem_of_getElem? (i := 46) rfl))) (by decide) (t := (.array (.array .byte))) (t' := (.array .int)) (by decide) (by decide)))
  have Ff := Ff.same W18
  have Fc := Fc.other W18 (Or.inr (slot_ne (Or.inl (hw _ (List.mem_of_getElem? (i := 99) rfl))) (Or.inr (hw _ (List.mem_of_getElem? (i := 46) rfl))) (by decide) (t := .int) (t' := (.array .int)) (by decide) (by decide)))
  have Fl := Fl.other W18 (Or.inr (slot_ne (Or.inl (hw _ (List.mem_of_getElem? (i := 109) rfl))) (Or.inr (hw _ (List.mem_of_getElem? (i := 46) rfl))) (by decide) (t := .int) (t' := (.array .int)) (by decide) (by decide)))
  have Z0 : n0 ≤ (h17).size := by rw [W18.size]; exact Z0
  have Ex := Ex.wr W18
  have Kp := Kp.wr W18 (by first | (refine Or.inl ?_; simp; done) | (refine Or.inr ?_; omega))
  have A_wb := A_wb.other W18 (ne_addr (by omega))
  have R_ba := R_ba.other W18 (ne_addr (by omega))
  have A_fa := A_fa.other W18 (ne_addr (by omega))
  refine WP.aloadN K 42 own_b5_41 rfl rfl rfl ?_
  refine WP.getfield K (host := "") 45 (Or.inl (hw _ (List.mem_of_getElem? (i := 42) rfl))) Via.refl Fk own_b5_42 rfl ?_
  refine WP.iconst K (0 : Int32) 46 own_b5_45 rfl rfl ?_
  refine WP.ldcI K (v := (65536 : Int32)) 48 (hw _ (List.mem_of_getElem? (i := 47) rfl)) own_b5_46 rfl ?_
  refine WP.iconst K (1 : Int32) 49 own_b5_48 rfl rfl ?_
  refine WP.iloadN K 50 own_b5_49 rfl rfl ?_
  refine WP.ishl K 51 own_b5_50 rfl ?_
  refine WP.callS K 54 3 80 2 [(.int (65536 : Int32)), (.int ((1 : Int32) <<< (bb &&& 31)))] [(.int (0 : Int32)), (.ref ba)] (hw _ (List.mem_of_getElem? (i := 48) rfl)) (hw _ (List.mem_of_getElem? (i := 49) rfl)) (hw _ (List.mem_of_getElem? (i := 50) rfl)) (hw _ (List.mem_of_getElem? (i := 51) rfl)) (by decide) own_pd_16 rfl rfl rfl (by decide) (by decide) (Nat.le_of_eq rfl) rfl own_b5_51 rfl rfl rfl (by decide) (by decide) (own_min l Z a0 hw n0 h17 (65536 : Int32) ((1 : Int32) <<< (bb &&& 31)) ) (r1_next fun r21 h19 q20 => ?_)
  obtain ⟨rfl, rfl⟩ := q20
  have he : (min32 (65536 : Int32) ((1 : Int32) <<< (bb &&& 31))).toInt = (P : Nat) := by have := min32_spec (65536 : Int32) ((1 : Int32) <<< (bb &&& 31)); have := one_shl hbb hb hP; omega
  generalize (min32 (65536 : Int32) ((1 : Int32) <<< (bb &&& 31))) = zp at he ⊢
  refine WP.newarrayE K 56 P 32 4 112 (hw _ (List.mem_of_getElem? (i := 20) rfl)) own_b5_54 rfl he (by omega) (by decide) rfl rfl (by decide) (by decide) (ad := "[B") (by decide) (fun h22 ca z_ca E23 V24 Y_ca => ?_)
  have l_kt_ca : @LT.lt Nat _ kt ca := z_ca ▸ Fw.lt
  have l_wb_ca : @LT.lt Nat _ wb ca := z_ca ▸ A_wb.lt
  have l_ba_ca : @LT.lt Nat _ ba ca := z_ca ▸ R_ba.lt
  have l_fa_ca : @LT.lt Nat _ fa ca := z_ca ▸ A_fa.lt
  have n0_ca : @LE.le Nat _ n0 ca := z_ca ▸ Z0
  have Fw := Fw.ext E23
  have Fb := Fb.ext E23
  have Fo := Fo.ext E23
  have Fk := Fk.ext E23
  have Ff := Ff.ext E23
  have Fc := Fc.ext E23
  have Fl := Fl.ext E23
  have Z0 : n0 ≤ (h22).size := Nat.le_trans Z0 E23.1
  have Ex := Ex.ext E23
  have Kp := Kp.ext E23
  have A_wb := A_wb.ext E23
  have R_ba := R_ba.ext E23
  have A_fa := A_fa.ext E23
  have A_ca := ArB.of_new V24
  have s_ca : h.size ≤ ca := by have := Kp.1; omega
  refine WP.aastore K 57 0 R_ba rfl (R_ba.sto (Ins.self Y_ca)) rfl rfl (by simp) own_b5_56 rfl n0_ba (fun h25 K26 R_ba => ?_)
  have Fw := Fw.keep K26 (nm1 (by omega))
  have Fb := Fb.keep K26 (nm1 (by omega))
  have Fo := Fo.keep K26 (nm1 (by omega))
  have Fk := Fk.keep K26 (nm1 (by omega))
  have Ff := Ff.keep K26 (nm1 (by omega))
  have Fc := Fc.keep K26 (nm1 (by omega))
  have Fl := Fl.keep K26 (nm1 (by omega))
  have Z0 : n0 ≤ (h25).size := Nat.le_trans Z0 K26.1
  have Ex := Ex.keep K26
  have Kp := Kp.trans K26 (ks1 (by first | (refine Or.inl ?_; simp; done) | (refine Or.inr ?_; omega)))
  have A_wb := A_wb.keep K26 (nm1 (by omega))
  have A_fa := A_fa.keep K26 (nm1 (by omega))
  have A_ca := A_ca.keep K26 (nm1 (by omega))
  have Y_ca := Y_ca.keep K26
  refine WP.retV K rfl own_b5_57 ?_ (by decide) (by decide)
  have hom : ((((1 : Int32) <<< (bb &&& 31)) - (1 : Int32)) : Int32).toInt = ((P - 1 : Nat) : Int) := by
    have := one_shl hbb hb hP
    rw [i32_sub (by omega) (by omega)]; omega
  exact ⟨rfl, ba, fa, wb, ca, ⟨bb, _, 0, Ex, Fw, Fb, Fo, Fk, Ff, Fc, Fl, R_ba, A_fa, hbb, hom, rfl, hb, hP, rfl, rfl, n0_kt, n0_ba, n0_fa, n0_wb, Z0, by omega, by omega, by omega, by omega, by omega, by omega⟩, A_wb, A_ca, Kp, s_ba, s_fa, s_wb, s_ca, by omega, by omega, by omega, by omega, n0_ca⟩
theorem own_b8_0 : decode prog_136_method_7_code 0 = .ok (.aload_n 1, 1) := by decide +kernel
theorem own_b8_1 : decode prog_136_method_7_code 1 = .ok (.invokeinterface 81 1, 5) := by decide +kernel
theorem own_b8_6 : decode prog_136_method_7_code 6 = .ok (.istore_n 2, 1) := by decide +kernel
theorem own_b8_7 : decode prog_136_method_7_code 7 = .ok (.iload_n 2, 1) := by decide +kernel
theorem own_b8_8 : decode prog_136_method_7_code 8 = .ok (.ldc 87, 2) := by decide +kernel
theorem own_b8_10 : decode prog_136_method_7_code 10 = .ok (.if_icmp .le 17, 3) := by decide +kernel
theorem own_b8_13 : decode prog_136_method_7_code 13 = .ok (.new 88, 3) := by decide +kernel
theorem own_b8_16 : decode prog_136_method_7_code 16 = .ok (.dup, 1) := by decide +kernel
theorem own_b8_17 : decode prog_136_method_7_code 17 = .ok (.iload_n 2, 1) := by decide +kernel
theorem own_b8_18 : decode prog_136_method_7_code 18 = .ok (.invokedynamic 90, 5) := by decide +kernel
theorem own_b8_23 : decode prog_136_method_7_code 23 = .ok (.invokespecial 94, 3) := by decide +kernel
theorem own_b8_26 : decode prog_136_method_7_code 26 = .ok (.athrow, 1) := by decide +kernel
theorem own_b8_27 : decode prog_136_method_7_code 27 = .ok (.aload_n 0, 1) := by decide +kernel
theorem own_b8_28 : decode prog_136_method_7_code 28 = .ok (.getfield 14, 3) := by decide +kernel
theorem own_b8_31 : decode prog_136_method_7_code 31 = .ok (.arraylength, 1) := by decide +kernel
theorem own_b8_32 : decode prog_136_method_7_code 32 = .ok (.iconst 3, 1) := by decide +kernel
theorem own_b8_33 : decode prog_136_method_7_code 33 = .ok (.iload_n 2, 1) := by decide +kernel
theorem own_b8_34 : decode prog_136_method_7_code 34 = .ok (.imul, 1) := by decide +kernel
theorem own_b8_35 : decode prog_136_method_7_code 35 = .ok (.if_icmp .ge 22, 3) := by decide +kernel
theorem own_b8_38 : decode prog_136_method_7_code 38 = .ok (.aload_n 0, 1) := by decide +kernel
theorem own_b8_39 : decode prog_136_method_7_code 39 = .ok (.iconst 3, 1) := by decide +kernel
theorem own_b8_40 : decode prog_136_method_7_code 40 = .ok (.iload_n 2, 1) := by decide +kernel
theorem own_b8_41 : decode prog_136_method_7_code 41 = .ok (.imul, 1) := by decide +kernel
theorem own_b8_42 : decode prog_136_method_7_code 42 = .ok (.iconst 2, 1) := by decide +kernel
theorem own_b8_43 : decode prog_136_method_7_code 43 = .ok (.aload_n 0, 1) := by decide +kernel
theorem own_b8_44 : decode prog_136_method_7_code 44 = .ok (.getfield 14, 3) := by decide +kernel
theorem own_b8_47 : decode prog_136_method_7_code 47 = .ok (.arraylength, 1) := by decide +kernel
theorem own_b8_48 : decode prog_136_method_7_code 48 = .ok (.imul, 1) := by decide +kernel
theorem own_b8_49 : decode prog_136_method_7_code 49 = .ok (.invokestatic 97, 3) := by decide +kernel
theorem own_b8_52 : decode prog_136_method_7_code 52 = .ok (.newarray .byte, 2) := by decide +kernel
theorem own_b8_54 : decode prog_136_method_7_code 54 = .ok (.putfield 14, 3) := by decide +kernel
theorem own_b8_57 : decode prog_136_method_7_code 57 = .ok (.aload_n 0, 1) := by decide +kernel
theorem own_b8_58 : decode prog_136_method_7_code 58 = .ok (.getfield 14, 3) := by decide +kernel
theorem own_b8_61 : decode prog_136_method_7_code 61 = .ok (.astore_n 3, 1) := by decide +kernel
theorem own_b8_62 : decode prog_136_method_7_code 62 = .ok (.iconst 0, 1) := by decide +kernel
theorem own_b8_63 : decode prog_136_method_7_code 63 = .ok (.istore 4, 2) := by decide +kernel
theorem own_b8_65 : decode prog_136_method_7_code 65 = .ok (.iconst 0, 1) := by decide +kernel
theorem own_b8_66 : decode prog_136_method_7_code 66 = .ok (.istore 5, 2) := by decide +kernel
theorem own_b8_68 : decode prog_136_method_7_code 68 = .ok (.iload 5, 2) := by decide +kernel
theorem own_b8_70 : decode prog_136_method_7_code 70 = .ok (.iload_n 2, 1) := by decide +kernel
theorem own_b8_71 : decode prog_136_method_7_code 71 = .ok (.if_icmp .ge 139, 3) := by decide +kernel
theorem own_b8_74 : decode prog_136_method_7_code 74 = .ok (.aload_n 1, 1) := by decide +kernel
theorem own_b8_75 : decode prog_136_method_7_code 75 = .ok (.iload 5, 2) := by decide +kernel
theorem own_b8_77 : decode prog_136_method_7_code 77 = .ok (.invokeinterface 100 2, 5) := by decide +kernel
theorem own_b8_82 : decode prog_136_method_7_code 82 = .ok (.istore 6, 2) := by decide +kernel
theorem own_b8_84 : decode prog_136_method_7_code 84 = .ok (.iload 6, 2) := by decide +kernel
theorem own_b8_86 : decode prog_136_method_7_code 86 = .ok (.sipush 128, 3) := by decide +kernel
theorem own_b8_89 : decode prog_136_method_7_code 89 = .ok (.if_icmp .ge 16, 3) := by decide +kernel
theorem own_b8_92 : decode prog_136_method_7_code 92 = .ok (.aload_n 3, 1) := by decide +kernel
theorem own_b8_93 : decode prog_136_method_7_code 93 = .ok (.iload 4, 2) := by decide +kernel
theorem own_b8_95 : decode prog_136_method_7_code 95 = .ok (.iinc 4 1, 3) := by decide +kernel
theorem own_b8_98 : decode prog_136_method_7_code 98 = .ok (.iload 6, 2) := by decide +kernel
theorem own_b8_100 : decode prog_136_method_7_code 100 = .ok (.i2b, 1) := by decide +kernel
theorem own_b8_101 : decode prog_136_method_7_code 101 = .ok (.bastore, 1) := by decide +kernel
theorem own_b8_102 : decode prog_136_method_7_code 102 = .ok (.goto 102, 3) := by decide +kernel
theorem own_b8_105 : decode prog_136_method_7_code 105 = .ok (.iload 6, 2) := by decide +kernel
theorem own_b8_107 : decode prog_136_method_7_code 107 = .ok (.sipush 2048, 3) := by decide +kernel
theorem own_b8_110 : decode prog_136_method_7_code 110 = .ok (.if_icmp .ge 40, 3) := by decide +kernel
theorem own_b8_113 : decode prog_136_method_7_code 113 = .ok (.aload_n 3, 1) := by decide +kernel
theorem own_b8_114 : decode prog_136_method_7_code 114 = .ok (.iload 4, 2) := by decide +kernel
theorem own_b8_116 : decode prog_136_method_7_code 116 = .ok (.iinc 4 1, 3) := by decide +kernel
theorem own_b8_119 : decode prog_136_method_7_code 119 = .ok (.sipush 192, 3) := by decide +kernel
theorem own_b8_122 : decode prog_136_method_7_code 122 = .ok (.iload 6, 2) := by decide +kernel
theorem own_b8_124 : decode prog_136_method_7_code 124 = .ok (.bipush 6, 2) := by decide +kernel
theorem own_b8_126 : decode prog_136_method_7_code 126 = .ok (.iushr, 1) := by decide +kernel
theorem own_b8_127 : decode prog_136_method_7_code 127 = .ok (.ior, 1) := by decide +kernel
theorem own_b8_128 : decode prog_136_method_7_code 128 = .ok (.i2b, 1) := by decide +kernel
theorem own_b8_129 : decode prog_136_method_7_code 129 = .ok (.bastore, 1) := by decide +kernel
theorem own_b8_130 : decode prog_136_method_7_code 130 = .ok (.aload_n 3, 1) := by decide +kernel
theorem own_b8_131 : decode prog_136_method_7_code 131 = .ok (.iload 4, 2) := by decide +kernel
theorem own_b8_133 : decode prog_136_method_7_code 133 = .ok (.iinc 4 1, 3) := by decide +kernel
theorem own_b8_136 : decode prog_136_method_7_code 136 = .ok (.sipush 128, 3) := by decide +kernel
theorem own_b8_139 : decode prog_136_method_7_code 139 = .ok (.iload 6, 2) := by decide +kernel
theorem own_b8_141 : decode prog_136_method_7_code 141 = .ok (.bipush 63, 2) := by decide +kernel
theorem own_b8_143 : decode prog_136_method_7_code 143 = .ok (.iand, 1) := by decide +kernel
theorem own_b8_144 : decode prog_136_method_7_code 144 = .ok (.ior, 1) := by decide +kernel
theorem own_b8_145 : decode prog_136_method_7_code 145 = .ok (.i2b, 1) := by decide +kernel
theorem own_b8_146 : decode prog_136_method_7_code 146 = .ok (.bastore, 1) := by decide +kernel
theorem own_b8_147 : decode prog_136_method_7_code 147 = .ok (.goto 57, 3) := by decide +kernel
theorem own_b8_150 : decode prog_136_method_7_code 150 = .ok (.aload_n 3, 1) := by decide +kernel
theorem own_b8_151 : decode prog_136_method_7_code 151 = .ok (.iload 4, 2) := by decide +kernel
theorem own_b8_153 : decode prog_136_method_7_code 153 = .ok (.iinc 4 1, 3) := by decide +kernel
theorem own_b8_156 : decode prog_136_method_7_code 156 = .ok (.sipush 224, 3) := by decide +kernel
theorem own_b8_159 : decode prog_136_method_7_code 159 = .ok (.iload 6, 2) := by decide +kernel
theorem own_b8_161 : decode prog_136_method_7_code 161 = .ok (.bipush 12, 2) := by decide +kernel
theorem own_b8_163 : decode prog_136_method_7_code 163 = .ok (.iushr, 1) := by decide +kernel
theorem own_b8_164 : decode prog_136_method_7_code 164 = .ok (.ior, 1) := by decide +kernel
theorem own_b8_165 : decode prog_136_method_7_code 165 = .ok (.i2b, 1) := by decide +kernel
theorem own_b8_166 : decode prog_136_method_7_code 166 = .ok (.bastore, 1) := by decide +kernel
theorem own_b8_167 : decode prog_136_method_7_code 167 = .ok (.aload_n 3, 1) := by decide +kernel
theorem own_b8_168 : decode prog_136_method_7_code 168 = .ok (.iload 4, 2) := by decide +kernel
theorem own_b8_170 : decode prog_136_method_7_code 170 = .ok (.iinc 4 1, 3) := by decide +kernel
theorem own_b8_173 : decode prog_136_method_7_code 173 = .ok (.sipush 128, 3) := by decide +kernel
theorem own_b8_176 : decode prog_136_method_7_code 176 = .ok (.iload 6, 2) := by decide +kernel
theorem own_b8_178 : decode prog_136_method_7_code 178 = .ok (.bipush 6, 2) := by decide +kernel
theorem own_b8_180 : decode prog_136_method_7_code 180 = .ok (.iushr, 1) := by decide +kernel
theorem own_b8_181 : decode prog_136_method_7_code 181 = .ok (.bipush 63, 2) := by decide +kernel
theorem own_b8_183 : decode prog_136_method_7_code 183 = .ok (.iand, 1) := by decide +kernel
theorem own_b8_184 : decode prog_136_method_7_code 184 = .ok (.ior, 1) := by decide +kernel
theorem own_b8_185 : decode prog_136_method_7_code 185 = .ok (.i2b, 1) := by decide +kernel
theorem own_b8_186 : decode prog_136_method_7_code 186 = .ok (.bastore, 1) := by decide +kernel
theorem own_b8_187 : decode prog_136_method_7_code 187 = .ok (.aload_n 3, 1) := by decide +kernel
theorem own_b8_188 : decode prog_136_method_7_code 188 = .ok (.iload 4, 2) := by decide +kernel
theorem own_b8_190 : decode prog_136_method_7_code 190 = .ok (.iinc 4 1, 3) := by decide +kernel
theorem own_b8_193 : decode prog_136_method_7_code 193 = .ok (.sipush 128, 3) := by decide +kernel
theorem own_b8_196 : decode prog_136_method_7_code 196 = .ok (.iload 6, 2) := by decide +kernel
theorem own_b8_198 : decode prog_136_method_7_code 198 = .ok (.bipush 63, 2) := by decide +kernel
theorem own_b8_200 : decode prog_136_method_7_code 200 = .ok (.iand, 1) := by decide +kernel
theorem own_b8_201 : decode prog_136_method_7_code 201 = .ok (.ior, 1) := by decide +kernel
theorem own_b8_202 : decode prog_136_method_7_code 202 = .ok (.i2b, 1) := by decide +kernel
theorem own_b8_203 : decode prog_136_method_7_code 203 = .ok (.bastore, 1) := by decide +kernel
theorem own_b8_204 : decode prog_136_method_7_code 204 = .ok (.iinc 5 1, 3) := by decide +kernel
theorem own_b8_207 : decode prog_136_method_7_code 207 = .ok (.goto (-139), 3) := by decide +kernel
theorem own_b8_210 : decode prog_136_method_7_code 210 = .ok (.iload 4, 2) := by decide +kernel
theorem own_b8_212 : decode prog_136_method_7_code 212 = .ok (.ireturn, 1) := by decide +kernel
theorem own_pf_b8 : plainFor (⟨"com/example/vestline/vestline/util/KeptTexts", "write", "(Ljava/lang/CharSequence;)I"⟩ : MethodName) = true := by first | exact plainFor_of_name (by first | (simp [plainName, overriddenIn, x]; done) | decide +kernel) | decide +kernel
theorem own_pd_19 : parseMethodDescriptor "()I" = some ⟨[], some .int⟩ := by decide +kernel
theorem own_pd_20 : parseMethodDescriptor "(I)C" = some ⟨[.int], some .char⟩ := by decide +kernel
set_option maxRecDepth 65536 in
set_option maxHeartbeats 40000000 in
theorem own_write (l : Launch) (Z : State) (a0 : Array Value) (hw : ∀ d ∈ tables_1, d.before a0 Z = true) (n0 : Nat) (h : Heap) (kt ba fa wb b P c : Nat) (vs : List Value) (fs : List Int32) (la : Int32) (HK : KTI Z h n0 kt ba fa wb b P c vs fs la) (o vb : Nat) (us : List Int32) (HS : Str Z h o vb us) (ws : List Int8) (A_wb : ArB Z h wb ws) (hw64 : ws.length = 64) (hne : o ≠ wb ∧ vb ≠ wb) (cs : Int32) (fm : Value) (SS : STS Z h n0 cs fm) :
    Con l Z (⟨"com/example/vestline/vestline/util/KeptTexts", "write", "(Ljava/lang/CharSequence;)I"⟩ : MethodName) prog_136_method_7_code 7 (some .int) ({ frames := 5, cells := 0, slots := 0, locals := 66 } : Room) n0 #[(.ref kt), (.ref o)] h (R1 fun r h' => (∃ z : Int32, r = .int z ∧ z.toInt = ((u8s us).length : Nat)) ∧ Keep h h' [wb] ∧ ∃ T, T.length + (u8s us).length = 64 ∧ ArB Z h' wb (u8s us ++ T)) := by
  refine Con.of (ls := [.val (.ref kt), .val (.ref o), .unset, .unset, .unset, .unset, .unset]) own_pf_b8 (fun m => by first | (simp [entryFrame, mkF, argsToLocals, Value.category]; done) | rfl) fun k K => ?_
  have k_0 : (0 : Int32).toInt = 0 := rfl
  have k_1 : (1 : Int32).toInt = 1 := rfl
  have k_12 : (12 : Int32).toInt = 12 := rfl
  have k_128 : (128 : Int32).toInt = 128 := rfl
  have k_192 : (192 : Int32).toInt = 192 := rfl
  have k_2 : (2 : Int32).toInt = 2 := rfl
  have k_2048 : (2048 : Int32).toInt = 2048 := rfl
  have k_224 : (224 : Int32).toInt = 224 := rfl
  have k_3 : (3 : Int32).toInt = 3 := rfl
  have k_6 : (6 : Int32).toInt = 6 := rfl
  have k_63 : (63 : Int32).toInt = 63 := rfl
  have k_715827871 : (715827871 : Int32).toInt = 715827871 := rfl
  obtain ⟨bb, om, cc, Ex, Fw, Fb, Fo, Fk, Ff, Fc, Fl, R_ba, A_fa, hbb, hom, hcc, hb, hP, hvl, hfl, n0_kt, n0_ba, n0_fa, n0_wb, Z0, d1, d2, d3, d4, d5, d6⟩ := HK
  have hpc := pw_cases hb hP
  obtain ⟨hus, hur⟩ := HS.le
  have hu8 := u8s_le us
  obtain ⟨z64, hz64⟩ := i32_of A_wb.len
  refine WP.aloadN K 1 own_b8_0 rfl rfl rfl ?_
  refine WP.callF K (a := o) (C := "java/lang/String") 6 0 0 0 [] [] (hw _ (List.mem_of_getElem? (i := 63) rfl)) (hw _ (List.mem_of_getElem? (i := 64) rfl)) (hw _ (List.mem_of_getElem? (i := 65) rfl)) (by decide) (hw _ (List.mem_of_getElem? (i := 66) rfl)) (hw _ (List.mem_of_getElem? (i := 67) rfl)) (hw _ (List.mem_of_getElem? (i := 68) rfl)) (hw _ (List.mem_of_getElem? (i := 69) rfl)) (hw _ (List.mem_of_getElem? (i := 70) rfl)) (hw _ (List.mem_of_getElem? (i := 7) rfl)) (hw _ (List.mem_of_getElem? (i := 71) rfl)) (by decide) own_pd_19 rfl rfl rfl (by decide) (by decide) (Nat.le_of_eq rfl) rfl own_b8_1 rfl rfl rfl (by decide) (by decide) HS.ex (own_slen l Z a0 hw n0 h o vb us HS cs fm SS) (r1_next fun r3 h1 q2 => ?_)
  obtain ⟨⟨zn, rfl, hzn⟩, rfl⟩ := q2
  refine WP.istoreN K 7 [.val (.ref kt), .val (.ref o), .val (.int zn), .unset, .unset, .unset, .unset] own_b8_6 rfl rfl ?_
  refine WP.iloadN K 8 own_b8_7 rfl rfl ?_
  refine WP.ldcI K (v := (715827871 : Int32)) 10 (hw _ (List.mem_of_getElem? (i := 78) rfl)) own_b8_8 rfl ?_
  refine WP.icmp_le K 27 13 own_b8_10 (by decide) rfl (fun c10 => ?_) (fun c10 => ?_)
  · skip
    refine WP.aloadN K 28 own_b8_27 rfl rfl rfl ?_
    refine WP.getfield K (host := "") 31 (Or.inl (hw _ (List.mem_of_getElem? (i := 34) rfl))) Via.refl Fw own_b8_28 rfl ?_
    refine WP.arraylength K z64 32 A_wb (by rw [hz64]; simp) own_b8_31 rfl ?_
    refine WP.iconst K (3 : Int32) 33 own_b8_32 rfl rfl ?_
    refine WP.iloadN K 34 own_b8_33 rfl rfl ?_
    refine WP.imul K 35 own_b8_34 rfl ?_
    have e3 : ((3 : Int32) * zn).toInt = 3 * zn.toInt := by rw [i32_mul (by rw [show (3 : Int32).toInt = 3 from rfl]; omega) (by rw [show (3 : Int32).toInt = 3 from rfl]; omega)]; rfl
    refine WP.icmp_ge K 57 38 own_b8_35 (by decide) rfl (fun c35 => ?_) (fun c35 => ?_)
    · skip
      refine WP.aloadN K 58 own_b8_57 rfl rfl rfl ?_
      refine WP.getfield K (host := "") 61 (Or.inl (hw _ (List.mem_of_getElem? (i := 34) rfl))) Via.refl Fw own_b8_58 rfl ?_
      refine WP.astoreN K 62 [.val (.ref kt), .val (.ref o), .val (.int zn), .val (.ref wb), .unset, .unset, .unset] own_b8_61 rfl rfl rfl ?_
      refine WP.iconst K (0 : Int32) 63 own_b8_62 rfl rfl ?_
      refine WP.istore K 65 [.val (.ref kt), .val (.ref o), .val (.int zn), .val (.ref wb), .val (.int (0 : Int32)), .unset, .unset] own_b8_63 rfl rfl ?_
      refine WP.iconst K (0 : Int32) 66 own_b8_65 rfl rfl ?_
      refine WP.istore K 68 [.val (.ref kt), .val (.ref o), .val (.int zn), .val (.ref wb), .val (.int (0 : Int32)), .val (.int (0 : Int32)), .unset] own_b8_66 rfl rfl ?_
      have J68 : ∀ (rs dn : List Int32) (hh : Heap) (T : List Int8) (p4 i5 : Int32) (s6 : Slot) (h_s6 : One s6), us = dn ++ rs → p4.toInt = ((u8s dn).length : Nat) → i5.toInt = (dn.length : Nat) → Keep h hh [wb] → ArB Z hh wb (u8s dn ++ T) → T.length + (u8s dn).length = 64 → Str Z hh o vb us → STS Z hh n0 cs fm → WP k hh 0 0 68 [.val (.ref kt), .val (.ref o), .val (.int zn), .val (.ref wb), .val (.int p4), .val (.int i5), s6] [] := by
        intro rs
        induction rs with
        | nil =>
          intro dn hh T p4 i5 s6 h_s6 hus2 hp4 hi5 Kp A_wb hT HS SS
          have hul := congrArg List.length hus2
          simp only [List.length_append, List.length_nil, List.length_cons] at hul
          have hdl := u8s_le dn
          obtain rfl : us = dn := by rw [hus2, List.append_nil]
          refine WP.iload K 70 own_b8_68 rfl rfl ?_
          refine WP.iloadN K 71 own_b8_70 rfl rfl ?_
          refine WP.icmp_ge K 210 74 own_b8_71 (by decide) rfl (fun c71 => ?_) (fun c71 => ?_)
          · skip
            refine WP.iload K 212 own_b8_210 rfl rfl ?_
            refine WP.iret K rfl (Or.inl rfl) rfl own_b8_212 ?_ (by decide) (by decide)
            exact ⟨_, rfl, ⟨_, rfl, hp4⟩, Kp, T, hT, A_wb⟩
          · skip
            exfalso; omega
        | cons x rs ih =>
          intro dn hh T p4 i5 s6 h_s6 hus2 hp4 hi5 Kp A_wb hT HS SS
          have hul := congrArg List.length hus2
          simp only [List.length_append, List.length_nil, List.length_cons] at hul
          have hdl := u8s_le dn
          have hx : us[dn.length]? = some x := by rw [hus2]; simp
          obtain ⟨t0, t1, t2, T3, rfl⟩ : ∃ t0 t1 t2 T3, T = t0 :: t1 :: t2 :: T3 := by
            match T, hT with
            | a :: b :: d :: e, _ => exact ⟨a, b, d, e, rfl⟩
            | [], q => simp at q; omega
            | [a], q => simp at q; omega
            | [a, b], q => simp at q; omega
          simp only [List.length_cons] at hT
          obtain ⟨hx0, hx1⟩ := hur x (List.mem_of_getElem? hx)
          refine WP.iload K 70 own_b8_68 rfl rfl ?_
          refine WP.iloadN K 71 own_b8_70 rfl rfl ?_
          refine WP.icmp_ge K 210 74 own_b8_71 (by decide) rfl (fun c71 => ?_) (fun c71 => ?_)
          · skip
            exfalso; omega
          · skip
            refine WP.aloadN K 75 own_b8_74 rfl rfl rfl ?_
            refine WP.iload K 77 own_b8_75 rfl rfl ?_
            refine WP.callF K (a := o) (C := "java/lang/String") 82 0 0 0 [(.int i5)] [] (hw _ (List.mem_of_getElem? (i := 156) rfl)) (hw _ (List.mem_of_getElem? (i := 157) rfl)) (hw _ (List.mem_of_getElem? (i := 158) rfl)) (by decide) (hw _ (List.mem_of_getElem? (i := 159) rfl)) (hw _ (List.mem_of_getElem? (i := 160) rfl)) (hw _ (List.mem_of_getElem? (i := 161) rfl)) (hw _ (List.mem_of_getElem? (i := 162) rfl)) (hw _ (List.mem_of_getElem? (i := 70) rfl)) (hw _ (List.mem_of_getElem? (i := 7) rfl)) (hw _ (List.mem_of_getElem? (i := 163) rfl)) (by decide) own_pd_20 rfl rfl rfl (by decide) (by decide) (Nat.le_of_eq rfl) rfl own_b8_77 rfl rfl rfl (by decide) (by decide) HS.ex (own_schar l Z a0 hw n0 hh o vb i5 us dn.length x HS hx hi5 cs fm SS) (r1_next fun r6 h4 q5 => ?_)
            obtain ⟨rfl, rfl⟩ := q5
            refine WP.istore K 84 [.val (.ref kt), .val (.ref o), .val (.int zn), .val (.ref wb), .val (.int p4), .val (.int i5), .val (.int x)] own_b8_82 rfl (st1 rfl h_s6 rfl) ?_
            refine WP.iload K 86 own_b8_84 rfl rfl ?_
            refine WP.sipush K (128 : Int32) 89 own_b8_86 rfl rfl ?_
            refine WP.icmp_ge K 105 92 own_b8_89 (by decide) rfl (fun c89 => ?_) (fun c89 => ?_)
            · skip
              refine WP.iload K 107 own_b8_105 rfl rfl ?_
              refine WP.sipush K (2048 : Int32) 110 own_b8_107 rfl rfl ?_
              refine WP.icmp_ge K 150 113 own_b8_110 (by decide) rfl (fun c110 => ?_) (fun c110 => ?_)
              · skip
                refine WP.aloadN K 151 own_b8_150 rfl rfl rfl ?_
                refine WP.iload K 153 own_b8_151 rfl rfl ?_
                refine WP.iinc K (1 : Int32) 156 [.val (.ref kt), .val (.ref o), .val (.int zn), .val (.ref wb), .val (.int (p4 + (1 : Int32))), .val (.int i5), .val (.int x)] own_b8_153 rfl rfl rfl rfl ?_
                refine WP.sipush K (224 : Int32) 159 own_b8_156 rfl rfl ?_
                refine WP.iload K 161 own_b8_159 rfl rfl ?_
                refine WP.bipush K (12 : Int32) 163 own_b8_161 rfl rfl ?_
                refine WP.iushr K 164 own_b8_163 rfl ?_
                refine WP.ior K 165 own_b8_164 rfl ?_
                refine WP.i2b K 166 own_b8_165 rfl ?_
                refine WP.bastore K 167 ((u8s dn).length) A_wb hp4 (by simp) own_b8_166 rfl n0_wb (fun h7 K8 A_wb => ?_)
                have SS := SS.keep K8 (kn1 (by omega))
                have HS := HS.keep K8 ⟨nm1 (by omega), nm1 (by omega)⟩
                have Kp := Kp.trans K8 (ks1 (by first | (refine Or.inl ?_; simp; done) | (refine Or.inr ?_; omega)))
                rw [set_m] at A_wb
                have hp4_1 : (p4 + (1 : Int32)).toInt = (((u8s dn ++ [(((224 : Int32) ||| (XT.ushr x (12 : Int32))).toInt8.toInt32).toInt8])).length : Nat) := by rw [List.length_append, List.length_singleton]; exact inc32 hp4 (by first | omega | (simp only [List.length_append, List.length_singleton]; omega))
                refine WP.aloadN K 168 own_b8_167 rfl rfl rfl ?_
                refine WP.iload K 170 own_b8_168 rfl rfl ?_
                refine WP.iinc K (1 : Int32) 173 [.val (.ref kt), .val (.ref o), .val (.int zn), .val (.ref wb), .val (.int ((p4 + (1 : Int32)) + (1 : Int32))), .val (.int i5), .val (.int x)] own_b8_170 rfl rfl rfl rfl ?_
                refine WP.sipush K (128 : Int32) 176 own_b8_173 rfl rfl ?_
                refine WP.iload K 178 own_b8_176 rfl rfl ?_
                refine WP.bipush K (6 : Int32) 180 own_b8_178 rfl rfl ?_
                refine WP.iushr K 181 own_b8_180 rfl ?_
                refine WP.bipush K (63 : Int32) 183 own_b8_181 rfl rfl ?_
                refine WP.iand K 184 own_b8_183 rfl ?_
                refine WP.ior K 185 own_b8_184 rfl ?_
                refine WP.i2b K 186 own_b8_185 rfl ?_
                refine WP.bastore K 187 (((u8s dn ++ [(((224 : Int32) ||| (XT.ushr x (12 : Int32))).toInt8.toInt32).toInt8])).length) A_wb hp4_1 (by simp) own_b8_186 rfl n0_wb (fun h9 K10 A_wb => ?_)
                have SS := SS.keep K10 (kn1 (by omega))
                have HS := HS.keep K10 ⟨nm1 (by omega), nm1 (by omega)⟩
                have Kp := Kp.trans K10 (ks1 (by first | (refine Or.inl ?_; simp; done) | (refine Or.inr ?_; omega)))
                rw [set_m] at A_wb
                have hp4_2 : ((p4 + (1 : Int32)) + (1 : Int32)).toInt = ((((u8s dn ++ [(((224 : Int32) ||| (XT.ushr x (12 : Int32))).toInt8.toInt32).toInt8]) ++ [(((128 : Int32) ||| ((XT.ushr x (6 : Int32)) &&& (63 : Int32))).toInt8.toInt32).toInt8])).length : Nat) := by rw [List.length_append, List.length_singleton]; exact inc32 hp4_1 (by first | omega | (simp only [List.length_append, List.length_singleton]; omega))
                refine WP.aloadN K 188 own_b8_187 rfl rfl rfl ?_
                refine WP.iload K 190 own_b8_188 rfl rfl ?_
                refine WP.iinc K (1 : Int32) 193 [.val (.ref kt), .val (.ref o), .val (.int zn), .val (.ref wb), .val (.int (((p4 + (1 : Int32)) + (1 : Int32)) + (1 : Int32))), .val (.int i5), .val (.int x)] own_b8_190 rfl rfl rfl rfl ?_
                refine WP.sipush K (128 : Int32) 196 own_b8_193 rfl rfl ?_
                refine WP.iload K 198 own_b8_196 rfl rfl ?_
                refine WP.bipush K (63 : Int32) 200 own_b8_198 rfl rfl ?_
                refine WP.iand K 201 own_b8_200 rfl ?_
                refine WP.ior K 202 own_b8_201 rfl ?_
                refine WP.i2b K 203 own_b8_202 rfl ?_
                refine WP.bastore K 204 ((((u8s dn ++ [(((224 : Int32) ||| (XT.ushr x (12 : Int32))).toInt8.toInt32).toInt8]) ++ [(((128 : Int32) ||| ((XT.ushr x (6 : Int32)) &&& (63 : Int32))).toInt8.toInt32).toInt8])).length) A_wb hp4_2 (by simp) own_b8_203 rfl n0_wb (fun h11 K12 A_wb => ?_)
                have SS := SS.keep K12 (kn1 (by omega))
                have HS := HS.keep K12 ⟨nm1 (by omega), nm1 (by omega)⟩
                have Kp := Kp.trans K12 (ks1 (by first | (refine Or.inl ?_; simp; done) | (refine Or.inr ?_; omega)))
                rw [set_m] at A_wb
                have hp4_3 : (((p4 + (1 : Int32)) + (1 : Int32)) + (1 : Int32)).toInt = (((((u8s dn ++ [(((224 : Int32) ||| (XT.ushr x (12 : Int32))).toInt8.toInt32).toInt8]) ++ [(((128 : Int32) ||| ((XT.ushr x (6 : Int32)) &&& (63 : Int32))).toInt8.toInt32).toInt8]) ++ [(((128 : Int32) ||| (x &&& (63 : Int32))).toInt8.toInt32).toInt8])).length : Nat) := by rw [List.length_append, List.length_singleton]; exact inc32 hp4_2 (by first | omega | (simp only [List.length_append, List.length_singleton]; omega))
                have ew : u8s (dn ++ [x]) = u8s dn ++ u8c x := by rw [u8s_app, u8s_one]
                rw [u8c_3 (x := x) (by omega)] at ew
                have ewl := congrArg List.length ew
                simp only [List.length_append, List.length_cons, List.length_nil] at ewl
                have A_wb : ArB Z h11 wb (u8s (dn ++ [x]) ++ (T3)) := by rw [ew]; simpa using A_wb
                have h4x : (((p4 + (1 : Int32)) + (1 : Int32)) + (1 : Int32)).toInt = ((u8s (dn ++ [x])).length : Nat) := by rw [hp4_3]; simp only [List.length_append, List.length_singleton]; omega
                refine WP.iinc K (1 : Int32) 207 [.val (.ref kt), .val (.ref o), .val (.int zn), .val (.ref wb), .val (.int (((p4 + (1 : Int32)) + (1 : Int32)) + (1 : Int32))), .val (.int (i5 + (1 : Int32))), .val (.int x)] own_b8_204 rfl rfl rfl rfl ?_
                refine WP.goto K 68 own_b8_207 (by decide) ?_
                exact ih (dn ++ [x]) _ (T3) _ _ _ (One.val rfl) (by rw [hus2]; simp) h4x (by rw [List.length_append, List.length_singleton]; exact inc32 hi5 (by omega)) Kp A_wb (by first | omega | (simp only [List.length_cons]; omega)) HS SS
              · skip
                refine WP.aloadN K 114 own_b8_113 rfl rfl rfl ?_
                refine WP.iload K 116 own_b8_114 rfl rfl ?_
                refine WP.iinc K (1 : Int32) 119 [.val (.ref kt), .val (.ref o), .val (.int zn), .val (.ref wb), .val (.int (p4 + (1 : Int32))), .val (.int i5), .val (.int x)] own_b8_116 rfl rfl rfl rfl ?_
                refine WP.sipush K (192 : Int32) 122 own_b8_119 rfl rfl ?_
                refine WP.iload K 124 own_b8_122 rfl rfl ?_
                refine WP.bipush K (6 : Int32) 126 own_b8_124 rfl rfl ?_
                refine WP.iushr K 127 own_b8_126 rfl ?_
                refine WP.ior K 128 own_b8_127 rfl ?_
                refine WP.i2b K 129 own_b8_128 rfl ?_
                refine WP.bastore K 130 ((u8s dn).length) A_wb hp4 (by simp) own_b8_129 rfl n0_wb (fun h13 K14 A_wb => ?_)
                have SS := SS.keep K14 (kn1 (by omega))
                have HS := HS.keep K14 ⟨nm1 (by omega), nm1 (by omega)⟩
                have Kp := Kp.trans K14 (ks1 (by first | (refine Or.inl ?_; simp; done) | (refine Or.inr ?_; omega)))
                rw [set_m] at A_wb
                have hp4_1 : (p4 + (1 : Int32)).toInt = (((u8s dn ++ [(((192 : Int32) ||| (XT.ushr x (6 : Int32))).toInt8.toInt32).toInt8])).length : Nat) := by rw [List.length_append, List.length_singleton]; exact inc32 hp4 (by first | omega | (simp only [List.length_append, List.length_singleton]; omega))
                refine WP.aloadN K 131 own_b8_130 rfl rfl rfl ?_
                refine WP.iload K 133 own_b8_131 rfl rfl ?_
                refine WP.iinc K (1 : Int32) 136 [.val (.ref kt), .val (.ref o), .val (.int zn), .val (.ref wb), .val (.int ((p4 + (1 : Int32)) + (1 : Int32))), .val (.int i5), .val (.int x)] own_b8_133 rfl rfl rfl rfl ?_
                refine WP.sipush K (128 : Int32) 139 own_b8_136 rfl rfl ?_
                refine WP.iload K 141 own_b8_139 rfl rfl ?_
                refine WP.bipush K (63 : Int32) 143 own_b8_141 rfl rfl ?_
                refine WP.iand K 144 own_b8_143 rfl ?_
                refine WP.ior K 145 own_b8_144 rfl ?_
                refine WP.i2b K 146 own_b8_145 rfl ?_
                refine WP.bastore K 147 (((u8s dn ++ [(((192 : Int32) ||| (XT.ushr x (6 : Int32))).toInt8.toInt32).toInt8])).length) A_wb hp4_1 (by simp) own_b8_146 rfl n0_wb (fun h15 K16 A_wb => ?_)
                have SS := SS.keep K16 (kn1 (by omega))
                have HS := HS.keep K16 ⟨nm1 (by omega), nm1 (by omega)⟩
                have Kp := Kp.trans K16 (ks1 (by first | (refine Or.inl ?_; simp; done) | (refine Or.inr ?_; omega)))
                rw [set_m] at A_wb
                have hp4_2 : ((p4 + (1 : Int32)) + (1 : Int32)).toInt = ((((u8s dn ++ [(((192 : Int32) ||| (XT.ushr x (6 : Int32))).toInt8.toInt32).toInt8]) ++ [(((128 : Int32) ||| (x &&& (63 : Int32))).toInt8.toInt32).toInt8])).length : Nat) := by rw [List.length_append, List.length_singleton]; exact inc32 hp4_1 (by first | omega | (simp only [List.length_append, List.length_singleton]; omega))
                refine WP.goto K 204 own_b8_147 (by decide) ?_
                have ew : u8s (dn ++ [x]) = u8s dn ++ u8c x := by rw [u8s_app, u8s_one]
                rw [u8c_2 (x := x) (by omega) (by omega)] at ew
                have ewl := congrArg List.length ew
                simp only [List.length_append, List.length_cons, List.length_nil] at ewl
                have A_wb : ArB Z h15 wb (u8s (dn ++ [x]) ++ (t2 :: T3)) := by rw [ew]; simpa using A_wb
                have h4x : ((p4 + (1 : Int32)) + (1 : Int32)).toInt = ((u8s (dn ++ [x])).length : Nat) := by rw [hp4_2]; simp only [List.length_append, List.length_singleton]; omega
                refine WP.iinc K (1 : Int32) 207 [.val (.ref kt), .val (.ref o), .val (.int zn), .val (.ref wb), .val (.int ((p4 + (1 : Int32)) + (1 : Int32))), .val (.int (i5 + (1 : Int32))), .val (.int x)] own_b8_204 rfl rfl rfl rfl ?_
                refine WP.goto K 68 own_b8_207 (by decide) ?_
                exact ih (dn ++ [x]) _ (t2 :: T3) _ _ _ (One.val rfl) (by rw [hus2]; simp) h4x (by rw [List.length_append, List.length_singleton]; exact inc32 hi5 (by omega)) Kp A_wb (by first | omega | (simp only [List.length_cons]; omega)) HS SS
            · skip
              refine WP.aloadN K 93 own_b8_92 rfl rfl rfl ?_
              refine WP.iload K 95 own_b8_93 rfl rfl ?_
              refine WP.iinc K (1 : Int32) 98 [.val (.ref kt), .val (.ref o), .val (.int zn), .val (.ref wb), .val (.int (p4 + (1 : Int32))), .val (.int i5), .val (.int x)] own_b8_95 rfl rfl rfl rfl ?_
              refine WP.iload K 100 own_b8_98 rfl rfl ?_
              refine WP.i2b K 101 own_b8_100 rfl ?_
              refine WP.bastore K 102 ((u8s dn).length) A_wb hp4 (by simp) own_b8_101 rfl n0_wb (fun h17 K18 A_wb => ?_)
              have SS := SS.keep K18 (kn1 (by omega))
              have HS := HS.keep K18 ⟨nm1 (by omega), nm1 (by omega)⟩
              have Kp := Kp.trans K18 (ks1 (by first | (refine Or.inl ?_; simp; done) | (refine Or.inr ?_; omega)))
              rw [set_m] at A_wb
              have hp4_1 : (p4 + (1 : Int32)).toInt = (((u8s dn ++ [x.toInt8.toInt32.toInt8])).length : Nat) := by rw [List.length_append, List.length_singleton]; exact inc32 hp4 (by first | omega | (simp only [List.length_append, List.length_singleton]; omega))
              refine WP.goto K 204 own_b8_102 (by decide) ?_
              have ew : u8s (dn ++ [x]) = u8s dn ++ u8c x := by rw [u8s_app, u8s_one]
              rw [u8c_1 (x := x) (by omega)] at ew
              have ewl := congrArg List.length ew
              simp only [List.length_append, List.length_cons, List.length_nil] at ewl
              have A_wb : ArB Z h17 wb (u8s (dn ++ [x]) ++ (t1 :: t2 :: T3)) := by rw [ew]; simpa using A_wb
              have h4x : (p4 + (1 : Int32)).toInt = ((u8s (dn ++ [x])).length : Nat) := by rw [hp4_1]; simp only [List.length_append, List.length_singleton]; omega
              refine WP.iinc K (1 : Int32) 207 [.val (.ref kt), .val (.ref o), .val (.int zn), .val (.ref wb), .val (.int (p4 + (1 : Int32))), .val (.int (i5 + (1 : Int32))), .val (.int x)] own_b8_204 rfl rfl rfl rfl ?_
              refine WP.goto K 68 own_b8_207 (by decide) ?_
              exact ih (dn ++ [x]) _ (t1 :: t2 :: T3) _ _ _ (One.val rfl) (by rw [hus2]; simp) h4x (by rw [List.length_append, List.length_singleton]; exact inc32 hi5 (by omega)) Kp A_wb (by first | omega | (simp only [List.length_cons]; omega)) HS SS
      exact J68 us [] _ ws _ _ _ One.u rfl rfl rfl (Keep.refl h _) A_wb (by rw [u8s_nil]; simpa using hw64) HS SS
    · skip
      exfalso; omega
  · skip
    exfalso; omega
theorem own_b15_0 : decode prog_136_method_8_code 0 = .ok (.aload_n 0, 1) := by decide +kernel
theorem own_b15_1 : decode prog_136_method_8_code 1 = .ok (.getfield 26, 3) := by decide +kernel
theorem own_b15_4 : decode prog_136_method_8_code 4 = .ok (.aload_n 0, 1) := by decide +kernel
theorem own_b15_5 : decode prog_136_method_8_code 5 = .ok (.getfield 68, 3) := by decide +kernel
theorem own_b15_8 : decode prog_136_method_8_code 8 = .ok (.aaload, 1) := by decide +kernel
theorem own_b15_9 : decode prog_136_method_8_code 9 = .ok (.astore_n 2, 1) := by decide +kernel
theorem own_b15_10 : decode prog_136_method_8_code 10 = .ok (.iload_n 1, 1) := by decide +kernel
theorem own_b15_11 : decode prog_136_method_8_code 11 = .ok (.aload_n 2, 1) := by decide +kernel
theorem own_b15_12 : decode prog_136_method_8_code 12 = .ok (.arraylength, 1) := by decide +kernel
theorem own_b15_13 : decode prog_136_method_8_code 13 = .ok (.aload_n 0, 1) := by decide +kernel
theorem own_b15_14 : decode prog_136_method_8_code 14 = .ok (.getfield 30, 3) := by decide +kernel
theorem own_b15_17 : decode prog_136_method_8_code 17 = .ok (.aload_n 0, 1) := by decide +kernel
theorem own_b15_18 : decode prog_136_method_8_code 18 = .ok (.getfield 68, 3) := by decide +kernel
theorem own_b15_21 : decode prog_136_method_8_code 21 = .ok (.iaload, 1) := by decide +kernel
theorem own_b15_22 : decode prog_136_method_8_code 22 = .ok (.isub, 1) := by decide +kernel
theorem own_b15_23 : decode prog_136_method_8_code 23 = .ok (.if_icmp .gt 19, 3) := by decide +kernel
theorem own_b15_26 : decode prog_136_method_8_code 26 = .ok (.aload_n 0, 1) := by decide +kernel
theorem own_b15_27 : decode prog_136_method_8_code 27 = .ok (.getfield 30, 3) := by decide +kernel
theorem own_b15_30 : decode prog_136_method_8_code 30 = .ok (.aload_n 0, 1) := by decide +kernel
theorem own_b15_31 : decode prog_136_method_8_code 31 = .ok (.getfield 68, 3) := by decide +kernel
theorem own_b15_34 : decode prog_136_method_8_code 34 = .ok (.iaload, 1) := by decide +kernel
theorem own_b15_35 : decode prog_136_method_8_code 35 = .ok (.aload_n 0, 1) := by decide +kernel
theorem own_b15_36 : decode prog_136_method_8_code 36 = .ok (.getfield 22, 3) := by decide +kernel
theorem own_b15_39 : decode prog_136_method_8_code 39 = .ok (.if_icmp .le 80, 3) := by decide +kernel
theorem own_b15_42 : decode prog_136_method_8_code 42 = .ok (.aload_n 0, 1) := by decide +kernel
theorem own_b15_43 : decode prog_136_method_8_code 43 = .ok (.getfield 68, 3) := by decide +kernel
theorem own_b15_46 : decode prog_136_method_8_code 46 = .ok (.iconst 1, 1) := by decide +kernel
theorem own_b15_47 : decode prog_136_method_8_code 47 = .ok (.iadd, 1) := by decide +kernel
theorem own_b15_48 : decode prog_136_method_8_code 48 = .ok (.aload_n 0, 1) := by decide +kernel
theorem own_b15_49 : decode prog_136_method_8_code 49 = .ok (.getfield 26, 3) := by decide +kernel
theorem own_b15_52 : decode prog_136_method_8_code 52 = .ok (.arraylength, 1) := by decide +kernel
theorem own_b15_53 : decode prog_136_method_8_code 53 = .ok (.if_icmp .ne 21, 3) := by decide +kernel
theorem own_b15_56 : decode prog_136_method_8_code 56 = .ok (.new 88, 3) := by decide +kernel
theorem own_b15_59 : decode prog_136_method_8_code 59 = .ok (.dup, 1) := by decide +kernel
theorem own_b15_60 : decode prog_136_method_8_code 60 = .ok (.aload_n 0, 1) := by decide +kernel
theorem own_b15_61 : decode prog_136_method_8_code 61 = .ok (.getfield 26, 3) := by decide +kernel
theorem own_b15_64 : decode prog_136_method_8_code 64 = .ok (.arraylength, 1) := by decide +kernel
theorem own_b15_65 : decode prog_136_method_8_code 65 = .ok (.invokedynamic 104, 5) := by decide +kernel
theorem own_b15_70 : decode prog_136_method_8_code 70 = .ok (.invokespecial 94, 3) := by decide +kernel
theorem own_b15_73 : decode prog_136_method_8_code 73 = .ok (.athrow, 1) := by decide +kernel
theorem own_b15_74 : decode prog_136_method_8_code 74 = .ok (.iconst 1, 1) := by decide +kernel
theorem own_b15_75 : decode prog_136_method_8_code 75 = .ok (.aload_n 0, 1) := by decide +kernel
theorem own_b15_76 : decode prog_136_method_8_code 76 = .ok (.getfield 18, 3) := by decide +kernel
theorem own_b15_79 : decode prog_136_method_8_code 79 = .ok (.ishl, 1) := by decide +kernel
theorem own_b15_80 : decode prog_136_method_8_code 80 = .ok (.istore_n 3, 1) := by decide +kernel
theorem own_b15_81 : decode prog_136_method_8_code 81 = .ok (.aload_n 0, 1) := by decide +kernel
theorem own_b15_82 : decode prog_136_method_8_code 82 = .ok (.dup, 1) := by decide +kernel
theorem own_b15_83 : decode prog_136_method_8_code 83 = .ok (.getfield 68, 3) := by decide +kernel
theorem own_b15_86 : decode prog_136_method_8_code 86 = .ok (.iconst 1, 1) := by decide +kernel
theorem own_b15_87 : decode prog_136_method_8_code 87 = .ok (.iadd, 1) := by decide +kernel
theorem own_b15_88 : decode prog_136_method_8_code 88 = .ok (.putfield 68, 3) := by decide +kernel
theorem own_b15_91 : decode prog_136_method_8_code 91 = .ok (.aload_n 0, 1) := by decide +kernel
theorem own_b15_92 : decode prog_136_method_8_code 92 = .ok (.getfield 26, 3) := by decide +kernel
theorem own_b15_95 : decode prog_136_method_8_code 95 = .ok (.aload_n 0, 1) := by decide +kernel
theorem own_b15_96 : decode prog_136_method_8_code 96 = .ok (.getfield 68, 3) := by decide +kernel
theorem own_b15_99 : decode prog_136_method_8_code 99 = .ok (.ldc2_w 105, 3) := by decide +kernel
theorem own_b15_102 : decode prog_136_method_8_code 102 = .ok (.aload_n 2, 1) := by decide +kernel
theorem own_b15_103 : decode prog_136_method_8_code 103 = .ok (.arraylength, 1) := by decide +kernel
theorem own_b15_104 : decode prog_136_method_8_code 104 = .ok (.i2l, 1) := by decide +kernel
theorem own_b15_105 : decode prog_136_method_8_code 105 = .ok (.lmul, 1) := by decide +kernel
theorem own_b15_106 : decode prog_136_method_8_code 106 = .ok (.iload_n 3, 1) := by decide +kernel
theorem own_b15_107 : decode prog_136_method_8_code 107 = .ok (.i2l, 1) := by decide +kernel
theorem own_b15_108 : decode prog_136_method_8_code 108 = .ok (.invokestatic 107, 3) := by decide +kernel
theorem own_b15_111 : decode prog_136_method_8_code 111 = .ok (.l2i, 1) := by decide +kernel
theorem own_b15_112 : decode prog_136_method_8_code 112 = .ok (.iload_n 1, 1) := by decide +kernel
theorem own_b15_113 : decode prog_136_method_8_code 113 = .ok (.invokestatic 97, 3) := by decide +kernel
theorem own_b15_116 : decode prog_136_method_8_code 116 = .ok (.newarray .byte, 2) := by decide +kernel
theorem own_b15_118 : decode prog_136_method_8_code 118 = .ok (.aastore, 1) := by decide +kernel
theorem own_b15_119 : decode prog_136_method_8_code 119 = .ok (.aload_n 0, 1) := by decide +kernel
theorem own_b15_120 : decode prog_136_method_8_code 120 = .ok (.getfield 68, 3) := by decide +kernel
theorem own_b15_123 : decode prog_136_method_8_code 123 = .ok (.aload_n 0, 1) := by decide +kernel
theorem own_b15_124 : decode prog_136_method_8_code 124 = .ok (.getfield 18, 3) := by decide +kernel
theorem own_b15_127 : decode prog_136_method_8_code 127 = .ok (.ishl, 1) := by decide +kernel
theorem own_b15_128 : decode prog_136_method_8_code 128 = .ok (.aload_n 0, 1) := by decide +kernel
theorem own_b15_129 : decode prog_136_method_8_code 129 = .ok (.getfield 30, 3) := by decide +kernel
theorem own_b15_132 : decode prog_136_method_8_code 132 = .ok (.aload_n 0, 1) := by decide +kernel
theorem own_b15_133 : decode prog_136_method_8_code 133 = .ok (.getfield 68, 3) := by decide +kernel
theorem own_b15_136 : decode prog_136_method_8_code 136 = .ok (.iaload, 1) := by decide +kernel
theorem own_b15_137 : decode prog_136_method_8_code 137 = .ok (.ior, 1) := by decide +kernel
theorem own_b15_138 : decode prog_136_method_8_code 138 = .ok (.istore_n 3, 1) := by decide +kernel
theorem own_b15_139 : decode prog_136_method_8_code 139 = .ok (.aload_n 0, 1) := by decide +kernel
theorem own_b15_140 : decode prog_136_method_8_code 140 = .ok (.getfield 30, 3) := by decide +kernel
theorem own_b15_143 : decode prog_136_method_8_code 143 = .ok (.aload_n 0, 1) := by decide +kernel
theorem own_b15_144 : decode prog_136_method_8_code 144 = .ok (.getfield 68, 3) := by decide +kernel
theorem own_b15_147 : decode prog_136_method_8_code 147 = .ok (.dup2, 1) := by decide +kernel
theorem own_b15_148 : decode prog_136_method_8_code 148 = .ok (.iaload, 1) := by decide +kernel
theorem own_b15_149 : decode prog_136_method_8_code 149 = .ok (.iload_n 1, 1) := by decide +kernel
theorem own_b15_150 : decode prog_136_method_8_code 150 = .ok (.iadd, 1) := by decide +kernel
theorem own_b15_151 : decode prog_136_method_8_code 151 = .ok (.iastore, 1) := by decide +kernel
theorem own_b15_152 : decode prog_136_method_8_code 152 = .ok (.iload_n 3, 1) := by decide +kernel
theorem own_b15_153 : decode prog_136_method_8_code 153 = .ok (.ireturn, 1) := by decide +kernel
theorem own_pf_b15 : plainFor (⟨"com/example/vestline/vestline/util/KeptTexts", "room", "(I)I"⟩ : MethodName) = true := by first | exact plainFor_of_name (by first | (simp [plainName, overriddenIn, x]; done) | decide +kernel) | decide +kernel
theorem own_pd_21 : parseMethodDescriptor "(JJ)J" = some ⟨[.long, .long], some .long⟩ := by decide +kernel
set_option maxRecDepth 65536 in
set_option maxHeartbeats 40000000 in
theorem own_room (l : Launch) (Z : State) (a0 : Array Value) (hw : ∀ d ∈ tables_1, d.before a0 Z = true) (n0 : Nat) (h : Heap) (kt ba fa wb b P c : Nat) (vs : List Value) (fs : List Int32) (la : Int32) (HK : KTI Z h n0 kt ba fa wb b P c vs fs la) (sz : Int32) (S_ : Nat) (hsz : sz.toInt = (S_ : Nat)) (hS : S_ ≤ 16) (ca : Nat) (X Y : List Int8) (f g : Int32) (hva : vs[c]? = some (.ref ca)) (A_ca : ArB Z h ca (X ++ Y)) (hXY : X.length + Y.length ≤ 32) (hf : fs[c]? = some f) (hfX : f.toInt = (X.length : Nat)) (hg : fs[c + 1]? = some g) (hg0 : g = 0) (hc : c ≤ 2) (n0_ca : n0 ≤ ca) (dc : ca ≠ kt ∧ ca ≠ ba ∧ ca ≠ fa ∧ ca ≠ wb) :
    Con l Z (⟨"com/example/vestline/vestline/util/KeptTexts", "room", "(I)I"⟩ : MethodName) prog_136_method_8_code 4 (some .int) ({ frames := 1, cells := 1, slots := 32, locals := 19 } : Room) n0 #[(.ref kt), (.int sz)] h (R1 fun r h' => ∃ z : Int32, r = .int z ∧ ((S_ ≤ Y.length ∧ X.length < P ∧ z.toInt = ((c * P + X.length : Nat) : Int) ∧ (∃ f' : Int32, f'.toInt = ((X.length + S_ : Nat) : Int) ∧ KTI Z h' n0 kt ba fa wb b P c vs (fs.set c f') la) ∧ Keep h h' [fa]) ∨ ∃ (na M : Nat) (f' : Int32), ¬ (S_ ≤ Y.length ∧ X.length < P) ∧ h.size ≤ na ∧ S_ ≤ M ∧ M ≤ 32 ∧ f'.toInt = (S_ : Nat) ∧ z.toInt = (((c + 1) * P : Nat) : Int) ∧ ArB Z h' na (List.replicate M 0) ∧ KTI Z h' n0 kt ba fa wb b P (c + 1) (vs.set (c + 1) (.ref na)) (fs.set (c + 1) f') la ∧ Keep h h' [kt, ba, fa])) := by
  refine Con.of (ls := [.val (.ref kt), .val (.int sz), .unset, .unset]) own_pf_b15 (fun m => by first | (simp [entryFrame, mkF, argsToLocals, Value.category]; done) | rfl) fun k K => ?_
  have k_1 : (1 : Int32).toInt = 1 := rfl
  have kL_2 : (2 : Int64).toInt = 2 := rfl
  obtain ⟨bb, om, cc, Ex, Fw, Fb, Fo, Fk, Ff, Fc, Fl, R_ba, A_fa, hbb, hom, hcc, hb, hP, hvl, hfl, n0_kt, n0_ba, n0_fa, n0_wb, Z0, d1, d2, d3, d4, d5, d6⟩ := HK
  have hpc := pw_cases hb hP
  obtain ⟨zl, hzl⟩ : ∃ z : Int32, z.toInt = ((X.length + Y.length : Nat) : Int) := i32_of (by omega)
  obtain ⟨z8, hz8⟩ : ∃ z : Int32, z.toInt = (8 : Nat) := i32_of (by decide)
  have hsub : (zl - f).toInt = (Y.length : Nat) := by rw [i32_sub (by omega) (by omega)]; omega
  have hc1 : (cc + (1 : Int32)).toInt = ((c + 1 : Nat) : Int) := inc32 hcc (by omega)
  have l_ca : @LT.lt Nat _ ca h.size := A_ca.lt
  have hfi := (List.getElem?_eq_some_iff.mp hf).1
  have hgi := (List.getElem?_eq_some_iff.mp hg).1
  by_cases hfit : S_ ≤ Y.length ∧ X.length < P
  · skip
    refine WP.aloadN K 1 own_b15_0 rfl rfl rfl ?_
    refine WP.getfield K (host := "") 4 (Or.inl (hw _ (List.mem_of_getElem? (i := 42) rfl))) Via.refl Fk own_b15_1 rfl ?_
    refine WP.aloadN K 5 own_b15_4 rfl rfl rfl ?_
    refine WP.getfield K (host := "") 8 (Or.inl (hw _ (List.mem_of_getElem? (i := 98) rfl))) Via.refl Fc own_b15_5 rfl ?_
    refine WP.aaload K 9 c R_ba.v rfl hcc hva own_b15_8 rfl ?_
    refine WP.astoreN K 10 [.val (.ref kt), .val (.int sz), .val (.ref ca), .unset] own_b15_9 rfl rfl rfl ?_
    refine WP.iloadN K 11 own_b15_10 rfl rfl ?_
    refine WP.aloadN K 12 own_b15_11 rfl rfl rfl ?_
    refine WP.arraylength K zl 13 A_ca (by rw [hzl]; simp) own_b15_12 rfl ?_
    refine WP.aloadN K 14 own_b15_13 rfl rfl rfl ?_
    refine WP.getfield K (host := "") 17 (Or.inl (hw _ (List.mem_of_getElem? (i := 45) rfl))) Via.refl Ff own_b15_14 rfl ?_
    refine WP.aloadN K 18 own_b15_17 rfl rfl rfl ?_
    refine WP.getfield K (host := "") 21 (Or.inl (hw _ (List.mem_of_getElem? (i := 98) rfl))) Via.refl Fc own_b15_18 rfl ?_
    refine WP.iaload K 22 c A_fa hcc hf own_b15_21 rfl ?_
    refine WP.isub K 23 own_b15_22 rfl ?_
    refine WP.icmp_gt K 42 26 own_b15_23 (by decide) rfl (fun c23 => ?_) (fun c23 => ?_)
    · skip
      exfalso; omega
    · skip
      refine WP.aloadN K 27 own_b15_26 rfl rfl rfl ?_
      refine WP.getfield K (host := "") 30 (Or.inl (hw _ (List.mem_of_getElem? (i := 45) rfl))) Via.refl Ff own_b15_27 rfl ?_
      refine WP.aloadN K 31 own_b15_30 rfl rfl rfl ?_
      refine WP.getfield K (host := "") 34 (Or.inl (hw _ (List.mem_of_getElem? (i := 98) rfl))) Via.refl Fc own_b15_31 rfl ?_
      refine WP.iaload K 35 c A_fa hcc hf own_b15_34 rfl ?_
      refine WP.aloadN K 36 own_b15_35 rfl rfl rfl ?_
      refine WP.getfield K (host := "") 39 (Or.inl (hw _ (List.mem_of_getElem? (i := 38) rfl))) Via.refl Fo own_b15_36 rfl ?_
      refine WP.icmp_le K 119 42 own_b15_39 (by decide) rfl (fun c39 => ?_) (fun c39 => ?_)
      · skip
        have q1 := pl_shl hcc hbb hb hP (by omega)
        have q2 := pl_or q1 hfX hb hP (by omega) (by omega)
        have q3 : (f + sz).toInt = ((X.length + S_ : Nat) : Int) := by rw [i32_add (by omega) (by omega)]; omega
        have Kp := Keep.refl h [fa]
        refine WP.aloadN K 120 own_b15_119 rfl rfl rfl ?_
        refine WP.getfield K (host := "") 123 (Or.inl (hw _ (List.mem_of_getElem? (i := 98) rfl))) Via.refl Fc own_b15_120 rfl ?_
        refine WP.aloadN K 124 own_b15_123 rfl rfl rfl ?_
        refine WP.getfield K (host := "") 127 (Or.inl (hw _ (List.mem_of_getElem? (i := 36) rfl))) Via.refl Fb own_b15_124 rfl ?_
        refine WP.ishl K 128 own_b15_127 rfl ?_
        refine WP.aloadN K 129 own_b15_128 rfl rfl rfl ?_
        refine WP.getfield K (host := "") 132 (Or.inl (hw _ (List.mem_of_getElem? (i := 45) rfl))) Via.refl Ff own_b15_129 rfl ?_
        refine WP.aloadN K 133 own_b15_132 rfl rfl rfl ?_
        refine WP.getfield K (host := "") 136 (Or.inl (hw _ (List.mem_of_getElem? (i := 98) rfl))) Via.refl Fc own_b15_133 rfl ?_
        refine WP.iaload K 137 c A_fa hcc hf own_b15_136 rfl ?_
        refine WP.ior K 138 own_b15_137 rfl ?_
        refine WP.istoreN K 139 [.val (.ref kt), .val (.int sz), .val (.ref ca), .val (.int ((cc <<< (bb &&& 31)) ||| f))] own_b15_138 rfl rfl ?_
        refine WP.aloadN K 140 own_b15_139 rfl rfl rfl ?_
        refine WP.getfield K (host := "") 143 (Or.inl (hw _ (List.mem_of_getElem? (i := 45) rfl))) Via.refl Ff own_b15_140 rfl ?_
        refine WP.aloadN K 144 own_b15_143 rfl rfl rfl ?_
        refine WP.getfield K (host := "") 147 (Or.inl (hw _ (List.mem_of_getElem? (i := 98) rfl))) Via.refl Fc own_b15_144 rfl ?_
        refine WP.dup2 K 148 own_b15_147 rfl rfl rfl ?_
        refine WP.iaload K 149 c A_fa hcc hf own_b15_148 rfl ?_
        refine WP.iloadN K 150 own_b15_149 rfl rfl ?_
        refine WP.iadd K 151 own_b15_150 rfl ?_
        refine WP.iastore K 152 c A_fa hcc (by omega) own_b15_151 rfl n0_fa (fun h1 K2 A_fa => ?_)
        have Fw := Fw.keep K2 (nm1 (by omega))
        have Fb := Fb.keep K2 (nm1 (by omega))
        have Fo := Fo.keep K2 (nm1 (by omega))
        have Fk := Fk.keep K2 (nm1 (by omega))
        have Ff := Ff.keep K2 (nm1 (by omega))
        have Fc := Fc.keep K2 (nm1 (by omega))
        have Fl := Fl.keep K2 (nm1 (by omega))
        have Z0 : n0 ≤ (h1).size := Nat.le_trans Z0 K2.1
        have Ex := Ex.keep K2
        have R_ba := R_ba.keep K2 (nm1 (by omega))
        have A_ca := A_ca.keep K2 (nm1 (by omega))
        have Kp := Kp.trans K2 (ks1 (by first | (refine Or.inl ?_; simp; done) | (refine Or.inr ?_; omega)))
        refine WP.iloadN K 153 own_b15_152 rfl rfl ?_
        refine WP.iret K rfl (Or.inl rfl) rfl own_b15_153 ?_ (by decide) (by decide)
        exact ⟨_, rfl, _, rfl, Or.inl ⟨by omega, by omega, q2, ⟨_, q3, ⟨bb, om, cc, Ex, Fw, Fb, Fo, Fk, Ff, Fc, Fl, R_ba, A_fa, hbb, hom, hcc, hb, hP, hvl, (by rw [List.length_set]; exact hfl), n0_kt, n0_ba, n0_fa, n0_wb, Z0, d1, d2, d3, d4, d5, d6⟩⟩, Kp⟩⟩
      · skip
        exfalso; omega
  · skip
    have Kp := Keep.refl h [kt, ba, fa]
    have J42 : WP k h 0 0 42 [.val (.ref kt), .val (.int sz), .val (.ref ca), .unset] [] := by
      refine WP.aloadN K 43 own_b15_42 rfl rfl rfl ?_
      refine WP.getfield K (host := "") 46 (Or.inl (hw _ (List.mem_of_getElem? (i := 98) rfl))) Via.refl Fc own_b15_43 rfl ?_
      refine WP.iconst K (1 : Int32) 47 own_b15_46 rfl rfl ?_
      refine WP.iadd K 48 own_b15_47 rfl ?_
      refine WP.aloadN K 49 own_b15_48 rfl rfl rfl ?_
      refine WP.getfield K (host := "") 52 (Or.inl (hw _ (List.mem_of_getElem? (i := 42) rfl))) Via.refl Fk own_b15_49 rfl ?_
      refine WP.arraylength K z8 53 R_ba.v (by rw [hz8, hvl]) own_b15_52 rfl ?_
      refine WP.icmp_ne K 74 56 own_b15_53 (by decide) rfl (fun c53 => ?_) (fun c53 => ?_)
      · skip
        refine WP.iconst K (1 : Int32) 75 own_b15_74 rfl rfl ?_
        refine WP.aloadN K 76 own_b15_75 rfl rfl rfl ?_
        refine WP.getfield K (host := "") 79 (Or.inl (hw _ (List.mem_of_getElem? (i := 36) rfl))) Via.refl Fb own_b15_76 rfl ?_
        refine WP.ishl K 80 own_b15_79 rfl ?_
        refine WP.istoreN K 81 [.val (.ref kt), .val (.int sz), .val (.ref ca), .val (.int ((1 : Int32) <<< (bb &&& 31)))] own_b15_80 rfl rfl ?_
        refine WP.aloadN K 82 own_b15_81 rfl rfl rfl ?_
        refine WP.dup K 83 own_b15_82 rfl rfl ?_
        refine WP.getfield K (host := "") 86 (Or.inl (hw _ (List.mem_of_getElem? (i := 98) rfl))) Via.refl Fc own_b15_83 rfl ?_
        refine WP.iconst K (1 : Int32) 87 own_b15_86 rfl rfl ?_
        refine WP.iadd K 88 own_b15_87 rfl ?_
        refine WP.putfield K (host := "") (a := kt) 91 (Or.inl (hw _ (List.mem_of_getElem? (i := 98) rfl))) Via.refl Fc Ex (Or.inl (hw _ (List.mem_of_getElem? (i := 99) rfl))) (hw _ (List.mem_of_getElem? (i := 28) rfl)) (ty := .int) (by decide) rfl rfl own_b15_88 rfl n0_kt (fun h3 W4 => ?_)
        have Fw := Fw.other W4 (Or.inr (slot_ne (Or.inl (hw _ (List.mem_of_getElem? (i := 35) rfl))) (Or.inl (hw _ (List.mem_of_getElem? (i := 99) rfl))) (by decide) (t := (.array .byte)) (t' := .int) (by decide) (by decide)))
        have Fb := Fb.other W4 (Or.inr (slot_ne (Or.inr (hw _ (List.mem_of_getElem? (i := 37) rfl))) (Or.inl (hw _ (List.mem_of_getElem? (i := 99) rfl))) (by decide) (t := .int) (t' := .int) (by decide) (by decide)))
        have Fo := Fo.other W4 (Or.inr (slot_ne (Or.inr (hw _ (List.mem_of_getElem? (i := 39) rfl))) (Or.inl (hw _ (List.mem_of_getElem? (i := 99) rfl))) (by decide) (t := .int) (t' := .int) (by decide) (by decide)))
        have Fk := Fk.other W4 (Or.inr (slot_ne (Or.inr (hw _ (List.mem_of_getElem? (i := 43) rfl))) (Or.inl (hw _ (List.mem_of_getElem? (i := 99) rfl))) (by decide) (t := (.array (.array .byte))) (t' := .int) (by decide) (by decide)))
        have Ff := Ff.other W4 (Or.inr (slot_ne (Or.inr (hw _ (List.mem_of_getElem? (i := 46) rfl))) (Or.inl (hw _ (List.mem_of_getElem? (i := 99) rfl))) (by decide) (t := (.array .int)) (t' := .int) (by decide) (by decide)))
        have Fc := Fc.same W4
        have Fl := Fl.other W4 (Or.inr (slot_ne (Or.inl (hw _ (List.mem_of_getElem? (i := 109) rfl))) (Or.inl (hw _ (List.mem_of_getElem? (i := 99) rfl))) (by decide) (t := .int) (t' := .int) (by decide) (by decide)))
        have Z0 : n0 ≤ (h3).size := by rw [W4.size]; exact Z0
        have Ex := Ex.wr W4
        have R_ba := R_ba.other W4 (ne_addr (by omega))
        have A_fa := A_fa.other W4 (ne_addr (by omega))
        have A_ca := A_ca.other W4 (ne_addr (by omega))
        have Kp := Kp.wr W4 (by first | (refine Or.inl ?_; simp; done) | (refine Or.inr ?_; omega))
        refine WP.aloadN K 92 own_b15_91 rfl rfl rfl ?_
        refine WP.getfield K (host := "") 95 (Or.inl (hw _ (List.mem_of_getElem? (i := 42) rfl))) Via.refl Fk own_b15_92 rfl ?_
        refine WP.aloadN K 96 own_b15_95 rfl rfl rfl ?_
        refine WP.getfield K (host := "") 99 (Or.inl (hw _ (List.mem_of_getElem? (i := 98) rfl))) Via.refl Fc own_b15_96 rfl ?_
        refine WP.ldc2J K (v := (2 : Int64)) 102 (hw _ (List.mem_of_getElem? (i := 142) rfl)) own_b15_99 rfl ?_
        refine WP.aloadN K 103 own_b15_102 rfl rfl rfl ?_
        refine WP.arraylength K zl 104 A_ca (by rw [hzl]; simp) own_b15_103 rfl ?_
        refine WP.i2l K 105 own_b15_104 rfl ?_
        refine WP.lmul K 106 own_b15_105 rfl ?_
        refine WP.iloadN K 107 own_b15_106 rfl rfl ?_
        refine WP.i2l K 108 own_b15_107 rfl ?_
        refine WP.callS K 111 0 0 2 [(.long ((2 : Int64) * zl.toInt64)), (.long ((1 : Int32) <<< (bb &&& 31)).toInt64)] [(.int (cc + (1 : Int32))), (.ref ba)] (hw _ (List.mem_of_getElem? (i := 143) rfl)) (hw _ (List.mem_of_getElem? (i := 144) rfl)) (hw _ (List.mem_of_getElem? (i := 50) rfl)) (hw _ (List.mem_of_getElem? (i := 145) rfl)) (by decide) own_pd_21 rfl rfl rfl (by decide) (by decide) (Nat.le_of_eq rfl) rfl own_b15_108 rfl rfl rfl (by decide) (by decide) (own_minL l Z a0 hw n0 h3 ((2 : Int64) * zl.toInt64) (((1 : Int32) <<< (bb &&& 31)).toInt64) ) (r1_next fun r7 h5 q6 => ?_)
        obtain ⟨rfl, rfl⟩ := q6
        refine WP.l2i K 112 own_b15_111 rfl ?_
        refine WP.iloadN K 113 own_b15_112 rfl rfl ?_
        refine WP.callS K 116 0 0 2 [(.int (min64 ((2 : Int64) * zl.toInt64) (((1 : Int32) <<< (bb &&& 31)).toInt64)).toInt32), (.int sz)] [(.int (cc + (1 : Int32))), (.ref ba)] (hw _ (List.mem_of_getElem? (i := 91) rfl)) (hw _ (List.mem_of_getElem? (i := 92) rfl)) (hw _ (List.mem_of_getElem? (i := 50) rfl)) (hw _ (List.mem_of_getElem? (i := 93) rfl)) (by decide) own_pd_16 rfl rfl rfl (by decide) (by decide) (Nat.le_of_eq rfl) rfl own_b15_113 rfl rfl rfl (by decide) (by decide) (own_max l Z a0 hw n0 h3 ((min64 ((2 : Int64) * zl.toInt64) (((1 : Int32) <<< (bb &&& 31)).toInt64)).toInt32) sz ) (r1_next fun r10 h8 q9 => ?_)
        obtain ⟨rfl, rfl⟩ := q9
        obtain ⟨M, hM, hM1, hM2⟩ : ∃ M : Nat, (max32 ((min64 ((2 : Int64) * zl.toInt64) (((1 : Int32) <<< (bb &&& 31)).toInt64)).toInt32) sz).toInt = (M : Nat) ∧ S_ ≤ M ∧ M ≤ 32 := by
          have o1 := one_shl hbb hb hP
          have p1 : zl.toInt64.toInt = zl.toInt := c_i2l _
          have p2 : ((1 : Int32) <<< (bb &&& 31)).toInt64.toInt = ((1 : Int32) <<< (bb &&& 31)).toInt := c_i2l _
          have p3 := c_lmul (2 : Int64) zl.toInt64
          have p4 : (2 : Int64).toInt = 2 := rfl
          have p5 := i64_rng ((2 : Int64) * zl.toInt64)
          rw [p4, p1] at p3
          have p6 := min64_spec ((2 : Int64) * zl.toInt64) ((1 : Int32) <<< (bb &&& 31)).toInt64
          have p7 := c_l2i (min64 ((2 : Int64) * zl.toInt64) ((1 : Int32) <<< (bb &&& 31)).toInt64)
          have p8 := i32_rng (min64 ((2 : Int64) * zl.toInt64) ((1 : Int32) <<< (bb &&& 31)).toInt64).toInt32
          have p9 := max32_spec (min64 ((2 : Int64) * zl.toInt64) ((1 : Int32) <<< (bb &&& 31)).toInt64).toInt32 sz
          refine ⟨(max32 ((min64 ((2 : Int64) * zl.toInt64) (((1 : Int32) <<< (bb &&& 31)).toInt64)).toInt32) sz).toInt.toNat, ?_, ?_, ?_⟩ <;> omega
        generalize (max32 ((min64 ((2 : Int64) * zl.toInt64) (((1 : Int32) <<< (bb &&& 31)).toInt64)).toInt32) sz) = zm at hM ⊢
        have szk := Kp.1
        refine WP.newarrayE K 118 M 32 1 32 (hw _ (List.mem_of_getElem? (i := 20) rfl)) own_b15_116 rfl hM (by omega) (by decide) rfl rfl (by decide) (by decide) (ad := "[B") (by decide) (fun h11 na z_na E12 V13 Y_na => ?_)
        have l_kt_na : @LT.lt Nat _ kt na := z_na ▸ Fw.lt
        have l_ba_na : @LT.lt Nat _ ba na := z_na ▸ R_ba.lt
        have l_fa_na : @LT.lt Nat _ fa na := z_na ▸ A_fa.lt
        have l_ca_na : @LT.lt Nat _ ca na := z_na ▸ A_ca.lt
        have n0_na : @LE.le Nat _ n0 na := z_na ▸ Z0
        have Fw := Fw.ext E12
        have Fb := Fb.ext E12
        have Fo := Fo.ext E12
        have Fk := Fk.ext E12
        have Ff := Ff.ext E12
        have Fc := Fc.ext E12
        have Fl := Fl.ext E12
        have Z0 : n0 ≤ (h11).size := Nat.le_trans Z0 E12.1
        have Ex := Ex.ext E12
        have R_ba := R_ba.ext E12
        have A_fa := A_fa.ext E12
        have A_ca := A_ca.ext E12
        have Kp := Kp.ext E12
        have A_na := ArB.of_new V13
        refine WP.aastore K 119 (c + 1) R_ba rfl (R_ba.sto (Ins.self Y_na)) rfl hc1 (by omega) own_b15_118 rfl n0_ba (fun h14 K15 R_ba => ?_)
        have Fw := Fw.keep K15 (nm1 (by omega))
        have Fb := Fb.keep K15 (nm1 (by omega))
        have Fo := Fo.keep K15 (nm1 (by omega))
        have Fk := Fk.keep K15 (nm1 (by omega))
        have Ff := Ff.keep K15 (nm1 (by omega))
        have Fc := Fc.keep K15 (nm1 (by omega))
        have Fl := Fl.keep K15 (nm1 (by omega))
        have Z0 : n0 ≤ (h14).size := Nat.le_trans Z0 K15.1
        have Ex := Ex.keep K15
        have A_fa := A_fa.keep K15 (nm1 (by omega))
        have A_ca := A_ca.keep K15 (nm1 (by omega))
        have Kp := Kp.trans K15 (ks1 (by first | (refine Or.inl ?_; simp; done) | (refine Or.inr ?_; omega)))
        have A_na := A_na.keep K15 (nm1 (by omega))
        have Y_na := Y_na.keep K15
        have q1 := pl_shl hc1 hbb hb hP (by omega)
        have q2 := pl_or (F := 0) (y := g) q1 (by rw [hg0]; rfl) hb hP (by omega) (by omega)
        have q3 : (g + sz).toInt = (S_ : Nat) := by rw [hg0, i32_add (by rw [show (0 : Int32).toInt = 0 from rfl]; omega) (by rw [show (0 : Int32).toInt = 0 from rfl]; omega), show (0 : Int32).toInt = 0 from rfl]; omega
        have s_na : h.size ≤ na := by omega
        refine WP.aloadN K 120 own_b15_119 rfl rfl rfl ?_
        refine WP.getfield K (host := "") 123 (Or.inl (hw _ (List.mem_of_getElem? (i := 98) rfl))) Via.refl Fc own_b15_120 rfl ?_
        refine WP.aloadN K 124 own_b15_123 rfl rfl rfl ?_
        refine WP.getfield K (host := "") 127 (Or.inl (hw _ (List.mem_of_getElem? (i := 36) rfl))) Via.refl Fb own_b15_124 rfl ?_
        refine WP.ishl K 128 own_b15_127 rfl ?_
        refine WP.aloadN K 129 own_b15_128 rfl rfl rfl ?_
        refine WP.getfield K (host := "") 132 (Or.inl (hw _ (List.mem_of_getElem? (i := 45) rfl))) Via.refl Ff own_b15_129 rfl ?_
        refine WP.aloadN K 133 own_b15_132 rfl rfl rfl ?_
        refine WP.getfield K (host := "") 136 (Or.inl (hw _ (List.mem_of_getElem? (i := 98) rfl))) Via.refl Fc own_b15_133 rfl ?_
        refine WP.iaload K 137 (c + 1) A_fa hc1 hg own_b15_136 rfl ?_
        refine WP.ior K 138 own_b15_137 rfl ?_
        refine WP.istoreN K 139 [.val (.ref kt), .val (.int sz), .val (.ref ca), .val (.int (((cc + (1 : Int32)) <<< (bb &&& 31)) ||| g))] own_b15_138 rfl rfl ?_
        refine WP.aloadN K 140 own_b15_139 rfl rfl rfl ?_
        refine WP.getfield K (host := "") 143 (Or.inl (hw _ (List.mem_of_getElem? (i := 45) rfl))) Via.refl Ff own_b15_140 rfl ?_
        refine WP.aloadN K 144 own_b15_143 rfl rfl rfl ?_
        refine WP.getfield K (host := "") 147 (Or.inl (hw _ (List.mem_of_getElem? (i := 98) rfl))) Via.refl Fc own_b15_144 rfl ?_
        refine WP.dup2 K 148 own_b15_147 rfl rfl rfl ?_
        refine WP.iaload K 149 (c + 1) A_fa hc1 hg own_b15_148 rfl ?_
        refine WP.iloadN K 150 own_b15_149 rfl rfl ?_
        refine WP.iadd K 151 own_b15_150 rfl ?_
        refine WP.iastore K 152 (c + 1) A_fa hc1 (by omega) own_b15_151 rfl n0_fa (fun h16 K17 A_fa => ?_)
        have Fw := Fw.keep K17 (nm1 (by omega))
        have Fb := Fb.keep K17 (nm1 (by omega))
        have Fo := Fo.keep K17 (nm1 (by omega))
        have Fk := Fk.keep K17 (nm1 (by omega))
        have Ff := Ff.keep K17 (nm1 (by omega))
        have Fc := Fc.keep K17 (nm1 (by omega))
        have Fl := Fl.keep K17 (nm1 (by omega))
        have Z0 : n0 ≤ (h16).size := Nat.le_trans Z0 K17.1
        have Ex := Ex.keep K17
        have R_ba := R_ba.keep K17 (nm1 (by omega))
        have A_ca := A_ca.keep K17 (nm1 (by omega))
        have Kp := Kp.trans K17 (ks1 (by first | (refine Or.inl ?_; simp; done) | (refine Or.inr ?_; omega)))
        have A_na := A_na.keep K17 (nm1 (by omega))
        have Y_na := Y_na.keep K17
        refine WP.iloadN K 153 own_b15_152 rfl rfl ?_
        refine WP.iret K rfl (Or.inl rfl) rfl own_b15_153 ?_ (by decide) (by decide)
        exact ⟨_, rfl, _, rfl, Or.inr ⟨na, M, _, hfit, s_na, hM1, hM2, q3, by rw [q2, Nat.add_zero], A_na, ⟨bb, om, _, Ex, Fw, Fb, Fo, Fk, Ff, Fc, Fl, R_ba, A_fa, hbb, hom, hc1, hb, hP, (by rw [List.length_set]; exact hvl), (by rw [List.length_set]; exact hfl), n0_kt, n0_ba, n0_fa, n0_wb, Z0, d1, d2, d3, d4, d5, d6⟩, Kp⟩⟩
      · skip
        exfalso; omega
    refine WP.aloadN K 1 own_b15_0 rfl rfl rfl ?_
    refine WP.getfield K (host := "") 4 (Or.inl (hw _ (List.mem_of_getElem? (i := 42) rfl))) Via.refl Fk own_b15_1 rfl ?_
    refine WP.aloadN K 5 own_b15_4 rfl rfl rfl ?_
    refine WP.getfield K (host := "") 8 (Or.inl (hw _ (List.mem_of_getElem? (i := 98) rfl))) Via.refl Fc own_b15_5 rfl ?_
    refine WP.aaload K 9 c R_ba.v rfl hcc hva own_b15_8 rfl ?_
    refine WP.astoreN K 10 [.val (.ref kt), .val (.int sz), .val (.ref ca), .unset] own_b15_9 rfl rfl rfl ?_
    refine WP.iloadN K 11 own_b15_10 rfl rfl ?_
    refine WP.aloadN K 12 own_b15_11 rfl rfl rfl ?_
    refine WP.arraylength K zl 13 A_ca (by rw [hzl]; simp) own_b15_12 rfl ?_
    refine WP.aloadN K 14 own_b15_13 rfl rfl rfl ?_
    refine WP.getfield K (host := "") 17 (Or.inl (hw _ (List.mem_of_getElem? (i := 45) rfl))) Via.refl Ff own_b15_14 rfl ?_
    refine WP.aloadN K 18 own_b15_17 rfl rfl rfl ?_
    refine WP.getfield K (host := "") 21 (Or.inl (hw _ (List.mem_of_getElem? (i := 98) rfl))) Via.refl Fc own_b15_18 rfl ?_
    refine WP.iaload K 22 c A_fa hcc hf own_b15_21 rfl ?_
    refine WP.isub K 23 own_b15_22 rfl ?_
    refine WP.icmp_gt K 42 26 own_b15_23 (by decide) rfl (fun c23 => ?_) (fun c23 => ?_)
    · skip
      exact J42
    · skip
      refine WP.aloadN K 27 own_b15_26 rfl rfl rfl ?_
      refine WP.getfield K (host := "") 30 (Or.inl (hw _ (List.mem_of_getElem? (i := 45) rfl))) Via.refl Ff own_b15_27 rfl ?_
      refine WP.aloadN K 31 own_b15_30 rfl rfl rfl ?_
      refine WP.getfield K (host := "") 34 (Or.inl (hw _ (List.mem_of_getElem? (i := 98) rfl))) Via.refl Fc own_b15_31 rfl ?_
      refine WP.iaload K 35 c A_fa hcc hf own_b15_34 rfl ?_
      refine WP.aloadN K 36 own_b15_35 rfl rfl rfl ?_
      refine WP.getfield K (host := "") 39 (Or.inl (hw _ (List.mem_of_getElem? (i := 38) rfl))) Via.refl Fo own_b15_36 rfl ?_
      refine WP.icmp_le K 119 42 own_b15_39 (by decide) rfl (fun c39 => ?_) (fun c39 => ?_)
      · skip
        exfalso; omega
      · skip
        exact J42
theorem own_b7_0 : decode prog_136_method_3_code 0 = .ok (.aload_n 0, 1) := by decide +kernel
theorem own_b7_1 : decode prog_136_method_3_code 1 = .ok (.aload_n 1, 1) := by decide +kernel
theorem own_b7_2 : decode prog_136_method_3_code 2 = .ok (.invokevirtual 41, 3) := by decide +kernel
theorem own_b7_5 : decode prog_136_method_3_code 5 = .ok (.istore 4, 2) := by decide +kernel
theorem own_b7_7 : decode prog_136_method_3_code 7 = .ok (.aload_n 0, 1) := by decide +kernel
theorem own_b7_8 : decode prog_136_method_3_code 8 = .ok (.lload_n 2, 1) := by decide +kernel
theorem own_b7_9 : decode prog_136_method_3_code 9 = .ok (.invokestatic 45, 3) := by decide +kernel
theorem own_b7_12 : decode prog_136_method_3_code 12 = .ok (.iload 4, 2) := by decide +kernel
theorem own_b7_14 : decode prog_136_method_3_code 14 = .ok (.i2l, 1) := by decide +kernel
theorem own_b7_15 : decode prog_136_method_3_code 15 = .ok (.invokestatic 45, 3) := by decide +kernel
theorem own_b7_18 : decode prog_136_method_3_code 18 = .ok (.iadd, 1) := by decide +kernel
theorem own_b7_19 : decode prog_136_method_3_code 19 = .ok (.iload 4, 2) := by decide +kernel
theorem own_b7_21 : decode prog_136_method_3_code 21 = .ok (.iadd, 1) := by decide +kernel
theorem own_b7_22 : decode prog_136_method_3_code 22 = .ok (.invokevirtual 49, 3) := by decide +kernel
theorem own_b7_25 : decode prog_136_method_3_code 25 = .ok (.istore 5, 2) := by decide +kernel
theorem own_b7_27 : decode prog_136_method_3_code 27 = .ok (.aload_n 0, 1) := by decide +kernel
theorem own_b7_28 : decode prog_136_method_3_code 28 = .ok (.getfield 26, 3) := by decide +kernel
theorem own_b7_31 : decode prog_136_method_3_code 31 = .ok (.iload 5, 2) := by decide +kernel
theorem own_b7_33 : decode prog_136_method_3_code 33 = .ok (.aload_n 0, 1) := by decide +kernel
theorem own_b7_34 : decode prog_136_method_3_code 34 = .ok (.getfield 18, 3) := by decide +kernel
theorem own_b7_37 : decode prog_136_method_3_code 37 = .ok (.iushr, 1) := by decide +kernel
theorem own_b7_38 : decode prog_136_method_3_code 38 = .ok (.aaload, 1) := by decide +kernel
theorem own_b7_39 : decode prog_136_method_3_code 39 = .ok (.astore 6, 2) := by decide +kernel
theorem own_b7_41 : decode prog_136_method_3_code 41 = .ok (.aload 6, 2) := by decide +kernel
theorem own_b7_43 : decode prog_136_method_3_code 43 = .ok (.iload 5, 2) := by decide +kernel
theorem own_b7_45 : decode prog_136_method_3_code 45 = .ok (.aload_n 0, 1) := by decide +kernel
theorem own_b7_46 : decode prog_136_method_3_code 46 = .ok (.getfield 22, 3) := by decide +kernel
theorem own_b7_49 : decode prog_136_method_3_code 49 = .ok (.iand, 1) := by decide +kernel
theorem own_b7_50 : decode prog_136_method_3_code 50 = .ok (.lload_n 2, 1) := by decide +kernel
theorem own_b7_51 : decode prog_136_method_3_code 51 = .ok (.invokestatic 53, 3) := by decide +kernel
theorem own_b7_54 : decode prog_136_method_3_code 54 = .ok (.istore 7, 2) := by decide +kernel
theorem own_b7_56 : decode prog_136_method_3_code 56 = .ok (.aload 6, 2) := by decide +kernel
theorem own_b7_58 : decode prog_136_method_3_code 58 = .ok (.iload 7, 2) := by decide +kernel
theorem own_b7_60 : decode prog_136_method_3_code 60 = .ok (.iload 4, 2) := by decide +kernel
theorem own_b7_62 : decode prog_136_method_3_code 62 = .ok (.i2l, 1) := by decide +kernel
theorem own_b7_63 : decode prog_136_method_3_code 63 = .ok (.invokestatic 53, 3) := by decide +kernel
theorem own_b7_66 : decode prog_136_method_3_code 66 = .ok (.istore 7, 2) := by decide +kernel
theorem own_b7_68 : decode prog_136_method_3_code 68 = .ok (.aload_n 0, 1) := by decide +kernel
theorem own_b7_69 : decode prog_136_method_3_code 69 = .ok (.getfield 14, 3) := by decide +kernel
theorem own_b7_72 : decode prog_136_method_3_code 72 = .ok (.iconst 0, 1) := by decide +kernel
theorem own_b7_73 : decode prog_136_method_3_code 73 = .ok (.aload 6, 2) := by decide +kernel
theorem own_b7_75 : decode prog_136_method_3_code 75 = .ok (.iload 7, 2) := by decide +kernel
theorem own_b7_77 : decode prog_136_method_3_code 77 = .ok (.iload 4, 2) := by decide +kernel
theorem own_b7_79 : decode prog_136_method_3_code 79 = .ok (.invokestatic 57, 3) := by decide +kernel
theorem own_b7_82 : decode prog_136_method_3_code 82 = .ok (.aload_n 0, 1) := by decide +kernel
theorem own_b7_83 : decode prog_136_method_3_code 83 = .ok (.iload 5, 2) := by decide +kernel
theorem own_b7_85 : decode prog_136_method_3_code 85 = .ok (.putfield 63, 3) := by decide +kernel
theorem own_b7_88 : decode prog_136_method_3_code 88 = .ok (.iload 5, 2) := by decide +kernel
theorem own_b7_90 : decode prog_136_method_3_code 90 = .ok (.i2l, 1) := by decide +kernel
theorem own_b7_91 : decode prog_136_method_3_code 91 = .ok (.ldc2_w 66, 3) := by decide +kernel
theorem own_b7_94 : decode prog_136_method_3_code 94 = .ok (.land, 1) := by decide +kernel
theorem own_b7_95 : decode prog_136_method_3_code 95 = .ok (.lreturn, 1) := by decide +kernel
theorem own_pf_b7 : plainFor (⟨"com/example/vestline/vestline/util/KeptTexts", "keep", "(Ljava/lang/CharSequence;J)J"⟩ : MethodName) = true := by first | exact plainFor_of_name (by first | (simp [plainName, overriddenIn, x]; done) | decide +kernel) | decide +kernel
theorem own_pd_22 : parseMethodDescriptor "(Ljava/lang/CharSequence;)I" = some ⟨[(.object "java/lang/CharSequence")], some .int⟩ := by decide +kernel
theorem own_pd_23 : parseMethodDescriptor "([BIJ)I" = some ⟨[(.array .byte), .int, .long], some .int⟩ := by decide +kernel
set_option maxRecDepth 65536 in
set_option maxHeartbeats 40000000 in
theorem own_keep (l : Launch) (Z : State) (a0 : Array Value) (hw : ∀ d ∈ tables_1, d.before a0 Z = true) (n0 : Nat) (h : Heap) (kt ba fa wb b P c : Nat) (vs : List Value) (fs : List Int32) (la : Int32) (HK : KTI Z h n0 kt ba fa wb b P c vs fs la) (o vb : Nat) (us : List Int32) (HS : Str Z h o vb us) (ws : List Int8) (A_wb : ArB Z h wb ws) (hw64 : ws.length = 64) (hne : o ≠ wb ∧ vb ≠ wb) (cs : Int32) (fm : Value) (SS : STS Z h n0 cs fm) (num : Int64) (NUM : Nat) (hnum : num.toInt = (NUM : Nat)) (ca : Nat) (X Y : List Int8) (f g : Int32) (hva : vs[c]? = some (.ref ca)) (A_ca : ArB Z h ca (X ++ Y)) (hXY : X.length + Y.length ≤ 32) (hf : fs[c]? = some f) (hfX : f.toInt = (X.length : Nat)) (hg : fs[c + 1]? = some g) (hg0 : g = 0) (hc : c ≤ 2) (n0_ca : n0 ≤ ca) (dc : ca ≠ kt ∧ ca ≠ ba ∧ ca ≠ fa ∧ ca ≠ wb) (hos : o ≠ kt ∧ o ≠ ba ∧ o ≠ fa ∧ o ≠ ca ∧ vb ≠ kt ∧ vb ≠ ba ∧ vb ≠ fa ∧ vb ≠ ca) :
    Con l Z (⟨"com/example/vestline/vestline/util/KeptTexts", "keep", "(Ljava/lang/CharSequence;J)J"⟩ : MethodName) prog_136_method_3_code 8 (some .long) ({ frames := 6, cells := 1, slots := 32, locals := 84 } : Room) n0 #[(.ref kt), (.ref o), (.long num)] h (R1 fun r h' => ∃ (zz : Int64) (la' : Int32), r = .long zz ∧ (∃ ws' : List Int8, ws'.length = 64 ∧ ArB Z h' wb ws') ∧ (((el NUM + el (u8s us).length + (u8s us).length) ≤ Y.length ∧ X.length < P ∧ zz.toInt = ((c * P + X.length : Nat) : Int) ∧ la'.toInt = ((c * P + X.length : Nat) : Int) ∧ (∃ f' : Int32, f'.toInt = ((X.length + (el NUM + el (u8s us).length + (u8s us).length) : Nat) : Int) ∧ KTI Z h' n0 kt ba fa wb b P c vs (fs.set c f') la') ∧ (∃ Y' : List Int8, Y'.length + (el NUM + el (u8s us).length + (u8s us).length) = Y.length ∧ ArB Z h' ca (X ++ (enc NUM ++ (enc (u8s us).length ++ u8s us)) ++ Y')) ∧ Keep h h' [kt, fa, wb, ca]) ∨ ∃ (na : Nat) (f' : Int32) (Y' : List Int8), ¬ ((el NUM + el (u8s us).length + (u8s us).length) ≤ Y.length ∧ X.length < P) ∧ h.size ≤ na ∧ f'.toInt = ((el NUM + el (u8s us).length + (u8s us).length) : Nat) ∧ zz.toInt = (((c + 1) * P : Nat) : Int) ∧ la'.toInt = (((c + 1) * P : Nat) : Int) ∧ KTI Z h' n0 kt ba fa wb b P (c + 1) (vs.set (c + 1) (.ref na)) (fs.set (c + 1) f') la' ∧ Y'.length + (el NUM + el (u8s us).length + (u8s us).length) ≤ 32 ∧ ArB Z h' na ([] ++ (enc NUM ++ (enc (u8s us).length ++ u8s us)) ++ Y') ∧ Keep h h' [kt, ba, fa, wb])) := by
  refine Con.of (ls := [.val (.ref kt), .val (.ref o), .val (.long num), .second, .unset, .unset, .unset, .unset]) own_pf_b7 (fun m => by first | (simp [entryFrame, mkF, argsToLocals, Value.category]; done) | rfl) fun k K => ?_
  have k_0 : (0 : Int32).toInt = 0 := rfl
  have kL_4294967295 : (4294967295 : Int64).toInt = 4294967295 := rfl
  obtain ⟨l_kt, l_ba, l_fa, hb, hP, n0_kt, n0_ba, n0_fa, n0_wb, Z0, d1, d2, d3, d4, d5, d6⟩ := HK.rg
  have hpc := pw_cases hb hP
  have l_wb : @LT.lt Nat _ wb h.size := A_wb.lt
  have l_ca : @LT.lt Nat _ ca h.size := A_ca.lt
  obtain ⟨hus, hur⟩ := HS.le
  have hu8 := u8s_le us
  have hnn := v_nat hnum
  have hel := el_le9 hnn.2
  have hel2 : el (u8s us).length = 1 := el_small (by omega)
  obtain ⟨l_o, l_vb⟩ := HS.rg
  obtain ⟨ca_, cb_, cc_, cd_⟩ := dc
  obtain ⟨oa_, ob_, oc_, od_, va_, vb_, vc_, vd_⟩ := hos
  obtain ⟨oe_, ve_⟩ := hne
  refine WP.aloadN K 1 own_b7_0 rfl rfl rfl ?_
  refine WP.aloadN K 2 own_b7_1 rfl rfl rfl ?_
  refine WP.callP K (a := kt) (C := "com/example/vestline/vestline/util/KeptTexts") 5 0 0 0 [(.ref o)] [] (hw _ (List.mem_of_getElem? (i := 59) rfl)) (hw _ (List.mem_of_getElem? (i := 60) rfl)) (u := (⟨"com/example/vestline/vestline/util/KeptTexts", "keep", "(Ljava/lang/CharSequence;J)J"⟩ : MethodName)) rfl (hw _ (List.mem_of_getElem? (i := 57) rfl)) (hw _ (List.mem_of_getElem? (i := 61) rfl)) (hw _ (List.mem_of_getElem? (i := 29) rfl)) (hw _ (List.mem_of_getElem? (i := 62) rfl)) (by decide) own_pd_22 rfl rfl rfl (by decide) (by decide) (Nat.le_of_eq rfl) rfl own_b7_2 rfl rfl rfl (by decide) (by decide) HK.ex (own_write l Z a0 hw n0 h kt ba fa wb b P c vs fs la HK o vb us HS ws A_wb hw64 ⟨oe_, ve_⟩ cs fm SS) (r1_next fun r3 h1 q2 => ?_)
  obtain ⟨⟨zn, rfl, hzn⟩, Kw, T, hT, A_wb⟩ := q2
  have SS := SS.keep Kw (kn1 (by omega))
  have HK := HK.keep Kw ⟨(nm1 d3), (nm1 d5), (nm1 d6)⟩
  have HS := HS.keep Kw ⟨(nm1 oe_), (nm1 ve_)⟩
  have A_ca := A_ca.keep Kw (nm1 cd_)
  refine WP.istore K 7 [.val (.ref kt), .val (.ref o), .val (.long num), .second, .val (.int zn), .unset, .unset, .unset] own_b7_5 rfl rfl ?_
  refine WP.aloadN K 8 own_b7_7 rfl rfl rfl ?_
  refine WP.lloadN K 9 own_b7_8 rfl rfl ?_
  refine WP.callS K 12 0 0 1 [(.long num)] [(.ref kt)] (hw _ (List.mem_of_getElem? (i := 79) rfl)) (hw _ (List.mem_of_getElem? (i := 80) rfl)) (hw _ (List.mem_of_getElem? (i := 29) rfl)) (hw _ (List.mem_of_getElem? (i := 81) rfl)) (by decide) own_pd_15 rfl rfl rfl (by decide) (by decide) (Nat.le_of_eq rfl) rfl own_b7_9 rfl rfl rfl (by decide) (by decide) (own_vsize l Z a0 hw n0 h1 num NUM hnum) (r1_next fun r6 h4 q5 => ?_)
  obtain ⟨⟨z1, rfl, hz1⟩, rfl⟩ := q5
  refine WP.iload K 14 own_b7_12 rfl rfl ?_
  refine WP.i2l K 15 own_b7_14 rfl ?_
  refine WP.callS K 18 0 0 2 [(.long zn.toInt64)] [(.int z1), (.ref kt)] (hw _ (List.mem_of_getElem? (i := 79) rfl)) (hw _ (List.mem_of_getElem? (i := 80) rfl)) (hw _ (List.mem_of_getElem? (i := 29) rfl)) (hw _ (List.mem_of_getElem? (i := 81) rfl)) (by decide) own_pd_15 rfl rfl rfl (by decide) (by decide) (Nat.le_of_eq rfl) rfl own_b7_15 rfl rfl rfl (by decide) (by decide) (own_vsize l Z a0 hw n0 h1 zn.toInt64 (u8s us).length (by rw [c_i2l]; exact hzn)) (r1_next fun r9 h7 q8 => ?_)
  obtain ⟨⟨z2, rfl, hz2⟩, rfl⟩ := q8
  refine WP.iadd K 19 own_b7_18 rfl ?_
  refine WP.iload K 21 own_b7_19 rfl rfl ?_
  refine WP.iadd K 22 own_b7_21 rfl ?_
  have q12 : (z1 + z2).toInt = z1.toInt + z2.toInt := i32_add (by omega) (by omega)
  have hsz : ((z1 + z2) + zn).toInt = ((el NUM + el (u8s us).length + (u8s us).length) : Nat) := by rw [i32_add (by omega) (by omega)]; omega
  refine WP.callP K (a := kt) (C := "com/example/vestline/vestline/util/KeptTexts") 25 1 32 0 [(.int ((z1 + z2) + zn))] [] (hw _ (List.mem_of_getElem? (i := 94) rfl)) (hw _ (List.mem_of_getElem? (i := 95) rfl)) (u := (⟨"com/example/vestline/vestline/util/KeptTexts", "keep", "(Ljava/lang/CharSequence;J)J"⟩ : MethodName)) rfl (hw _ (List.mem_of_getElem? (i := 57) rfl)) (hw _ (List.mem_of_getElem? (i := 96) rfl)) (hw _ (List.mem_of_getElem? (i := 29) rfl)) (hw _ (List.mem_of_getElem? (i := 97) rfl)) (by decide) own_pd_7 rfl rfl rfl (by decide) (by decide) (Nat.le_of_eq rfl) rfl own_b7_22 rfl rfl rfl (by decide) (by decide) HK.ex (own_room l Z a0 hw n0 h1 kt ba fa wb b P c vs fs la HK ((z1 + z2) + zn) (el NUM + el (u8s us).length + (u8s us).length) hsz (by omega) ca X Y f g hva A_ca hXY hf hfX hg hg0 hc n0_ca ⟨ca_, cb_, cc_, cd_⟩) (r1_next fun r12 h10 q11 => ?_)
  obtain ⟨zp, rfl, hz⟩ := q11
  rcases hz with ⟨hz1, hz2, hzp, ⟨f2, hf2, HK2⟩, Kr⟩ | ⟨na, M, f2, hnf, hz1, hz2, hz3, hf2, hzp, A_na, HK2, Kr⟩
  · skip
    have SS := SS.keep Kr (kn1 (by omega))
    have HS := HS.keep Kr ⟨(nm1 oc_), (nm1 vc_)⟩
    have A_ca := A_ca.keep Kr (nm1 cc_)
    have A_wb := A_wb.keep Kr (nm1 (Ne.symm d6))
    obtain ⟨bb, om, cc, Ex, Fw, Fb, Fo, Fk, Ff, Fc, Fl, R_ba, A_fa, hbb, hom, hcc, -, -, hvl, hfl, -, -, -, -, Z0, -⟩ := HK2
    have hsh := pl_shr hzp hbb hb hP (by omega) (by omega)
    have hma := pl_and hzp hom hb hP (by omega)
    obtain ⟨V1, V2, V3, R, hY, hv1, hv2, hv3, hR⟩ := cut3 Y (el NUM) (el (u8s us).length) (u8s us).length (by omega)
    have A_ca : ArB Z h10 ca (X ++ V1 ++ (V2 ++ (V3 ++ R))) := by have q := A_ca; rw [hY] at q; simpa using q
    have Kp : Keep h h10 [kt, fa, wb, ca] := keep_sub (Keep.trans (keep_sub Kw (ws' := [kt, fa, wb, ca]) (by intro x hx; simp at hx ⊢; simp [hx])) Kr (ks1 (Or.inl (by simp)))) (fun x hx => hx)
    refine WP.istore K 27 [.val (.ref kt), .val (.ref o), .val (.long num), .second, .val (.int zn), .val (.int zp), .unset, .unset] own_b7_25 rfl rfl ?_
    refine WP.aloadN K 28 own_b7_27 rfl rfl rfl ?_
    refine WP.getfield K (host := "") 31 (Or.inl (hw _ (List.mem_of_getElem? (i := 42) rfl))) Via.refl Fk own_b7_28 rfl ?_
    refine WP.iload K 33 own_b7_31 rfl rfl ?_
    refine WP.aloadN K 34 own_b7_33 rfl rfl rfl ?_
    refine WP.getfield K (host := "") 37 (Or.inl (hw _ (List.mem_of_getElem? (i := 36) rfl))) Via.refl Fb own_b7_34 rfl ?_
    refine WP.iushr K 38 own_b7_37 rfl ?_
    refine WP.aaload K 39 c R_ba.v rfl hsh hva own_b7_38 rfl ?_
    refine WP.astore K 41 [.val (.ref kt), .val (.ref o), .val (.long num), .second, .val (.int zn), .val (.int zp), .val (.ref ca), .unset] own_b7_39 rfl rfl rfl ?_
    refine WP.aload K 43 own_b7_41 rfl rfl rfl ?_
    refine WP.iload K 45 own_b7_43 rfl rfl ?_
    refine WP.aloadN K 46 own_b7_45 rfl rfl rfl ?_
    refine WP.getfield K (host := "") 49 (Or.inl (hw _ (List.mem_of_getElem? (i := 38) rfl))) Via.refl Fo own_b7_46 rfl ?_
    refine WP.iand K 50 own_b7_49 rfl ?_
    refine WP.lloadN K 51 own_b7_50 rfl rfl ?_
    refine WP.callS K 54 1 32 0 [(.ref ca), (.int (zp &&& om)), (.long num)] [] (hw _ (List.mem_of_getElem? (i := 100) rfl)) (hw _ (List.mem_of_getElem? (i := 101) rfl)) (hw _ (List.mem_of_getElem? (i := 29) rfl)) (hw _ (List.mem_of_getElem? (i := 102) rfl)) (by decide) own_pd_23 rfl rfl rfl (by decide) (by decide) (Nat.le_of_eq rfl) rfl own_b7_51 rfl rfl rfl (by decide) (by decide) (own_put l Z a0 hw n0 h10 ca (zp &&& om) num X V1 (V2 ++ (V3 ++ R)) NUM A_ca hv1 hma hnum (by simp only [List.length_append]; omega) n0_ca) (r1_next fun r15 h13 q14 => ?_)
    obtain ⟨⟨zq1, rfl, hzq1⟩, A_ca, Kv1⟩ := q14
    have SS := SS.keep Kv1 (kn1 (by omega))
    have HS := HS.keep Kv1 ⟨(nm1 od_), (nm1 vd_)⟩
    have A_wb := A_wb.keep Kv1 (nm1 (Ne.symm cd_))
    have Fw := Fw.keep Kv1 (nm1 (Ne.symm ca_))
    have Fb := Fb.keep Kv1 (nm1 (Ne.symm ca_))
    have Fo := Fo.keep Kv1 (nm1 (Ne.symm ca_))
    have Fk := Fk.keep Kv1 (nm1 (Ne.symm ca_))
    have Ff := Ff.keep Kv1 (nm1 (Ne.symm ca_))
    have Fc := Fc.keep Kv1 (nm1 (Ne.symm ca_))
    have Fl := Fl.keep Kv1 (nm1 (Ne.symm ca_))
    have Z0 : n0 ≤ (h13).size := Nat.le_trans Z0 Kv1.1
    have Ex := Ex.keep Kv1
    have R_ba := R_ba.keep Kv1 (nm1 (Ne.symm cb_))
    have A_fa := A_fa.keep Kv1 (nm1 (Ne.symm cc_))
    have Kp := Kp.trans Kv1 (ks1 (by first | (refine Or.inl ?_; simp; done) | (refine Or.inr ?_; omega)))
    have A_ca : ArB Z h13 ca ((X ++ enc NUM) ++ V2 ++ (V3 ++ R)) := by simpa using A_ca
    have hzq1 : zq1.toInt = ((X ++ enc NUM).length : Nat) := by rw [hzq1, List.length_append]; rfl
    refine WP.istore K 56 [.val (.ref kt), .val (.ref o), .val (.long num), .second, .val (.int zn), .val (.int zp), .val (.ref ca), .val (.int zq1)] own_b7_54 rfl rfl ?_
    refine WP.aload K 58 own_b7_56 rfl rfl rfl ?_
    refine WP.iload K 60 own_b7_58 rfl rfl ?_
    refine WP.iload K 62 own_b7_60 rfl rfl ?_
    refine WP.i2l K 63 own_b7_62 rfl ?_
    refine WP.callS K 66 1 32 0 [(.ref ca), (.int zq1), (.long zn.toInt64)] [] (hw _ (List.mem_of_getElem? (i := 100) rfl)) (hw _ (List.mem_of_getElem? (i := 101) rfl)) (hw _ (List.mem_of_getElem? (i := 29) rfl)) (hw _ (List.mem_of_getElem? (i := 102) rfl)) (by decide) own_pd_23 rfl rfl rfl (by decide) (by decide) (Nat.le_of_eq rfl) rfl own_b7_63 rfl rfl rfl (by decide) (by decide) (own_put l Z a0 hw n0 h13 ca zq1 zn.toInt64 (X ++ enc NUM) V2 (V3 ++ R) (u8s us).length A_ca hv2 hzq1 (by rw [c_i2l]; exact hzn) (by have : (enc NUM).length = el NUM := rfl; simp only [List.length_append]; omega) n0_ca) (r1_next fun r18 h16 q17 => ?_)
    obtain ⟨⟨zq2, rfl, hzq2⟩, A_ca, Kv2⟩ := q17
    have SS := SS.keep Kv2 (kn1 (by omega))
    have HS := HS.keep Kv2 ⟨(nm1 od_), (nm1 vd_)⟩
    have A_wb := A_wb.keep Kv2 (nm1 (Ne.symm cd_))
    have Fw := Fw.keep Kv2 (nm1 (Ne.symm ca_))
    have Fb := Fb.keep Kv2 (nm1 (Ne.symm ca_))
    have Fo := Fo.keep Kv2 (nm1 (Ne.symm ca_))
    have Fk := Fk.keep Kv2 (nm1 (Ne.symm ca_))
    have Ff := Ff.keep Kv2 (nm1 (Ne.symm ca_))
    have Fc := Fc.keep Kv2 (nm1 (Ne.symm ca_))
    have Fl := Fl.keep Kv2 (nm1 (Ne.symm ca_))
    have Z0 : n0 ≤ (h16).size := Nat.le_trans Z0 Kv2.1
    have Ex := Ex.keep Kv2
    have R_ba := R_ba.keep Kv2 (nm1 (Ne.symm cb_))
    have A_fa := A_fa.keep Kv2 (nm1 (Ne.symm cc_))
    have Kp := Kp.trans Kv2 (ks1 (by first | (refine Or.inl ?_; simp; done) | (refine Or.inr ?_; omega)))
    have A_ca : ArB Z h16 ca (((X ++ enc NUM) ++ enc (u8s us).length) ++ (V3 ++ R)) := by simpa using A_ca
    have hzq2 : zq2.toInt = (((X ++ enc NUM) ++ enc (u8s us).length).length : Nat) := by rw [hzq2]; simp only [List.length_append]; rfl
    refine WP.istore K 68 [.val (.ref kt), .val (.ref o), .val (.long num), .second, .val (.int zn), .val (.int zp), .val (.ref ca), .val (.int zq2)] own_b7_66 rfl rfl ?_
    refine WP.aloadN K 69 own_b7_68 rfl rfl rfl ?_
    refine WP.getfield K (host := "") 72 (Or.inl (hw _ (List.mem_of_getElem? (i := 34) rfl))) Via.refl Fw own_b7_69 rfl ?_
    refine WP.iconst K (0 : Int32) 73 own_b7_72 rfl rfl ?_
    refine WP.aload K 75 own_b7_73 rfl rfl rfl ?_
    refine WP.iload K 77 own_b7_75 rfl rfl ?_
    refine WP.iload K 79 own_b7_77 rfl rfl ?_
    refine WP.acopyB K (a := wb) (b := ca) 82 0 0 (((X ++ enc NUM) ++ enc (u8s us).length).length) ((u8s us).length) (hw _ (List.mem_of_getElem? (i := 104) rfl)) (hw _ (List.mem_of_getElem? (i := 107) rfl)) (hw _ (List.mem_of_getElem? (i := 105) rfl)) (hw _ (List.mem_of_getElem? (i := 106) rfl)) A_wb A_ca rfl hzq2 hzn (by simp only [List.length_append]; omega) (by simp only [List.length_append]; omega) n0_ca rfl (by decide) (Nat.le_of_eq rfl) (by decide) own_b7_79 rfl (fun h19 K20 A_ca => ?_)
    have SS := SS.keep K20 (kn1 (by omega))
    have HS := HS.keep K20 ⟨(nm1 od_), (nm1 vd_)⟩
    have A_wb := A_wb.keep K20 (nm1 (Ne.symm cd_))
    have Fw := Fw.keep K20 (nm1 (Ne.symm ca_))
    have Fb := Fb.keep K20 (nm1 (Ne.symm ca_))
    have Fo := Fo.keep K20 (nm1 (Ne.symm ca_))
    have Fk := Fk.keep K20 (nm1 (Ne.symm ca_))
    have Ff := Ff.keep K20 (nm1 (Ne.symm ca_))
    have Fc := Fc.keep K20 (nm1 (Ne.symm ca_))
    have Fl := Fl.keep K20 (nm1 (Ne.symm ca_))
    have Z0 : n0 ≤ (h19).size := Nat.le_trans Z0 K20.1
    have Ex := Ex.keep K20
    have R_ba := R_ba.keep K20 (nm1 (Ne.symm cb_))
    have A_fa := A_fa.keep K20 (nm1 (Ne.symm cc_))
    have Kp := Kp.trans K20 (ks1 (by first | (refine Or.inl ?_; simp; done) | (refine Or.inr ?_; omega)))
    rw [cp_end _ _ _ _ _ hv3] at A_ca
    have A_ca : ArB Z h19 ca (X ++ (enc NUM ++ (enc (u8s us).length ++ u8s us)) ++ R) := by simpa using A_ca
    refine WP.aloadN K 83 own_b7_82 rfl rfl rfl ?_
    refine WP.iload K 85 own_b7_83 rfl rfl ?_
    refine WP.putfield K (host := "") (a := kt) 88 (Or.inl (hw _ (List.mem_of_getElem? (i := 108) rfl))) Via.refl Fl Ex (Or.inl (hw _ (List.mem_of_getElem? (i := 109) rfl))) (hw _ (List.mem_of_getElem? (i := 28) rfl)) (ty := .int) (by decide) rfl rfl own_b7_85 rfl n0_kt (fun h21 W22 => ?_)
    have SS := SS.keep (Keep.of_wr W22) (kn1 (by omega))
    have HS := HS.keep (Keep.of_wr W22) ⟨(nm1 oa_), (nm1 va_)⟩
    have A_wb := A_wb.other W22 (ne_addr (Ne.symm d3))
    have Fw := Fw.other W22 (Or.inr (slot_ne (Or.inl (hw _ (List.mem_of_getElem? (i := 35) rfl))) (Or.inl (hw _ (List.mem_of_getElem? (i := 109) rfl))) (by decide) (t := (.array .byte)) (t' := .int) (by decide) (by decide)))
    have Fb := Fb.other W22 (Or.inr (slot_ne (Or.inr (hw _ (List.mem_of_getElem? (i := 37) rfl))) (Or.inl (hw _ (List.mem_of_getElem? (i := 109) rfl))) (by decide) (t := .int) (t' := .int) (by decide) (by decide)))
    have Fo := Fo.other W22 (Or.inr (slot_ne (Or.inr (hw _ (List.mem_of_getElem? (i := 39) rfl))) (Or.inl (hw _ (List.mem_of_getElem? (i := 109) rfl))) (by decide) (t := .int) (t' := .int) (by decide) (by decide)))
    have Fk := Fk.other W22 (Or.inr (slot_ne (Or.inr (hw _ (List.mem_of_getElem? (i := 43) rfl))) (Or.inl (hw _ (List.mem_of_getElem? (i := 109) rfl))) (by decide) (t := (.array (.array .byte))) (t' := .int) (by decide) (by decide)))
    have Ff := Ff.other W22 (Or.inr (slot_ne (Or.inr (hw _ (List.mem_of_getElem? (i := 46) rfl))) (Or.inl (hw _ (List.mem_of_getElem? (i := 109) rfl))) (by decide) (t := (.array .int)) (t' := .int) (by decide) (by decide)))
    have Fc := Fc.other W22 (Or.inr (slot_ne (Or.inl (hw _ (List.mem_of_getElem? (i := 99) rfl))) (Or.inl (hw _ (List.mem_of_getElem? (i := 109) rfl))) (by decide) (t := .int) (t' := .int) (by decide) (by decide)))
    have Fl := Fl.same W22
    have Z0 : n0 ≤ (h21).size := by rw [W22.size]; exact Z0
    have Ex := Ex.wr W22
    have R_ba := R_ba.other W22 (ne_addr (Ne.symm d1))
    have A_fa := A_fa.other W22 (ne_addr (Ne.symm d2))
    have Kp := Kp.wr W22 (by first | (refine Or.inl ?_; simp; done) | (refine Or.inr ?_; omega))
    have A_ca := A_ca.other W22 (ne_addr ca_)
    have hfin : (zp.toInt64 &&& (4294967295 : Int64)).toInt = zp.toInt := by
      have e1 : zp.toInt64.toInt = zp.toInt := c_i2l _
      have b2 : c * P ≤ 3 * 32 := Nat.mul_le_mul (by omega) hpc.2
      rw [l_mask32 (n := zp.toInt.toNat) (by omega) (by omega)]; omega
    refine WP.iload K 90 own_b7_88 rfl rfl ?_
    refine WP.i2l K 91 own_b7_90 rfl ?_
    refine WP.ldc2J K (v := (4294967295 : Int64)) 94 (hw _ (List.mem_of_getElem? (i := 110) rfl)) own_b7_91 rfl ?_
    refine WP.land K 95 own_b7_94 rfl ?_
    refine WP.lret K rfl own_b7_95 ?_ (by decide) (by decide)
    exact ⟨_, rfl, _, zp, rfl, ⟨_, by simp only [List.length_append]; omega, A_wb⟩, Or.inl ⟨by omega, by omega, by rw [hfin, hzp], hzp, ⟨f2, hf2, ⟨bb, om, cc, Ex, Fw, Fb, Fo, Fk, Ff, Fc, Fl, R_ba, A_fa, hbb, hom, hcc, hb, hP, hvl, hfl, n0_kt, n0_ba, n0_fa, n0_wb, Z0, d1, d2, d3, d4, d5, d6⟩⟩, ⟨R, hR, A_ca⟩, Kp⟩⟩
  · skip
    have Z0 : n0 ≤ h1.size := Nat.le_trans Z0 Kw.1
    have l_kt_na : @LT.lt Nat _ kt na := Nat.lt_of_lt_of_le HK.rg.1 hz1
    have l_ba_na : @LT.lt Nat _ ba na := Nat.lt_of_lt_of_le HK.rg.2.1 hz1
    have l_fa_na : @LT.lt Nat _ fa na := Nat.lt_of_lt_of_le HK.rg.2.2.1 hz1
    have l_o_na : @LT.lt Nat _ o na := Nat.lt_of_lt_of_le HS.rg.1 hz1
    have l_vb_na : @LT.lt Nat _ vb na := Nat.lt_of_lt_of_le HS.rg.2 hz1
    have l_ca_na : @LT.lt Nat _ ca na := Nat.lt_of_lt_of_le A_ca.lt hz1
    have l_wb_na : @LT.lt Nat _ wb na := Nat.lt_of_lt_of_le A_wb.lt hz1
    have n0_na : @LE.le Nat _ n0 na := Nat.le_trans Z0 hz1
    have SS := SS.keep Kr (kn3 (by omega) (by omega) (by omega))
    have HS := HS.keep Kr ⟨(nm3 ⟨oa_, ob_, oc_⟩), (nm3 ⟨va_, vb_, vc_⟩)⟩
    have A_ca := A_ca.keep Kr (nm3 ⟨ca_, cb_, cc_⟩)
    have A_wb := A_wb.keep Kr (nm3 ⟨(Ne.symm d3), (Ne.symm d5), (Ne.symm d6)⟩)
    have hXl : ([] : List Int8).length = 0 := rfl
    have hYl : (List.replicate M (0 : Int8)).length = M := List.length_replicate
    have hzp : zp.toInt = (((c + 1) * P + ([] : List Int8).length : Nat) : Int) := hzp
    obtain ⟨bb, om, cc, Ex, Fw, Fb, Fo, Fk, Ff, Fc, Fl, R_ba, A_fa, hbb, hom, hcc, -, -, hvl, hfl, -, -, -, -, Z0, -⟩ := HK2
    have hsh := pl_shr hzp hbb hb hP (by omega) (by omega)
    have hma := pl_and hzp hom hb hP (by omega)
    obtain ⟨V1, V2, V3, R, hY, hv1, hv2, hv3, hR⟩ := cut3 (List.replicate M (0 : Int8)) (el NUM) (el (u8s us).length) (u8s us).length (by omega)
    rw [hYl] at hR
    have A_na : ArB Z h10 na (([] : List Int8) ++ V1 ++ (V2 ++ (V3 ++ R))) := by have q := A_na; rw [hY] at q; simpa using q
    have s_na : h.size ≤ na := by have := Kw.1; omega
    have Kp : Keep h h10 [kt, ba, fa, wb] := keep_sub (Keep.trans (keep_sub Kw (ws' := [kt, ba, fa, wb]) (by intro x hx; simp at hx ⊢; simp [hx])) Kr (ks3 (Or.inl (by simp)) (Or.inl (by simp)) (Or.inl (by simp)))) (fun x hx => hx)
    refine WP.istore K 27 [.val (.ref kt), .val (.ref o), .val (.long num), .second, .val (.int zn), .val (.int zp), .unset, .unset] own_b7_25 rfl rfl ?_
    refine WP.aloadN K 28 own_b7_27 rfl rfl rfl ?_
    refine WP.getfield K (host := "") 31 (Or.inl (hw _ (List.mem_of_getElem? (i := 42) rfl))) Via.refl Fk own_b7_28 rfl ?_
    refine WP.iload K 33 own_b7_31 rfl rfl ?_
    refine WP.aloadN K 34 own_b7_33 rfl rfl rfl ?_
    refine WP.getfield K (host := "") 37 (Or.inl (hw _ (List.mem_of_getElem? (i := 36) rfl))) Via.refl Fb own_b7_34 rfl ?_
    refine WP.iushr K 38 own_b7_37 rfl ?_
    refine WP.aaload K 39 (c + 1) R_ba.v rfl hsh (List.getElem?_set_self (by have := hvl; rw [List.length_set] at this; omega)) own_b7_38 rfl ?_
    refine WP.astore K 41 [.val (.ref kt), .val (.ref o), .val (.long num), .second, .val (.int zn), .val (.int zp), .val (.ref na), .unset] own_b7_39 rfl rfl rfl ?_
    refine WP.aload K 43 own_b7_41 rfl rfl rfl ?_
    refine WP.iload K 45 own_b7_43 rfl rfl ?_
    refine WP.aloadN K 46 own_b7_45 rfl rfl rfl ?_
    refine WP.getfield K (host := "") 49 (Or.inl (hw _ (List.mem_of_getElem? (i := 38) rfl))) Via.refl Fo own_b7_46 rfl ?_
    refine WP.iand K 50 own_b7_49 rfl ?_
    refine WP.lloadN K 51 own_b7_50 rfl rfl ?_
    refine WP.callS K 54 1 32 0 [(.ref na), (.int (zp &&& om)), (.long num)] [] (hw _ (List.mem_of_getElem? (i := 100) rfl)) (hw _ (List.mem_of_getElem? (i := 101) rfl)) (hw _ (List.mem_of_getElem? (i := 29) rfl)) (hw _ (List.mem_of_getElem? (i := 102) rfl)) (by decide) own_pd_23 rfl rfl rfl (by decide) (by decide) (Nat.le_of_eq rfl) rfl own_b7_51 rfl rfl rfl (by decide) (by decide) (own_put l Z a0 hw n0 h10 na (zp &&& om) num ([] : List Int8) V1 (V2 ++ (V3 ++ R)) NUM A_na hv1 hma hnum (by simp only [List.length_append]; omega) n0_na) (r1_next fun r25 h23 q24 => ?_)
    obtain ⟨⟨zq1, rfl, hzq1⟩, A_na, Kv1⟩ := q24
    have SS := SS.keep Kv1 (kn1 (by omega))
    have HS := HS.keep Kv1 ⟨(nm1 (Nat.ne_of_lt l_o_na)), (nm1 (Nat.ne_of_lt l_vb_na))⟩
    have A_ca := A_ca.keep Kv1 (nm1 (Nat.ne_of_lt l_ca_na))
    have A_wb := A_wb.keep Kv1 (nm1 (Nat.ne_of_lt l_wb_na))
    have Fw := Fw.keep Kv1 (nm1 (Nat.ne_of_lt l_kt_na))
    have Fb := Fb.keep Kv1 (nm1 (Nat.ne_of_lt l_kt_na))
    have Fo := Fo.keep Kv1 (nm1 (Nat.ne_of_lt l_kt_na))
    have Fk := Fk.keep Kv1 (nm1 (Nat.ne_of_lt l_kt_na))
    have Ff := Ff.keep Kv1 (nm1 (Nat.ne_of_lt l_kt_na))
    have Fc := Fc.keep Kv1 (nm1 (Nat.ne_of_lt l_kt_na))
    have Fl := Fl.keep Kv1 (nm1 (Nat.ne_of_lt l_kt_na))
    have Z0 : n0 ≤ (h23).size := Nat.le_trans Z0 Kv1.1
    have Ex := Ex.keep Kv1
    have R_ba := R_ba.keep Kv1 (nm1 (Nat.ne_of_lt l_ba_na))
    have A_fa := A_fa.keep Kv1 (nm1 (Nat.ne_of_lt l_fa_na))
    have Kp := Kp.trans Kv1 (ks1 (by first | (refine Or.inl ?_; simp; done) | (refine Or.inr ?_; omega)))
    have A_na : ArB Z h23 na ((([] : List Int8) ++ enc NUM) ++ V2 ++ (V3 ++ R)) := by simpa using A_na
    have hzq1 : zq1.toInt = ((([] : List Int8) ++ enc NUM).length : Nat) := by rw [hzq1, List.length_append]; rfl
    refine WP.istore K 56 [.val (.ref kt), .val (.ref o), .val (.long num), .second, .val (.int zn), .val (.int zp), .val (.ref na), .val (.int zq1)] own_b7_54 rfl rfl ?_
    refine WP.aload K 58 own_b7_56 rfl rfl rfl ?_
    refine WP.iload K 60 own_b7_58 rfl rfl ?_
    refine WP.iload K 62 own_b7_60 rfl rfl ?_
    refine WP.i2l K 63 own_b7_62 rfl ?_
    refine WP.callS K 66 1 32 0 [(.ref na), (.int zq1), (.long zn.toInt64)] [] (hw _ (List.mem_of_getElem? (i := 100) rfl)) (hw _ (List.mem_of_getElem? (i := 101) rfl)) (hw _ (List.mem_of_getElem? (i := 29) rfl)) (hw _ (List.mem_of_getElem? (i := 102) rfl)) (by decide) own_pd_23 rfl rfl rfl (by decide) (by decide) (Nat.le_of_eq rfl) rfl own_b7_63 rfl rfl rfl (by decide) (by decide) (own_put l Z a0 hw n0 h23 na zq1 zn.toInt64 (([] : List Int8) ++ enc NUM) V2 (V3 ++ R) (u8s us).length A_na hv2 hzq1 (by rw [c_i2l]; exact hzn) (by have : (enc NUM).length = el NUM := rfl; simp only [List.length_append]; omega) n0_na) (r1_next fun r28 h26 q27 => ?_)
    obtain ⟨⟨zq2, rfl, hzq2⟩, A_na, Kv2⟩ := q27
    have SS := SS.keep Kv2 (kn1 (by omega))
    have HS := HS.keep Kv2 ⟨(nm1 (Nat.ne_of_lt l_o_na)), (nm1 (Nat.ne_of_lt l_vb_na))⟩
    have A_ca := A_ca.keep Kv2 (nm1 (Nat.ne_of_lt l_ca_na))
    have A_wb := A_wb.keep Kv2 (nm1 (Nat.ne_of_lt l_wb_na))
    have Fw := Fw.keep Kv2 (nm1 (Nat.ne_of_lt l_kt_na))
    have Fb := Fb.keep Kv2 (nm1 (Nat.ne_of_lt l_kt_na))
    have Fo := Fo.keep Kv2 (nm1 (Nat.ne_of_lt l_kt_na))
    have Fk := Fk.keep Kv2 (nm1 (Nat.ne_of_lt l_kt_na))
    have Ff := Ff.keep Kv2 (nm1 (Nat.ne_of_lt l_kt_na))
    have Fc := Fc.keep Kv2 (nm1 (Nat.ne_of_lt l_kt_na))
    have Fl := Fl.keep Kv2 (nm1 (Nat.ne_of_lt l_kt_na))
    have Z0 : n0 ≤ (h26).size := Nat.le_trans Z0 Kv2.1
    have Ex := Ex.keep Kv2
    have R_ba := R_ba.keep Kv2 (nm1 (Nat.ne_of_lt l_ba_na))
    have A_fa := A_fa.keep Kv2 (nm1 (Nat.ne_of_lt l_fa_na))
    have Kp := Kp.trans Kv2 (ks1 (by first | (refine Or.inl ?_; simp; done) | (refine Or.inr ?_; omega)))
    have A_na : ArB Z h26 na (((([] : List Int8) ++ enc NUM) ++ enc (u8s us).length) ++ (V3 ++ R)) := by simpa using A_na
    have hzq2 : zq2.toInt = (((([] : List Int8) ++ enc NUM) ++ enc (u8s us).length).length : Nat) := by rw [hzq2]; simp only [List.length_append]; rfl
    refine WP.istore K 68 [.val (.ref kt), .val (.ref o), .val (.long num), .second, .val (.int zn), .val (.int zp), .val (.ref na), .val (.int zq2)] own_b7_66 rfl rfl ?_
    refine WP.aloadN K 69 own_b7_68 rfl rfl rfl ?_
    refine WP.getfield K (host := "") 72 (Or.inl (hw _ (List.mem_of_getElem? (i := 34) rfl))) Via.refl Fw own_b7_69 rfl ?_
    refine WP.iconst K (0 : Int32) 73 own_b7_72 rfl rfl ?_
    refine WP.aload K 75 own_b7_73 rfl rfl rfl ?_
    refine WP.iload K 77 own_b7_75 rfl rfl ?_
    refine WP.iload K 79 own_b7_77 rfl rfl ?_
    refine WP.acopyB K (a := wb) (b := na) 82 0 0 (((([] : List Int8) ++ enc NUM) ++ enc (u8s us).length).length) ((u8s us).length) (hw _ (List.mem_of_getElem? (i := 104) rfl)) (hw _ (List.mem_of_getElem? (i := 107) rfl)) (hw _ (List.mem_of_getElem? (i := 105) rfl)) (hw _ (List.mem_of_getElem? (i := 106) rfl)) A_wb A_na rfl hzq2 hzn (by simp only [List.length_append]; omega) (by simp only [List.length_append]; omega) n0_na rfl (by decide) (Nat.le_of_eq rfl) (by decide) own_b7_79 rfl (fun h29 K30 A_na => ?_)
    have SS := SS.keep K30 (kn1 (by omega))
    have HS := HS.keep K30 ⟨(nm1 (Nat.ne_of_lt l_o_na)), (nm1 (Nat.ne_of_lt l_vb_na))⟩
    have A_ca := A_ca.keep K30 (nm1 (Nat.ne_of_lt l_ca_na))
    have A_wb := A_wb.keep K30 (nm1 (Nat.ne_of_lt l_wb_na))
    have Fw := Fw.keep K30 (nm1 (Nat.ne_of_lt l_kt_na))
    have Fb := Fb.keep K30 (nm1 (Nat.ne_of_lt l_kt_na))
    have Fo := Fo.keep K30 (nm1 (Nat.ne_of_lt l_kt_na))
    have Fk := Fk.keep K30 (nm1 (Nat.ne_of_lt l_kt_na))
    have Ff := Ff.keep K30 (nm1 (Nat.ne_of_lt l_kt_na))
    have Fc := Fc.keep K30 (nm1 (Nat.ne_of_lt l_kt_na))
    have Fl := Fl.keep K30 (nm1 (Nat.ne_of_lt l_kt_na))
    have Z0 : n0 ≤ (h29).size := Nat.le_trans Z0 K30.1
    have Ex := Ex.keep K30
    have R_ba := R_ba.keep K30 (nm1 (Nat.ne_of_lt l_ba_na))
    have A_fa := A_fa.keep K30 (nm1 (Nat.ne_of_lt l_fa_na))
    have Kp := Kp.trans K30 (ks1 (by first | (refine Or.inl ?_; simp; done) | (refine Or.inr ?_; omega)))
    rw [cp_end _ _ _ _ _ hv3] at A_na
    have A_na : ArB Z h29 na (([] : List Int8) ++ (enc NUM ++ (enc (u8s us).length ++ u8s us)) ++ R) := by simpa using A_na
    refine WP.aloadN K 83 own_b7_82 rfl rfl rfl ?_
    refine WP.iload K 85 own_b7_83 rfl rfl ?_
    refine WP.putfield K (host := "") (a := kt) 88 (Or.inl (hw _ (List.mem_of_getElem? (i := 108) rfl))) Via.refl Fl Ex (Or.inl (hw _ (List.mem_of_getElem? (i := 109) rfl))) (hw _ (List.mem_of_getElem? (i := 28) rfl)) (ty := .int) (by decide) rfl rfl own_b7_85 rfl n0_kt (fun h31 W32 => ?_)
    have SS := SS.keep (Keep.of_wr W32) (kn1 (by omega))
    have HS := HS.keep (Keep.of_wr W32) ⟨(nm1 oa_), (nm1 va_)⟩
    have A_ca := A_ca.other W32 (ne_addr ca_)
    have A_wb := A_wb.other W32 (ne_addr (Ne.symm d3))
    have Fw := Fw.other W32 (Or.inr (slot_ne (Or.inl (hw _ (List.mem_of_getElem? (i := 35) rfl))) (Or.inl (hw _ (List.mem_of_getElem? (i := 109) rfl))) (by decide) (t := (.array .byte)) (t' := .int) (by decide) (by decide)))
    have Fb := Fb.other W32 (Or.inr (slot_ne (Or.inr (hw _ (List.mem_of_getElem? (i := 37) rfl))) (Or.inl (hw _ (List.mem_of_getElem? (i := 109) rfl))) (by decide) (t := .int) (t' := .int) (by decide) (by decide)))
    have Fo := Fo.other W32 (Or.inr (slot_ne (Or.inr (hw _ (List.mem_of_getElem? (i := 39) rfl))) (Or.inl (hw _ (List.mem_of_getElem? (i := 109) rfl))) (by decide) (t := .int) (t' := .int) (by decide) (by decide)))
    have Fk := Fk.other W32 (Or.inr (slot_ne (Or.inr (hw _ (List.mem_of_getElem? (i := 43) rfl))) (Or.inl (hw _ (List.mem_of_getElem? (i := 109) rfl))) (by decide) (t := (.array (.array .byte))) (t' := .int) (by decide) (by decide)))
    have Ff := Ff.other W32 (Or.inr (slot_ne (Or.inr (hw _ (List.mem_of_getElem? (i := 46) rfl))) (Or.inl (hw _ (List.mem_of_getElem? (i := 109) rfl))) (by decide) (t := (.array .int)) (t' := .int) (by decide) (by decide)))
    have Fc := Fc.other W32 (Or.inr (slot_ne (Or.inl (hw _ (List.mem_of_getElem? (i := 99) rfl))) (Or.inl (hw _ (List.mem_of_getElem? (i := 109) rfl))) (by decide) (t := .int) (t' := .int) (by decide) (by decide)))
    have Fl := Fl.same W32
    have Z0 : n0 ≤ (h31).size := by rw [W32.size]; exact Z0
    have Ex := Ex.wr W32
    have R_ba := R_ba.other W32 (ne_addr (Ne.symm d1))
    have A_fa := A_fa.other W32 (ne_addr (Ne.symm d2))
    have Kp := Kp.wr W32 (by first | (refine Or.inl ?_; simp; done) | (refine Or.inr ?_; omega))
    have A_na := A_na.other W32 (ne_addr (Ne.symm (Nat.ne_of_lt l_kt_na)))
    have hfin : (zp.toInt64 &&& (4294967295 : Int64)).toInt = zp.toInt := by
      have e1 : zp.toInt64.toInt = zp.toInt := c_i2l _
      have b2 : (c + 1) * P ≤ 3 * 32 := Nat.mul_le_mul (by omega) hpc.2
      rw [l_mask32 (n := zp.toInt.toNat) (by omega) (by omega)]; omega
    refine WP.iload K 90 own_b7_88 rfl rfl ?_
    refine WP.i2l K 91 own_b7_90 rfl ?_
    refine WP.ldc2J K (v := (4294967295 : Int64)) 94 (hw _ (List.mem_of_getElem? (i := 110) rfl)) own_b7_91 rfl ?_
    refine WP.land K 95 own_b7_94 rfl ?_
    refine WP.lret K rfl own_b7_95 ?_ (by decide) (by decide)
    exact ⟨_, rfl, _, zp, rfl, ⟨_, by simp only [List.length_append]; omega, A_wb⟩, Or.inr ⟨na, f2, R, hnf, s_na, hf2, by rw [hfin, hzp]; rfl, hzp, ⟨bb, om, cc, Ex, Fw, Fb, Fo, Fk, Ff, Fc, Fl, R_ba, A_fa, hbb, hom, hcc, hb, hP, hvl, hfl, n0_kt, n0_ba, n0_fa, n0_wb, Z0, d1, d2, d3, d4, d5, d6⟩, by omega, A_na, Kp⟩⟩
theorem own_b17_0 : decode prog_136_method_4_code 0 = .ok (.aload_n 0, 1) := by decide +kernel
theorem own_b17_1 : decode prog_136_method_4_code 1 = .ok (.aload_n 0, 1) := by decide +kernel
theorem own_b17_2 : decode prog_136_method_4_code 2 = .ok (.getfield 63, 3) := by decide +kernel
theorem own_b17_5 : decode prog_136_method_4_code 5 = .ok (.aload_n 0, 1) := by decide +kernel
theorem own_b17_6 : decode prog_136_method_4_code 6 = .ok (.getfield 18, 3) := by decide +kernel
theorem own_b17_9 : decode prog_136_method_4_code 9 = .ok (.iushr, 1) := by decide +kernel
theorem own_b17_10 : decode prog_136_method_4_code 10 = .ok (.putfield 68, 3) := by decide +kernel
theorem own_b17_13 : decode prog_136_method_4_code 13 = .ok (.aload_n 0, 1) := by decide +kernel
theorem own_b17_14 : decode prog_136_method_4_code 14 = .ok (.getfield 30, 3) := by decide +kernel
theorem own_b17_17 : decode prog_136_method_4_code 17 = .ok (.aload_n 0, 1) := by decide +kernel
theorem own_b17_18 : decode prog_136_method_4_code 18 = .ok (.getfield 68, 3) := by decide +kernel
theorem own_b17_21 : decode prog_136_method_4_code 21 = .ok (.aload_n 0, 1) := by decide +kernel
theorem own_b17_22 : decode prog_136_method_4_code 22 = .ok (.getfield 63, 3) := by decide +kernel
theorem own_b17_25 : decode prog_136_method_4_code 25 = .ok (.aload_n 0, 1) := by decide +kernel
theorem own_b17_26 : decode prog_136_method_4_code 26 = .ok (.getfield 22, 3) := by decide +kernel
theorem own_b17_29 : decode prog_136_method_4_code 29 = .ok (.iand, 1) := by decide +kernel
theorem own_b17_30 : decode prog_136_method_4_code 30 = .ok (.iastore, 1) := by decide +kernel
theorem own_b17_31 : decode prog_136_method_4_code 31 = .ok (.return_, 1) := by decide +kernel
theorem own_pf_b17 : plainFor (⟨"com/example/vestline/vestline/util/KeptTexts", "forgetLast", "()V"⟩ : MethodName) = true := by first | exact plainFor_of_name (by first | (simp [plainName, overriddenIn, x]; done) | decide +kernel) | decide +kernel
set_option maxRecDepth 65536 in
set_option maxHeartbeats 40000000 in
theorem own_forget (l : Launch) (Z : State) (a0 : Array Value) (hw : ∀ d ∈ tables_1, d.before a0 Z = true) (n0 : Nat) (h : Heap) (kt ba fa wb b P c : Nat) (vs : List Value) (fs : List Int32) (la : Int32) (HK : KTI Z h n0 kt ba fa wb b P c vs fs la) (F : Nat) (hla : la.toInt = ((c * P + F : Nat) : Int)) (hF : F < P) (hc : c ≤ 3) :
    Con l Z (⟨"com/example/vestline/vestline/util/KeptTexts", "forgetLast", "()V"⟩ : MethodName) prog_136_method_4_code 1 none ({ frames := 0, cells := 0, slots := 0, locals := 0 } : Room) n0 #[(.ref kt)] h (R0 fun h' => (∃ f' : Int32, f'.toInt = (F : Nat) ∧ KTI Z h' n0 kt ba fa wb b P c vs (fs.set c f') la) ∧ Keep h h' [kt, fa]) := by
  refine Con.of (ls := [.val (.ref kt)]) own_pf_b17 (fun m => by first | (simp [entryFrame, mkF, argsToLocals, Value.category]; done) | rfl) fun k K => ?_
  obtain ⟨bb, om, cc, Ex, Fw, Fb, Fo, Fk, Ff, Fc, Fl, R_ba, A_fa, hbb, hom, hcc, hb, hP, hvl, hfl, n0_kt, n0_ba, n0_fa, n0_wb, Z0, d1, d2, d3, d4, d5, d6⟩ := HK
  have hpc := pw_cases hb hP
  have hsh := pl_shr hla hbb hb hP hF (by omega)
  have hma := pl_and hla hom hb hP hF
  have Kp := Keep.refl h [kt, fa]
  refine WP.aloadN K 1 own_b17_0 rfl rfl rfl ?_
  refine WP.aloadN K 2 own_b17_1 rfl rfl rfl ?_
  refine WP.getfield K (host := "") 5 (Or.inl (hw _ (List.mem_of_getElem? (i := 108) rfl))) Via.refl Fl own_b17_2 rfl ?_
  refine WP.aloadN K 6 own_b17_5 rfl rfl rfl ?_
  refine WP.getfield K (host := "") 9 (Or.inl (hw _ (List.mem_of_getElem? (i := 36) rfl))) Via.refl Fb own_b17_6 rfl ?_
  refine WP.iushr K 10 own_b17_9 rfl ?_
  refine WP.putfield K (host := "") (a := kt) 13 (Or.inl (hw _ (List.mem_of_getElem? (i := 98) rfl))) Via.refl Fc Ex (Or.inl (hw _ (List.mem_of_getElem? (i := 99) rfl))) (hw _ (List.mem_of_getElem? (i := 28) rfl)) (ty := .int) (by decide) rfl rfl own_b17_10 rfl n0_kt (fun h1 W2 => ?_)
  have Fw := Fw.other W2 (Or.inr (slot_ne (Or.inl (hw _ (List.mem_of_getElem? (i := 35) rfl))) (Or.inl (hw _ (List.mem_of_getElem? (i := 99) rfl))) (by decide) (t := (.array .byte)) (t' := .int) (by decide) (by decide)))
  have Fb := Fb.other W2 (Or.inr (slot_ne (Or.inr (hw _ (List.mem_of_getElem? (i := 37) rfl))) (Or.inl (hw _ (List.mem_of_getElem? (i := 99) rfl))) (by decide) (t := .int) (t' := .int) (by decide) (by decide)))
  have Fo := Fo.other W2 (Or.inr (slot_ne (Or.inr (hw _ (List.mem_of_getElem? (i := 39) rfl))) (Or.inl (hw _ (List.mem_of_getElem? (i := 99) rfl))) (by decide) (t := .int) (t' := .int) (by decide) (by decide)))
  have Fk := Fk.other W2 (Or.inr (slot_ne (Or.inr (hw _ (List.mem_of_getElem? (i := 43) rfl))) (Or.inl (hw _ (List.mem_of_getElem? (i := 99) rfl))) (by decide) (t := (.array (.array .byte))) (t' := .int) (by decide) (by decide)))
  have Ff := Ff.other W2 (Or.inr (slot_ne (Or.inr (hw _ (List.mem_of_getElem? (i := 46) rfl))) (Or.inl (hw _ (List.mem_of_getElem? (i := 99) rfl))) (by decide) (t := (.array .int)) (t' := .int) (by decide) (by decide)))
  have Fc := Fc.same W2
  have Fl := Fl.other W2 (Or.inr (slot_ne (Or.inl (hw _ (List.mem_of_getElem? (i := 109) rfl))) (Or.inl (hw _ (List.mem_of_getElem? (i := 99) rfl))) (by decide) (t := .int) (t' := .int) (by decide) (by decide)))
  have Z0 : n0 ≤ (h1).size := by rw [W2.size]; exact Z0
  have Ex := Ex.wr W2
  have R_ba := R_ba.other W2 (ne_addr (by omega))
  have A_fa := A_fa.other W2 (ne_addr (by omega))
  have Kp := Kp.wr W2 (by first | (refine Or.inl ?_; simp; done) | (refine Or.inr ?_; omega))
  refine WP.aloadN K 14 own_b17_13 rfl rfl rfl ?_
  refine WP.getfield K (host := "") 17 (Or.inl (hw _ (List.mem_of_getElem? (i := 45) rfl))) Via.refl Ff own_b17_14 rfl ?_
  refine WP.aloadN K 18 own_b17_17 rfl rfl rfl ?_
  refine WP.getfield K (host := "") 21 (Or.inl (hw _ (List.mem_of_getElem? (i := 98) rfl))) Via.refl Fc own_b17_18 rfl ?_
  refine WP.aloadN K 22 own_b17_21 rfl rfl rfl ?_
  refine WP.getfield K (host := "") 25 (Or.inl (hw _ (List.mem_of_getElem? (i := 108) rfl))) Via.refl Fl own_b17_22 rfl ?_
  refine WP.aloadN K 26 own_b17_25 rfl rfl rfl ?_
  refine WP.getfield K (host := "") 29 (Or.inl (hw _ (List.mem_of_getElem? (i := 38) rfl))) Via.refl Fo own_b17_26 rfl ?_
  refine WP.iand K 30 own_b17_29 rfl ?_
  refine WP.iastore K 31 c A_fa hsh (by omega) own_b17_30 rfl n0_fa (fun h3 K4 A_fa => ?_)
  have Fw := Fw.keep K4 (nm1 (by omega))
  have Fb := Fb.keep K4 (nm1 (by omega))
  have Fo := Fo.keep K4 (nm1 (by omega))
  have Fk := Fk.keep K4 (nm1 (by omega))
  have Ff := Ff.keep K4 (nm1 (by omega))
  have Fc := Fc.keep K4 (nm1 (by omega))
  have Fl := Fl.keep K4 (nm1 (by omega))
  have Z0 : n0 ≤ (h3).size := Nat.le_trans Z0 K4.1
  have Ex := Ex.keep K4
  have R_ba := R_ba.keep K4 (nm1 (by omega))
  have Kp := Kp.trans K4 (ks1 (by first | (refine Or.inl ?_; simp; done) | (refine Or.inr ?_; omega)))
  refine WP.retV K rfl own_b17_31 ?_ (by decide) (by decide)
  exact ⟨rfl, ⟨_, hma, ⟨bb, om, _, Ex, Fw, Fb, Fo, Fk, Ff, Fc, Fl, R_ba, A_fa, hbb, hom, hsh, hb, hP, hvl, (by rw [List.length_set]; exact hfl), n0_kt, n0_ba, n0_fa, n0_wb, Z0, d1, d2, d3, d4, d5, d6⟩⟩, Kp⟩
theorem own_b23_0 : decode prog_136_method_5_code 0 = .ok (.lload_n 1, 1) := by decide +kernel
theorem own_b23_1 : decode prog_136_method_5_code 1 = .ok (.l2i, 1) := by decide +kernel
theorem own_b23_2 : decode prog_136_method_5_code 2 = .ok (.istore_n 3, 1) := by decide +kernel
theorem own_b23_3 : decode prog_136_method_5_code 3 = .ok (.aload_n 0, 1) := by decide +kernel
theorem own_b23_4 : decode prog_136_method_5_code 4 = .ok (.getfield 26, 3) := by decide +kernel
theorem own_b23_7 : decode prog_136_method_5_code 7 = .ok (.iload_n 3, 1) := by decide +kernel
theorem own_b23_8 : decode prog_136_method_5_code 8 = .ok (.aload_n 0, 1) := by decide +kernel
theorem own_b23_9 : decode prog_136_method_5_code 9 = .ok (.getfield 18, 3) := by decide +kernel
theorem own_b23_12 : decode prog_136_method_5_code 12 = .ok (.iushr, 1) := by decide +kernel
theorem own_b23_13 : decode prog_136_method_5_code 13 = .ok (.aaload, 1) := by decide +kernel
theorem own_b23_14 : decode prog_136_method_5_code 14 = .ok (.iload_n 3, 1) := by decide +kernel
theorem own_b23_15 : decode prog_136_method_5_code 15 = .ok (.aload_n 0, 1) := by decide +kernel
theorem own_b23_16 : decode prog_136_method_5_code 16 = .ok (.getfield 22, 3) := by decide +kernel
theorem own_b23_19 : decode prog_136_method_5_code 19 = .ok (.iand, 1) := by decide +kernel
theorem own_b23_20 : decode prog_136_method_5_code 20 = .ok (.invokestatic 71, 3) := by decide +kernel
theorem own_b23_23 : decode prog_136_method_5_code 23 = .ok (.lreturn, 1) := by decide +kernel
theorem own_pf_b23 : plainFor (⟨"com/example/vestline/vestline/util/KeptTexts", "number", "(J)J"⟩ : MethodName) = true := by first | exact plainFor_of_name (by first | (simp [plainName, overriddenIn, x]; done) | decide +kernel) | decide +kernel
theorem own_pd_24 : parseMethodDescriptor "([BI)J" = some ⟨[(.array .byte), .int], some .long⟩ := by decide +kernel
set_option maxRecDepth 65536 in
set_option maxHeartbeats 40000000 in
theorem own_number (l : Launch) (Z : State) (a0 : Array Value) (hw : ∀ d ∈ tables_1, d.before a0 Z = true) (n0 : Nat) (h : Heap) (kt ba fa wb b P c : Nat) (vs : List Value) (fs : List Int32) (la : Int32) (HK : KTI Z h n0 kt ba fa wb b P c vs fs la) (p : Int64) (cA : Nat) (NUM : Nat) (X Y : List Int8) (ca : Nat) (us : List Int32) (hva : vs[cA]? = some (.ref ca)) (A_ca : ArB Z h ca (X ++ (enc NUM ++ (enc (u8s us).length ++ u8s us)) ++ Y)) (hle : X.length + (el NUM + el (u8s us).length + (u8s us).length) + Y.length ≤ 32) (hXP : X.length < P) (hcA : cA ≤ 3) (hp : p.toInt = ((cA * P + X.length : Nat) : Int)) (hNUM : NUM < 9223372036854775808) :
    Con l Z (⟨"com/example/vestline/vestline/util/KeptTexts", "number", "(J)J"⟩ : MethodName) prog_136_method_5_code 4 (some .long) ({ frames := 1, cells := 0, slots := 0, locals := 18 } : Room) n0 #[(.ref kt), (.long p)] h (R1 fun r h' => (∃ z : Int64, r = .long z ∧ z.toInt = (NUM : Nat)) ∧ h = h') := by
  refine Con.of (ls := [.val (.ref kt), .val (.long p), .second, .unset]) own_pf_b23 (fun m => by first | (simp [entryFrame, mkF, argsToLocals, Value.category]; done) | rfl) fun k K => ?_
  obtain ⟨bb, om, cc, Ex, Fw, Fb, Fo, Fk, Ff, Fc, Fl, R_ba, A_fa, hbb, hom, hcc, hb, hP, hvl, hfl, n0_kt, n0_ba, n0_fa, n0_wb, Z0, d1, d2, d3, d4, d5, d6⟩ := HK
  have hpc := pw_cases hb hP
  have b2 : cA * P ≤ 3 * 32 := Nat.mul_le_mul hcA hpc.2
  have hpi : p.toInt32.toInt = ((cA * P + X.length : Nat) : Int) := by
    have e := c_l2i p
    have r := i32_rng p.toInt32
    generalize cA * P = M at *
    omega
  have hsh := pl_shr hpi hbb hb hP hXP (by omega)
  have hma := pl_and hpi hom hb hP hXP
  have eN : (enc NUM).length = el NUM := rfl
  have eL : (enc (u8s us).length).length = el (u8s us).length := rfl
  refine WP.lloadN K 1 own_b23_0 rfl rfl ?_
  refine WP.l2i K 2 own_b23_1 rfl ?_
  refine WP.istoreN K 3 [.val (.ref kt), .val (.long p), .second, .val (.int p.toInt32)] own_b23_2 rfl rfl ?_
  refine WP.aloadN K 4 own_b23_3 rfl rfl rfl ?_
  refine WP.getfield K (host := "") 7 (Or.inl (hw _ (List.mem_of_getElem? (i := 42) rfl))) Via.refl Fk own_b23_4 rfl ?_
  refine WP.iloadN K 8 own_b23_7 rfl rfl ?_
  refine WP.aloadN K 9 own_b23_8 rfl rfl rfl ?_
  refine WP.getfield K (host := "") 12 (Or.inl (hw _ (List.mem_of_getElem? (i := 36) rfl))) Via.refl Fb own_b23_9 rfl ?_
  refine WP.iushr K 13 own_b23_12 rfl ?_
  refine WP.aaload K 14 cA R_ba.v rfl hsh hva own_b23_13 rfl ?_
  refine WP.iloadN K 15 own_b23_14 rfl rfl ?_
  refine WP.aloadN K 16 own_b23_15 rfl rfl rfl ?_
  refine WP.getfield K (host := "") 19 (Or.inl (hw _ (List.mem_of_getElem? (i := 38) rfl))) Via.refl Fo own_b23_16 rfl ?_
  refine WP.iand K 20 own_b23_19 rfl ?_
  refine WP.callS K 23 0 0 0 [(.ref ca), (.int (p.toInt32 &&& om))] [] (hw _ (List.mem_of_getElem? (i := 123) rfl)) (hw _ (List.mem_of_getElem? (i := 124) rfl)) (hw _ (List.mem_of_getElem? (i := 29) rfl)) (hw _ (List.mem_of_getElem? (i := 125) rfl)) (by decide) own_pd_24 rfl rfl rfl (by decide) (by decide) (Nat.le_of_eq rfl) rfl own_b23_20 rfl rfl rfl (by decide) (by decide) (own_get l Z a0 hw n0 h ca (p.toInt32 &&& om) X (enc (u8s us).length ++ u8s us ++ Y) NUM (by simpa using A_ca) hma (by simp only [List.length_append]; omega) hNUM) (r1_next fun r3 h1 q2 => ?_)
  obtain ⟨⟨zv, rfl, hzv⟩, rfl⟩ := q2
  refine WP.lret K rfl own_b23_23 ?_ (by decide) (by decide)
  exact ⟨_, rfl, ⟨_, rfl, hzv⟩, rfl⟩
theorem own_b18_0 : decode prog_136_method_6_code 0 = .ok (.aload_n 0, 1) := by decide +kernel
theorem own_b18_1 : decode prog_136_method_6_code 1 = .ok (.getfield 26, 3) := by decide +kernel
theorem own_b18_4 : decode prog_136_method_6_code 4 = .ok (.lload_n 1, 1) := by decide +kernel
theorem own_b18_5 : decode prog_136_method_6_code 5 = .ok (.l2i, 1) := by decide +kernel
theorem own_b18_6 : decode prog_136_method_6_code 6 = .ok (.aload_n 0, 1) := by decide +kernel
theorem own_b18_7 : decode prog_136_method_6_code 7 = .ok (.getfield 18, 3) := by decide +kernel
theorem own_b18_10 : decode prog_136_method_6_code 10 = .ok (.iushr, 1) := by decide +kernel
theorem own_b18_11 : decode prog_136_method_6_code 11 = .ok (.aaload, 1) := by decide +kernel
theorem own_b18_12 : decode prog_136_method_6_code 12 = .ok (.astore 4, 2) := by decide +kernel
theorem own_b18_14 : decode prog_136_method_6_code 14 = .ok (.lload_n 1, 1) := by decide +kernel
theorem own_b18_15 : decode prog_136_method_6_code 15 = .ok (.l2i, 1) := by decide +kernel
theorem own_b18_16 : decode prog_136_method_6_code 16 = .ok (.aload_n 0, 1) := by decide +kernel
theorem own_b18_17 : decode prog_136_method_6_code 17 = .ok (.getfield 22, 3) := by decide +kernel
theorem own_b18_20 : decode prog_136_method_6_code 20 = .ok (.iand, 1) := by decide +kernel
theorem own_b18_21 : decode prog_136_method_6_code 21 = .ok (.istore 5, 2) := by decide +kernel
theorem own_b18_23 : decode prog_136_method_6_code 23 = .ok (.iload 5, 2) := by decide +kernel
theorem own_b18_25 : decode prog_136_method_6_code 25 = .ok (.aload 4, 2) := by decide +kernel
theorem own_b18_27 : decode prog_136_method_6_code 27 = .ok (.iload 5, 2) := by decide +kernel
theorem own_b18_29 : decode prog_136_method_6_code 29 = .ok (.invokestatic 71, 3) := by decide +kernel
theorem own_b18_32 : decode prog_136_method_6_code 32 = .ok (.invokestatic 45, 3) := by decide +kernel
theorem own_b18_35 : decode prog_136_method_6_code 35 = .ok (.iadd, 1) := by decide +kernel
theorem own_b18_36 : decode prog_136_method_6_code 36 = .ok (.istore 5, 2) := by decide +kernel
theorem own_b18_38 : decode prog_136_method_6_code 38 = .ok (.aload 4, 2) := by decide +kernel
theorem own_b18_40 : decode prog_136_method_6_code 40 = .ok (.iload 5, 2) := by decide +kernel
theorem own_b18_42 : decode prog_136_method_6_code 42 = .ok (.invokestatic 71, 3) := by decide +kernel
theorem own_b18_45 : decode prog_136_method_6_code 45 = .ok (.lstore 6, 2) := by decide +kernel
theorem own_b18_47 : decode prog_136_method_6_code 47 = .ok (.iload 5, 2) := by decide +kernel
theorem own_b18_49 : decode prog_136_method_6_code 49 = .ok (.lload 6, 2) := by decide +kernel
theorem own_b18_51 : decode prog_136_method_6_code 51 = .ok (.invokestatic 45, 3) := by decide +kernel
theorem own_b18_54 : decode prog_136_method_6_code 54 = .ok (.iadd, 1) := by decide +kernel
theorem own_b18_55 : decode prog_136_method_6_code 55 = .ok (.istore 5, 2) := by decide +kernel
theorem own_b18_57 : decode prog_136_method_6_code 57 = .ok (.aload_n 0, 1) := by decide +kernel
theorem own_b18_58 : decode prog_136_method_6_code 58 = .ok (.aload_n 3, 1) := by decide +kernel
theorem own_b18_59 : decode prog_136_method_6_code 59 = .ok (.invokevirtual 41, 3) := by decide +kernel
theorem own_b18_62 : decode prog_136_method_6_code 62 = .ok (.istore 8, 2) := by decide +kernel
theorem own_b18_64 : decode prog_136_method_6_code 64 = .ok (.lload 6, 2) := by decide +kernel
theorem own_b18_66 : decode prog_136_method_6_code 66 = .ok (.iload 8, 2) := by decide +kernel
theorem own_b18_68 : decode prog_136_method_6_code 68 = .ok (.i2l, 1) := by decide +kernel
theorem own_b18_69 : decode prog_136_method_6_code 69 = .ok (.lcmp, 1) := by decide +kernel
theorem own_b18_70 : decode prog_136_method_6_code 70 = .ok (.ifCond .ne 29, 3) := by decide +kernel
theorem own_b18_73 : decode prog_136_method_6_code 73 = .ok (.aload 4, 2) := by decide +kernel
theorem own_b18_75 : decode prog_136_method_6_code 75 = .ok (.iload 5, 2) := by decide +kernel
theorem own_b18_77 : decode prog_136_method_6_code 77 = .ok (.iload 5, 2) := by decide +kernel
theorem own_b18_79 : decode prog_136_method_6_code 79 = .ok (.iload 8, 2) := by decide +kernel
theorem own_b18_81 : decode prog_136_method_6_code 81 = .ok (.iadd, 1) := by decide +kernel
theorem own_b18_82 : decode prog_136_method_6_code 82 = .ok (.aload_n 0, 1) := by decide +kernel
theorem own_b18_83 : decode prog_136_method_6_code 83 = .ok (.getfield 14, 3) := by decide +kernel
theorem own_b18_86 : decode prog_136_method_6_code 86 = .ok (.iconst 0, 1) := by decide +kernel
theorem own_b18_87 : decode prog_136_method_6_code 87 = .ok (.iload 8, 2) := by decide +kernel
theorem own_b18_89 : decode prog_136_method_6_code 89 = .ok (.invokestatic 75, 3) := by decide +kernel
theorem own_b18_92 : decode prog_136_method_6_code 92 = .ok (.ifCond .eq 7, 3) := by decide +kernel
theorem own_b18_95 : decode prog_136_method_6_code 95 = .ok (.iconst 1, 1) := by decide +kernel
theorem own_b18_96 : decode prog_136_method_6_code 96 = .ok (.goto 4, 3) := by decide +kernel
theorem own_b18_99 : decode prog_136_method_6_code 99 = .ok (.iconst 0, 1) := by decide +kernel
theorem own_b18_100 : decode prog_136_method_6_code 100 = .ok (.ireturn, 1) := by decide +kernel
theorem own_pf_b18 : plainFor (⟨"com/example/vestline/vestline/util/KeptTexts", "holds", "(JLjava/lang/CharSequence;)Z"⟩ : MethodName) = true := by first | exact plainFor_of_name (by first | (simp [plainName, overriddenIn, x]; done) | decide +kernel) | decide +kernel
theorem own_pd_25 : parseMethodDescriptor "([BII[BII)Z" = some ⟨[(.array .byte), .int, .int, (.array .byte), .int, .int], some .boolean⟩ := by decide +kernel
set_option maxRecDepth 65536 in
set_option maxHeartbeats 40000000 in
theorem own_holds (l : Launch) (Z : State) (a0 : Array Value) (hw : ∀ d ∈ tables_1, d.before a0 Z = true) (n0 : Nat) (h : Heap) (kt ba fa wb b P c : Nat) (vs : List Value) (fs : List Int32) (la : Int32) (HK : KTI Z h n0 kt ba fa wb b P c vs fs la) (p : Int64) (cA : Nat) (NUM : Nat) (X Y : List Int8) (ca : Nat) (us : List Int32) (hva : vs[cA]? = some (.ref ca)) (A_ca : ArB Z h ca (X ++ (enc NUM ++ (enc (u8s us).length ++ u8s us)) ++ Y)) (hle : X.length + (el NUM + el (u8s us).length + (u8s us).length) + Y.length ≤ 32) (hXP : X.length < P) (hcA : cA ≤ 3) (hp : p.toInt = ((cA * P + X.length : Nat) : Int)) (hNUM : NUM < 9223372036854775808) (o vb : Nat) (HS : Str Z h o vb us) (ws : List Int8) (A_wb : ArB Z h wb ws) (hw64 : ws.length = 64) (hne : o ≠ wb ∧ vb ≠ wb) (cs : Int32) (fm : Value) (SS : STS Z h n0 cs fm) (dc : ca ≠ wb) :
    Con l Z (⟨"com/example/vestline/vestline/util/KeptTexts", "holds", "(JLjava/lang/CharSequence;)Z"⟩ : MethodName) prog_136_method_6_code 9 (some .boolean) ({ frames := 6, cells := 0, slots := 0, locals := 84 } : Room) n0 #[(.ref kt), (.long p), (.ref o)] h (R1 fun r h' => r = .int 1 ∧ Keep h h' [wb] ∧ ∃ ws' : List Int8, ws'.length = 64 ∧ ArB Z h' wb ws') := by
  refine Con.of (ls := [.val (.ref kt), .val (.long p), .second, .val (.ref o), .unset, .unset, .unset, .unset, .unset]) own_pf_b18 (fun m => by first | (simp [entryFrame, mkF, argsToLocals, Value.category]; done) | rfl) fun k K => ?_
  have k_0 : (0 : Int32).toInt = 0 := rfl
  have k_1 : (1 : Int32).toInt = 1 := rfl
  have HK0 := HK
  obtain ⟨bb, om, cc, Ex, Fw, Fb, Fo, Fk, Ff, Fc, Fl, R_ba, A_fa, hbb, hom, hcc, hb, hP, hvl, hfl, n0_kt, n0_ba, n0_fa, n0_wb, Z0, d1, d2, d3, d4, d5, d6⟩ := HK
  have hpc := pw_cases hb hP
  have b2 : cA * P ≤ 3 * 32 := Nat.mul_le_mul hcA hpc.2
  have hpi : p.toInt32.toInt = ((cA * P + X.length : Nat) : Int) := by
    have e := c_l2i p
    have r := i32_rng p.toInt32
    generalize cA * P = M at *
    omega
  have hsh := pl_shr hpi hbb hb hP hXP (by omega)
  have hma := pl_and hpi hom hb hP hXP
  have eN : (enc NUM).length = el NUM := rfl
  have eL : (enc (u8s us).length).length = el (u8s us).length := rfl
  obtain ⟨hus, hur⟩ := HS.le
  have hu8 := u8s_le us
  have hel2 : el (u8s us).length = 1 := el_small (by omega)
  refine WP.aloadN K 1 own_b18_0 rfl rfl rfl ?_
  refine WP.getfield K (host := "") 4 (Or.inl (hw _ (List.mem_of_getElem? (i := 42) rfl))) Via.refl Fk own_b18_1 rfl ?_
  refine WP.lloadN K 5 own_b18_4 rfl rfl ?_
  refine WP.l2i K 6 own_b18_5 rfl ?_
  refine WP.aloadN K 7 own_b18_6 rfl rfl rfl ?_
  refine WP.getfield K (host := "") 10 (Or.inl (hw _ (List.mem_of_getElem? (i := 36) rfl))) Via.refl Fb own_b18_7 rfl ?_
  refine WP.iushr K 11 own_b18_10 rfl ?_
  refine WP.aaload K 12 cA R_ba.v rfl hsh hva own_b18_11 rfl ?_
  refine WP.astore K 14 [.val (.ref kt), .val (.long p), .second, .val (.ref o), .val (.ref ca), .unset, .unset, .unset, .unset] own_b18_12 rfl rfl rfl ?_
  refine WP.lloadN K 15 own_b18_14 rfl rfl ?_
  refine WP.l2i K 16 own_b18_15 rfl ?_
  refine WP.aloadN K 17 own_b18_16 rfl rfl rfl ?_
  refine WP.getfield K (host := "") 20 (Or.inl (hw _ (List.mem_of_getElem? (i := 38) rfl))) Via.refl Fo own_b18_17 rfl ?_
  refine WP.iand K 21 own_b18_20 rfl ?_
  refine WP.istore K 23 [.val (.ref kt), .val (.long p), .second, .val (.ref o), .val (.ref ca), .val (.int (p.toInt32 &&& om)), .unset, .unset, .unset] own_b18_21 rfl rfl ?_
  refine WP.iload K 25 own_b18_23 rfl rfl ?_
  refine WP.aload K 27 own_b18_25 rfl rfl rfl ?_
  refine WP.iload K 29 own_b18_27 rfl rfl ?_
  refine WP.callS K 32 0 0 1 [(.ref ca), (.int (p.toInt32 &&& om))] [(.int (p.toInt32 &&& om))] (hw _ (List.mem_of_getElem? (i := 123) rfl)) (hw _ (List.mem_of_getElem? (i := 124) rfl)) (hw _ (List.mem_of_getElem? (i := 29) rfl)) (hw _ (List.mem_of_getElem? (i := 125) rfl)) (by decide) own_pd_24 rfl rfl rfl (by decide) (by decide) (Nat.le_of_eq rfl) rfl own_b18_29 rfl rfl rfl (by decide) (by decide) (own_get l Z a0 hw n0 h ca (p.toInt32 &&& om) X (enc (u8s us).length ++ u8s us ++ Y) NUM (by simpa using A_ca) hma (by simp only [List.length_append]; omega) hNUM) (r1_next fun r3 h1 q2 => ?_)
  obtain ⟨⟨zv, rfl, hzv⟩, rfl⟩ := q2
  refine WP.callS K 35 0 0 1 [(.long zv)] [(.int (p.toInt32 &&& om))] (hw _ (List.mem_of_getElem? (i := 79) rfl)) (hw _ (List.mem_of_getElem? (i := 80) rfl)) (hw _ (List.mem_of_getElem? (i := 29) rfl)) (hw _ (List.mem_of_getElem? (i := 81) rfl)) (by decide) own_pd_15 rfl rfl rfl (by decide) (by decide) (Nat.le_of_eq rfl) rfl own_b18_32 rfl rfl rfl (by decide) (by decide) (own_vsize l Z a0 hw n0 h zv NUM hzv) (r1_next fun r6 h4 q5 => ?_)
  obtain ⟨⟨s1, rfl, hs1⟩, rfl⟩ := q5
  refine WP.iadd K 36 own_b18_35 rfl ?_
  have q5 : ((p.toInt32 &&& om) + s1).toInt = ((X ++ enc NUM).length : Nat) := by rw [i32_add (by omega) (by omega), List.length_append]; omega
  generalize ((p.toInt32 &&& om) + s1) = a5 at q5 ⊢
  refine WP.istore K 38 [.val (.ref kt), .val (.long p), .second, .val (.ref o), .val (.ref ca), .val (.int a5), .unset, .unset, .unset] own_b18_36 rfl rfl ?_
  refine WP.aload K 40 own_b18_38 rfl rfl rfl ?_
  refine WP.iload K 42 own_b18_40 rfl rfl ?_
  refine WP.callS K 45 0 0 0 [(.ref ca), (.int a5)] [] (hw _ (List.mem_of_getElem? (i := 123) rfl)) (hw _ (List.mem_of_getElem? (i := 124) rfl)) (hw _ (List.mem_of_getElem? (i := 29) rfl)) (hw _ (List.mem_of_getElem? (i := 125) rfl)) (by decide) own_pd_24 rfl rfl rfl (by decide) (by decide) (Nat.le_of_eq rfl) rfl own_b18_42 rfl rfl rfl (by decide) (by decide) (own_get l Z a0 hw n0 h ca a5 (X ++ enc NUM) (u8s us ++ Y) (u8s us).length (by simpa using A_ca) q5 (by simp only [List.length_append]; omega) (by omega)) (r1_next fun r9 h7 q8 => ?_)
  obtain ⟨⟨zl, rfl, hzl⟩, rfl⟩ := q8
  refine WP.lstore K 47 [.val (.ref kt), .val (.long p), .second, .val (.ref o), .val (.ref ca), .val (.int a5), .val (.long zl), .second, .unset] own_b18_45 rfl rfl ?_
  refine WP.iload K 49 own_b18_47 rfl rfl ?_
  refine WP.lload K 51 own_b18_49 rfl rfl ?_
  refine WP.callS K 54 0 0 1 [(.long zl)] [(.int a5)] (hw _ (List.mem_of_getElem? (i := 79) rfl)) (hw _ (List.mem_of_getElem? (i := 80) rfl)) (hw _ (List.mem_of_getElem? (i := 29) rfl)) (hw _ (List.mem_of_getElem? (i := 81) rfl)) (by decide) own_pd_15 rfl rfl rfl (by decide) (by decide) (Nat.le_of_eq rfl) rfl own_b18_51 rfl rfl rfl (by decide) (by decide) (own_vsize l Z a0 hw n0 h zl (u8s us).length hzl) (r1_next fun r12 h10 q11 => ?_)
  obtain ⟨⟨s2, rfl, hs2⟩, rfl⟩ := q11
  refine WP.iadd K 55 own_b18_54 rfl ?_
  have q6 : (a5 + s2).toInt = ((X ++ enc NUM ++ enc (u8s us).length).length : Nat) := by rw [List.length_append] at q5; rw [i32_add (by omega) (by omega)]; simp only [List.length_append]; omega
  generalize (a5 + s2) = a6 at q6 ⊢
  refine WP.istore K 57 [.val (.ref kt), .val (.long p), .second, .val (.ref o), .val (.ref ca), .val (.int a6), .val (.long zl), .second, .unset] own_b18_55 rfl rfl ?_
  refine WP.aloadN K 58 own_b18_57 rfl rfl rfl ?_
  refine WP.aloadN K 59 own_b18_58 rfl rfl rfl ?_
  refine WP.callP K (a := kt) (C := "com/example/vestline/vestline/util/KeptTexts") 62 0 0 0 [(.ref o)] [] (hw _ (List.mem_of_getElem? (i := 59) rfl)) (hw _ (List.mem_of_getElem? (i := 60) rfl)) (u := (⟨"com/example/vestline/vestline/util/KeptTexts", "keep", "(Ljava/lang/CharSequence;J)J"⟩ : MethodName)) rfl (hw _ (List.mem_of_getElem? (i := 57) rfl)) (hw _ (List.mem_of_getElem? (i := 61) rfl)) (hw _ (List.mem_of_getElem? (i := 29) rfl)) (hw _ (List.mem_of_getElem? (i := 62) rfl)) (by decide) own_pd_22 rfl rfl rfl (by decide) (by decide) (Nat.le_of_eq rfl) rfl own_b18_59 rfl rfl rfl (by decide) (by decide) Ex (own_write l Z a0 hw n0 h kt ba fa wb b P c vs fs la HK0 o vb us HS ws A_wb hw64 hne cs fm SS) (r1_next fun r15 h13 q14 => ?_)
  obtain ⟨⟨zn, rfl, hzn⟩, Kw, T, hT, A_wb⟩ := q14
  have Fw := Fw.keep Kw (nm1 (by omega))
  have Fb := Fb.keep Kw (nm1 (by omega))
  have Fo := Fo.keep Kw (nm1 (by omega))
  have Fk := Fk.keep Kw (nm1 (by omega))
  have Ff := Ff.keep Kw (nm1 (by omega))
  have Fc := Fc.keep Kw (nm1 (by omega))
  have Fl := Fl.keep Kw (nm1 (by omega))
  have Z0 : n0 ≤ (h13).size := Nat.le_trans Z0 Kw.1
  have Ex := Ex.keep Kw
  have R_ba := R_ba.keep Kw (nm1 (by omega))
  have A_fa := A_fa.keep Kw (nm1 (by omega))
  have SS := SS.keep Kw (kn1 (by omega))
  have A_ca := A_ca.keep Kw (nm1 (by omega))
  have HS := HS.keep Kw ⟨nm1 (by omega), nm1 (by omega)⟩
  have eZ : zn.toInt64.toInt = zn.toInt := c_i2l _
  refine WP.istore K 64 [.val (.ref kt), .val (.long p), .second, .val (.ref o), .val (.ref ca), .val (.int a6), .val (.long zl), .second, .val (.int zn)] own_b18_62 rfl rfl ?_
  refine WP.lload K 66 own_b18_64 rfl rfl ?_
  refine WP.iload K 68 own_b18_66 rfl rfl ?_
  refine WP.i2l K 69 own_b18_68 rfl ?_
  refine WP.lcmp K 70 own_b18_69 rfl ?_
  refine WP.ifl_ne K 99 73 own_b18_70 (by decide) rfl (fun c70 => ?_) (fun c70 => ?_)
  · skip
    exfalso; omega
  · skip
    refine WP.aload K 75 own_b18_73 rfl rfl rfl ?_
    refine WP.iload K 77 own_b18_75 rfl rfl ?_
    refine WP.iload K 79 own_b18_77 rfl rfl ?_
    refine WP.iload K 81 own_b18_79 rfl rfl ?_
    refine WP.iadd K 82 own_b18_81 rfl ?_
    refine WP.aloadN K 83 own_b18_82 rfl rfl rfl ?_
    refine WP.getfield K (host := "") 86 (Or.inl (hw _ (List.mem_of_getElem? (i := 34) rfl))) Via.refl Fw own_b18_83 rfl ?_
    refine WP.iconst K (0 : Int32) 87 own_b18_86 rfl rfl ?_
    refine WP.iload K 89 own_b18_87 rfl rfl ?_
    refine WP.callS K 92 0 0 0 [(.ref ca), (.int a6), (.int (a6 + zn)), (.ref wb), (.int (0 : Int32)), (.int zn)] [] (hw _ (List.mem_of_getElem? (i := 126) rfl)) (hw _ (List.mem_of_getElem? (i := 127) rfl)) (hw _ (List.mem_of_getElem? (i := 128) rfl)) (hw _ (List.mem_of_getElem? (i := 129) rfl)) (by decide) own_pd_25 rfl rfl rfl (by decide) (by decide) (Nat.le_of_eq rfl) rfl own_b18_89 rfl rfl rfl (by decide) (by decide) (own_eqs l Z a0 hw n0 h13 ca wb a6 (a6 + zn) (0 : Int32) zn (X ++ enc NUM ++ enc (u8s us).length).length 0 (u8s us).length _ _ A_ca A_wb q6 rfl (by simp only [List.length_append]; omega) (by simp only [List.length_append]; omega) (by simp only [List.length_append]; omega) (by omega) (fun i hi => ⟨(u8s us)[i], by rw [show X ++ (enc NUM ++ (enc (u8s us).length ++ u8s us)) ++ Y = (X ++ enc NUM ++ enc (u8s us).length) ++ (u8s us ++ Y) by simp, List.getElem?_append_right (by omega), Nat.add_sub_cancel_left, List.getElem?_append_left hi, List.getElem?_eq_getElem hi], by rw [Nat.zero_add, List.getElem?_append_left hi, List.getElem?_eq_getElem hi]⟩) (by rw [i32_add (by simp only [List.length_append] at q6; omega) (by simp only [List.length_append] at q6; omega)]; omega) (by rw [hzn]; omega)) (r1_next fun r18 h16 q17 => ?_)
    obtain ⟨rfl, rfl⟩ := q17
    refine WP.if_eq K 99 95 own_b18_92 (by decide) rfl (fun c92 => ?_) (fun c92 => ?_)
    · skip
      exact absurd c92 (by decide)
    · skip
      refine WP.iconst K (1 : Int32) 96 own_b18_95 rfl rfl ?_
      refine WP.goto K 100 own_b18_96 (by decide) ?_
      refine WP.iret K rfl (Or.inr (Or.inl rfl)) rfl own_b18_100 ?_ (by decide) (by decide)
      exact ⟨_, rfl, rfl, Kw, _, by simp only [List.length_append]; omega, A_wb⟩
theorem own_pf_law : plainFor x = true := by first | exact plainFor_of_name (by first | (simp [plainName, overriddenIn, x]; done) | decide +kernel) | decide +kernel
theorem own_pd_26 : parseMethodDescriptor "(ICC)Ljava/lang/String;" = some ⟨[.int, .char, .char], some (.object "java/lang/String")⟩ := by decide +kernel
theorem own_pd_27 : parseMethodDescriptor "(Ljava/lang/CharSequence;J)J" = some ⟨[(.object "java/lang/CharSequence"), .long], some .long⟩ := by decide +kernel
theorem own_pd_28 : parseMethodDescriptor "()V" = some ⟨[], none⟩ := by decide +kernel
theorem own_pd_29 : parseMethodDescriptor "(JLjava/lang/CharSequence;)Z" = some ⟨[.long, (.object "java/lang/CharSequence")], some .boolean⟩ := by decide +kernel
theorem own_pd_30 : parseMethodDescriptor "(J)J" = some ⟨[.long], some .long⟩ := by decide +kernel
set_option maxRecDepth 65536 in
set_option maxHeartbeats 40000000 in
theorem own_law (l : Launch) (Z : State) (a0 : Array Value) (hw : ∀ d ∈ tables_1, d.before a0 Z = true) (n0 : Nat) (h : Heap) (pa pb : Int32) (na_ nb_ : Int64) (sh xx : Int32) (cs : Int32) (fm : Value) (SS : STS Z h n0 cs fm) (Z0 : n0 ≤ h.size) :
    ConX l Z own_EL x code maxLocals ret room_1 n0 #[(.int pa), (.int pb), (.long na_), (.long nb_), (.int sh), (.int xx)] h (R1 fun r h' => r = .int 1) := by
  refine ConX.of (ls := [.val (.int pa), .val (.int pb), .val (.long na_), .second, .val (.long nb_), .second, .val (.int sh), .val (.int xx), .unset, .unset, .unset, .unset, .unset, .unset, .unset, .unset, .unset, .unset, .unset, .unset, .unset, .unset, .unset, .unset, .unset, .unset, .unset, .unset, .unset, .unset, .unset, .unset, .unset]) own_pf_law (fun m => by first | (simp [entryFrame, mkF, argsToLocals, Value.category, maxLocals]; done) | rfl) fun k s0 KW HV => ?_
  have kL_m1 : (-1 : Int64).toInt = -1 := rfl
  have k_0 : (0 : Int32).toInt = 0 := rfl
  have k_1 : (1 : Int32).toInt = 1 := rfl
  have k_10 : (10 : Int32).toInt = 10 := rfl
  have k_11 : (11 : Int32).toInt = 11 := rfl
  have k_127 : (127 : Int32).toInt = 127 := rfl
  have k_15 : (15 : Int32).toInt = 15 := rfl
  have k_16 : (16 : Int32).toInt = 16 := rfl
  have k_2 : (2 : Int32).toInt = 2 := rfl
  have k_3 : (3 : Int32).toInt = 3 := rfl
  have k_6 : (6 : Int32).toInt = 6 := rfl
  have k_63 : (63 : Int32).toInt = 63 := rfl
  have k_8 : (8 : Int32).toInt = 8 := rfl
  have kL_9223372036854775807 : (9223372036854775807 : Int64).toInt = 9223372036854775807 := rfl
  refine WP.iconst KW.1 (2 : Int32) 1 at_0 rfl rfl ?_
  refine WP.iload KW.1 3 at_1 rfl rfl ?_
  refine WP.iconst KW.1 (3 : Int32) 4 at_3 rfl rfl ?_
  refine WP.iand KW.1 5 at_4 rfl ?_
  refine WP.iadd KW.1 6 at_5 rfl ?_
  refine WP.istore KW.1 8 [.val (.int pa), .val (.int pb), .val (.long na_), .second, .val (.long nb_), .second, .val (.int sh), .val (.int xx), .val (.int ((2 : Int32) + (sh &&& (3 : Int32)))), .unset, .unset, .unset, .unset, .unset, .unset, .unset, .unset, .unset, .unset, .unset, .unset, .unset, .unset, .unset, .unset, .unset, .unset, .unset, .unset, .unset, .unset, .unset, .unset] at_6 rfl rfl ?_
  have q0 := c_mask sh (3 : Int32) 2 (by decide) rfl
  rw [show ((2 ^ 2 : Nat) : Int) = 4 from rfl] at q0
  have q1 : ((2 : Int32) + (sh &&& (3 : Int32))).toInt = 2 + sh.toInt % 4 := by rw [i32_add (by omega) (by omega)]; omega
  obtain ⟨b, hbb⟩ : ∃ b : Nat, ((2 : Int32) + (sh &&& (3 : Int32))).toInt = (b : Nat) := ⟨((2 : Int32) + (sh &&& (3 : Int32))).toInt.toNat, by omega⟩
  have hb : 2 ≤ b ∧ b ≤ 5 := by omega
  clear q0 q1
  obtain ⟨P, hP⟩ : ∃ P, PW b P := ⟨_, rfl⟩
  have hpc := pw_cases hb hP
  generalize ((2 : Int32) + (sh &&& (3 : Int32))) = bb at hbb ⊢
  refine WP.iload KW.1 10 at_8 rfl rfl ?_
  refine WP.iconst KW.1 (2 : Int32) 11 at_10 rfl rfl ?_
  refine WP.iushr KW.1 12 at_11 rfl ?_
  refine WP.bipush KW.1 (15 : Int32) 14 at_12 rfl rfl ?_
  refine WP.iand KW.1 15 at_14 rfl ?_
  refine WP.iconst KW.1 (3 : Int32) 16 at_15 rfl rfl ?_
  refine WP.irem KW.1 17 at_16 rfl (by decide) ?_
  refine WP.istore KW.1 19 [.val (.int pa), .val (.int pb), .val (.long na_), .second, .val (.long nb_), .second, .val (.int sh), .val (.int xx), .val (.int bb), .val (.int (((XT.ushr sh (2 : Int32)) &&& (15 : Int32)) % (3 : Int32))), .unset, .unset, .unset, .unset, .unset, .unset, .unset, .unset, .unset, .unset, .unset, .unset, .unset, .unset, .unset, .unset, .unset, .unset, .unset, .unset, .unset, .unset, .unset] at_17 rfl rfl ?_
  have q0 := c_and (XT.ushr sh (2 : Int32)) (15 : Int32) (by decide)
  have q1 := c_iremV ((XT.ushr sh (2 : Int32)) &&& (15 : Int32)) (3 : Int32)
  obtain ⟨LA, hLA⟩ : ∃ n : Nat, (((XT.ushr sh (2 : Int32)) &&& (15 : Int32)) % (3 : Int32)).toInt = (n : Nat) := ⟨(((XT.ushr sh (2 : Int32)) &&& (15 : Int32)) % (3 : Int32)).toInt.toNat, by omega⟩
  have hLA2 : LA ≤ 2 := by omega
  clear q0 q1
  generalize (((XT.ushr sh (2 : Int32)) &&& (15 : Int32)) % (3 : Int32)) = lA at hLA ⊢
  refine WP.iload KW.1 21 at_19 rfl rfl ?_
  refine WP.bipush KW.1 (6 : Int32) 23 at_21 rfl rfl ?_
  refine WP.iushr KW.1 24 at_23 rfl ?_
  refine WP.bipush KW.1 (15 : Int32) 26 at_24 rfl rfl ?_
  refine WP.iand KW.1 27 at_26 rfl ?_
  refine WP.iconst KW.1 (3 : Int32) 28 at_27 rfl rfl ?_
  refine WP.irem KW.1 29 at_28 rfl (by decide) ?_
  refine WP.istore KW.1 31 [.val (.int pa), .val (.int pb), .val (.long na_), .second, .val (.long nb_), .second, .val (.int sh), .val (.int xx), .val (.int bb), .val (.int lA), .val (.int (((XT.ushr sh (6 : Int32)) &&& (15 : Int32)) % (3 : Int32))), .unset, .unset, .unset, .unset, .unset, .unset, .unset, .unset, .unset, .unset, .unset, .unset, .unset, .unset, .unset, .unset, .unset, .unset, .unset, .unset, .unset, .unset] at_29 rfl rfl ?_
  have q0 := c_and (XT.ushr sh (6 : Int32)) (15 : Int32) (by decide)
  have q1 := c_iremV ((XT.ushr sh (6 : Int32)) &&& (15 : Int32)) (3 : Int32)
  obtain ⟨LB, hLB⟩ : ∃ n : Nat, (((XT.ushr sh (6 : Int32)) &&& (15 : Int32)) % (3 : Int32)).toInt = (n : Nat) := ⟨(((XT.ushr sh (6 : Int32)) &&& (15 : Int32)) % (3 : Int32)).toInt.toNat, by omega⟩
  have hLB2 : LB ≤ 2 := by omega
  clear q0 q1
  generalize (((XT.ushr sh (6 : Int32)) &&& (15 : Int32)) % (3 : Int32)) = lB at hLB ⊢
  refine WP.iload KW.1 33 at_31 rfl rfl ?_
  refine WP.bipush KW.1 (10 : Int32) 35 at_33 rfl rfl ?_
  refine WP.iushr KW.1 36 at_35 rfl ?_
  refine WP.iconst KW.1 (1 : Int32) 37 at_36 rfl rfl ?_
  refine WP.iand KW.1 38 at_37 rfl ?_
  refine WP.if_ne KW.1 45 41 at_38 (by decide) rfl (fun c38 => ?_) (fun c38 => ?_)
  · skip
    refine WP.iconst KW.1 (0 : Int32) 46 at_45 rfl rfl ?_
    refine WP.istore KW.1 48 [.val (.int pa), .val (.int pb), .val (.long na_), .second, .val (.long nb_), .second, .val (.int sh), .val (.int xx), .val (.int bb), .val (.int lA), .val (.int lB), .val (.int (0 : Int32)), .unset, .unset, .unset, .unset, .unset, .unset, .unset, .unset, .unset, .unset, .unset, .unset, .unset, .unset, .unset, .unset, .unset, .unset, .unset, .unset, .unset] at_46 rfl rfl ?_
    refine WP.iload KW.1 50 at_48 rfl rfl ?_
    refine WP.bipush KW.1 (11 : Int32) 52 at_50 rfl rfl ?_
    refine WP.iushr KW.1 53 at_52 rfl ?_
    refine WP.bipush KW.1 (63 : Int32) 55 at_53 rfl rfl ?_
    refine WP.iand KW.1 56 at_55 rfl ?_
    refine WP.istore KW.1 58 [.val (.int pa), .val (.int pb), .val (.long na_), .second, .val (.long nb_), .second, .val (.int sh), .val (.int xx), .val (.int bb), .val (.int lA), .val (.int lB), .val (.int (0 : Int32)), .val (.int ((XT.ushr sh (11 : Int32)) &&& (63 : Int32))), .unset, .unset, .unset, .unset, .unset, .unset, .unset, .unset, .unset, .unset, .unset, .unset, .unset, .unset, .unset, .unset, .unset, .unset, .unset, .unset] at_56 rfl rfl ?_
    refine WP.lloadN KW.1 59 at_58 rfl rfl ?_
    refine WP.ldc2J KW.1 (v := (9223372036854775807 : Int64)) 62 (hw _ (List.mem_of_getElem? (i := 0) rfl)) at_59 rfl ?_
    refine WP.land KW.1 63 at_62 rfl ?_
    refine WP.lstore KW.1 65 [.val (.int pa), .val (.int pb), .val (.long na_), .second, .val (.long nb_), .second, .val (.int sh), .val (.int xx), .val (.int bb), .val (.int lA), .val (.int lB), .val (.int (0 : Int32)), .val (.int ((XT.ushr sh (11 : Int32)) &&& (63 : Int32))), .val (.long (na_ &&& (9223372036854775807 : Int64))), .second, .unset, .unset, .unset, .unset, .unset, .unset, .unset, .unset, .unset, .unset, .unset, .unset, .unset, .unset, .unset, .unset, .unset, .unset] at_63 rfl rfl ?_
    have q0 := c_maskL na_ (9223372036854775807 : Int64) 63 (by decide) rfl
    rw [show ((2 ^ 63 : Nat) : Int) = 9223372036854775808 from rfl] at q0
    obtain ⟨NA, hNA⟩ : ∃ n : Nat, (na_ &&& (9223372036854775807 : Int64)).toInt = (n : Nat) := ⟨(na_ &&& (9223372036854775807 : Int64)).toInt.toNat, by omega⟩
    have hNA2 : NA < 9223372036854775808 := by omega
    clear q0
    generalize (na_ &&& (9223372036854775807 : Int64)) = nA at hNA ⊢
    refine WP.lload KW.1 67 at_65 rfl rfl ?_
    refine WP.ldc2J KW.1 (v := (9223372036854775807 : Int64)) 70 (hw _ (List.mem_of_getElem? (i := 0) rfl)) at_67 rfl ?_
    refine WP.land KW.1 71 at_70 rfl ?_
    refine WP.lstore KW.1 73 [.val (.int pa), .val (.int pb), .val (.long na_), .second, .val (.long nb_), .second, .val (.int sh), .val (.int xx), .val (.int bb), .val (.int lA), .val (.int lB), .val (.int (0 : Int32)), .val (.int ((XT.ushr sh (11 : Int32)) &&& (63 : Int32))), .val (.long nA), .second, .val (.long (nb_ &&& (9223372036854775807 : Int64))), .second, .unset, .unset, .unset, .unset, .unset, .unset, .unset, .unset, .unset, .unset, .unset, .unset, .unset, .unset, .unset, .unset] at_71 rfl rfl ?_
    have q0 := c_maskL nb_ (9223372036854775807 : Int64) 63 (by decide) rfl
    rw [show ((2 ^ 63 : Nat) : Int) = 9223372036854775808 from rfl] at q0
    obtain ⟨NB, hNB⟩ : ∃ n : Nat, (nb_ &&& (9223372036854775807 : Int64)).toInt = (n : Nat) := ⟨(nb_ &&& (9223372036854775807 : Int64)).toInt.toNat, by omega⟩
    have hNB2 : NB < 9223372036854775808 := by omega
    clear q0
    generalize (nb_ &&& (9223372036854775807 : Int64)) = nB at hNB ⊢
    refine WP.lload KW.1 75 at_73 rfl rfl ?_
    refine WP.iload KW.1 77 at_75 rfl rfl ?_
    refine WP.lushr KW.1 78 at_77 rfl ?_
    refine WP.lstore KW.1 80 [.val (.int pa), .val (.int pb), .val (.long na_), .second, .val (.long nb_), .second, .val (.int sh), .val (.int xx), .val (.int bb), .val (.int lA), .val (.int lB), .val (.int (0 : Int32)), .val (.int ((XT.ushr sh (11 : Int32)) &&& (63 : Int32))), .val (.long nA), .second, .val (.long nB), .second, .val (.long (XT.ushrL nB ((XT.ushr sh (11 : Int32)) &&& (63 : Int32)))), .second, .unset, .unset, .unset, .unset, .unset, .unset, .unset, .unset, .unset, .unset, .unset, .unset, .unset, .unset] at_78 rfl rfl ?_
    obtain ⟨NC, hNC, hNCB⟩ := ushrL_le ((XT.ushr sh (11 : Int32)) &&& (63 : Int32)) hNB
    have hNC2 : NC < 9223372036854775808 := by omega
    generalize (XT.ushrL nB ((XT.ushr sh (11 : Int32)) &&& (63 : Int32))) = nC at hNC ⊢
    refine WP.iloadN KW.1 81 at_80 rfl rfl ?_
    refine WP.i2cC KW.1 82 at_81 rfl ?_
    refine WP.istore KW.1 84 [.val (.int pa), .val (.int pb), .val (.long na_), .second, .val (.long nb_), .second, .val (.int sh), .val (.int xx), .val (.int bb), .val (.int lA), .val (.int lB), .val (.int (0 : Int32)), .val (.int ((XT.ushr sh (11 : Int32)) &&& (63 : Int32))), .val (.long nA), .second, .val (.long nB), .second, .val (.long nC), .second, .val (.int (c16 pb)), .unset, .unset, .unset, .unset, .unset, .unset, .unset, .unset, .unset, .unset, .unset, .unset, .unset] at_82 rfl rfl ?_
    refine WP.iloadN KW.1 85 at_84 rfl rfl ?_
    refine WP.bipush KW.1 (16 : Int32) 87 at_85 rfl rfl ?_
    refine WP.iushr KW.1 88 at_87 rfl ?_
    refine WP.i2cC KW.1 89 at_88 rfl ?_
    refine WP.istore KW.1 91 [.val (.int pa), .val (.int pb), .val (.long na_), .second, .val (.long nb_), .second, .val (.int sh), .val (.int xx), .val (.int bb), .val (.int lA), .val (.int lB), .val (.int (0 : Int32)), .val (.int ((XT.ushr sh (11 : Int32)) &&& (63 : Int32))), .val (.long nA), .second, .val (.long nB), .second, .val (.long nC), .second, .val (.int (c16 pb)), .val (.int (c16 (XT.ushr pb (16 : Int32)))), .unset, .unset, .unset, .unset, .unset, .unset, .unset, .unset, .unset, .unset, .unset, .unset] at_89 rfl rfl ?_
    refine WP.iload KW.1 93 at_91 rfl rfl ?_
    refine WP.bipush KW.1 (127 : Int32) 95 at_93 rfl rfl ?_
    refine WP.iand KW.1 96 at_95 rfl ?_
    refine WP.istore KW.1 98 [.val (.int pa), .val (.int pb), .val (.long na_), .second, .val (.long nb_), .second, .val (.int sh), .val (.int xx), .val (.int bb), .val (.int lA), .val (.int lB), .val (.int (0 : Int32)), .val (.int ((XT.ushr sh (11 : Int32)) &&& (63 : Int32))), .val (.long nA), .second, .val (.long nB), .second, .val (.long nC), .second, .val (.int (c16 pb)), .val (.int (c16 (XT.ushr pb (16 : Int32)))), .val (.int (xx &&& (127 : Int32))), .unset, .unset, .unset, .unset, .unset, .unset, .unset, .unset, .unset, .unset, .unset] at_96 rfl rfl ?_
    have hb0 := c16_rng pb
    generalize (c16 pb) = b0 at hb0 ⊢
    have hb1 := c16_rng (XT.ushr pb (16 : Int32))
    generalize (c16 (XT.ushr pb (16 : Int32))) = b1 at hb1 ⊢
    have hd := c_and xx (127 : Int32) (by decide)
    rw [show (127 : Int32).toInt = 127 from rfl] at hd
    generalize (xx &&& (127 : Int32)) = dd at hd ⊢
    have x0 := xor_cls b0 dd hb0 hd
    have x1 := xor_cls b1 dd hb1 hd
    have e0 : c16 (b0 ^^^ dd) = b0 ^^^ dd := c16_id ⟨x0.1, x0.2.1⟩
    have e1 : c16 (b1 ^^^ dd) = b1 ^^^ dd := c16_id ⟨x1.1, x1.2.1⟩
    have u0 := u8c_cls x0.2.2 x0.1 hb0.1
    have u1 := u8c_cls x1.2.2 x1.1 hb1.1
    have hcls := u8s_cls LB u0.symm u1.symm
    rw [← e0, ← e1] at hcls
    have a0_ := c16_rng pa
    have a1_ := c16_rng (XT.ushr pa (16 : Int32))
    refine WP.iload KW.1 100 at_98 rfl rfl ?_
    refine WP.iloadN KW.1 101 at_100 rfl rfl ?_
    refine WP.i2cC KW.1 102 at_101 rfl ?_
    refine WP.iloadN KW.1 103 at_102 rfl rfl ?_
    refine WP.bipush KW.1 (16 : Int32) 105 at_103 rfl rfl ?_
    refine WP.iushr KW.1 106 at_105 rfl ?_
    refine WP.i2cC KW.1 107 at_106 rfl ?_
    refine WP.callSX (own_EW hw) KW 110 6 14 0 [(.int lA), (.int (c16 pa)), (.int (c16 (XT.ushr pa (16 : Int32))))] [] (hw _ (List.mem_of_getElem? (i := 1) rfl)) (hw _ (List.mem_of_getElem? (i := 2) rfl)) (hw _ (List.mem_of_getElem? (i := 3) rfl)) (hw _ (List.mem_of_getElem? (i := 4) rfl)) (by decide) own_pd_26 rfl rfl rfl (by decide) (by decide) (Nat.le_of_eq rfl) rfl at_107 rfl rfl rfl (by decide) (by decide) (Nat.zero_le _) HV (own_text l Z a0 hw n0 h lA (c16 pa) (c16 (XT.ushr pa (16 : Int32))) LA hLA hLA2 a0_ a1_ Z0 cs fm SS) (x1_next (fun k4 r3 h1 KW5 sz6 HV q2 => ?_))
    obtain ⟨oa, va, rfl, S_oa, Kc, sz_oa⟩ := q2
    have n0_oa : @LE.le Nat _ n0 oa := Nat.le_trans Z0 sz_oa
    have Z0 : n0 ≤ (h1).size := Nat.le_trans Z0 Kc.1
    have SS := SS.keep Kc (kn0)
    have SW : h1.size ≤ h1.size := Nat.le_refl _
    refine WP.astore KW5.1 112 [.val (.int pa), .val (.int pb), .val (.long na_), .second, .val (.long nb_), .second, .val (.int sh), .val (.int xx), .val (.int bb), .val (.int lA), .val (.int lB), .val (.int (0 : Int32)), .val (.int ((XT.ushr sh (11 : Int32)) &&& (63 : Int32))), .val (.long nA), .second, .val (.long nB), .second, .val (.long nC), .second, .val (.int b0), .val (.int b1), .val (.int dd), .val (.ref oa), .unset, .unset, .unset, .unset, .unset, .unset, .unset, .unset, .unset, .unset] at_110 rfl rfl rfl ?_
    refine WP.iload KW5.1 114 at_112 rfl rfl ?_
    refine WP.iload KW5.1 116 at_114 rfl rfl ?_
    refine WP.iload KW5.1 118 at_116 rfl rfl ?_
    refine WP.callSX (own_EW hw) KW5 121 12 28 0 [(.int lB), (.int b0), (.int b1)] [] (hw _ (List.mem_of_getElem? (i := 1) rfl)) (hw _ (List.mem_of_getElem? (i := 2) rfl)) (hw _ (List.mem_of_getElem? (i := 3) rfl)) (hw _ (List.mem_of_getElem? (i := 4) rfl)) (by decide) own_pd_26 rfl rfl rfl (by decide) (by decide) (Nat.le_of_eq rfl) rfl at_118 rfl rfl rfl (by decide) (by decide) SW HV (own_text l Z a0 hw n0 h1 lB b0 b1 LB hLB hLB2 hb0 hb1 Z0 cs fm SS) (x1_next (fun k10 r9 h7 KW11 sz12 HV q8 => ?_))
    obtain ⟨ob, vb, rfl, S_ob, Kc, sz_ob⟩ := q8
    have l_oa_ob : @LT.lt Nat _ oa ob := Nat.lt_of_lt_of_le S_oa.rg.1 sz_ob
    have l_va_ob : @LT.lt Nat _ va ob := Nat.lt_of_lt_of_le S_oa.rg.2 sz_ob
    have n0_ob : @LE.le Nat _ n0 ob := Nat.le_trans Z0 sz_ob
    have Z0 : n0 ≤ (h7).size := Nat.le_trans Z0 Kc.1
    have SS := SS.keep Kc (kn0)
    have S_oa := S_oa.keep Kc ⟨nm0 (by omega), nm0 (by omega)⟩
    have SW : h7.size ≤ h7.size := Nat.le_refl _
    refine WP.astore KW11.1 123 [.val (.int pa), .val (.int pb), .val (.long na_), .second, .val (.long nb_), .second, .val (.int sh), .val (.int xx), .val (.int bb), .val (.int lA), .val (.int lB), .val (.int (0 : Int32)), .val (.int ((XT.ushr sh (11 : Int32)) &&& (63 : Int32))), .val (.long nA), .second, .val (.long nB), .second, .val (.long nC), .second, .val (.int b0), .val (.int b1), .val (.int dd), .val (.ref oa), .val (.ref ob), .unset, .unset, .unset, .unset, .unset, .unset, .unset, .unset, .unset] at_121 rfl rfl rfl ?_
    refine WP.iload KW11.1 125 at_123 rfl rfl ?_
    refine WP.iload KW11.1 127 at_125 rfl rfl ?_
    refine WP.iload KW11.1 129 at_127 rfl rfl ?_
    refine WP.ixor KW11.1 130 at_129 rfl ?_
    refine WP.i2cC KW11.1 131 at_130 rfl ?_
    refine WP.iload KW11.1 133 at_131 rfl rfl ?_
    refine WP.iload KW11.1 135 at_133 rfl rfl ?_
    refine WP.ixor KW11.1 136 at_135 rfl ?_
    refine WP.i2cC KW11.1 137 at_136 rfl ?_
    refine WP.callSX (own_EW hw) KW11 140 18 42 0 [(.int lB), (.int (c16 (b0 ^^^ dd))), (.int (c16 (b1 ^^^ dd)))] [] (hw _ (List.mem_of_getElem? (i := 1) rfl)) (hw _ (List.mem_of_getElem? (i := 2) rfl)) (hw _ (List.mem_of_getElem? (i := 3) rfl)) (hw _ (List.mem_of_getElem? (i := 4) rfl)) (by decide) own_pd_26 rfl rfl rfl (by decide) (by decide) (Nat.le_of_eq rfl) rfl at_137 rfl rfl rfl (by decide) (by decide) SW HV (own_text l Z a0 hw n0 h7 lB (c16 (b0 ^^^ dd)) (c16 (b1 ^^^ dd)) LB hLB hLB2 (c16_rng _) (c16_rng _) Z0 cs fm SS) (x1_next (fun k16 r15 h13 KW17 sz18 HV q14 => ?_))
    obtain ⟨oc, vc, rfl, S_oc, Kc, sz_oc⟩ := q14
    have l_oa_oc : @LT.lt Nat _ oa oc := Nat.lt_of_lt_of_le S_oa.rg.1 sz_oc
    have l_va_oc : @LT.lt Nat _ va oc := Nat.lt_of_lt_of_le S_oa.rg.2 sz_oc
    have l_ob_oc : @LT.lt Nat _ ob oc := Nat.lt_of_lt_of_le S_ob.rg.1 sz_oc
    have l_vb_oc : @LT.lt Nat _ vb oc := Nat.lt_of_lt_of_le S_ob.rg.2 sz_oc
    have n0_oc : @LE.le Nat _ n0 oc := Nat.le_trans Z0 sz_oc
    have Z0 : n0 ≤ (h13).size := Nat.le_trans Z0 Kc.1
    have SS := SS.keep Kc (kn0)
    have S_oa := S_oa.keep Kc ⟨nm0 (by omega), nm0 (by omega)⟩
    have S_ob := S_ob.keep Kc ⟨nm0 (by omega), nm0 (by omega)⟩
    have SW : h13.size ≤ h13.size := Nat.le_refl _
    refine WP.astore KW17.1 142 [.val (.int pa), .val (.int pb), .val (.long na_), .second, .val (.long nb_), .second, .val (.int sh), .val (.int xx), .val (.int bb), .val (.int lA), .val (.int lB), .val (.int (0 : Int32)), .val (.int ((XT.ushr sh (11 : Int32)) &&& (63 : Int32))), .val (.long nA), .second, .val (.long nB), .second, .val (.long nC), .second, .val (.int b0), .val (.int b1), .val (.int dd), .val (.ref oa), .val (.ref ob), .val (.ref oc), .unset, .unset, .unset, .unset, .unset, .unset, .unset, .unset] at_140 rfl rfl rfl ?_
    generalize hua : [c16 pa, c16 (XT.ushr pa (16 : Int32))].take LA = ua at S_oa
    generalize hub : [b0, b1].take LB = ub at S_ob hcls
    generalize huc : [c16 (b0 ^^^ dd), c16 (b1 ^^^ dd)].take LB = uc at S_oc hcls
    clear hua hub huc
    have hnil : ([] : List Int8).length = 0 := rfl
    have en_a : (enc NA).length = el NA := rfl
    have em_a : (enc (u8s ua).length).length = el (u8s ua).length := rfl
    have en_b : (enc NB).length = el NB := rfl
    have em_b : (enc (u8s ub).length).length = el (u8s ub).length := rfl
    have en_c : (enc NC).length = el NC := rfl
    have em_c : (enc (u8s uc).length).length = el (u8s uc).length := rfl
    have ula := u8s_le ua
    have uga := S_oa.le.1
    have uea : el (u8s ua).length = 1 := el_small (by omega)
    have ulb := u8s_le ub
    have ugb := S_ob.le.1
    have ueb : el (u8s ub).length = 1 := el_small (by omega)
    have ulc := u8s_le uc
    have ugc := S_oc.le.1
    have uec : el (u8s uc).length = 1 := el_small (by omega)
    have lnA := el_le9 hNA2
    have lpA := el_pos NA
    have lnB := el_le9 hNB2
    have lpB := el_pos NB
    have lnC := el_le9 hNC2
    have lpC := el_pos NC
    have lCB := el_mono hNCB
    obtain ⟨loa, lva⟩ := S_oa.rg
    obtain ⟨lob, lvb⟩ := S_ob.rg
    obtain ⟨loc, lvc⟩ := S_oc.rg
    refine WP.new KW17.1 145 19 49 (hw _ (List.mem_of_getElem? (i := 27) rfl)) (hw _ (List.mem_of_getElem? (i := 28) rfl)) (hw _ (List.mem_of_getElem? (i := 29) rfl)) at_142 rfl rfl rfl (by decide) (by decide) (fun h19 kt z_kt E20 X_kt D21 => ?_)
    have l_oa_kt : @LT.lt Nat _ oa kt := z_kt ▸ S_oa.rg.1
    have l_va_kt : @LT.lt Nat _ va kt := z_kt ▸ S_oa.rg.2
    have l_ob_kt : @LT.lt Nat _ ob kt := z_kt ▸ S_ob.rg.1
    have l_vb_kt : @LT.lt Nat _ vb kt := z_kt ▸ S_ob.rg.2
    have l_oc_kt : @LT.lt Nat _ oc kt := z_kt ▸ S_oc.rg.1
    have l_vc_kt : @LT.lt Nat _ vc kt := z_kt ▸ S_oc.rg.2
    have n0_kt : @LE.le Nat _ n0 kt := z_kt ▸ Z0
    have Z0 : n0 ≤ (h19).size := Nat.le_trans Z0 E20.1
    have SS := SS.ext E20
    have S_oa := S_oa.keep (ext_keep E20 []) (by simp)
    have S_ob := S_ob.keep (ext_keep E20 []) (by simp)
    have S_oc := S_oc.keep (ext_keep E20 []) (by simp)
    have SW : h13.size ≤ (h19).size := Nat.le_trans SW E20.1
    have F_written_kt : Fld Z h19 kt "com/example/vestline/vestline/util/KeptTexts" "written" "[B" .null := D21 (Or.inl (hw _ (List.mem_of_getElem? (i := 35) rfl))) (ty := (.array .byte)) (by decide)
    have F_blockBits_kt : Fld Z h19 kt "com/example/vestline/vestline/util/KeptTexts" "blockBits" "I" (.int (0 : Int32)) := D21 (Or.inr (hw _ (List.mem_of_getElem? (i := 37) rfl))) (ty := .int) (by decide)
    have F_offsetMask_kt : Fld Z h19 kt "com/example/vestline/vestline/util/KeptTexts" "offsetMask" "I" (.int (0 : Int32)) := D21 (Or.inr (hw _ (List.mem_of_getElem? (i := 39) rfl))) (ty := .int) (by decide)
    have F_blocks_kt : Fld Z h19 kt "com/example/vestline/vestline/util/KeptTexts" "blocks" "[[B" .null := D21 (Or.inr (hw _ (List.mem_of_getElem? (i := 43) rfl))) (ty := (.array (.array .byte))) (by decide)
    have F_filled_kt : Fld Z h19 kt "com/example/vestline/vestline/util/KeptTexts" "filled" "[I" .null := D21 (Or.inr (hw _ (List.mem_of_getElem? (i := 46) rfl))) (ty := (.array .int)) (by decide)
    have F_block_kt : Fld Z h19 kt "com/example/vestline/vestline/util/KeptTexts" "block" "I" (.int (0 : Int32)) := D21 (Or.inl (hw _ (List.mem_of_getElem? (i := 99) rfl))) (ty := .int) (by decide)
    have F_last_kt : Fld Z h19 kt "com/example/vestline/vestline/util/KeptTexts" "last" "I" (.int (0 : Int32)) := D21 (Or.inl (hw _ (List.mem_of_getElem? (i := 109) rfl))) (ty := .int) (by decide)
    refine WP.dup KW17.1 146 at_145 rfl rfl ?_
    refine WP.iload KW17.1 148 at_146 rfl rfl ?_
    refine WP.bipush KW17.1 (8 : Int32) 150 at_148 rfl rfl ?_
    refine WP.callI KW17.1 (a := kt) 153 23 161 1 [(.int bb), (.int (8 : Int32))] [(.ref kt)] (hw _ (List.mem_of_getElem? (i := 30) rfl)) (hw _ (List.mem_of_getElem? (i := 31) rfl)) (hw _ (List.mem_of_getElem? (i := 29) rfl)) (hw _ (List.mem_of_getElem? (i := 32) rfl)) rfl (by decide) own_pd_2 rfl rfl rfl (by decide) (by decide) (Nat.le_of_eq rfl) rfl at_150 rfl rfl rfl (by decide) (by decide) (own_ktinit l Z a0 hw n0 h19 kt bb b P hbb hb hP X_kt F_written_kt F_blockBits_kt F_offsetMask_kt F_blocks_kt F_filled_kt F_block_kt F_last_kt n0_kt Z0) (r0_next fun h22 q23 => ?_)
    obtain ⟨ba, fa, wb, k0x, HK, A_wb, A_k0x, Kc, s_ba, s_fa, s_wb, s_k0, dd1, dd2, dd3, l_kt_k0x, n0_k0x⟩ := q23
    have x_a_ba : oa < ba ∧ va < ba := by have := S_oa.rg; omega
    have x_a_fa : oa < fa ∧ va < fa := by have := S_oa.rg; omega
    have x_a_wb : oa < wb ∧ va < wb := by have := S_oa.rg; omega
    have x_a_k0x : oa < k0x ∧ va < k0x := by have := S_oa.rg; omega
    have x_a_kt : oa < kt ∧ va < kt := by omega
    have x_b_ba : ob < ba ∧ vb < ba := by have := S_ob.rg; omega
    have x_b_fa : ob < fa ∧ vb < fa := by have := S_ob.rg; omega
    have x_b_wb : ob < wb ∧ vb < wb := by have := S_ob.rg; omega
    have x_b_k0x : ob < k0x ∧ vb < k0x := by have := S_ob.rg; omega
    have x_b_kt : ob < kt ∧ vb < kt := by omega
    have x_c_ba : oc < ba ∧ vc < ba := by have := S_oc.rg; omega
    have x_c_fa : oc < fa ∧ vc < fa := by have := S_oc.rg; omega
    have x_c_wb : oc < wb ∧ vc < wb := by have := S_oc.rg; omega
    have x_c_k0x : oc < k0x ∧ vc < k0x := by have := S_oc.rg; omega
    have x_c_kt : oc < kt ∧ vc < kt := by omega
    have Z0 : n0 ≤ (h22).size := Nat.le_trans Z0 Kc.1
    have SS := SS.keep Kc (kn1 (by omega))
    have S_oa := S_oa.keep Kc ⟨nm1 (by omega), nm1 (by omega)⟩
    have S_ob := S_ob.keep Kc ⟨nm1 (by omega), nm1 (by omega)⟩
    have S_oc := S_oc.keep Kc ⟨nm1 (by omega), nm1 (by omega)⟩
    have SW : h13.size ≤ (h22).size := Nat.le_trans SW Kc.1
    obtain ⟨-, -, -, -, -, n0_kt, n0_ba, n0_fa, n0_wb, -, g1, g2, g3, g4, g5, g6⟩ := HK.rg
    have hw64 : (List.replicate 64 (0 : Int8)).length = 64 := rfl
    have hk0 : (List.replicate P (0 : Int8)).length = P := List.length_replicate
    have A_k0x : ArB Z h22 k0x ([] ++ List.replicate P 0) := by simpa using A_k0x
    have tot0 : ([] : List Int8).length + (List.replicate P (0 : Int8)).length ≤ 32 := by omega
    refine WP.astore KW17.1 155 [.val (.int pa), .val (.int pb), .val (.long na_), .second, .val (.long nb_), .second, .val (.int sh), .val (.int xx), .val (.int bb), .val (.int lA), .val (.int lB), .val (.int (0 : Int32)), .val (.int ((XT.ushr sh (11 : Int32)) &&& (63 : Int32))), .val (.long nA), .second, .val (.long nB), .second, .val (.long nC), .second, .val (.int b0), .val (.int b1), .val (.int dd), .val (.ref oa), .val (.ref ob), .val (.ref oc), .val (.ref kt), .unset, .unset, .unset, .unset, .unset, .unset, .unset] at_153 rfl rfl rfl ?_
    refine WP.ldc2J KW17.1 (v := (-1 : Int64)) 158 (hw _ (List.mem_of_getElem? (i := 53) rfl)) at_155 rfl ?_
    refine WP.lstore KW17.1 160 [.val (.int pa), .val (.int pb), .val (.long na_), .second, .val (.long nb_), .second, .val (.int sh), .val (.int xx), .val (.int bb), .val (.int lA), .val (.int lB), .val (.int (0 : Int32)), .val (.int ((XT.ushr sh (11 : Int32)) &&& (63 : Int32))), .val (.long nA), .second, .val (.long nB), .second, .val (.long nC), .second, .val (.int b0), .val (.int b1), .val (.int dd), .val (.ref oa), .val (.ref ob), .val (.ref oc), .val (.ref kt), .val (.long (-1 : Int64)), .second, .unset, .unset, .unset, .unset, .unset] at_158 rfl rfl ?_
    refine WP.iload KW17.1 162 at_160 rfl rfl ?_
    refine WP.if_eq KW17.1 176 165 at_162 (by decide) rfl (fun c162 => ?_) (fun c162 => ?_)
    · skip
      refine WP.aload KW17.1 178 at_176 rfl rfl rfl ?_
      refine WP.aload KW17.1 180 at_178 rfl rfl rfl ?_
      refine WP.lload KW17.1 182 at_180 rfl rfl ?_
      refine WP.callV KW17.1 (a := kt) (C := "com/example/vestline/vestline/util/KeptTexts") 185 24 193 0 [(.ref ob), (.long nB)] [] (hw _ (List.mem_of_getElem? (i := 54) rfl)) (hw _ (List.mem_of_getElem? (i := 55) rfl)) rfl (hw _ (List.mem_of_getElem? (i := 57) rfl)) (hw _ (List.mem_of_getElem? (i := 56) rfl)) (hw _ (List.mem_of_getElem? (i := 29) rfl)) (hw _ (List.mem_of_getElem? (i := 58) rfl)) (by decide) own_pd_27 rfl rfl rfl (by decide) (by decide) (Nat.le_of_eq rfl) rfl at_182 rfl rfl rfl (by decide) (by decide) HK.ex (own_keep l Z a0 hw n0 h22 kt ba fa wb b P 0 [.ref k0x, .null, .null, .null, .null, .null, .null, .null] [(0 : Int32), (0 : Int32), (0 : Int32), (0 : Int32), (0 : Int32), (0 : Int32), (0 : Int32), (0 : Int32)] (0 : Int32) HK ob vb ub S_ob _ A_wb hw64 ⟨(Nat.ne_of_lt x_b_wb.1), (Nat.ne_of_lt x_b_wb.2)⟩ cs fm SS nB NB hNB k0x ([] : List Int8) (List.replicate P 0) (0 : Int32) (0 : Int32) rfl A_k0x tot0 rfl rfl rfl rfl (by decide) n0_k0x ⟨(Ne.symm (Nat.ne_of_lt l_kt_k0x)), dd1, dd2, dd3⟩ ⟨(Nat.ne_of_lt x_b_kt.1), (Nat.ne_of_lt x_b_ba.1), (Nat.ne_of_lt x_b_fa.1), (Nat.ne_of_lt x_b_k0x.1), (Nat.ne_of_lt x_b_kt.2), (Nat.ne_of_lt x_b_ba.2), (Nat.ne_of_lt x_b_fa.2), (Nat.ne_of_lt x_b_k0x.2)⟩) (r1_next fun r27 h25 q26 => ?_)
      obtain ⟨zzb, lab, rfl, ⟨wsb, hw64, A_wb2⟩, hk⟩ := q26
      rcases hk with ⟨f1b, f2b, hzb, hlb, ⟨ffb, hfb, HK2⟩, ⟨Yb, hYb, A_n⟩, Kc⟩ | ⟨nb, ffb, Yb, hnf, sz_nb, hfb, hzb, hlb, HK2, hYb, A_n, Kc⟩
      · skip
        have Z0 : n0 ≤ (h25).size := Nat.le_trans Z0 Kc.1
        have SS := SS.keep Kc (kn4 (by omega) (by omega) (by omega) (by omega))
        have S_oa := S_oa.keep Kc ⟨(nm4 ⟨(Nat.ne_of_lt x_a_kt.1), (Nat.ne_of_lt x_a_fa.1), (Nat.ne_of_lt x_a_wb.1), (Nat.ne_of_lt x_a_k0x.1)⟩), (nm4 ⟨(Nat.ne_of_lt x_a_kt.2), (Nat.ne_of_lt x_a_fa.2), (Nat.ne_of_lt x_a_wb.2), (Nat.ne_of_lt x_a_k0x.2)⟩)⟩
        have S_ob := S_ob.keep Kc ⟨(nm4 ⟨(Nat.ne_of_lt x_b_kt.1), (Nat.ne_of_lt x_b_fa.1), (Nat.ne_of_lt x_b_wb.1), (Nat.ne_of_lt x_b_k0x.1)⟩), (nm4 ⟨(Nat.ne_of_lt x_b_kt.2), (Nat.ne_of_lt x_b_fa.2), (Nat.ne_of_lt x_b_wb.2), (Nat.ne_of_lt x_b_k0x.2)⟩)⟩
        have S_oc := S_oc.keep Kc ⟨(nm4 ⟨(Nat.ne_of_lt x_c_kt.1), (Nat.ne_of_lt x_c_fa.1), (Nat.ne_of_lt x_c_wb.1), (Nat.ne_of_lt x_c_k0x.1)⟩), (nm4 ⟨(Nat.ne_of_lt x_c_kt.2), (Nat.ne_of_lt x_c_fa.2), (Nat.ne_of_lt x_c_wb.2), (Nat.ne_of_lt x_c_k0x.2)⟩)⟩
        have SW : h13.size ≤ (h25).size := Nat.le_trans SW Kc.1
        have A_k0x := A_n
        have totb : (([] : List Int8) ++ (enc NB ++ (enc (u8s ub).length ++ u8s ub))).length + Yb.length ≤ 32 := by
          have e3 := tot0
          simp only [List.length_append] at e3 hYb ⊢; omega
        have HK : KTI Z _ n0 kt ba fa wb b P 0 [.ref k0x, .null, .null, .null, .null, .null, .null, .null] [ffb, (0 : Int32), (0 : Int32), (0 : Int32), (0 : Int32), (0 : Int32), (0 : Int32), (0 : Int32)] lab := HK2
        have A_wb := A_wb2
        refine WP.lstore KW17.1 187 [.val (.int pa), .val (.int pb), .val (.long na_), .second, .val (.long nb_), .second, .val (.int sh), .val (.int xx), .val (.int bb), .val (.int lA), .val (.int lB), .val (.int (0 : Int32)), .val (.int ((XT.ushr sh (11 : Int32)) &&& (63 : Int32))), .val (.long nA), .second, .val (.long nB), .second, .val (.long nC), .second, .val (.int b0), .val (.int b1), .val (.int dd), .val (.ref oa), .val (.ref ob), .val (.ref oc), .val (.ref kt), .val (.long (-1 : Int64)), .second, .val (.long zzb), .second, .unset, .unset, .unset] at_185 rfl rfl ?_
        refine WP.aload KW17.1 189 at_187 rfl rfl rfl ?_
        refine WP.callV KW17.1 (a := kt) (C := "com/example/vestline/vestline/util/KeptTexts") 192 24 193 0 [] [] (hw _ (List.mem_of_getElem? (i := 113) rfl)) (hw _ (List.mem_of_getElem? (i := 114) rfl)) rfl (hw _ (List.mem_of_getElem? (i := 116) rfl)) (hw _ (List.mem_of_getElem? (i := 115) rfl)) (hw _ (List.mem_of_getElem? (i := 29) rfl)) (hw _ (List.mem_of_getElem? (i := 117) rfl)) (by decide) own_pd_28 rfl rfl rfl (by decide) (by decide) (Nat.le_of_eq rfl) rfl at_189 rfl rfl rfl (by decide) (by decide) HK.ex (own_forget l Z a0 hw n0 h25 kt ba fa wb b P 0 [.ref k0x, .null, .null, .null, .null, .null, .null, .null] [ffb, (0 : Int32), (0 : Int32), (0 : Int32), (0 : Int32), (0 : Int32), (0 : Int32), (0 : Int32)] lab HK ([] : List Int8).length hlb (by omega) (by decide)) (r0_next fun h28 q29 => ?_)
        obtain ⟨⟨fg, hfg, HK⟩, Kc⟩ := q29
        have Z0 : n0 ≤ (h28).size := Nat.le_trans Z0 Kc.1
        have SS := SS.keep Kc (kn2 (by omega) (by omega))
        have S_oa := S_oa.keep Kc ⟨(nm2 ⟨(Nat.ne_of_lt x_a_kt.1), (Nat.ne_of_lt x_a_fa.1)⟩), (nm2 ⟨(Nat.ne_of_lt x_a_kt.2), (Nat.ne_of_lt x_a_fa.2)⟩)⟩
        have S_ob := S_ob.keep Kc ⟨(nm2 ⟨(Nat.ne_of_lt x_b_kt.1), (Nat.ne_of_lt x_b_fa.1)⟩), (nm2 ⟨(Nat.ne_of_lt x_b_kt.2), (Nat.ne_of_lt x_b_fa.2)⟩)⟩
        have S_oc := S_oc.keep Kc ⟨(nm2 ⟨(Nat.ne_of_lt x_c_kt.1), (Nat.ne_of_lt x_c_fa.1)⟩), (nm2 ⟨(Nat.ne_of_lt x_c_kt.2), (Nat.ne_of_lt x_c_fa.2)⟩)⟩
        have SW : h13.size ≤ (h28).size := Nat.le_trans SW Kc.1
        have A_k0x := A_k0x.keep Kc (nm2 ⟨(Ne.symm (Nat.ne_of_lt l_kt_k0x)), dd2⟩)
        have A_wb := A_wb.keep Kc (nm2 ⟨(Ne.symm g3), (Ne.symm g6)⟩)
        have HK : KTI Z _ n0 kt ba fa wb b P 0 [.ref k0x, .null, .null, .null, .null, .null, .null, .null] [fg, (0 : Int32), (0 : Int32), (0 : Int32), (0 : Int32), (0 : Int32), (0 : Int32), (0 : Int32)] lab := HK
        have A_k0x : ArB Z h28 k0x (([] : List Int8) ++ ((enc NB ++ (enc (u8s ub).length ++ u8s ub)) ++ Yb)) := by simpa using A_k0x
        have totg : ([] : List Int8).length + ((enc NB ++ (enc (u8s ub).length ++ u8s ub)) ++ Yb).length ≤ 32 := by
          have e3 := totb
          simp only [List.length_append] at e3 ⊢; omega
        refine WP.aload KW17.1 194 at_192 rfl rfl rfl ?_
        refine WP.aload KW17.1 196 at_194 rfl rfl rfl ?_
        refine WP.lload KW17.1 198 at_196 rfl rfl ?_
        refine WP.callV KW17.1 (a := kt) (C := "com/example/vestline/vestline/util/KeptTexts") 201 25 225 0 [(.ref oc), (.long nC)] [] (hw _ (List.mem_of_getElem? (i := 54) rfl)) (hw _ (List.mem_of_getElem? (i := 55) rfl)) rfl (hw _ (List.mem_of_getElem? (i := 57) rfl)) (hw _ (List.mem_of_getElem? (i := 56) rfl)) (hw _ (List.mem_of_getElem? (i := 29) rfl)) (hw _ (List.mem_of_getElem? (i := 58) rfl)) (by decide) own_pd_27 rfl rfl rfl (by decide) (by decide) (Nat.le_of_eq rfl) rfl at_198 rfl rfl rfl (by decide) (by decide) HK.ex (own_keep l Z a0 hw n0 h28 kt ba fa wb b P 0 [.ref k0x, .null, .null, .null, .null, .null, .null, .null] [fg, (0 : Int32), (0 : Int32), (0 : Int32), (0 : Int32), (0 : Int32), (0 : Int32), (0 : Int32)] lab HK oc vc uc S_oc _ A_wb hw64 ⟨(Nat.ne_of_lt x_c_wb.1), (Nat.ne_of_lt x_c_wb.2)⟩ cs fm SS nC NC hNC k0x ([] : List Int8) ((enc NB ++ (enc (u8s ub).length ++ u8s ub)) ++ Yb) fg (0 : Int32) rfl A_k0x totg rfl hfg rfl rfl (by decide) n0_k0x ⟨(Ne.symm (Nat.ne_of_lt l_kt_k0x)), dd1, dd2, dd3⟩ ⟨(Nat.ne_of_lt x_c_kt.1), (Nat.ne_of_lt x_c_ba.1), (Nat.ne_of_lt x_c_fa.1), (Nat.ne_of_lt x_c_k0x.1), (Nat.ne_of_lt x_c_kt.2), (Nat.ne_of_lt x_c_ba.2), (Nat.ne_of_lt x_c_fa.2), (Nat.ne_of_lt x_c_k0x.2)⟩) (r1_next fun r33 h31 q32 => ?_)
        obtain ⟨zzc, lac, rfl, ⟨wsc, hw64, A_wb2⟩, hk⟩ := q32
        rcases hk with ⟨f1c, f2c, hzc, hlc, ⟨ffc, hfc, HK2⟩, ⟨Yc, hYc, A_n⟩, Kc⟩ | ⟨nc, ffc, Yc, hnf, sz_nc, hfc, hzc, hlc, HK2, hYc, A_n, Kc⟩
        · skip
          have Z0 : n0 ≤ (h31).size := Nat.le_trans Z0 Kc.1
          have SS := SS.keep Kc (kn4 (by omega) (by omega) (by omega) (by omega))
          have S_oa := S_oa.keep Kc ⟨(nm4 ⟨(Nat.ne_of_lt x_a_kt.1), (Nat.ne_of_lt x_a_fa.1), (Nat.ne_of_lt x_a_wb.1), (Nat.ne_of_lt x_a_k0x.1)⟩), (nm4 ⟨(Nat.ne_of_lt x_a_kt.2), (Nat.ne_of_lt x_a_fa.2), (Nat.ne_of_lt x_a_wb.2), (Nat.ne_of_lt x_a_k0x.2)⟩)⟩
          have S_ob := S_ob.keep Kc ⟨(nm4 ⟨(Nat.ne_of_lt x_b_kt.1), (Nat.ne_of_lt x_b_fa.1), (Nat.ne_of_lt x_b_wb.1), (Nat.ne_of_lt x_b_k0x.1)⟩), (nm4 ⟨(Nat.ne_of_lt x_b_kt.2), (Nat.ne_of_lt x_b_fa.2), (Nat.ne_of_lt x_b_wb.2), (Nat.ne_of_lt x_b_k0x.2)⟩)⟩
          have S_oc := S_oc.keep Kc ⟨(nm4 ⟨(Nat.ne_of_lt x_c_kt.1), (Nat.ne_of_lt x_c_fa.1), (Nat.ne_of_lt x_c_wb.1), (Nat.ne_of_lt x_c_k0x.1)⟩), (nm4 ⟨(Nat.ne_of_lt x_c_kt.2), (Nat.ne_of_lt x_c_fa.2), (Nat.ne_of_lt x_c_wb.2), (Nat.ne_of_lt x_c_k0x.2)⟩)⟩
          have SW : h13.size ≤ (h31).size := Nat.le_trans SW Kc.1
          have A_k0x := A_n
          have totc : (([] : List Int8) ++ (enc NC ++ (enc (u8s uc).length ++ u8s uc))).length + Yc.length ≤ 32 := by
            have e3 := totg
            simp only [List.length_append] at e3 hYc ⊢; omega
          have HK : KTI Z _ n0 kt ba fa wb b P 0 [.ref k0x, .null, .null, .null, .null, .null, .null, .null] [ffc, (0 : Int32), (0 : Int32), (0 : Int32), (0 : Int32), (0 : Int32), (0 : Int32), (0 : Int32)] lac := HK2
          have A_wb := A_wb2
          refine WP.lstore KW17.1 203 [.val (.int pa), .val (.int pb), .val (.long na_), .second, .val (.long nb_), .second, .val (.int sh), .val (.int xx), .val (.int bb), .val (.int lA), .val (.int lB), .val (.int (0 : Int32)), .val (.int ((XT.ushr sh (11 : Int32)) &&& (63 : Int32))), .val (.long nA), .second, .val (.long nB), .second, .val (.long nC), .second, .val (.int b0), .val (.int b1), .val (.int dd), .val (.ref oa), .val (.ref ob), .val (.ref oc), .val (.ref kt), .val (.long (-1 : Int64)), .second, .val (.long zzb), .second, .val (.long zzc), .second, .unset] at_201 rfl rfl ?_
          refine WP.lload KW17.1 205 at_203 rfl rfl ?_
          refine WP.lload KW17.1 207 at_205 rfl rfl ?_
          refine WP.lcmp KW17.1 208 at_207 rfl ?_
          refine WP.ifl_ne KW17.1 240 211 at_208 (by decide) rfl (fun c208 => ?_) (fun c208 => ?_)
          · skip
            exact absurd (by omega) c208
          · skip
            refine WP.aload KW17.1 213 at_211 rfl rfl rfl ?_
            refine WP.lload KW17.1 215 at_213 rfl rfl ?_
            refine WP.aload KW17.1 217 at_215 rfl rfl rfl ?_
            refine WP.callV KW17.1 (a := kt) (C := "com/example/vestline/vestline/util/KeptTexts") 220 25 225 0 [(.long zzc), (.ref oc)] [] (hw _ (List.mem_of_getElem? (i := 118) rfl)) (hw _ (List.mem_of_getElem? (i := 119) rfl)) rfl (hw _ (List.mem_of_getElem? (i := 121) rfl)) (hw _ (List.mem_of_getElem? (i := 120) rfl)) (hw _ (List.mem_of_getElem? (i := 29) rfl)) (hw _ (List.mem_of_getElem? (i := 122) rfl)) (by decide) own_pd_29 rfl rfl rfl (by decide) (by decide) (Nat.le_of_eq rfl) rfl at_217 rfl rfl rfl (by decide) (by decide) HK.ex (own_holds l Z a0 hw n0 h31 kt ba fa wb b P 0 [.ref k0x, .null, .null, .null, .null, .null, .null, .null] [ffc, (0 : Int32), (0 : Int32), (0 : Int32), (0 : Int32), (0 : Int32), (0 : Int32), (0 : Int32)] lac HK zzc 0 NC ([] : List Int8) Yc k0x uc rfl A_k0x (by have e3 := totc; simp only [List.length_append] at e3 ⊢; omega) (by omega) (by decide) hzc hNC2 oc vc S_oc _ A_wb hw64 ⟨(Nat.ne_of_lt x_c_wb.1), (Nat.ne_of_lt x_c_wb.2)⟩ cs fm SS dd3) (r1_next fun r36 h34 q35 => ?_)
            obtain ⟨rfl, Kc, wxc, hw64, A_wb⟩ := q35
            have Z0 : n0 ≤ (h34).size := Nat.le_trans Z0 Kc.1
            have SS := SS.keep Kc (kn1 (by omega))
            have S_oa := S_oa.keep Kc ⟨(nm1 (Nat.ne_of_lt x_a_wb.1)), (nm1 (Nat.ne_of_lt x_a_wb.2))⟩
            have S_ob := S_ob.keep Kc ⟨(nm1 (Nat.ne_of_lt x_b_wb.1)), (nm1 (Nat.ne_of_lt x_b_wb.2))⟩
            have S_oc := S_oc.keep Kc ⟨(nm1 (Nat.ne_of_lt x_c_wb.1)), (nm1 (Nat.ne_of_lt x_c_wb.2))⟩
            have SW : h13.size ≤ (h34).size := Nat.le_trans SW Kc.1
            have A_k0x := A_k0x.keep Kc (nm1 dd3)
            have HK := HK.keep Kc ⟨(nm1 g3), (nm1 g5), (nm1 g6)⟩
            refine WP.if_eq KW17.1 240 223 at_220 (by decide) rfl (fun c220 => ?_) (fun c220 => ?_)
            · skip
              exact absurd c220 (by decide)
            · skip
              refine WP.aload KW17.1 225 at_223 rfl rfl rfl ?_
              refine WP.lload KW17.1 227 at_225 rfl rfl ?_
              refine WP.callV KW17.1 (a := kt) (C := "com/example/vestline/vestline/util/KeptTexts") 230 25 225 0 [(.long zzc)] [] (hw _ (List.mem_of_getElem? (i := 137) rfl)) (hw _ (List.mem_of_getElem? (i := 138) rfl)) rfl (hw _ (List.mem_of_getElem? (i := 140) rfl)) (hw _ (List.mem_of_getElem? (i := 139) rfl)) (hw _ (List.mem_of_getElem? (i := 29) rfl)) (hw _ (List.mem_of_getElem? (i := 141) rfl)) (by decide) own_pd_30 rfl rfl rfl (by decide) (by decide) (Nat.le_of_eq rfl) rfl at_227 rfl rfl rfl (by decide) (by decide) HK.ex (own_number l Z a0 hw n0 h34 kt ba fa wb b P 0 [.ref k0x, .null, .null, .null, .null, .null, .null, .null] [ffc, (0 : Int32), (0 : Int32), (0 : Int32), (0 : Int32), (0 : Int32), (0 : Int32), (0 : Int32)] lac HK zzc 0 NC ([] : List Int8) Yc k0x uc rfl A_k0x (by have e3 := totc; simp only [List.length_append] at e3 ⊢; omega) (by omega) (by decide) hzc hNC2) (r1_next fun r39 h37 q38 => ?_)
              obtain ⟨⟨zvc, rfl, hzvc⟩, rfl⟩ := q38
              obtain rfl : nC = zvc := i64_eq (by rw [hzvc, hNC])
              refine WP.lload KW17.1 232 at_230 rfl rfl ?_
              refine WP.lcmp KW17.1 233 at_232 rfl ?_
              refine WP.ifl_ne KW17.1 240 236 at_233 (by decide) rfl (fun c233 => ?_) (fun c233 => ?_)
              · skip
                exact absurd rfl c233
              · skip
                refine WP.iconst KW17.1 (1 : Int32) 237 at_236 rfl rfl ?_
                refine WP.goto KW17.1 241 at_237 (by decide) ?_
                refine WP.istore KW17.1 243 [.val (.int pa), .val (.int pb), .val (.long na_), .second, .val (.long nb_), .second, .val (.int sh), .val (.int xx), .val (.int bb), .val (.int lA), .val (.int lB), .val (.int (0 : Int32)), .val (.int ((XT.ushr sh (11 : Int32)) &&& (63 : Int32))), .val (.long nA), .second, .val (.long nB), .second, .val (.long nC), .second, .val (.int b0), .val (.int b1), .val (.int dd), .val (.ref oa), .val (.ref ob), .val (.ref oc), .val (.ref kt), .val (.long (-1 : Int64)), .second, .val (.long zzb), .second, .val (.long zzc), .second, .val (.int (1 : Int32))] at_241 rfl rfl ?_
                refine WP.iload KW17.1 245 at_243 rfl rfl ?_
                refine WP.if_eq KW17.1 285 248 at_245 (by decide) rfl (fun c245 => ?_) (fun c245 => ?_)
                · skip
                  refine WP.iload KW17.1 287 at_285 rfl rfl ?_
                  refine WP.iret KW17.1 rfl (Or.inr (Or.inl rfl)) rfl at_287 ?_ (by decide) (by decide)
                  exact ⟨⟨_, rfl, rfl⟩, SW⟩
                · skip
                  exact absurd c245 (by decide)
        · skip
          exact absurd ⟨by simp only [List.length_append]; omega, by omega⟩ hnf
      · skip
        have l_oa_nb : @LT.lt Nat _ oa nb := Nat.lt_of_lt_of_le S_oa.rg.1 sz_nb
        have l_va_nb : @LT.lt Nat _ va nb := Nat.lt_of_lt_of_le S_oa.rg.2 sz_nb
        have l_ob_nb : @LT.lt Nat _ ob nb := Nat.lt_of_lt_of_le S_ob.rg.1 sz_nb
        have l_vb_nb : @LT.lt Nat _ vb nb := Nat.lt_of_lt_of_le S_ob.rg.2 sz_nb
        have l_oc_nb : @LT.lt Nat _ oc nb := Nat.lt_of_lt_of_le S_oc.rg.1 sz_nb
        have l_vc_nb : @LT.lt Nat _ vc nb := Nat.lt_of_lt_of_le S_oc.rg.2 sz_nb
        have l_kt_nb : @LT.lt Nat _ kt nb := Nat.lt_of_lt_of_le HK.rg.1 sz_nb
        have l_ba_nb : @LT.lt Nat _ ba nb := Nat.lt_of_lt_of_le HK.rg.2.1 sz_nb
        have l_fa_nb : @LT.lt Nat _ fa nb := Nat.lt_of_lt_of_le HK.rg.2.2.1 sz_nb
        have l_wb_nb : @LT.lt Nat _ wb nb := Nat.lt_of_lt_of_le A_wb.lt sz_nb
        have l_k0x_nb : @LT.lt Nat _ k0x nb := Nat.lt_of_lt_of_le A_k0x.lt sz_nb
        have n0_nb : @LE.le Nat _ n0 nb := Nat.le_trans Z0 sz_nb
        have Z0 : n0 ≤ (h25).size := Nat.le_trans Z0 Kc.1
        have SS := SS.keep Kc (kn4 (by omega) (by omega) (by omega) (by omega))
        have S_oa := S_oa.keep Kc ⟨(nm4 ⟨(Nat.ne_of_lt x_a_kt.1), (Nat.ne_of_lt x_a_ba.1), (Nat.ne_of_lt x_a_fa.1), (Nat.ne_of_lt x_a_wb.1)⟩), (nm4 ⟨(Nat.ne_of_lt x_a_kt.2), (Nat.ne_of_lt x_a_ba.2), (Nat.ne_of_lt x_a_fa.2), (Nat.ne_of_lt x_a_wb.2)⟩)⟩
        have S_ob := S_ob.keep Kc ⟨(nm4 ⟨(Nat.ne_of_lt x_b_kt.1), (Nat.ne_of_lt x_b_ba.1), (Nat.ne_of_lt x_b_fa.1), (Nat.ne_of_lt x_b_wb.1)⟩), (nm4 ⟨(Nat.ne_of_lt x_b_kt.2), (Nat.ne_of_lt x_b_ba.2), (Nat.ne_of_lt x_b_fa.2), (Nat.ne_of_lt x_b_wb.2)⟩)⟩
        have S_oc := S_oc.keep Kc ⟨(nm4 ⟨(Nat.ne_of_lt x_c_kt.1), (Nat.ne_of_lt x_c_ba.1), (Nat.ne_of_lt x_c_fa.1), (Nat.ne_of_lt x_c_wb.1)⟩), (nm4 ⟨(Nat.ne_of_lt x_c_kt.2), (Nat.ne_of_lt x_c_ba.2), (Nat.ne_of_lt x_c_fa.2), (Nat.ne_of_lt x_c_wb.2)⟩)⟩
        have SW : h13.size ≤ (h25).size := Nat.le_trans SW Kc.1
        have A_k0x := A_k0x.keep Kc (nm4 ⟨(Ne.symm (Nat.ne_of_lt l_kt_k0x)), dd1, dd2, dd3⟩)
        have A_nb := A_n
        have totb : (([] : List Int8) ++ (enc NB ++ (enc (u8s ub).length ++ u8s ub))).length + Yb.length ≤ 32 := by simp only [List.length_append]; omega
        have HK : KTI Z _ n0 kt ba fa wb b P 1 [.ref k0x, .ref nb, .null, .null, .null, .null, .null, .null] [(0 : Int32), ffb, (0 : Int32), (0 : Int32), (0 : Int32), (0 : Int32), (0 : Int32), (0 : Int32)] lab := HK2
        have A_wb := A_wb2
        refine WP.lstore KW17.1 187 [.val (.int pa), .val (.int pb), .val (.long na_), .second, .val (.long nb_), .second, .val (.int sh), .val (.int xx), .val (.int bb), .val (.int lA), .val (.int lB), .val (.int (0 : Int32)), .val (.int ((XT.ushr sh (11 : Int32)) &&& (63 : Int32))), .val (.long nA), .second, .val (.long nB), .second, .val (.long nC), .second, .val (.int b0), .val (.int b1), .val (.int dd), .val (.ref oa), .val (.ref ob), .val (.ref oc), .val (.ref kt), .val (.long (-1 : Int64)), .second, .val (.long zzb), .second, .unset, .unset, .unset] at_185 rfl rfl ?_
        refine WP.aload KW17.1 189 at_187 rfl rfl rfl ?_
        refine WP.callV KW17.1 (a := kt) (C := "com/example/vestline/vestline/util/KeptTexts") 192 24 193 0 [] [] (hw _ (List.mem_of_getElem? (i := 113) rfl)) (hw _ (List.mem_of_getElem? (i := 114) rfl)) rfl (hw _ (List.mem_of_getElem? (i := 116) rfl)) (hw _ (List.mem_of_getElem? (i := 115) rfl)) (hw _ (List.mem_of_getElem? (i := 29) rfl)) (hw _ (List.mem_of_getElem? (i := 117) rfl)) (by decide) own_pd_28 rfl rfl rfl (by decide) (by decide) (Nat.le_of_eq rfl) rfl at_189 rfl rfl rfl (by decide) (by decide) HK.ex (own_forget l Z a0 hw n0 h25 kt ba fa wb b P 1 [.ref k0x, .ref nb, .null, .null, .null, .null, .null, .null] [(0 : Int32), ffb, (0 : Int32), (0 : Int32), (0 : Int32), (0 : Int32), (0 : Int32), (0 : Int32)] lab HK ([] : List Int8).length hlb (by omega) (by decide)) (r0_next fun h40 q41 => ?_)
        obtain ⟨⟨fg, hfg, HK⟩, Kc⟩ := q41
        have Z0 : n0 ≤ (h40).size := Nat.le_trans Z0 Kc.1
        have SS := SS.keep Kc (kn2 (by omega) (by omega))
        have S_oa := S_oa.keep Kc ⟨(nm2 ⟨(Nat.ne_of_lt x_a_kt.1), (Nat.ne_of_lt x_a_fa.1)⟩), (nm2 ⟨(Nat.ne_of_lt x_a_kt.2), (Nat.ne_of_lt x_a_fa.2)⟩)⟩
        have S_ob := S_ob.keep Kc ⟨(nm2 ⟨(Nat.ne_of_lt x_b_kt.1), (Nat.ne_of_lt x_b_fa.1)⟩), (nm2 ⟨(Nat.ne_of_lt x_b_kt.2), (Nat.ne_of_lt x_b_fa.2)⟩)⟩
        have S_oc := S_oc.keep Kc ⟨(nm2 ⟨(Nat.ne_of_lt x_c_kt.1), (Nat.ne_of_lt x_c_fa.1)⟩), (nm2 ⟨(Nat.ne_of_lt x_c_kt.2), (Nat.ne_of_lt x_c_fa.2)⟩)⟩
        have SW : h13.size ≤ (h40).size := Nat.le_trans SW Kc.1
        have A_k0x := A_k0x.keep Kc (nm2 ⟨(Ne.symm (Nat.ne_of_lt l_kt_k0x)), dd2⟩)
        have A_nb := A_nb.keep Kc (nm2 ⟨(Ne.symm (Nat.ne_of_lt l_kt_nb)), (Ne.symm (Nat.ne_of_lt l_fa_nb))⟩)
        have A_wb := A_wb.keep Kc (nm2 ⟨(Ne.symm g3), (Ne.symm g6)⟩)
        have HK : KTI Z _ n0 kt ba fa wb b P 1 [.ref k0x, .ref nb, .null, .null, .null, .null, .null, .null] [(0 : Int32), fg, (0 : Int32), (0 : Int32), (0 : Int32), (0 : Int32), (0 : Int32), (0 : Int32)] lab := HK
        have A_nb : ArB Z h40 nb (([] : List Int8) ++ ((enc NB ++ (enc (u8s ub).length ++ u8s ub)) ++ Yb)) := by simpa using A_nb
        have totg : ([] : List Int8).length + ((enc NB ++ (enc (u8s ub).length ++ u8s ub)) ++ Yb).length ≤ 32 := by
          have e3 := totb
          simp only [List.length_append] at e3 ⊢; omega
        refine WP.aload KW17.1 194 at_192 rfl rfl rfl ?_
        refine WP.aload KW17.1 196 at_194 rfl rfl rfl ?_
        refine WP.lload KW17.1 198 at_196 rfl rfl ?_
        refine WP.callV KW17.1 (a := kt) (C := "com/example/vestline/vestline/util/KeptTexts") 201 25 225 0 [(.ref oc), (.long nC)] [] (hw _ (List.mem_of_getElem? (i := 54) rfl)) (hw _ (List.mem_of_getElem? (i := 55) rfl)) rfl (hw _ (List.mem_of_getElem? (i := 57) rfl)) (hw _ (List.mem_of_getElem? (i := 56) rfl)) (hw _ (List.mem_of_getElem? (i := 29) rfl)) (hw _ (List.mem_of_getElem? (i := 58) rfl)) (by decide) own_pd_27 rfl rfl rfl (by decide) (by decide) (Nat.le_of_eq rfl) rfl at_198 rfl rfl rfl (by decide) (by decide) HK.ex (own_keep l Z a0 hw n0 h40 kt ba fa wb b P 1 [.ref k0x, .ref nb, .null, .null, .null, .null, .null, .null] [(0 : Int32), fg, (0 : Int32), (0 : Int32), (0 : Int32), (0 : Int32), (0 : Int32), (0 : Int32)] lab HK oc vc uc S_oc _ A_wb hw64 ⟨(Nat.ne_of_lt x_c_wb.1), (Nat.ne_of_lt x_c_wb.2)⟩ cs fm SS nC NC hNC nb ([] : List Int8) ((enc NB ++ (enc (u8s ub).length ++ u8s ub)) ++ Yb) fg (0 : Int32) rfl A_nb totg rfl hfg rfl rfl (by decide) n0_nb ⟨(Ne.symm (Nat.ne_of_lt l_kt_nb)), (Ne.symm (Nat.ne_of_lt l_ba_nb)), (Ne.symm (Nat.ne_of_lt l_fa_nb)), (Ne.symm (Nat.ne_of_lt l_wb_nb))⟩ ⟨(Nat.ne_of_lt x_c_kt.1), (Nat.ne_of_lt x_c_ba.1), (Nat.ne_of_lt x_c_fa.1), (Nat.ne_of_lt l_oc_nb), (Nat.ne_of_lt x_c_kt.2), (Nat.ne_of_lt x_c_ba.2), (Nat.ne_of_lt x_c_fa.2), (Nat.ne_of_lt l_vc_nb)⟩) (r1_next fun r45 h43 q44 => ?_)
        obtain ⟨zzc, lac, rfl, ⟨wsc, hw64, A_wb2⟩, hk⟩ := q44
        rcases hk with ⟨f1c, f2c, hzc, hlc, ⟨ffc, hfc, HK2⟩, ⟨Yc, hYc, A_n⟩, Kc⟩ | ⟨nc, ffc, Yc, hnf, sz_nc, hfc, hzc, hlc, HK2, hYc, A_n, Kc⟩
        · skip
          have Z0 : n0 ≤ (h43).size := Nat.le_trans Z0 Kc.1
          have SS := SS.keep Kc (kn4 (by omega) (by omega) (by omega) (by omega))
          have S_oa := S_oa.keep Kc ⟨(nm4 ⟨(Nat.ne_of_lt x_a_kt.1), (Nat.ne_of_lt x_a_fa.1), (Nat.ne_of_lt x_a_wb.1), (Nat.ne_of_lt l_oa_nb)⟩), (nm4 ⟨(Nat.ne_of_lt x_a_kt.2), (Nat.ne_of_lt x_a_fa.2), (Nat.ne_of_lt x_a_wb.2), (Nat.ne_of_lt l_va_nb)⟩)⟩
          have S_ob := S_ob.keep Kc ⟨(nm4 ⟨(Nat.ne_of_lt x_b_kt.1), (Nat.ne_of_lt x_b_fa.1), (Nat.ne_of_lt x_b_wb.1), (Nat.ne_of_lt l_ob_nb)⟩), (nm4 ⟨(Nat.ne_of_lt x_b_kt.2), (Nat.ne_of_lt x_b_fa.2), (Nat.ne_of_lt x_b_wb.2), (Nat.ne_of_lt l_vb_nb)⟩)⟩
          have S_oc := S_oc.keep Kc ⟨(nm4 ⟨(Nat.ne_of_lt x_c_kt.1), (Nat.ne_of_lt x_c_fa.1), (Nat.ne_of_lt x_c_wb.1), (Nat.ne_of_lt l_oc_nb)⟩), (nm4 ⟨(Nat.ne_of_lt x_c_kt.2), (Nat.ne_of_lt x_c_fa.2), (Nat.ne_of_lt x_c_wb.2), (Nat.ne_of_lt l_vc_nb)⟩)⟩
          have SW : h13.size ≤ (h43).size := Nat.le_trans SW Kc.1
          have A_k0x := A_k0x.keep Kc (nm4 ⟨(Ne.symm (Nat.ne_of_lt l_kt_k0x)), dd2, dd3, (Nat.ne_of_lt l_k0x_nb)⟩)
          have A_nb := A_n
          have totc : (([] : List Int8) ++ (enc NC ++ (enc (u8s uc).length ++ u8s uc))).length + Yc.length ≤ 32 := by
            have e3 := totg
            simp only [List.length_append] at e3 hYc ⊢; omega
          have HK : KTI Z _ n0 kt ba fa wb b P 1 [.ref k0x, .ref nb, .null, .null, .null, .null, .null, .null] [(0 : Int32), ffc, (0 : Int32), (0 : Int32), (0 : Int32), (0 : Int32), (0 : Int32), (0 : Int32)] lac := HK2
          have A_wb := A_wb2
          refine WP.lstore KW17.1 203 [.val (.int pa), .val (.int pb), .val (.long na_), .second, .val (.long nb_), .second, .val (.int sh), .val (.int xx), .val (.int bb), .val (.int lA), .val (.int lB), .val (.int (0 : Int32)), .val (.int ((XT.ushr sh (11 : Int32)) &&& (63 : Int32))), .val (.long nA), .second, .val (.long nB), .second, .val (.long nC), .second, .val (.int b0), .val (.int b1), .val (.int dd), .val (.ref oa), .val (.ref ob), .val (.ref oc), .val (.ref kt), .val (.long (-1 : Int64)), .second, .val (.long zzb), .second, .val (.long zzc), .second, .unset] at_201 rfl rfl ?_
          refine WP.lload KW17.1 205 at_203 rfl rfl ?_
          refine WP.lload KW17.1 207 at_205 rfl rfl ?_
          refine WP.lcmp KW17.1 208 at_207 rfl ?_
          refine WP.ifl_ne KW17.1 240 211 at_208 (by decide) rfl (fun c208 => ?_) (fun c208 => ?_)
          · skip
            exact absurd (by omega) c208
          · skip
            refine WP.aload KW17.1 213 at_211 rfl rfl rfl ?_
            refine WP.lload KW17.1 215 at_213 rfl rfl ?_
            refine WP.aload KW17.1 217 at_215 rfl rfl rfl ?_
            refine WP.callV KW17.1 (a := kt) (C := "com/example/vestline/vestline/util/KeptTexts") 220 25 225 0 [(.long zzc), (.ref oc)] [] (hw _ (List.mem_of_getElem? (i := 118) rfl)) (hw _ (List.mem_of_getElem? (i := 119) rfl)) rfl (hw _ (List.mem_of_getElem? (i := 121) rfl)) (hw _ (List.mem_of_getElem? (i := 120) rfl)) (hw _ (List.mem_of_getElem? (i := 29) rfl)) (hw _ (List.mem_of_getElem? (i := 122) rfl)) (by decide) own_pd_29 rfl rfl rfl (by decide) (by decide) (Nat.le_of_eq rfl) rfl at_217 rfl rfl rfl (by decide) (by decide) HK.ex (own_holds l Z a0 hw n0 h43 kt ba fa wb b P 1 [.ref k0x, .ref nb, .null, .null, .null, .null, .null, .null] [(0 : Int32), ffc, (0 : Int32), (0 : Int32), (0 : Int32), (0 : Int32), (0 : Int32), (0 : Int32)] lac HK zzc 1 NC ([] : List Int8) Yc nb uc rfl A_nb (by have e3 := totc; simp only [List.length_append] at e3 ⊢; omega) (by omega) (by decide) hzc hNC2 oc vc S_oc _ A_wb hw64 ⟨(Nat.ne_of_lt x_c_wb.1), (Nat.ne_of_lt x_c_wb.2)⟩ cs fm SS (Ne.symm (Nat.ne_of_lt l_wb_nb))) (r1_next fun r48 h46 q47 => ?_)
            obtain ⟨rfl, Kc, wxc, hw64, A_wb⟩ := q47
            have Z0 : n0 ≤ (h46).size := Nat.le_trans Z0 Kc.1
            have SS := SS.keep Kc (kn1 (by omega))
            have S_oa := S_oa.keep Kc ⟨(nm1 (Nat.ne_of_lt x_a_wb.1)), (nm1 (Nat.ne_of_lt x_a_wb.2))⟩
            have S_ob := S_ob.keep Kc ⟨(nm1 (Nat.ne_of_lt x_b_wb.1)), (nm1 (Nat.ne_of_lt x_b_wb.2))⟩
            have S_oc := S_oc.keep Kc ⟨(nm1 (Nat.ne_of_lt x_c_wb.1)), (nm1 (Nat.ne_of_lt x_c_wb.2))⟩
            have SW : h13.size ≤ (h46).size := Nat.le_trans SW Kc.1
            have A_k0x := A_k0x.keep Kc (nm1 dd3)
            have A_nb := A_nb.keep Kc (nm1 (Ne.symm (Nat.ne_of_lt l_wb_nb)))
            have HK := HK.keep Kc ⟨(nm1 g3), (nm1 g5), (nm1 g6)⟩
            refine WP.if_eq KW17.1 240 223 at_220 (by decide) rfl (fun c220 => ?_) (fun c220 => ?_)
            · skip
              exact absurd c220 (by decide)
            · skip
              refine WP.aload KW17.1 225 at_223 rfl rfl rfl ?_
              refine WP.lload KW17.1 227 at_225 rfl rfl ?_
              refine WP.callV KW17.1 (a := kt) (C := "com/example/vestline/vestline/util/KeptTexts") 230 25 225 0 [(.long zzc)] [] (hw _ (List.mem_of_getElem? (i := 137) rfl)) (hw _ (List.mem_of_getElem? (i := 138) rfl)) rfl (hw _ (List.mem_of_getElem? (i := 140) rfl)) (hw _ (List.mem_of_getElem? (i := 139) rfl)) (hw _ (List.mem_of_getElem? (i := 29) rfl)) (hw _ (List.mem_of_getElem? (i := 141) rfl)) (by decide) own_pd_30 rfl rfl rfl (by decide) (by decide) (Nat.le_of_eq rfl) rfl at_227 rfl rfl rfl (by decide) (by decide) HK.ex (own_number l Z a0 hw n0 h46 kt ba fa wb b P 1 [.ref k0x, .ref nb, .null, .null, .null, .null, .null, .null] [(0 : Int32), ffc, (0 : Int32), (0 : Int32), (0 : Int32), (0 : Int32), (0 : Int32), (0 : Int32)] lac HK zzc 1 NC ([] : List Int8) Yc nb uc rfl A_nb (by have e3 := totc; simp only [List.length_append] at e3 ⊢; omega) (by omega) (by decide) hzc hNC2) (r1_next fun r51 h49 q50 => ?_)
              obtain ⟨⟨zvc, rfl, hzvc⟩, rfl⟩ := q50
              obtain rfl : nC = zvc := i64_eq (by rw [hzvc, hNC])
              refine WP.lload KW17.1 232 at_230 rfl rfl ?_
              refine WP.lcmp KW17.1 233 at_232 rfl ?_
              refine WP.ifl_ne KW17.1 240 236 at_233 (by decide) rfl (fun c233 => ?_) (fun c233 => ?_)
              · skip
                exact absurd rfl c233
              · skip
                refine WP.iconst KW17.1 (1 : Int32) 237 at_236 rfl rfl ?_
                refine WP.goto KW17.1 241 at_237 (by decide) ?_
                refine WP.istore KW17.1 243 [.val (.int pa), .val (.int pb), .val (.long na_), .second, .val (.long nb_), .second, .val (.int sh), .val (.int xx), .val (.int bb), .val (.int lA), .val (.int lB), .val (.int (0 : Int32)), .val (.int ((XT.ushr sh (11 : Int32)) &&& (63 : Int32))), .val (.long nA), .second, .val (.long nB), .second, .val (.long nC), .second, .val (.int b0), .val (.int b1), .val (.int dd), .val (.ref oa), .val (.ref ob), .val (.ref oc), .val (.ref kt), .val (.long (-1 : Int64)), .second, .val (.long zzb), .second, .val (.long zzc), .second, .val (.int (1 : Int32))] at_241 rfl rfl ?_
                refine WP.iload KW17.1 245 at_243 rfl rfl ?_
                refine WP.if_eq KW17.1 285 248 at_245 (by decide) rfl (fun c245 => ?_) (fun c245 => ?_)
                · skip
                  refine WP.iload KW17.1 287 at_285 rfl rfl ?_
                  refine WP.iret KW17.1 rfl (Or.inr (Or.inl rfl)) rfl at_287 ?_ (by decide) (by decide)
                  exact ⟨⟨_, rfl, rfl⟩, SW⟩
                · skip
                  exact absurd c245 (by decide)
        · skip
          exact absurd ⟨by simp only [List.length_append]; omega, by omega⟩ hnf
    · skip
      exact absurd c162 (by decide)
  · skip
    refine WP.iconst KW.1 (1 : Int32) 42 at_41 rfl rfl ?_
    refine WP.goto KW.1 46 at_42 (by decide) ?_
    refine WP.istore KW.1 48 [.val (.int pa), .val (.int pb), .val (.long na_), .second, .val (.long nb_), .second, .val (.int sh), .val (.int xx), .val (.int bb), .val (.int lA), .val (.int lB), .val (.int (1 : Int32)), .unset, .unset, .unset, .unset, .unset, .unset, .unset, .unset, .unset, .unset, .unset, .unset, .unset, .unset, .unset, .unset, .unset, .unset, .unset, .unset, .unset] at_46 rfl rfl ?_
    refine WP.iload KW.1 50 at_48 rfl rfl ?_
    refine WP.bipush KW.1 (11 : Int32) 52 at_50 rfl rfl ?_
    refine WP.iushr KW.1 53 at_52 rfl ?_
    refine WP.bipush KW.1 (63 : Int32) 55 at_53 rfl rfl ?_
    refine WP.iand KW.1 56 at_55 rfl ?_
    refine WP.istore KW.1 58 [.val (.int pa), .val (.int pb), .val (.long na_), .second, .val (.long nb_), .second, .val (.int sh), .val (.int xx), .val (.int bb), .val (.int lA), .val (.int lB), .val (.int (1 : Int32)), .val (.int ((XT.ushr sh (11 : Int32)) &&& (63 : Int32))), .unset, .unset, .unset, .unset, .unset, .unset, .unset, .unset, .unset, .unset, .unset, .unset, .unset, .unset, .unset, .unset, .unset, .unset, .unset, .unset] at_56 rfl rfl ?_
    refine WP.lloadN KW.1 59 at_58 rfl rfl ?_
    refine WP.ldc2J KW.1 (v := (9223372036854775807 : Int64)) 62 (hw _ (List.mem_of_getElem? (i := 0) rfl)) at_59 rfl ?_
    refine WP.land KW.1 63 at_62 rfl ?_
    refine WP.lstore KW.1 65 [.val (.int pa), .val (.int pb), .val (.long na_), .second, .val (.long nb_), .second, .val (.int sh), .val (.int xx), .val (.int bb), .val (.int lA), .val (.int lB), .val (.int (1 : Int32)), .val (.int ((XT.ushr sh (11 : Int32)) &&& (63 : Int32))), .val (.long (na_ &&& (9223372036854775807 : Int64))), .second, .unset, .unset, .unset, .unset, .unset, .unset, .unset, .unset, .unset, .unset, .unset, .unset, .unset, .unset, .unset, .unset, .unset, .unset] at_63 rfl rfl ?_
    have q0 := c_maskL na_ (9223372036854775807 : Int64) 63 (by decide) rfl
    rw [show ((2 ^ 63 : Nat) : Int) = 9223372036854775808 from rfl] at q0
    obtain ⟨NA, hNA⟩ : ∃ n : Nat, (na_ &&& (9223372036854775807 : Int64)).toInt = (n : Nat) := ⟨(na_ &&& (9223372036854775807 : Int64)).toInt.toNat, by omega⟩
    have hNA2 : NA < 9223372036854775808 := by omega
    clear q0
    generalize (na_ &&& (9223372036854775807 : Int64)) = nA at hNA ⊢
    refine WP.lload KW.1 67 at_65 rfl rfl ?_
    refine WP.ldc2J KW.1 (v := (9223372036854775807 : Int64)) 70 (hw _ (List.mem_of_getElem? (i := 0) rfl)) at_67 rfl ?_
    refine WP.land KW.1 71 at_70 rfl ?_
    refine WP.lstore KW.1 73 [.val (.int pa), .val (.int pb), .val (.long na_), .second, .val (.long nb_), .second, .val (.int sh), .val (.int xx), .val (.int bb), .val (.int lA), .val (.int lB), .val (.int (1 : Int32)), .val (.int ((XT.ushr sh (11 : Int32)) &&& (63 : Int32))), .val (.long nA), .second, .val (.long (nb_ &&& (9223372036854775807 : Int64))), .second, .unset, .unset, .unset, .unset, .unset, .unset, .unset, .unset, .unset, .unset, .unset, .unset, .unset, .unset, .unset, .unset] at_71 rfl rfl ?_
    have q0 := c_maskL nb_ (9223372036854775807 : Int64) 63 (by decide) rfl
    rw [show ((2 ^ 63 : Nat) : Int) = 9223372036854775808 from rfl] at q0
    obtain ⟨NB, hNB⟩ : ∃ n : Nat, (nb_ &&& (9223372036854775807 : Int64)).toInt = (n : Nat) := ⟨(nb_ &&& (9223372036854775807 : Int64)).toInt.toNat, by omega⟩
    have hNB2 : NB < 9223372036854775808 := by omega
    clear q0
    generalize (nb_ &&& (9223372036854775807 : Int64)) = nB at hNB ⊢
    refine WP.lload KW.1 75 at_73 rfl rfl ?_
    refine WP.iload KW.1 77 at_75 rfl rfl ?_
    refine WP.lushr KW.1 78 at_77 rfl ?_
    refine WP.lstore KW.1 80 [.val (.int pa), .val (.int pb), .val (.long na_), .second, .val (.long nb_), .second, .val (.int sh), .val (.int xx), .val (.int bb), .val (.int lA), .val (.int lB), .val (.int (1 : Int32)), .val (.int ((XT.ushr sh (11 : Int32)) &&& (63 : Int32))), .val (.long nA), .second, .val (.long nB), .second, .val (.long (XT.ushrL nB ((XT.ushr sh (11 : Int32)) &&& (63 : Int32)))), .second, .unset, .unset, .unset, .unset, .unset, .unset, .unset, .unset, .unset, .unset, .unset, .unset, .unset, .unset] at_78 rfl rfl ?_
    obtain ⟨NC, hNC, hNCB⟩ := ushrL_le ((XT.ushr sh (11 : Int32)) &&& (63 : Int32)) hNB
    have hNC2 : NC < 9223372036854775808 := by omega
    generalize (XT.ushrL nB ((XT.ushr sh (11 : Int32)) &&& (63 : Int32))) = nC at hNC ⊢
    refine WP.iloadN KW.1 81 at_80 rfl rfl ?_
    refine WP.i2cC KW.1 82 at_81 rfl ?_
    refine WP.istore KW.1 84 [.val (.int pa), .val (.int pb), .val (.long na_), .second, .val (.long nb_), .second, .val (.int sh), .val (.int xx), .val (.int bb), .val (.int lA), .val (.int lB), .val (.int (1 : Int32)), .val (.int ((XT.ushr sh (11 : Int32)) &&& (63 : Int32))), .val (.long nA), .second, .val (.long nB), .second, .val (.long nC), .second, .val (.int (c16 pb)), .unset, .unset, .unset, .unset, .unset, .unset, .unset, .unset, .unset, .unset, .unset, .unset, .unset] at_82 rfl rfl ?_
    refine WP.iloadN KW.1 85 at_84 rfl rfl ?_
    refine WP.bipush KW.1 (16 : Int32) 87 at_85 rfl rfl ?_
    refine WP.iushr KW.1 88 at_87 rfl ?_
    refine WP.i2cC KW.1 89 at_88 rfl ?_
    refine WP.istore KW.1 91 [.val (.int pa), .val (.int pb), .val (.long na_), .second, .val (.long nb_), .second, .val (.int sh), .val (.int xx), .val (.int bb), .val (.int lA), .val (.int lB), .val (.int (1 : Int32)), .val (.int ((XT.ushr sh (11 : Int32)) &&& (63 : Int32))), .val (.long nA), .second, .val (.long nB), .second, .val (.long nC), .second, .val (.int (c16 pb)), .val (.int (c16 (XT.ushr pb (16 : Int32)))), .unset, .unset, .unset, .unset, .unset, .unset, .unset, .unset, .unset, .unset, .unset, .unset] at_89 rfl rfl ?_
    refine WP.iload KW.1 93 at_91 rfl rfl ?_
    refine WP.bipush KW.1 (127 : Int32) 95 at_93 rfl rfl ?_
    refine WP.iand KW.1 96 at_95 rfl ?_
    refine WP.istore KW.1 98 [.val (.int pa), .val (.int pb), .val (.long na_), .second, .val (.long nb_), .second, .val (.int sh), .val (.int xx), .val (.int bb), .val (.int lA), .val (.int lB), .val (.int (1 : Int32)), .val (.int ((XT.ushr sh (11 : Int32)) &&& (63 : Int32))), .val (.long nA), .second, .val (.long nB), .second, .val (.long nC), .second, .val (.int (c16 pb)), .val (.int (c16 (XT.ushr pb (16 : Int32)))), .val (.int (xx &&& (127 : Int32))), .unset, .unset, .unset, .unset, .unset, .unset, .unset, .unset, .unset, .unset, .unset] at_96 rfl rfl ?_
    have hb0 := c16_rng pb
    generalize (c16 pb) = b0 at hb0 ⊢
    have hb1 := c16_rng (XT.ushr pb (16 : Int32))
    generalize (c16 (XT.ushr pb (16 : Int32))) = b1 at hb1 ⊢
    have hd := c_and xx (127 : Int32) (by decide)
    rw [show (127 : Int32).toInt = 127 from rfl] at hd
    generalize (xx &&& (127 : Int32)) = dd at hd ⊢
    have x0 := xor_cls b0 dd hb0 hd
    have x1 := xor_cls b1 dd hb1 hd
    have e0 : c16 (b0 ^^^ dd) = b0 ^^^ dd := c16_id ⟨x0.1, x0.2.1⟩
    have e1 : c16 (b1 ^^^ dd) = b1 ^^^ dd := c16_id ⟨x1.1, x1.2.1⟩
    have u0 := u8c_cls x0.2.2 x0.1 hb0.1
    have u1 := u8c_cls x1.2.2 x1.1 hb1.1
    have hcls := u8s_cls LB u0.symm u1.symm
    rw [← e0, ← e1] at hcls
    have a0_ := c16_rng pa
    have a1_ := c16_rng (XT.ushr pa (16 : Int32))
    refine WP.iload KW.1 100 at_98 rfl rfl ?_
    refine WP.iloadN KW.1 101 at_100 rfl rfl ?_
    refine WP.i2cC KW.1 102 at_101 rfl ?_
    refine WP.iloadN KW.1 103 at_102 rfl rfl ?_
    refine WP.bipush KW.1 (16 : Int32) 105 at_103 rfl rfl ?_
    refine WP.iushr KW.1 106 at_105 rfl ?_
    refine WP.i2cC KW.1 107 at_106 rfl ?_
    refine WP.callSX (own_EW hw) KW 110 6 14 0 [(.int lA), (.int (c16 pa)), (.int (c16 (XT.ushr pa (16 : Int32))))] [] (hw _ (List.mem_of_getElem? (i := 1) rfl)) (hw _ (List.mem_of_getElem? (i := 2) rfl)) (hw _ (List.mem_of_getElem? (i := 3) rfl)) (hw _ (List.mem_of_getElem? (i := 4) rfl)) (by decide) own_pd_26 rfl rfl rfl (by decide) (by decide) (Nat.le_of_eq rfl) rfl at_107 rfl rfl rfl (by decide) (by decide) (Nat.zero_le _) HV (own_text l Z a0 hw n0 h lA (c16 pa) (c16 (XT.ushr pa (16 : Int32))) LA hLA hLA2 a0_ a1_ Z0 cs fm SS) (x1_next (fun k55 r54 h52 KW56 sz57 HV q53 => ?_))
    obtain ⟨oa, va, rfl, S_oa, Kc, sz_oa⟩ := q53
    have n0_oa : @LE.le Nat _ n0 oa := Nat.le_trans Z0 sz_oa
    have Z0 : n0 ≤ (h52).size := Nat.le_trans Z0 Kc.1
    have SS := SS.keep Kc (kn0)
    have SW : h52.size ≤ h52.size := Nat.le_refl _
    refine WP.astore KW56.1 112 [.val (.int pa), .val (.int pb), .val (.long na_), .second, .val (.long nb_), .second, .val (.int sh), .val (.int xx), .val (.int bb), .val (.int lA), .val (.int lB), .val (.int (1 : Int32)), .val (.int ((XT.ushr sh (11 : Int32)) &&& (63 : Int32))), .val (.long nA), .second, .val (.long nB), .second, .val (.long nC), .second, .val (.int b0), .val (.int b1), .val (.int dd), .val (.ref oa), .unset, .unset, .unset, .unset, .unset, .unset, .unset, .unset, .unset, .unset] at_110 rfl rfl rfl ?_
    refine WP.iload KW56.1 114 at_112 rfl rfl ?_
    refine WP.iload KW56.1 116 at_114 rfl rfl ?_
    refine WP.iload KW56.1 118 at_116 rfl rfl ?_
    refine WP.callSX (own_EW hw) KW56 121 12 28 0 [(.int lB), (.int b0), (.int b1)] [] (hw _ (List.mem_of_getElem? (i := 1) rfl)) (hw _ (List.mem_of_getElem? (i := 2) rfl)) (hw _ (List.mem_of_getElem? (i := 3) rfl)) (hw _ (List.mem_of_getElem? (i := 4) rfl)) (by decide) own_pd_26 rfl rfl rfl (by decide) (by decide) (Nat.le_of_eq rfl) rfl at_118 rfl rfl rfl (by decide) (by decide) SW HV (own_text l Z a0 hw n0 h52 lB b0 b1 LB hLB hLB2 hb0 hb1 Z0 cs fm SS) (x1_next (fun k61 r60 h58 KW62 sz63 HV q59 => ?_))
    obtain ⟨ob, vb, rfl, S_ob, Kc, sz_ob⟩ := q59
    have l_oa_ob : @LT.lt Nat _ oa ob := Nat.lt_of_lt_of_le S_oa.rg.1 sz_ob
    have l_va_ob : @LT.lt Nat _ va ob := Nat.lt_of_lt_of_le S_oa.rg.2 sz_ob
    have n0_ob : @LE.le Nat _ n0 ob := Nat.le_trans Z0 sz_ob
    have Z0 : n0 ≤ (h58).size := Nat.le_trans Z0 Kc.1
    have SS := SS.keep Kc (kn0)
    have S_oa := S_oa.keep Kc ⟨nm0 (by omega), nm0 (by omega)⟩
    have SW : h58.size ≤ h58.size := Nat.le_refl _
    refine WP.astore KW62.1 123 [.val (.int pa), .val (.int pb), .val (.long na_), .second, .val (.long nb_), .second, .val (.int sh), .val (.int xx), .val (.int bb), .val (.int lA), .val (.int lB), .val (.int (1 : Int32)), .val (.int ((XT.ushr sh (11 : Int32)) &&& (63 : Int32))), .val (.long nA), .second, .val (.long nB), .second, .val (.long nC), .second, .val (.int b0), .val (.int b1), .val (.int dd), .val (.ref oa), .val (.ref ob), .unset, .unset, .unset, .unset, .unset, .unset, .unset, .unset, .unset] at_121 rfl rfl rfl ?_
    refine WP.iload KW62.1 125 at_123 rfl rfl ?_
    refine WP.iload KW62.1 127 at_125 rfl rfl ?_
    refine WP.iload KW62.1 129 at_127 rfl rfl ?_
    refine WP.ixor KW62.1 130 at_129 rfl ?_
    refine WP.i2cC KW62.1 131 at_130 rfl ?_
    refine WP.iload KW62.1 133 at_131 rfl rfl ?_
    refine WP.iload KW62.1 135 at_133 rfl rfl ?_
    refine WP.ixor KW62.1 136 at_135 rfl ?_
    refine WP.i2cC KW62.1 137 at_136 rfl ?_
    refine WP.callSX (own_EW hw) KW62 140 18 42 0 [(.int lB), (.int (c16 (b0 ^^^ dd))), (.int (c16 (b1 ^^^ dd)))] [] (hw _ (List.mem_of_getElem? (i := 1) rfl)) (hw _ (List.mem_of_getElem? (i := 2) rfl)) (hw _ (List.mem_of_getElem? (i := 3) rfl)) (hw _ (List.mem_of_getElem? (i := 4) rfl)) (by decide) own_pd_26 rfl rfl rfl (by decide) (by decide) (Nat.le_of_eq rfl) rfl at_137 rfl rfl rfl (by decide) (by decide) SW HV (own_text l Z a0 hw n0 h58 lB (c16 (b0 ^^^ dd)) (c16 (b1 ^^^ dd)) LB hLB hLB2 (c16_rng _) (c16_rng _) Z0 cs fm SS) (x1_next (fun k67 r66 h64 KW68 sz69 HV q65 => ?_))
    obtain ⟨oc, vc, rfl, S_oc, Kc, sz_oc⟩ := q65
    have l_oa_oc : @LT.lt Nat _ oa oc := Nat.lt_of_lt_of_le S_oa.rg.1 sz_oc
    have l_va_oc : @LT.lt Nat _ va oc := Nat.lt_of_lt_of_le S_oa.rg.2 sz_oc
    have l_ob_oc : @LT.lt Nat _ ob oc := Nat.lt_of_lt_of_le S_ob.rg.1 sz_oc
    have l_vb_oc : @LT.lt Nat _ vb oc := Nat.lt_of_lt_of_le S_ob.rg.2 sz_oc
    have n0_oc : @LE.le Nat _ n0 oc := Nat.le_trans Z0 sz_oc
    have Z0 : n0 ≤ (h64).size := Nat.le_trans Z0 Kc.1
    have SS := SS.keep Kc (kn0)
    have S_oa := S_oa.keep Kc ⟨nm0 (by omega), nm0 (by omega)⟩
    have S_ob := S_ob.keep Kc ⟨nm0 (by omega), nm0 (by omega)⟩
    have SW : h64.size ≤ h64.size := Nat.le_refl _
    refine WP.astore KW68.1 142 [.val (.int pa), .val (.int pb), .val (.long na_), .second, .val (.long nb_), .second, .val (.int sh), .val (.int xx), .val (.int bb), .val (.int lA), .val (.int lB), .val (.int (1 : Int32)), .val (.int ((XT.ushr sh (11 : Int32)) &&& (63 : Int32))), .val (.long nA), .second, .val (.long nB), .second, .val (.long nC), .second, .val (.int b0), .val (.int b1), .val (.int dd), .val (.ref oa), .val (.ref ob), .val (.ref oc), .unset, .unset, .unset, .unset, .unset, .unset, .unset, .unset] at_140 rfl rfl rfl ?_
    generalize hua : [c16 pa, c16 (XT.ushr pa (16 : Int32))].take LA = ua at S_oa
    generalize hub : [b0, b1].take LB = ub at S_ob hcls
    generalize huc : [c16 (b0 ^^^ dd), c16 (b1 ^^^ dd)].take LB = uc at S_oc hcls
    clear hua hub huc
    have hnil : ([] : List Int8).length = 0 := rfl
    have en_a : (enc NA).length = el NA := rfl
    have em_a : (enc (u8s ua).length).length = el (u8s ua).length := rfl
    have en_b : (enc NB).length = el NB := rfl
    have em_b : (enc (u8s ub).length).length = el (u8s ub).length := rfl
    have en_c : (enc NC).length = el NC := rfl
    have em_c : (enc (u8s uc).length).length = el (u8s uc).length := rfl
    have ula := u8s_le ua
    have uga := S_oa.le.1
    have uea : el (u8s ua).length = 1 := el_small (by omega)
    have ulb := u8s_le ub
    have ugb := S_ob.le.1
    have ueb : el (u8s ub).length = 1 := el_small (by omega)
    have ulc := u8s_le uc
    have ugc := S_oc.le.1
    have uec : el (u8s uc).length = 1 := el_small (by omega)
    have lnA := el_le9 hNA2
    have lpA := el_pos NA
    have lnB := el_le9 hNB2
    have lpB := el_pos NB
    have lnC := el_le9 hNC2
    have lpC := el_pos NC
    have lCB := el_mono hNCB
    obtain ⟨loa, lva⟩ := S_oa.rg
    obtain ⟨lob, lvb⟩ := S_ob.rg
    obtain ⟨loc, lvc⟩ := S_oc.rg
    refine WP.new KW68.1 145 19 49 (hw _ (List.mem_of_getElem? (i := 27) rfl)) (hw _ (List.mem_of_getElem? (i := 28) rfl)) (hw _ (List.mem_of_getElem? (i := 29) rfl)) at_142 rfl rfl rfl (by decide) (by decide) (fun h70 kt z_kt E71 X_kt D72 => ?_)
    have l_oa_kt : @LT.lt Nat _ oa kt := z_kt ▸ S_oa.rg.1
    have l_va_kt : @LT.lt Nat _ va kt := z_kt ▸ S_oa.rg.2
    have l_ob_kt : @LT.lt Nat _ ob kt := z_kt ▸ S_ob.rg.1
    have l_vb_kt : @LT.lt Nat _ vb kt := z_kt ▸ S_ob.rg.2
    have l_oc_kt : @LT.lt Nat _ oc kt := z_kt ▸ S_oc.rg.1
    have l_vc_kt : @LT.lt Nat _ vc kt := z_kt ▸ S_oc.rg.2
    have n0_kt : @LE.le Nat _ n0 kt := z_kt ▸ Z0
    have Z0 : n0 ≤ (h70).size := Nat.le_trans Z0 E71.1
    have SS := SS.ext E71
    have S_oa := S_oa.keep (ext_keep E71 []) (by simp)
    have S_ob := S_ob.keep (ext_keep E71 []) (by simp)
    have S_oc := S_oc.keep (ext_keep E71 []) (by simp)
    have SW : h64.size ≤ (h70).size := Nat.le_trans SW E71.1
    have F_written_kt : Fld Z h70 kt "com/example/vestline/vestline/util/KeptTexts" "written" "[B" .null := D72 (Or.inl (hw _ (List.mem_of_getElem? (i := 35) rfl))) (ty := (.array .byte)) (by decide)
    have F_blockBits_kt : Fld Z h70 kt "com/example/vestline/vestline/util/KeptTexts" "blockBits" "I" (.int (0 : Int32)) := D72 (Or.inr (hw _ (List.mem_of_getElem? (i := 37) rfl))) (ty := .int) (by decide)
    have F_offsetMask_kt : Fld Z h70 kt "com/example/vestline/vestline/util/KeptTexts" "offsetMask" "I" (.int (0 : Int32)) := D72 (Or.inr (hw _ (List.mem_of_getElem? (i := 39) rfl))) (ty := .int) (by decide)
    have F_blocks_kt : Fld Z h70 kt "com/example/vestline/vestline/util/KeptTexts" "blocks" "[[B" .null := D72 (Or.inr (hw _ (List.mem_of_getElem? (i := 43) rfl))) (ty := (.array (.array .byte))) (by decide)
    have F_filled_kt : Fld Z h70 kt "com/example/vestline/vestline/util/KeptTexts" "filled" "[I" .null := D72 (Or.inr (hw _ (List.mem_of_getElem? (i := 46) rfl))) (ty := (.array .int)) (by decide)
    have F_block_kt : Fld Z h70 kt "com/example/vestline/vestline/util/KeptTexts" "block" "I" (.int (0 : Int32)) := D72 (Or.inl (hw _ (List.mem_of_getElem? (i := 99) rfl))) (ty := .int) (by decide)
    have F_last_kt : Fld Z h70 kt "com/example/vestline/vestline/util/KeptTexts" "last" "I" (.int (0 : Int32)) := D72 (Or.inl (hw _ (List.mem_of_getElem? (i := 109) rfl))) (ty := .int) (by decide)
    refine WP.dup KW68.1 146 at_145 rfl rfl ?_
    refine WP.iload KW68.1 148 at_146 rfl rfl ?_
    refine WP.bipush KW68.1 (8 : Int32) 150 at_148 rfl rfl ?_
    refine WP.callI KW68.1 (a := kt) 153 23 161 1 [(.int bb), (.int (8 : Int32))] [(.ref kt)] (hw _ (List.mem_of_getElem? (i := 30) rfl)) (hw _ (List.mem_of_getElem? (i := 31) rfl)) (hw _ (List.mem_of_getElem? (i := 29) rfl)) (hw _ (List.mem_of_getElem? (i := 32) rfl)) rfl (by decide) own_pd_2 rfl rfl rfl (by decide) (by decide) (Nat.le_of_eq rfl) rfl at_150 rfl rfl rfl (by decide) (by decide) (own_ktinit l Z a0 hw n0 h70 kt bb b P hbb hb hP X_kt F_written_kt F_blockBits_kt F_offsetMask_kt F_blocks_kt F_filled_kt F_block_kt F_last_kt n0_kt Z0) (r0_next fun h73 q74 => ?_)
    obtain ⟨ba, fa, wb, k0x, HK, A_wb, A_k0x, Kc, s_ba, s_fa, s_wb, s_k0, dd1, dd2, dd3, l_kt_k0x, n0_k0x⟩ := q74
    have x_a_ba : oa < ba ∧ va < ba := by have := S_oa.rg; omega
    have x_a_fa : oa < fa ∧ va < fa := by have := S_oa.rg; omega
    have x_a_wb : oa < wb ∧ va < wb := by have := S_oa.rg; omega
    have x_a_k0x : oa < k0x ∧ va < k0x := by have := S_oa.rg; omega
    have x_a_kt : oa < kt ∧ va < kt := by omega
    have x_b_ba : ob < ba ∧ vb < ba := by have := S_ob.rg; omega
    have x_b_fa : ob < fa ∧ vb < fa := by have := S_ob.rg; omega
    have x_b_wb : ob < wb ∧ vb < wb := by have := S_ob.rg; omega
    have x_b_k0x : ob < k0x ∧ vb < k0x := by have := S_ob.rg; omega
    have x_b_kt : ob < kt ∧ vb < kt := by omega
    have x_c_ba : oc < ba ∧ vc < ba := by have := S_oc.rg; omega
    have x_c_fa : oc < fa ∧ vc < fa := by have := S_oc.rg; omega
    have x_c_wb : oc < wb ∧ vc < wb := by have := S_oc.rg; omega
    have x_c_k0x : oc < k0x ∧ vc < k0x := by have := S_oc.rg; omega
    have x_c_kt : oc < kt ∧ vc < kt := by omega
    have Z0 : n0 ≤ (h73).size := Nat.le_trans Z0 Kc.1
    have SS := SS.keep Kc (kn1 (by omega))
    have S_oa := S_oa.keep Kc ⟨nm1 (by omega), nm1 (by omega)⟩
    have S_ob := S_ob.keep Kc ⟨nm1 (by omega), nm1 (by omega)⟩
    have S_oc := S_oc.keep Kc ⟨nm1 (by omega), nm1 (by omega)⟩
    have SW : h64.size ≤ (h73).size := Nat.le_trans SW Kc.1
    obtain ⟨-, -, -, -, -, n0_kt, n0_ba, n0_fa, n0_wb, -, g1, g2, g3, g4, g5, g6⟩ := HK.rg
    have hw64 : (List.replicate 64 (0 : Int8)).length = 64 := rfl
    have hk0 : (List.replicate P (0 : Int8)).length = P := List.length_replicate
    have A_k0x : ArB Z h73 k0x ([] ++ List.replicate P 0) := by simpa using A_k0x
    have tot0 : ([] : List Int8).length + (List.replicate P (0 : Int8)).length ≤ 32 := by omega
    refine WP.astore KW68.1 155 [.val (.int pa), .val (.int pb), .val (.long na_), .second, .val (.long nb_), .second, .val (.int sh), .val (.int xx), .val (.int bb), .val (.int lA), .val (.int lB), .val (.int (1 : Int32)), .val (.int ((XT.ushr sh (11 : Int32)) &&& (63 : Int32))), .val (.long nA), .second, .val (.long nB), .second, .val (.long nC), .second, .val (.int b0), .val (.int b1), .val (.int dd), .val (.ref oa), .val (.ref ob), .val (.ref oc), .val (.ref kt), .unset, .unset, .unset, .unset, .unset, .unset, .unset] at_153 rfl rfl rfl ?_
    refine WP.ldc2J KW68.1 (v := (-1 : Int64)) 158 (hw _ (List.mem_of_getElem? (i := 53) rfl)) at_155 rfl ?_
    refine WP.lstore KW68.1 160 [.val (.int pa), .val (.int pb), .val (.long na_), .second, .val (.long nb_), .second, .val (.int sh), .val (.int xx), .val (.int bb), .val (.int lA), .val (.int lB), .val (.int (1 : Int32)), .val (.int ((XT.ushr sh (11 : Int32)) &&& (63 : Int32))), .val (.long nA), .second, .val (.long nB), .second, .val (.long nC), .second, .val (.int b0), .val (.int b1), .val (.int dd), .val (.ref oa), .val (.ref ob), .val (.ref oc), .val (.ref kt), .val (.long (-1 : Int64)), .second, .unset, .unset, .unset, .unset, .unset] at_158 rfl rfl ?_
    refine WP.iload KW68.1 162 at_160 rfl rfl ?_
    refine WP.if_eq KW68.1 176 165 at_162 (by decide) rfl (fun c162 => ?_) (fun c162 => ?_)
    · skip
      exact absurd c162 (by decide)
    · skip
      refine WP.aload KW68.1 167 at_165 rfl rfl rfl ?_
      refine WP.aload KW68.1 169 at_167 rfl rfl rfl ?_
      refine WP.lload KW68.1 171 at_169 rfl rfl ?_
      refine WP.callV KW68.1 (a := kt) (C := "com/example/vestline/vestline/util/KeptTexts") 174 24 193 0 [(.ref oa), (.long nA)] [] (hw _ (List.mem_of_getElem? (i := 54) rfl)) (hw _ (List.mem_of_getElem? (i := 55) rfl)) rfl (hw _ (List.mem_of_getElem? (i := 57) rfl)) (hw _ (List.mem_of_getElem? (i := 56) rfl)) (hw _ (List.mem_of_getElem? (i := 29) rfl)) (hw _ (List.mem_of_getElem? (i := 58) rfl)) (by decide) own_pd_27 rfl rfl rfl (by decide) (by decide) (Nat.le_of_eq rfl) rfl at_171 rfl rfl rfl (by decide) (by decide) HK.ex (own_keep l Z a0 hw n0 h73 kt ba fa wb b P 0 [.ref k0x, .null, .null, .null, .null, .null, .null, .null] [(0 : Int32), (0 : Int32), (0 : Int32), (0 : Int32), (0 : Int32), (0 : Int32), (0 : Int32), (0 : Int32)] (0 : Int32) HK oa va ua S_oa _ A_wb hw64 ⟨(Nat.ne_of_lt x_a_wb.1), (Nat.ne_of_lt x_a_wb.2)⟩ cs fm SS nA NA hNA k0x ([] : List Int8) (List.replicate P 0) (0 : Int32) (0 : Int32) rfl A_k0x tot0 rfl rfl rfl rfl (by decide) n0_k0x ⟨(Ne.symm (Nat.ne_of_lt l_kt_k0x)), dd1, dd2, dd3⟩ ⟨(Nat.ne_of_lt x_a_kt.1), (Nat.ne_of_lt x_a_ba.1), (Nat.ne_of_lt x_a_fa.1), (Nat.ne_of_lt x_a_k0x.1), (Nat.ne_of_lt x_a_kt.2), (Nat.ne_of_lt x_a_ba.2), (Nat.ne_of_lt x_a_fa.2), (Nat.ne_of_lt x_a_k0x.2)⟩) (r1_next fun r78 h76 q77 => ?_)
      obtain ⟨zza, laa, rfl, ⟨wsa, hw64, A_wb2⟩, hk⟩ := q77
      rcases hk with ⟨f1a, f2a, hza, hla, ⟨ffa, hfa, HK2⟩, ⟨Ya, hYa, A_n⟩, Kc⟩ | ⟨na, ffa, Ya, hnf, sz_na, hfa, hza, hla, HK2, hYa, A_n, Kc⟩
      · skip
        have Z0 : n0 ≤ (h76).size := Nat.le_trans Z0 Kc.1
        have SS := SS.keep Kc (kn4 (by omega) (by omega) (by omega) (by omega))
        have S_oa := S_oa.keep Kc ⟨(nm4 ⟨(Nat.ne_of_lt x_a_kt.1), (Nat.ne_of_lt x_a_fa.1), (Nat.ne_of_lt x_a_wb.1), (Nat.ne_of_lt x_a_k0x.1)⟩), (nm4 ⟨(Nat.ne_of_lt x_a_kt.2), (Nat.ne_of_lt x_a_fa.2), (Nat.ne_of_lt x_a_wb.2), (Nat.ne_of_lt x_a_k0x.2)⟩)⟩
        have S_ob := S_ob.keep Kc ⟨(nm4 ⟨(Nat.ne_of_lt x_b_kt.1), (Nat.ne_of_lt x_b_fa.1), (Nat.ne_of_lt x_b_wb.1), (Nat.ne_of_lt x_b_k0x.1)⟩), (nm4 ⟨(Nat.ne_of_lt x_b_kt.2), (Nat.ne_of_lt x_b_fa.2), (Nat.ne_of_lt x_b_wb.2), (Nat.ne_of_lt x_b_k0x.2)⟩)⟩
        have S_oc := S_oc.keep Kc ⟨(nm4 ⟨(Nat.ne_of_lt x_c_kt.1), (Nat.ne_of_lt x_c_fa.1), (Nat.ne_of_lt x_c_wb.1), (Nat.ne_of_lt x_c_k0x.1)⟩), (nm4 ⟨(Nat.ne_of_lt x_c_kt.2), (Nat.ne_of_lt x_c_fa.2), (Nat.ne_of_lt x_c_wb.2), (Nat.ne_of_lt x_c_k0x.2)⟩)⟩
        have SW : h64.size ≤ (h76).size := Nat.le_trans SW Kc.1
        have A_k0x := A_n
        have tota : (([] : List Int8) ++ (enc NA ++ (enc (u8s ua).length ++ u8s ua))).length + Ya.length ≤ 32 := by
          have e3 := tot0
          simp only [List.length_append] at e3 hYa ⊢; omega
        have HK : KTI Z _ n0 kt ba fa wb b P 0 [.ref k0x, .null, .null, .null, .null, .null, .null, .null] [ffa, (0 : Int32), (0 : Int32), (0 : Int32), (0 : Int32), (0 : Int32), (0 : Int32), (0 : Int32)] laa := HK2
        have A_wb := A_wb2
        refine WP.lstore KW68.1 176 [.val (.int pa), .val (.int pb), .val (.long na_), .second, .val (.long nb_), .second, .val (.int sh), .val (.int xx), .val (.int bb), .val (.int lA), .val (.int lB), .val (.int (1 : Int32)), .val (.int ((XT.ushr sh (11 : Int32)) &&& (63 : Int32))), .val (.long nA), .second, .val (.long nB), .second, .val (.long nC), .second, .val (.int b0), .val (.int b1), .val (.int dd), .val (.ref oa), .val (.ref ob), .val (.ref oc), .val (.ref kt), .val (.long zza), .second, .unset, .unset, .unset, .unset, .unset] at_174 rfl rfl ?_
        refine WP.aload KW68.1 178 at_176 rfl rfl rfl ?_
        refine WP.aload KW68.1 180 at_178 rfl rfl rfl ?_
        refine WP.lload KW68.1 182 at_180 rfl rfl ?_
        refine WP.callV KW68.1 (a := kt) (C := "com/example/vestline/vestline/util/KeptTexts") 185 25 225 0 [(.ref ob), (.long nB)] [] (hw _ (List.mem_of_getElem? (i := 54) rfl)) (hw _ (List.mem_of_getElem? (i := 55) rfl)) rfl (hw _ (List.mem_of_getElem? (i := 57) rfl)) (hw _ (List.mem_of_getElem? (i := 56) rfl)) (hw _ (List.mem_of_getElem? (i := 29) rfl)) (hw _ (List.mem_of_getElem? (i := 58) rfl)) (by decide) own_pd_27 rfl rfl rfl (by decide) (by decide) (Nat.le_of_eq rfl) rfl at_182 rfl rfl rfl (by decide) (by decide) HK.ex (own_keep l Z a0 hw n0 h76 kt ba fa wb b P 0 [.ref k0x, .null, .null, .null, .null, .null, .null, .null] [ffa, (0 : Int32), (0 : Int32), (0 : Int32), (0 : Int32), (0 : Int32), (0 : Int32), (0 : Int32)] laa HK ob vb ub S_ob _ A_wb hw64 ⟨(Nat.ne_of_lt x_b_wb.1), (Nat.ne_of_lt x_b_wb.2)⟩ cs fm SS nB NB hNB k0x (([] : List Int8) ++ (enc NA ++ (enc (u8s ua).length ++ u8s ua))) Ya ffa (0 : Int32) rfl A_k0x tota rfl (by rw [hfa]; simp only [List.length_append]; omega) rfl rfl (by decide) n0_k0x ⟨(Ne.symm (Nat.ne_of_lt l_kt_k0x)), dd1, dd2, dd3⟩ ⟨(Nat.ne_of_lt x_b_kt.1), (Nat.ne_of_lt x_b_ba.1), (Nat.ne_of_lt x_b_fa.1), (Nat.ne_of_lt x_b_k0x.1), (Nat.ne_of_lt x_b_kt.2), (Nat.ne_of_lt x_b_ba.2), (Nat.ne_of_lt x_b_fa.2), (Nat.ne_of_lt x_b_k0x.2)⟩) (r1_next fun r81 h79 q80 => ?_)
        obtain ⟨zzb, lab, rfl, ⟨wsb, hw64, A_wb2⟩, hk⟩ := q80
        rcases hk with ⟨f1b, f2b, hzb, hlb, ⟨ffb, hfb, HK2⟩, ⟨Yb, hYb, A_n⟩, Kc⟩ | ⟨nb, ffb, Yb, hnf, sz_nb, hfb, hzb, hlb, HK2, hYb, A_n, Kc⟩
        · skip
          have Z0 : n0 ≤ (h79).size := Nat.le_trans Z0 Kc.1
          have SS := SS.keep Kc (kn4 (by omega) (by omega) (by omega) (by omega))
          have S_oa := S_oa.keep Kc ⟨(nm4 ⟨(Nat.ne_of_lt x_a_kt.1), (Nat.ne_of_lt x_a_fa.1), (Nat.ne_of_lt x_a_wb.1), (Nat.ne_of_lt x_a_k0x.1)⟩), (nm4 ⟨(Nat.ne_of_lt x_a_kt.2), (Nat.ne_of_lt x_a_fa.2), (Nat.ne_of_lt x_a_wb.2), (Nat.ne_of_lt x_a_k0x.2)⟩)⟩
          have S_ob := S_ob.keep Kc ⟨(nm4 ⟨(Nat.ne_of_lt x_b_kt.1), (Nat.ne_of_lt x_b_fa.1), (Nat.ne_of_lt x_b_wb.1), (Nat.ne_of_lt x_b_k0x.1)⟩), (nm4 ⟨(Nat.ne_of_lt x_b_kt.2), (Nat.ne_of_lt x_b_fa.2), (Nat.ne_of_lt x_b_wb.2), (Nat.ne_of_lt x_b_k0x.2)⟩)⟩
          have S_oc := S_oc.keep Kc ⟨(nm4 ⟨(Nat.ne_of_lt x_c_kt.1), (Nat.ne_of_lt x_c_fa.1), (Nat.ne_of_lt x_c_wb.1), (Nat.ne_of_lt x_c_k0x.1)⟩), (nm4 ⟨(Nat.ne_of_lt x_c_kt.2), (Nat.ne_of_lt x_c_fa.2), (Nat.ne_of_lt x_c_wb.2), (Nat.ne_of_lt x_c_k0x.2)⟩)⟩
          have SW : h64.size ≤ (h79).size := Nat.le_trans SW Kc.1
          have A_k0x := A_n
          have totb : ((([] : List Int8) ++ (enc NA ++ (enc (u8s ua).length ++ u8s ua))) ++ (enc NB ++ (enc (u8s ub).length ++ u8s ub))).length + Yb.length ≤ 32 := by
            have e3 := tota
            simp only [List.length_append] at e3 hYb ⊢; omega
          have HK : KTI Z _ n0 kt ba fa wb b P 0 [.ref k0x, .null, .null, .null, .null, .null, .null, .null] [ffb, (0 : Int32), (0 : Int32), (0 : Int32), (0 : Int32), (0 : Int32), (0 : Int32), (0 : Int32)] lab := HK2
          have A_wb := A_wb2
          refine WP.lstore KW68.1 187 [.val (.int pa), .val (.int pb), .val (.long na_), .second, .val (.long nb_), .second, .val (.int sh), .val (.int xx), .val (.int bb), .val (.int lA), .val (.int lB), .val (.int (1 : Int32)), .val (.int ((XT.ushr sh (11 : Int32)) &&& (63 : Int32))), .val (.long nA), .second, .val (.long nB), .second, .val (.long nC), .second, .val (.int b0), .val (.int b1), .val (.int dd), .val (.ref oa), .val (.ref ob), .val (.ref oc), .val (.ref kt), .val (.long zza), .second, .val (.long zzb), .second, .unset, .unset, .unset] at_185 rfl rfl ?_
          refine WP.aload KW68.1 189 at_187 rfl rfl rfl ?_
          refine WP.callV KW68.1 (a := kt) (C := "com/example/vestline/vestline/util/KeptTexts") 192 25 225 0 [] [] (hw _ (List.mem_of_getElem? (i := 113) rfl)) (hw _ (List.mem_of_getElem? (i := 114) rfl)) rfl (hw _ (List.mem_of_getElem? (i := 116) rfl)) (hw _ (List.mem_of_getElem? (i := 115) rfl)) (hw _ (List.mem_of_getElem? (i := 29) rfl)) (hw _ (List.mem_of_getElem? (i := 117) rfl)) (by decide) own_pd_28 rfl rfl rfl (by decide) (by decide) (Nat.le_of_eq rfl) rfl at_189 rfl rfl rfl (by decide) (by decide) HK.ex (own_forget l Z a0 hw n0 h79 kt ba fa wb b P 0 [.ref k0x, .null, .null, .null, .null, .null, .null, .null] [ffb, (0 : Int32), (0 : Int32), (0 : Int32), (0 : Int32), (0 : Int32), (0 : Int32), (0 : Int32)] lab HK (([] : List Int8) ++ (enc NA ++ (enc (u8s ua).length ++ u8s ua))).length hlb (by omega) (by decide)) (r0_next fun h82 q83 => ?_)
          obtain ⟨⟨fg, hfg, HK⟩, Kc⟩ := q83
          have Z0 : n0 ≤ (h82).size := Nat.le_trans Z0 Kc.1
          have SS := SS.keep Kc (kn2 (by omega) (by omega))
          have S_oa := S_oa.keep Kc ⟨(nm2 ⟨(Nat.ne_of_lt x_a_kt.1), (Nat.ne_of_lt x_a_fa.1)⟩), (nm2 ⟨(Nat.ne_of_lt x_a_kt.2), (Nat.ne_of_lt x_a_fa.2)⟩)⟩
          have S_ob := S_ob.keep Kc ⟨(nm2 ⟨(Nat.ne_of_lt x_b_kt.1), (Nat.ne_of_lt x_b_fa.1)⟩), (nm2 ⟨(Nat.ne_of_lt x_b_kt.2), (Nat.ne_of_lt x_b_fa.2)⟩)⟩
          have S_oc := S_oc.keep Kc ⟨(nm2 ⟨(Nat.ne_of_lt x_c_kt.1), (Nat.ne_of_lt x_c_fa.1)⟩), (nm2 ⟨(Nat.ne_of_lt x_c_kt.2), (Nat.ne_of_lt x_c_fa.2)⟩)⟩
          have SW : h64.size ≤ (h82).size := Nat.le_trans SW Kc.1
          have A_k0x := A_k0x.keep Kc (nm2 ⟨(Ne.symm (Nat.ne_of_lt l_kt_k0x)), dd2⟩)
          have A_wb := A_wb.keep Kc (nm2 ⟨(Ne.symm g3), (Ne.symm g6)⟩)
          have HK : KTI Z _ n0 kt ba fa wb b P 0 [.ref k0x, .null, .null, .null, .null, .null, .null, .null] [fg, (0 : Int32), (0 : Int32), (0 : Int32), (0 : Int32), (0 : Int32), (0 : Int32), (0 : Int32)] lab := HK
          have A_k0x : ArB Z h82 k0x ((([] : List Int8) ++ (enc NA ++ (enc (u8s ua).length ++ u8s ua))) ++ ((enc NB ++ (enc (u8s ub).length ++ u8s ub)) ++ Yb)) := by simpa using A_k0x
          have totg : (([] : List Int8) ++ (enc NA ++ (enc (u8s ua).length ++ u8s ua))).length + ((enc NB ++ (enc (u8s ub).length ++ u8s ub)) ++ Yb).length ≤ 32 := by
            have e3 := totb
            simp only [List.length_append] at e3 ⊢; omega
          refine WP.aload KW68.1 194 at_192 rfl rfl rfl ?_
          refine WP.aload KW68.1 196 at_194 rfl rfl rfl ?_
          refine WP.lload KW68.1 198 at_196 rfl rfl ?_
          refine WP.callV KW68.1 (a := kt) (C := "com/example/vestline/vestline/util/KeptTexts") 201 26 257 0 [(.ref oc), (.long nC)] [] (hw _ (List.mem_of_getElem? (i := 54) rfl)) (hw _ (List.mem_of_getElem? (i := 55) rfl)) rfl (hw _ (List.mem_of_getElem? (i := 57) rfl)) (hw _ (List.mem_of_getElem? (i := 56) rfl)) (hw _ (List.mem_of_getElem? (i := 29) rfl)) (hw _ (List.mem_of_getElem? (i := 58) rfl)) (by decide) own_pd_27 rfl rfl rfl (by decide) (by decide) (Nat.le_of_eq rfl) rfl at_198 rfl rfl rfl (by decide) (by decide) HK.ex (own_keep l Z a0 hw n0 h82 kt ba fa wb b P 0 [.ref k0x, .null, .null, .null, .null, .null, .null, .null] [fg, (0 : Int32), (0 : Int32), (0 : Int32), (0 : Int32), (0 : Int32), (0 : Int32), (0 : Int32)] lab HK oc vc uc S_oc _ A_wb hw64 ⟨(Nat.ne_of_lt x_c_wb.1), (Nat.ne_of_lt x_c_wb.2)⟩ cs fm SS nC NC hNC k0x (([] : List Int8) ++ (enc NA ++ (enc (u8s ua).length ++ u8s ua))) ((enc NB ++ (enc (u8s ub).length ++ u8s ub)) ++ Yb) fg (0 : Int32) rfl A_k0x totg rfl hfg rfl rfl (by decide) n0_k0x ⟨(Ne.symm (Nat.ne_of_lt l_kt_k0x)), dd1, dd2, dd3⟩ ⟨(Nat.ne_of_lt x_c_kt.1), (Nat.ne_of_lt x_c_ba.1), (Nat.ne_of_lt x_c_fa.1), (Nat.ne_of_lt x_c_k0x.1), (Nat.ne_of_lt x_c_kt.2), (Nat.ne_of_lt x_c_ba.2), (Nat.ne_of_lt x_c_fa.2), (Nat.ne_of_lt x_c_k0x.2)⟩) (r1_next fun r87 h85 q86 => ?_)
          obtain ⟨zzc, lac, rfl, ⟨wsc, hw64, A_wb2⟩, hk⟩ := q86
          rcases hk with ⟨f1c, f2c, hzc, hlc, ⟨ffc, hfc, HK2⟩, ⟨Yc, hYc, A_n⟩, Kc⟩ | ⟨nc, ffc, Yc, hnf, sz_nc, hfc, hzc, hlc, HK2, hYc, A_n, Kc⟩
          · skip
            have Z0 : n0 ≤ (h85).size := Nat.le_trans Z0 Kc.1
            have SS := SS.keep Kc (kn4 (by omega) (by omega) (by omega) (by omega))
            have S_oa := S_oa.keep Kc ⟨(nm4 ⟨(Nat.ne_of_lt x_a_kt.1), (Nat.ne_of_lt x_a_fa.1), (Nat.ne_of_lt x_a_wb.1), (Nat.ne_of_lt x_a_k0x.1)⟩), (nm4 ⟨(Nat.ne_of_lt x_a_kt.2), (Nat.ne_of_lt x_a_fa.2), (Nat.ne_of_lt x_a_wb.2), (Nat.ne_of_lt x_a_k0x.2)⟩)⟩
            have S_ob := S_ob.keep Kc ⟨(nm4 ⟨(Nat.ne_of_lt x_b_kt.1), (Nat.ne_of_lt x_b_fa.1), (Nat.ne_of_lt x_b_wb.1), (Nat.ne_of_lt x_b_k0x.1)⟩), (nm4 ⟨(Nat.ne_of_lt x_b_kt.2), (Nat.ne_of_lt x_b_fa.2), (Nat.ne_of_lt x_b_wb.2), (Nat.ne_of_lt x_b_k0x.2)⟩)⟩
            have S_oc := S_oc.keep Kc ⟨(nm4 ⟨(Nat.ne_of_lt x_c_kt.1), (Nat.ne_of_lt x_c_fa.1), (Nat.ne_of_lt x_c_wb.1), (Nat.ne_of_lt x_c_k0x.1)⟩), (nm4 ⟨(Nat.ne_of_lt x_c_kt.2), (Nat.ne_of_lt x_c_fa.2), (Nat.ne_of_lt x_c_wb.2), (Nat.ne_of_lt x_c_k0x.2)⟩)⟩
            have SW : h64.size ≤ (h85).size := Nat.le_trans SW Kc.1
            have A_k0x := A_n
            have totc : ((([] : List Int8) ++ (enc NA ++ (enc (u8s ua).length ++ u8s ua))) ++ (enc NC ++ (enc (u8s uc).length ++ u8s uc))).length + Yc.length ≤ 32 := by
              have e3 := totg
              simp only [List.length_append] at e3 hYc ⊢; omega
            have HK : KTI Z _ n0 kt ba fa wb b P 0 [.ref k0x, .null, .null, .null, .null, .null, .null, .null] [ffc, (0 : Int32), (0 : Int32), (0 : Int32), (0 : Int32), (0 : Int32), (0 : Int32), (0 : Int32)] lac := HK2
            have A_wb := A_wb2
            refine WP.lstore KW68.1 203 [.val (.int pa), .val (.int pb), .val (.long na_), .second, .val (.long nb_), .second, .val (.int sh), .val (.int xx), .val (.int bb), .val (.int lA), .val (.int lB), .val (.int (1 : Int32)), .val (.int ((XT.ushr sh (11 : Int32)) &&& (63 : Int32))), .val (.long nA), .second, .val (.long nB), .second, .val (.long nC), .second, .val (.int b0), .val (.int b1), .val (.int dd), .val (.ref oa), .val (.ref ob), .val (.ref oc), .val (.ref kt), .val (.long zza), .second, .val (.long zzb), .second, .val (.long zzc), .second, .unset] at_201 rfl rfl ?_
            refine WP.lload KW68.1 205 at_203 rfl rfl ?_
            refine WP.lload KW68.1 207 at_205 rfl rfl ?_
            refine WP.lcmp KW68.1 208 at_207 rfl ?_
            refine WP.ifl_ne KW68.1 240 211 at_208 (by decide) rfl (fun c208 => ?_) (fun c208 => ?_)
            · skip
              exact absurd (by omega) c208
            · skip
              refine WP.aload KW68.1 213 at_211 rfl rfl rfl ?_
              refine WP.lload KW68.1 215 at_213 rfl rfl ?_
              refine WP.aload KW68.1 217 at_215 rfl rfl rfl ?_
              refine WP.callV KW68.1 (a := kt) (C := "com/example/vestline/vestline/util/KeptTexts") 220 26 257 0 [(.long zzc), (.ref oc)] [] (hw _ (List.mem_of_getElem? (i := 118) rfl)) (hw _ (List.mem_of_getElem? (i := 119) rfl)) rfl (hw _ (List.mem_of_getElem? (i := 121) rfl)) (hw _ (List.mem_of_getElem? (i := 120) rfl)) (hw _ (List.mem_of_getElem? (i := 29) rfl)) (hw _ (List.mem_of_getElem? (i := 122) rfl)) (by decide) own_pd_29 rfl rfl rfl (by decide) (by decide) (Nat.le_of_eq rfl) rfl at_217 rfl rfl rfl (by decide) (by decide) HK.ex (own_holds l Z a0 hw n0 h85 kt ba fa wb b P 0 [.ref k0x, .null, .null, .null, .null, .null, .null, .null] [ffc, (0 : Int32), (0 : Int32), (0 : Int32), (0 : Int32), (0 : Int32), (0 : Int32), (0 : Int32)] lac HK zzc 0 NC (([] : List Int8) ++ (enc NA ++ (enc (u8s ua).length ++ u8s ua))) Yc k0x uc rfl A_k0x (by have e3 := totc; simp only [List.length_append] at e3 ⊢; omega) (by omega) (by decide) hzc hNC2 oc vc S_oc _ A_wb hw64 ⟨(Nat.ne_of_lt x_c_wb.1), (Nat.ne_of_lt x_c_wb.2)⟩ cs fm SS dd3) (r1_next fun r90 h88 q89 => ?_)
              obtain ⟨rfl, Kc, wxc, hw64, A_wb⟩ := q89
              have Z0 : n0 ≤ (h88).size := Nat.le_trans Z0 Kc.1
              have SS := SS.keep Kc (kn1 (by omega))
              have S_oa := S_oa.keep Kc ⟨(nm1 (Nat.ne_of_lt x_a_wb.1)), (nm1 (Nat.ne_of_lt x_a_wb.2))⟩
              have S_ob := S_ob.keep Kc ⟨(nm1 (Nat.ne_of_lt x_b_wb.1)), (nm1 (Nat.ne_of_lt x_b_wb.2))⟩
              have S_oc := S_oc.keep Kc ⟨(nm1 (Nat.ne_of_lt x_c_wb.1)), (nm1 (Nat.ne_of_lt x_c_wb.2))⟩
              have SW : h64.size ≤ (h88).size := Nat.le_trans SW Kc.1
              have A_k0x := A_k0x.keep Kc (nm1 dd3)
              have HK := HK.keep Kc ⟨(nm1 g3), (nm1 g5), (nm1 g6)⟩
              refine WP.if_eq KW68.1 240 223 at_220 (by decide) rfl (fun c220 => ?_) (fun c220 => ?_)
              · skip
                exact absurd c220 (by decide)
              · skip
                refine WP.aload KW68.1 225 at_223 rfl rfl rfl ?_
                refine WP.lload KW68.1 227 at_225 rfl rfl ?_
                refine WP.callV KW68.1 (a := kt) (C := "com/example/vestline/vestline/util/KeptTexts") 230 26 257 0 [(.long zzc)] [] (hw _ (List.mem_of_getElem? (i := 137) rfl)) (hw _ (List.mem_of_getElem? (i := 138) rfl)) rfl (hw _ (List.mem_of_getElem? (i := 140) rfl)) (hw _ (List.mem_of_getElem? (i := 139) rfl)) (hw _ (List.mem_of_getElem? (i := 29) rfl)) (hw _ (List.mem_of_getElem? (i := 141) rfl)) (by decide) own_pd_30 rfl rfl rfl (by decide) (by decide) (Nat.le_of_eq rfl) rfl at_227 rfl rfl rfl (by decide) (by decide) HK.ex (own_number l Z a0 hw n0 h88 kt ba fa wb b P 0 [.ref k0x, .null, .null, .null, .null, .null, .null, .null] [ffc, (0 : Int32), (0 : Int32), (0 : Int32), (0 : Int32), (0 : Int32), (0 : Int32), (0 : Int32)] lac HK zzc 0 NC (([] : List Int8) ++ (enc NA ++ (enc (u8s ua).length ++ u8s ua))) Yc k0x uc rfl A_k0x (by have e3 := totc; simp only [List.length_append] at e3 ⊢; omega) (by omega) (by decide) hzc hNC2) (r1_next fun r93 h91 q92 => ?_)
                obtain ⟨⟨zvc, rfl, hzvc⟩, rfl⟩ := q92
                obtain rfl : nC = zvc := i64_eq (by rw [hzvc, hNC])
                refine WP.lload KW68.1 232 at_230 rfl rfl ?_
                refine WP.lcmp KW68.1 233 at_232 rfl ?_
                refine WP.ifl_ne KW68.1 240 236 at_233 (by decide) rfl (fun c233 => ?_) (fun c233 => ?_)
                · skip
                  exact absurd rfl c233
                · skip
                  refine WP.iconst KW68.1 (1 : Int32) 237 at_236 rfl rfl ?_
                  refine WP.goto KW68.1 241 at_237 (by decide) ?_
                  refine WP.istore KW68.1 243 [.val (.int pa), .val (.int pb), .val (.long na_), .second, .val (.long nb_), .second, .val (.int sh), .val (.int xx), .val (.int bb), .val (.int lA), .val (.int lB), .val (.int (1 : Int32)), .val (.int ((XT.ushr sh (11 : Int32)) &&& (63 : Int32))), .val (.long nA), .second, .val (.long nB), .second, .val (.long nC), .second, .val (.int b0), .val (.int b1), .val (.int dd), .val (.ref oa), .val (.ref ob), .val (.ref oc), .val (.ref kt), .val (.long zza), .second, .val (.long zzb), .second, .val (.long zzc), .second, .val (.int (1 : Int32))] at_241 rfl rfl ?_
                  refine WP.iload KW68.1 245 at_243 rfl rfl ?_
                  refine WP.if_eq KW68.1 285 248 at_245 (by decide) rfl (fun c245 => ?_) (fun c245 => ?_)
                  · skip
                    exact absurd c245 (by decide)
                  · skip
                    refine WP.iload KW68.1 250 at_248 rfl rfl ?_
                    refine WP.if_eq KW68.1 282 253 at_250 (by decide) rfl (fun c250 => ?_) (fun c250 => ?_)
                    · skip
                      exact absurd c250 (by decide)
                    · skip
                      refine WP.aload KW68.1 255 at_253 rfl rfl rfl ?_
                      refine WP.lload KW68.1 257 at_255 rfl rfl ?_
                      refine WP.aload KW68.1 259 at_257 rfl rfl rfl ?_
                      refine WP.callV KW68.1 (a := kt) (C := "com/example/vestline/vestline/util/KeptTexts") 262 26 257 0 [(.long zza), (.ref oa)] [] (hw _ (List.mem_of_getElem? (i := 118) rfl)) (hw _ (List.mem_of_getElem? (i := 119) rfl)) rfl (hw _ (List.mem_of_getElem? (i := 121) rfl)) (hw _ (List.mem_of_getElem? (i := 120) rfl)) (hw _ (List.mem_of_getElem? (i := 29) rfl)) (hw _ (List.mem_of_getElem? (i := 122) rfl)) (by decide) own_pd_29 rfl rfl rfl (by decide) (by decide) (Nat.le_of_eq rfl) rfl at_259 rfl rfl rfl (by decide) (by decide) HK.ex (own_holds l Z a0 hw n0 h88 kt ba fa wb b P 0 [.ref k0x, .null, .null, .null, .null, .null, .null, .null] [ffc, (0 : Int32), (0 : Int32), (0 : Int32), (0 : Int32), (0 : Int32), (0 : Int32), (0 : Int32)] lac HK zza 0 NA ([] : List Int8) ((enc NC ++ (enc (u8s uc).length ++ u8s uc)) ++ Yc) k0x ua rfl (by simpa using A_k0x) (by have e3 := totc; simp only [List.length_append] at e3 ⊢; omega) (by omega) (by decide) hza hNA2 oa va S_oa _ A_wb hw64 ⟨(Nat.ne_of_lt x_a_wb.1), (Nat.ne_of_lt x_a_wb.2)⟩ cs fm SS dd3) (r1_next fun r96 h94 q95 => ?_)
                      obtain ⟨rfl, Kc, wxa, hw64, A_wb⟩ := q95
                      have Z0 : n0 ≤ (h94).size := Nat.le_trans Z0 Kc.1
                      have SS := SS.keep Kc (kn1 (by omega))
                      have S_oa := S_oa.keep Kc ⟨(nm1 (Nat.ne_of_lt x_a_wb.1)), (nm1 (Nat.ne_of_lt x_a_wb.2))⟩
                      have S_ob := S_ob.keep Kc ⟨(nm1 (Nat.ne_of_lt x_b_wb.1)), (nm1 (Nat.ne_of_lt x_b_wb.2))⟩
                      have S_oc := S_oc.keep Kc ⟨(nm1 (Nat.ne_of_lt x_c_wb.1)), (nm1 (Nat.ne_of_lt x_c_wb.2))⟩
                      have SW : h64.size ≤ (h94).size := Nat.le_trans SW Kc.1
                      have A_k0x := A_k0x.keep Kc (nm1 dd3)
                      have HK := HK.keep Kc ⟨(nm1 g3), (nm1 g5), (nm1 g6)⟩
                      refine WP.if_eq KW68.1 282 265 at_262 (by decide) rfl (fun c262 => ?_) (fun c262 => ?_)
                      · skip
                        exact absurd c262 (by decide)
                      · skip
                        refine WP.aload KW68.1 267 at_265 rfl rfl rfl ?_
                        refine WP.lload KW68.1 269 at_267 rfl rfl ?_
                        refine WP.callV KW68.1 (a := kt) (C := "com/example/vestline/vestline/util/KeptTexts") 272 26 257 0 [(.long zza)] [] (hw _ (List.mem_of_getElem? (i := 137) rfl)) (hw _ (List.mem_of_getElem? (i := 138) rfl)) rfl (hw _ (List.mem_of_getElem? (i := 140) rfl)) (hw _ (List.mem_of_getElem? (i := 139) rfl)) (hw _ (List.mem_of_getElem? (i := 29) rfl)) (hw _ (List.mem_of_getElem? (i := 141) rfl)) (by decide) own_pd_30 rfl rfl rfl (by decide) (by decide) (Nat.le_of_eq rfl) rfl at_269 rfl rfl rfl (by decide) (by decide) HK.ex (own_number l Z a0 hw n0 h94 kt ba fa wb b P 0 [.ref k0x, .null, .null, .null, .null, .null, .null, .null] [ffc, (0 : Int32), (0 : Int32), (0 : Int32), (0 : Int32), (0 : Int32), (0 : Int32), (0 : Int32)] lac HK zza 0 NA ([] : List Int8) ((enc NC ++ (enc (u8s uc).length ++ u8s uc)) ++ Yc) k0x ua rfl (by simpa using A_k0x) (by have e3 := totc; simp only [List.length_append] at e3 ⊢; omega) (by omega) (by decide) hza hNA2) (r1_next fun r99 h97 q98 => ?_)
                        obtain ⟨⟨zva, rfl, hzva⟩, rfl⟩ := q98
                        obtain rfl : nA = zva := i64_eq (by rw [hzva, hNA])
                        refine WP.lload KW68.1 274 at_272 rfl rfl ?_
                        refine WP.lcmp KW68.1 275 at_274 rfl ?_
                        refine WP.ifl_ne KW68.1 282 278 at_275 (by decide) rfl (fun c275 => ?_) (fun c275 => ?_)
                        · skip
                          exact absurd rfl c275
                        · skip
                          refine WP.iconst KW68.1 (1 : Int32) 279 at_278 rfl rfl ?_
                          refine WP.goto KW68.1 283 at_279 (by decide) ?_
                          refine WP.istore KW68.1 285 [.val (.int pa), .val (.int pb), .val (.long na_), .second, .val (.long nb_), .second, .val (.int sh), .val (.int xx), .val (.int bb), .val (.int lA), .val (.int lB), .val (.int (1 : Int32)), .val (.int ((XT.ushr sh (11 : Int32)) &&& (63 : Int32))), .val (.long nA), .second, .val (.long nB), .second, .val (.long nC), .second, .val (.int b0), .val (.int b1), .val (.int dd), .val (.ref oa), .val (.ref ob), .val (.ref oc), .val (.ref kt), .val (.long zza), .second, .val (.long zzb), .second, .val (.long zzc), .second, .val (.int (1 : Int32))] at_283 rfl rfl ?_
                          refine WP.iload KW68.1 287 at_285 rfl rfl ?_
                          refine WP.iret KW68.1 rfl (Or.inr (Or.inl rfl)) rfl at_287 ?_ (by decide) (by decide)
                          exact ⟨⟨_, rfl, rfl⟩, SW⟩
          · skip
            exact absurd ⟨by simp only [List.length_append]; omega, by omega⟩ hnf
        · skip
          have l_oa_nb : @LT.lt Nat _ oa nb := Nat.lt_of_lt_of_le S_oa.rg.1 sz_nb
          have l_va_nb : @LT.lt Nat _ va nb := Nat.lt_of_lt_of_le S_oa.rg.2 sz_nb
          have l_ob_nb : @LT.lt Nat _ ob nb := Nat.lt_of_lt_of_le S_ob.rg.1 sz_nb
          have l_vb_nb : @LT.lt Nat _ vb nb := Nat.lt_of_lt_of_le S_ob.rg.2 sz_nb
          have l_oc_nb : @LT.lt Nat _ oc nb := Nat.lt_of_lt_of_le S_oc.rg.1 sz_nb
          have l_vc_nb : @LT.lt Nat _ vc nb := Nat.lt_of_lt_of_le S_oc.rg.2 sz_nb
          have l_k0x_nb : @LT.lt Nat _ k0x nb := Nat.lt_of_lt_of_le A_k0x.lt sz_nb
          have l_kt_nb : @LT.lt Nat _ kt nb := Nat.lt_of_lt_of_le HK.rg.1 sz_nb
          have l_ba_nb : @LT.lt Nat _ ba nb := Nat.lt_of_lt_of_le HK.rg.2.1 sz_nb
          have l_fa_nb : @LT.lt Nat _ fa nb := Nat.lt_of_lt_of_le HK.rg.2.2.1 sz_nb
          have l_wb_nb : @LT.lt Nat _ wb nb := Nat.lt_of_lt_of_le A_wb.lt sz_nb
          have n0_nb : @LE.le Nat _ n0 nb := Nat.le_trans Z0 sz_nb
          have Z0 : n0 ≤ (h79).size := Nat.le_trans Z0 Kc.1
          have SS := SS.keep Kc (kn4 (by omega) (by omega) (by omega) (by omega))
          have S_oa := S_oa.keep Kc ⟨(nm4 ⟨(Nat.ne_of_lt x_a_kt.1), (Nat.ne_of_lt x_a_ba.1), (Nat.ne_of_lt x_a_fa.1), (Nat.ne_of_lt x_a_wb.1)⟩), (nm4 ⟨(Nat.ne_of_lt x_a_kt.2), (Nat.ne_of_lt x_a_ba.2), (Nat.ne_of_lt x_a_fa.2), (Nat.ne_of_lt x_a_wb.2)⟩)⟩
          have S_ob := S_ob.keep Kc ⟨(nm4 ⟨(Nat.ne_of_lt x_b_kt.1), (Nat.ne_of_lt x_b_ba.1), (Nat.ne_of_lt x_b_fa.1), (Nat.ne_of_lt x_b_wb.1)⟩), (nm4 ⟨(Nat.ne_of_lt x_b_kt.2), (Nat.ne_of_lt x_b_ba.2), (Nat.ne_of_lt x_b_fa.2), (Nat.ne_of_lt x_b_wb.2)⟩)⟩
          have S_oc := S_oc.keep Kc ⟨(nm4 ⟨(Nat.ne_of_lt x_c_kt.1), (Nat.ne_of_lt x_c_ba.1), (Nat.ne_of_lt x_c_fa.1), (Nat.ne_of_lt x_c_wb.1)⟩), (nm4 ⟨(Nat.ne_of_lt x_c_kt.2), (Nat.ne_of_lt x_c_ba.2), (Nat.ne_of_lt x_c_fa.2), (Nat.ne_of_lt x_c_wb.2)⟩)⟩
          have SW : h64.size ≤ (h79).size := Nat.le_trans SW Kc.1
          have A_k0x := A_k0x.keep Kc (nm4 ⟨(Ne.symm (Nat.ne_of_lt l_kt_k0x)), dd1, dd2, dd3⟩)
          have A_nb := A_n
          have totb : (([] : List Int8) ++ (enc NB ++ (enc (u8s ub).length ++ u8s ub))).length + Yb.length ≤ 32 := by simp only [List.length_append]; omega
          have HK : KTI Z _ n0 kt ba fa wb b P 1 [.ref k0x, .ref nb, .null, .null, .null, .null, .null, .null] [ffa, ffb, (0 : Int32), (0 : Int32), (0 : Int32), (0 : Int32), (0 : Int32), (0 : Int32)] lab := HK2
          have A_wb := A_wb2
          refine WP.lstore KW68.1 187 [.val (.int pa), .val (.int pb), .val (.long na_), .second, .val (.long nb_), .second, .val (.int sh), .val (.int xx), .val (.int bb), .val (.int lA), .val (.int lB), .val (.int (1 : Int32)), .val (.int ((XT.ushr sh (11 : Int32)) &&& (63 : Int32))), .val (.long nA), .second, .val (.long nB), .second, .val (.long nC), .second, .val (.int b0), .val (.int b1), .val (.int dd), .val (.ref oa), .val (.ref ob), .val (.ref oc), .val (.ref kt), .val (.long zza), .second, .val (.long zzb), .second, .unset, .unset, .unset] at_185 rfl rfl ?_
          refine WP.aload KW68.1 189 at_187 rfl rfl rfl ?_
          refine WP.callV KW68.1 (a := kt) (C := "com/example/vestline/vestline/util/KeptTexts") 192 25 225 0 [] [] (hw _ (List.mem_of_getElem? (i := 113) rfl)) (hw _ (List.mem_of_getElem? (i := 114) rfl)) rfl (hw _ (List.mem_of_getElem? (i := 116) rfl)) (hw _ (List.mem_of_getElem? (i := 115) rfl)) (hw _ (List.mem_of_getElem? (i := 29) rfl)) (hw _ (List.mem_of_getElem? (i := 117) rfl)) (by decide) own_pd_28 rfl rfl rfl (by decide) (by decide) (Nat.le_of_eq rfl) rfl at_189 rfl rfl rfl (by decide) (by decide) HK.ex (own_forget l Z a0 hw n0 h79 kt ba fa wb b P 1 [.ref k0x, .ref nb, .null, .null, .null, .null, .null, .null] [ffa, ffb, (0 : Int32), (0 : Int32), (0 : Int32), (0 : Int32), (0 : Int32), (0 : Int32)] lab HK ([] : List Int8).length hlb (by omega) (by decide)) (r0_next fun h100 q101 => ?_)
          obtain ⟨⟨fg, hfg, HK⟩, Kc⟩ := q101
          have Z0 : n0 ≤ (h100).size := Nat.le_trans Z0 Kc.1
          have SS := SS.keep Kc (kn2 (by omega) (by omega))
          have S_oa := S_oa.keep Kc ⟨(nm2 ⟨(Nat.ne_of_lt x_a_kt.1), (Nat.ne_of_lt x_a_fa.1)⟩), (nm2 ⟨(Nat.ne_of_lt x_a_kt.2), (Nat.ne_of_lt x_a_fa.2)⟩)⟩
          have S_ob := S_ob.keep Kc ⟨(nm2 ⟨(Nat.ne_of_lt x_b_kt.1), (Nat.ne_of_lt x_b_fa.1)⟩), (nm2 ⟨(Nat.ne_of_lt x_b_kt.2), (Nat.ne_of_lt x_b_fa.2)⟩)⟩
          have S_oc := S_oc.keep Kc ⟨(nm2 ⟨(Nat.ne_of_lt x_c_kt.1), (Nat.ne_of_lt x_c_fa.1)⟩), (nm2 ⟨(Nat.ne_of_lt x_c_kt.2), (Nat.ne_of_lt x_c_fa.2)⟩)⟩
          have SW : h64.size ≤ (h100).size := Nat.le_trans SW Kc.1
          have A_k0x := A_k0x.keep Kc (nm2 ⟨(Ne.symm (Nat.ne_of_lt l_kt_k0x)), dd2⟩)
          have A_nb := A_nb.keep Kc (nm2 ⟨(Ne.symm (Nat.ne_of_lt l_kt_nb)), (Ne.symm (Nat.ne_of_lt l_fa_nb))⟩)
          have A_wb := A_wb.keep Kc (nm2 ⟨(Ne.symm g3), (Ne.symm g6)⟩)
          have HK : KTI Z _ n0 kt ba fa wb b P 1 [.ref k0x, .ref nb, .null, .null, .null, .null, .null, .null] [ffa, fg, (0 : Int32), (0 : Int32), (0 : Int32), (0 : Int32), (0 : Int32), (0 : Int32)] lab := HK
          have A_nb : ArB Z h100 nb (([] : List Int8) ++ ((enc NB ++ (enc (u8s ub).length ++ u8s ub)) ++ Yb)) := by simpa using A_nb
          have totg : ([] : List Int8).length + ((enc NB ++ (enc (u8s ub).length ++ u8s ub)) ++ Yb).length ≤ 32 := by
            have e3 := totb
            simp only [List.length_append] at e3 ⊢; omega
          refine WP.aload KW68.1 194 at_192 rfl rfl rfl ?_
          refine WP.aload KW68.1 196 at_194 rfl rfl rfl ?_
          refine WP.lload KW68.1 198 at_196 rfl rfl ?_
          refine WP.callV KW68.1 (a := kt) (C := "com/example/vestline/vestline/util/KeptTexts") 201 26 257 0 [(.ref oc), (.long nC)] [] (hw _ (List.mem_of_getElem? (i := 54) rfl)) (hw _ (List.mem_of_getElem? (i := 55) rfl)) rfl (hw _ (List.mem_of_getElem? (i := 57) rfl)) (hw _ (List.mem_of_getElem? (i := 56) rfl)) (hw _ (List.mem_of_getElem? (i := 29) rfl)) (hw _ (List.mem_of_getElem? (i := 58) rfl)) (by decide) own_pd_27 rfl rfl rfl (by decide) (by decide) (Nat.le_of_eq rfl) rfl at_198 rfl rfl rfl (by decide) (by decide) HK.ex (own_keep l Z a0 hw n0 h100 kt ba fa wb b P 1 [.ref k0x, .ref nb, .null, .null, .null, .null, .null, .null] [ffa, fg, (0 : Int32), (0 : Int32), (0 : Int32), (0 : Int32), (0 : Int32), (0 : Int32)] lab HK oc vc uc S_oc _ A_wb hw64 ⟨(Nat.ne_of_lt x_c_wb.1), (Nat.ne_of_lt x_c_wb.2)⟩ cs fm SS nC NC hNC nb ([] : List Int8) ((enc NB ++ (enc (u8s ub).length ++ u8s ub)) ++ Yb) fg (0 : Int32) rfl A_nb totg rfl hfg rfl rfl (by decide) n0_nb ⟨(Ne.symm (Nat.ne_of_lt l_kt_nb)), (Ne.symm (Nat.ne_of_lt l_ba_nb)), (Ne.symm (Nat.ne_of_lt l_fa_nb)), (Ne.symm (Nat.ne_of_lt l_wb_nb))⟩ ⟨(Nat.ne_of_lt x_c_kt.1), (Nat.ne_of_lt x_c_ba.1), (Nat.ne_of_lt x_c_fa.1), (Nat.ne_of_lt l_oc_nb), (Nat.ne_of_lt x_c_kt.2), (Nat.ne_of_lt x_c_ba.2), (Nat.ne_of_lt x_c_fa.2), (Nat.ne_of_lt l_vc_nb)⟩) (r1_next fun r105 h103 q104 => ?_)
          obtain ⟨zzc, lac, rfl, ⟨wsc, hw64, A_wb2⟩, hk⟩ := q104
          rcases hk with ⟨f1c, f2c, hzc, hlc, ⟨ffc, hfc, HK2⟩, ⟨Yc, hYc, A_n⟩, Kc⟩ | ⟨nc, ffc, Yc, hnf, sz_nc, hfc, hzc, hlc, HK2, hYc, A_n, Kc⟩
          · skip
            have Z0 : n0 ≤ (h103).size := Nat.le_trans Z0 Kc.1
            have SS := SS.keep Kc (kn4 (by omega) (by omega) (by omega) (by omega))
            have S_oa := S_oa.keep Kc ⟨(nm4 ⟨(Nat.ne_of_lt x_a_kt.1), (Nat.ne_of_lt x_a_fa.1), (Nat.ne_of_lt x_a_wb.1), (Nat.ne_of_lt l_oa_nb)⟩), (nm4 ⟨(Nat.ne_of_lt x_a_kt.2), (Nat.ne_of_lt x_a_fa.2), (Nat.ne_of_lt x_a_wb.2), (Nat.ne_of_lt l_va_nb)⟩)⟩
            have S_ob := S_ob.keep Kc ⟨(nm4 ⟨(Nat.ne_of_lt x_b_kt.1), (Nat.ne_of_lt x_b_fa.1), (Nat.ne_of_lt x_b_wb.1), (Nat.ne_of_lt l_ob_nb)⟩), (nm4 ⟨(Nat.ne_of_lt x_b_kt.2), (Nat.ne_of_lt x_b_fa.2), (Nat.ne_of_lt x_b_wb.2), (Nat.ne_of_lt l_vb_nb)⟩)⟩
            have S_oc := S_oc.keep Kc ⟨(nm4 ⟨(Nat.ne_of_lt x_c_kt.1), (Nat.ne_of_lt x_c_fa.1), (Nat.ne_of_lt x_c_wb.1), (Nat.ne_of_lt l_oc_nb)⟩), (nm4 ⟨(Nat.ne_of_lt x_c_kt.2), (Nat.ne_of_lt x_c_fa.2), (Nat.ne_of_lt x_c_wb.2), (Nat.ne_of_lt l_vc_nb)⟩)⟩
            have SW : h64.size ≤ (h103).size := Nat.le_trans SW Kc.1
            have A_k0x := A_k0x.keep Kc (nm4 ⟨(Ne.symm (Nat.ne_of_lt l_kt_k0x)), dd2, dd3, (Nat.ne_of_lt l_k0x_nb)⟩)
            have A_nb := A_n
            have totc : (([] : List Int8) ++ (enc NC ++ (enc (u8s uc).length ++ u8s uc))).length + Yc.length ≤ 32 := by
              have e3 := totg
              simp only [List.length_append] at e3 hYc ⊢; omega
            have HK : KTI Z _ n0 kt ba fa wb b P 1 [.ref k0x, .ref nb, .null, .null, .null, .null, .null, .null] [ffa, ffc, (0 : Int32), (0 : Int32), (0 : Int32), (0 : Int32), (0 : Int32), (0 : Int32)] lac := HK2
            have A_wb := A_wb2
            refine WP.lstore KW68.1 203 [.val (.int pa), .val (.int pb), .val (.long na_), .second, .val (.long nb_), .second, .val (.int sh), .val (.int xx), .val (.int bb), .val (.int lA), .val (.int lB), .val (.int (1 : Int32)), .val (.int ((XT.ushr sh (11 : Int32)) &&& (63 : Int32))), .val (.long nA), .second, .val (.long nB), .second, .val (.long nC), .second, .val (.int b0), .val (.int b1), .val (.int dd), .val (.ref oa), .val (.ref ob), .val (.ref oc), .val (.ref kt), .val (.long zza), .second, .val (.long zzb), .second, .val (.long zzc), .second, .unset] at_201 rfl rfl ?_
            refine WP.lload KW68.1 205 at_203 rfl rfl ?_
            refine WP.lload KW68.1 207 at_205 rfl rfl ?_
            refine WP.lcmp KW68.1 208 at_207 rfl ?_
            refine WP.ifl_ne KW68.1 240 211 at_208 (by decide) rfl (fun c208 => ?_) (fun c208 => ?_)
            · skip
              exact absurd (by omega) c208
            · skip
              refine WP.aload KW68.1 213 at_211 rfl rfl rfl ?_
              refine WP.lload KW68.1 215 at_213 rfl rfl ?_
              refine WP.aload KW68.1 217 at_215 rfl rfl rfl ?_
              refine WP.callV KW68.1 (a := kt) (C := "com/example/vestline/vestline/util/KeptTexts") 220 26 257 0 [(.long zzc), (.ref oc)] [] (hw _ (List.mem_of_getElem? (i := 118) rfl)) (hw _ (List.mem_of_getElem? (i := 119) rfl)) rfl (hw _ (List.mem_of_getElem? (i := 121) rfl)) (hw _ (List.mem_of_getElem? (i := 120) rfl)) (hw _ (List.mem_of_getElem? (i := 29) rfl)) (hw _ (List.mem_of_getElem? (i := 122) rfl)) (by decide) own_pd_29 rfl rfl rfl (by decide) (by decide) (Nat.le_of_eq rfl) rfl at_217 rfl rfl rfl (by decide) (by decide) HK.ex (own_holds l Z a0 hw n0 h103 kt ba fa wb b P 1 [.ref k0x, .ref nb, .null, .null, .null, .null, .null, .null] [ffa, ffc, (0 : Int32), (0 : Int32), (0 : Int32), (0 : Int32), (0 : Int32), (0 : Int32)] lac HK zzc 1 NC ([] : List Int8) Yc nb uc rfl A_nb (by have e3 := totc; simp only [List.length_append] at e3 ⊢; omega) (by omega) (by decide) hzc hNC2 oc vc S_oc _ A_wb hw64 ⟨(Nat.ne_of_lt x_c_wb.1), (Nat.ne_of_lt x_c_wb.2)⟩ cs fm SS (Ne.symm (Nat.ne_of_lt l_wb_nb))) (r1_next fun r108 h106 q107 => ?_)
              obtain ⟨rfl, Kc, wxc, hw64, A_wb⟩ := q107
              have Z0 : n0 ≤ (h106).size := Nat.le_trans Z0 Kc.1
              have SS := SS.keep Kc (kn1 (by omega))
              have S_oa := S_oa.keep Kc ⟨(nm1 (Nat.ne_of_lt x_a_wb.1)), (nm1 (Nat.ne_of_lt x_a_wb.2))⟩
              have S_ob := S_ob.keep Kc ⟨(nm1 (Nat.ne_of_lt x_b_wb.1)), (nm1 (Nat.ne_of_lt x_b_wb.2))⟩
              have S_oc := S_oc.keep Kc ⟨(nm1 (Nat.ne_of_lt x_c_wb.1)), (nm1 (Nat.ne_of_lt x_c_wb.2))⟩
              have SW : h64.size ≤ (h106).size := Nat.le_trans SW Kc.1
              have A_k0x := A_k0x.keep Kc (nm1 dd3)
              have A_nb := A_nb.keep Kc (nm1 (Ne.symm (Nat.ne_of_lt l_wb_nb)))
              have HK := HK.keep Kc ⟨(nm1 g3), (nm1 g5), (nm1 g6)⟩
              refine WP.if_eq KW68.1 240 223 at_220 (by decide) rfl (fun c220 => ?_) (fun c220 => ?_)
              · skip
                exact absurd c220 (by decide)
              · skip
                refine WP.aload KW68.1 225 at_223 rfl rfl rfl ?_
                refine WP.lload KW68.1 227 at_225 rfl rfl ?_
                refine WP.callV KW68.1 (a := kt) (C := "com/example/vestline/vestline/util/KeptTexts") 230 26 257 0 [(.long zzc)] [] (hw _ (List.mem_of_getElem? (i := 137) rfl)) (hw _ (List.mem_of_getElem? (i := 138) rfl)) rfl (hw _ (List.mem_of_getElem? (i := 140) rfl)) (hw _ (List.mem_of_getElem? (i := 139) rfl)) (hw _ (List.mem_of_getElem? (i := 29) rfl)) (hw _ (List.mem_of_getElem? (i := 141) rfl)) (by decide) own_pd_30 rfl rfl rfl (by decide) (by decide) (Nat.le_of_eq rfl) rfl at_227 rfl rfl rfl (by decide) (by decide) HK.ex (own_number l Z a0 hw n0 h106 kt ba fa wb b P 1 [.ref k0x, .ref nb, .null, .null, .null, .null, .null, .null] [ffa, ffc, (0 : Int32), (0 : Int32), (0 : Int32), (0 : Int32), (0 : Int32), (0 : Int32)] lac HK zzc 1 NC ([] : List Int8) Yc nb uc rfl A_nb (by have e3 := totc; simp only [List.length_append] at e3 ⊢; omega) (by omega) (by decide) hzc hNC2) (r1_next fun r111 h109 q110 => ?_)
                obtain ⟨⟨zvc, rfl, hzvc⟩, rfl⟩ := q110
                obtain rfl : nC = zvc := i64_eq (by rw [hzvc, hNC])
                refine WP.lload KW68.1 232 at_230 rfl rfl ?_
                refine WP.lcmp KW68.1 233 at_232 rfl ?_
                refine WP.ifl_ne KW68.1 240 236 at_233 (by decide) rfl (fun c233 => ?_) (fun c233 => ?_)
                · skip
                  exact absurd rfl c233
                · skip
                  refine WP.iconst KW68.1 (1 : Int32) 237 at_236 rfl rfl ?_
                  refine WP.goto KW68.1 241 at_237 (by decide) ?_
                  refine WP.istore KW68.1 243 [.val (.int pa), .val (.int pb), .val (.long na_), .second, .val (.long nb_), .second, .val (.int sh), .val (.int xx), .val (.int bb), .val (.int lA), .val (.int lB), .val (.int (1 : Int32)), .val (.int ((XT.ushr sh (11 : Int32)) &&& (63 : Int32))), .val (.long nA), .second, .val (.long nB), .second, .val (.long nC), .second, .val (.int b0), .val (.int b1), .val (.int dd), .val (.ref oa), .val (.ref ob), .val (.ref oc), .val (.ref kt), .val (.long zza), .second, .val (.long zzb), .second, .val (.long zzc), .second, .val (.int (1 : Int32))] at_241 rfl rfl ?_
                  refine WP.iload KW68.1 245 at_243 rfl rfl ?_
                  refine WP.if_eq KW68.1 285 248 at_245 (by decide) rfl (fun c245 => ?_) (fun c245 => ?_)
                  · skip
                    exact absurd c245 (by decide)
                  · skip
                    refine WP.iload KW68.1 250 at_248 rfl rfl ?_
                    refine WP.if_eq KW68.1 282 253 at_250 (by decide) rfl (fun c250 => ?_) (fun c250 => ?_)
                    · skip
                      exact absurd c250 (by decide)
                    · skip
                      refine WP.aload KW68.1 255 at_253 rfl rfl rfl ?_
                      refine WP.lload KW68.1 257 at_255 rfl rfl ?_
                      refine WP.aload KW68.1 259 at_257 rfl rfl rfl ?_
                      refine WP.callV KW68.1 (a := kt) (C := "com/example/vestline/vestline/util/KeptTexts") 262 26 257 0 [(.long zza), (.ref oa)] [] (hw _ (List.mem_of_getElem? (i := 118) rfl)) (hw _ (List.mem_of_getElem? (i := 119) rfl)) rfl (hw _ (List.mem_of_getElem? (i := 121) rfl)) (hw _ (List.mem_of_getElem? (i := 120) rfl)) (hw _ (List.mem_of_getElem? (i := 29) rfl)) (hw _ (List.mem_of_getElem? (i := 122) rfl)) (by decide) own_pd_29 rfl rfl rfl (by decide) (by decide) (Nat.le_of_eq rfl) rfl at_259 rfl rfl rfl (by decide) (by decide) HK.ex (own_holds l Z a0 hw n0 h106 kt ba fa wb b P 1 [.ref k0x, .ref nb, .null, .null, .null, .null, .null, .null] [ffa, ffc, (0 : Int32), (0 : Int32), (0 : Int32), (0 : Int32), (0 : Int32), (0 : Int32)] lac HK zza 0 NA ([] : List Int8) Ya k0x ua rfl A_k0x (by have e3 := tota; simp only [List.length_append] at e3 ⊢; omega) (by omega) (by decide) hza hNA2 oa va S_oa _ A_wb hw64 ⟨(Nat.ne_of_lt x_a_wb.1), (Nat.ne_of_lt x_a_wb.2)⟩ cs fm SS dd3) (r1_next fun r114 h112 q113 => ?_)
                      obtain ⟨rfl, Kc, wxa, hw64, A_wb⟩ := q113
                      have Z0 : n0 ≤ (h112).size := Nat.le_trans Z0 Kc.1
                      have SS := SS.keep Kc (kn1 (by omega))
                      have S_oa := S_oa.keep Kc ⟨(nm1 (Nat.ne_of_lt x_a_wb.1)), (nm1 (Nat.ne_of_lt x_a_wb.2))⟩
                      have S_ob := S_ob.keep Kc ⟨(nm1 (Nat.ne_of_lt x_b_wb.1)), (nm1 (Nat.ne_of_lt x_b_wb.2))⟩
                      have S_oc := S_oc.keep Kc ⟨(nm1 (Nat.ne_of_lt x_c_wb.1)), (nm1 (Nat.ne_of_lt x_c_wb.2))⟩
                      have SW : h64.size ≤ (h112).size := Nat.le_trans SW Kc.1
                      have A_k0x := A_k0x.keep Kc (nm1 dd3)
                      have A_nb := A_nb.keep Kc (nm1 (Ne.symm (Nat.ne_of_lt l_wb_nb)))
                      have HK := HK.keep Kc ⟨(nm1 g3), (nm1 g5), (nm1 g6)⟩
                      refine WP.if_eq KW68.1 282 265 at_262 (by decide) rfl (fun c262 => ?_) (fun c262 => ?_)
                      · skip
                        exact absurd c262 (by decide)
                      · skip
                        refine WP.aload KW68.1 267 at_265 rfl rfl rfl ?_
                        refine WP.lload KW68.1 269 at_267 rfl rfl ?_
                        refine WP.callV KW68.1 (a := kt) (C := "com/example/vestline/vestline/util/KeptTexts") 272 26 257 0 [(.long zza)] [] (hw _ (List.mem_of_getElem? (i := 137) rfl)) (hw _ (List.mem_of_getElem? (i := 138) rfl)) rfl (hw _ (List.mem_of_getElem? (i := 140) rfl)) (hw _ (List.mem_of_getElem? (i := 139) rfl)) (hw _ (List.mem_of_getElem? (i := 29) rfl)) (hw _ (List.mem_of_getElem? (i := 141) rfl)) (by decide) own_pd_30 rfl rfl rfl (by decide) (by decide) (Nat.le_of_eq rfl) rfl at_269 rfl rfl rfl (by decide) (by decide) HK.ex (own_number l Z a0 hw n0 h112 kt ba fa wb b P 1 [.ref k0x, .ref nb, .null, .null, .null, .null, .null, .null] [ffa, ffc, (0 : Int32), (0 : Int32), (0 : Int32), (0 : Int32), (0 : Int32), (0 : Int32)] lac HK zza 0 NA ([] : List Int8) Ya k0x ua rfl A_k0x (by have e3 := tota; simp only [List.length_append] at e3 ⊢; omega) (by omega) (by decide) hza hNA2) (r1_next fun r117 h115 q116 => ?_)
                        obtain ⟨⟨zva, rfl, hzva⟩, rfl⟩ := q116
                        obtain rfl : nA = zva := i64_eq (by rw [hzva, hNA])
                        refine WP.lload KW68.1 274 at_272 rfl rfl ?_
                        refine WP.lcmp KW68.1 275 at_274 rfl ?_
                        refine WP.ifl_ne KW68.1 282 278 at_275 (by decide) rfl (fun c275 => ?_) (fun c275 => ?_)
                        · skip
                          exact absurd rfl c275
                        · skip
                          refine WP.iconst KW68.1 (1 : Int32) 279 at_278 rfl rfl ?_
                          refine WP.goto KW68.1 283 at_279 (by decide) ?_
                          refine WP.istore KW68.1 285 [.val (.int pa), .val (.int pb), .val (.long na_), .second, .val (.long nb_), .second, .val (.int sh), .val (.int xx), .val (.int bb), .val (.int lA), .val (.int lB), .val (.int (1 : Int32)), .val (.int ((XT.ushr sh (11 : Int32)) &&& (63 : Int32))), .val (.long nA), .second, .val (.long nB), .second, .val (.long nC), .second, .val (.int b0), .val (.int b1), .val (.int dd), .val (.ref oa), .val (.ref ob), .val (.ref oc), .val (.ref kt), .val (.long zza), .second, .val (.long zzb), .second, .val (.long zzc), .second, .val (.int (1 : Int32))] at_283 rfl rfl ?_
                          refine WP.iload KW68.1 287 at_285 rfl rfl ?_
                          refine WP.iret KW68.1 rfl (Or.inr (Or.inl rfl)) rfl at_287 ?_ (by decide) (by decide)
                          exact ⟨⟨_, rfl, rfl⟩, SW⟩
          · skip
            exact absurd ⟨by simp only [List.length_append]; omega, by omega⟩ hnf
      · skip
        have l_oa_na : @LT.lt Nat _ oa na := Nat.lt_of_lt_of_le S_oa.rg.1 sz_na
        have l_va_na : @LT.lt Nat _ va na := Nat.lt_of_lt_of_le S_oa.rg.2 sz_na
        have l_ob_na : @LT.lt Nat _ ob na := Nat.lt_of_lt_of_le S_ob.rg.1 sz_na
        have l_vb_na : @LT.lt Nat _ vb na := Nat.lt_of_lt_of_le S_ob.rg.2 sz_na
        have l_oc_na : @LT.lt Nat _ oc na := Nat.lt_of_lt_of_le S_oc.rg.1 sz_na
        have l_vc_na : @LT.lt Nat _ vc na := Nat.lt_of_lt_of_le S_oc.rg.2 sz_na
        have l_kt_na : @LT.lt Nat _ kt na := Nat.lt_of_lt_of_le HK.rg.1 sz_na
        have l_ba_na : @LT.lt Nat _ ba na := Nat.lt_of_lt_of_le HK.rg.2.1 sz_na
        have l_fa_na : @LT.lt Nat _ fa na := Nat.lt_of_lt_of_le HK.rg.2.2.1 sz_na
        have l_wb_na : @LT.lt Nat _ wb na := Nat.lt_of_lt_of_le A_wb.lt sz_na
        have l_k0x_na : @LT.lt Nat _ k0x na := Nat.lt_of_lt_of_le A_k0x.lt sz_na
        have n0_na : @LE.le Nat _ n0 na := Nat.le_trans Z0 sz_na
        have Z0 : n0 ≤ (h76).size := Nat.le_trans Z0 Kc.1
        have SS := SS.keep Kc (kn4 (by omega) (by omega) (by omega) (by omega))
        have S_oa := S_oa.keep Kc ⟨(nm4 ⟨(Nat.ne_of_lt x_a_kt.1), (Nat.ne_of_lt x_a_ba.1), (Nat.ne_of_lt x_a_fa.1), (Nat.ne_of_lt x_a_wb.1)⟩), (nm4 ⟨(Nat.ne_of_lt x_a_kt.2), (Nat.ne_of_lt x_a_ba.2), (Nat.ne_of_lt x_a_fa.2), (Nat.ne_of_lt x_a_wb.2)⟩)⟩
        have S_ob := S_ob.keep Kc ⟨(nm4 ⟨(Nat.ne_of_lt x_b_kt.1), (Nat.ne_of_lt x_b_ba.1), (Nat.ne_of_lt x_b_fa.1), (Nat.ne_of_lt x_b_wb.1)⟩), (nm4 ⟨(Nat.ne_of_lt x_b_kt.2), (Nat.ne_of_lt x_b_ba.2), (Nat.ne_of_lt x_b_fa.2), (Nat.ne_of_lt x_b_wb.2)⟩)⟩
        have S_oc := S_oc.keep Kc ⟨(nm4 ⟨(Nat.ne_of_lt x_c_kt.1), (Nat.ne_of_lt x_c_ba.1), (Nat.ne_of_lt x_c_fa.1), (Nat.ne_of_lt x_c_wb.1)⟩), (nm4 ⟨(Nat.ne_of_lt x_c_kt.2), (Nat.ne_of_lt x_c_ba.2), (Nat.ne_of_lt x_c_fa.2), (Nat.ne_of_lt x_c_wb.2)⟩)⟩
        have SW : h64.size ≤ (h76).size := Nat.le_trans SW Kc.1
        have A_k0x := A_k0x.keep Kc (nm4 ⟨(Ne.symm (Nat.ne_of_lt l_kt_k0x)), dd1, dd2, dd3⟩)
        have A_na := A_n
        have tota : (([] : List Int8) ++ (enc NA ++ (enc (u8s ua).length ++ u8s ua))).length + Ya.length ≤ 32 := by simp only [List.length_append]; omega
        have HK : KTI Z _ n0 kt ba fa wb b P 1 [.ref k0x, .ref na, .null, .null, .null, .null, .null, .null] [(0 : Int32), ffa, (0 : Int32), (0 : Int32), (0 : Int32), (0 : Int32), (0 : Int32), (0 : Int32)] laa := HK2
        have A_wb := A_wb2
        refine WP.lstore KW68.1 176 [.val (.int pa), .val (.int pb), .val (.long na_), .second, .val (.long nb_), .second, .val (.int sh), .val (.int xx), .val (.int bb), .val (.int lA), .val (.int lB), .val (.int (1 : Int32)), .val (.int ((XT.ushr sh (11 : Int32)) &&& (63 : Int32))), .val (.long nA), .second, .val (.long nB), .second, .val (.long nC), .second, .val (.int b0), .val (.int b1), .val (.int dd), .val (.ref oa), .val (.ref ob), .val (.ref oc), .val (.ref kt), .val (.long zza), .second, .unset, .unset, .unset, .unset, .unset] at_174 rfl rfl ?_
        refine WP.aload KW68.1 178 at_176 rfl rfl rfl ?_
        refine WP.aload KW68.1 180 at_178 rfl rfl rfl ?_
        refine WP.lload KW68.1 182 at_180 rfl rfl ?_
        refine WP.callV KW68.1 (a := kt) (C := "com/example/vestline/vestline/util/KeptTexts") 185 25 225 0 [(.ref ob), (.long nB)] [] (hw _ (List.mem_of_getElem? (i := 54) rfl)) (hw _ (List.mem_of_getElem? (i := 55) rfl)) rfl (hw _ (List.mem_of_getElem? (i := 57) rfl)) (hw _ (List.mem_of_getElem? (i := 56) rfl)) (hw _ (List.mem_of_getElem? (i := 29) rfl)) (hw _ (List.mem_of_getElem? (i := 58) rfl)) (by decide) own_pd_27 rfl rfl rfl (by decide) (by decide) (Nat.le_of_eq rfl) rfl at_182 rfl rfl rfl (by decide) (by decide) HK.ex (own_keep l Z a0 hw n0 h76 kt ba fa wb b P 1 [.ref k0x, .ref na, .null, .null, .null, .null, .null, .null] [(0 : Int32), ffa, (0 : Int32), (0 : Int32), (0 : Int32), (0 : Int32), (0 : Int32), (0 : Int32)] laa HK ob vb ub S_ob _ A_wb hw64 ⟨(Nat.ne_of_lt x_b_wb.1), (Nat.ne_of_lt x_b_wb.2)⟩ cs fm SS nB NB hNB na (([] : List Int8) ++ (enc NA ++ (enc (u8s ua).length ++ u8s ua))) Ya ffa (0 : Int32) rfl A_na tota rfl (by rw [hfa]; simp only [List.length_append]; omega) rfl rfl (by decide) n0_na ⟨(Ne.symm (Nat.ne_of_lt l_kt_na)), (Ne.symm (Nat.ne_of_lt l_ba_na)), (Ne.symm (Nat.ne_of_lt l_fa_na)), (Ne.symm (Nat.ne_of_lt l_wb_na))⟩ ⟨(Nat.ne_of_lt x_b_kt.1), (Nat.ne_of_lt x_b_ba.1), (Nat.ne_of_lt x_b_fa.1), (Nat.ne_of_lt l_ob_na), (Nat.ne_of_lt x_b_kt.2), (Nat.ne_of_lt x_b_ba.2), (Nat.ne_of_lt x_b_fa.2), (Nat.ne_of_lt l_vb_na)⟩) (r1_next fun r120 h118 q119 => ?_)
        obtain ⟨zzb, lab, rfl, ⟨wsb, hw64, A_wb2⟩, hk⟩ := q119
        rcases hk with ⟨f1b, f2b, hzb, hlb, ⟨ffb, hfb, HK2⟩, ⟨Yb, hYb, A_n⟩, Kc⟩ | ⟨nb, ffb, Yb, hnf, sz_nb, hfb, hzb, hlb, HK2, hYb, A_n, Kc⟩
        · skip
          have Z0 : n0 ≤ (h118).size := Nat.le_trans Z0 Kc.1
          have SS := SS.keep Kc (kn4 (by omega) (by omega) (by omega) (by omega))
          have S_oa := S_oa.keep Kc ⟨(nm4 ⟨(Nat.ne_of_lt x_a_kt.1), (Nat.ne_of_lt x_a_fa.1), (Nat.ne_of_lt x_a_wb.1), (Nat.ne_of_lt l_oa_na)⟩), (nm4 ⟨(Nat.ne_of_lt x_a_kt.2), (Nat.ne_of_lt x_a_fa.2), (Nat.ne_of_lt x_a_wb.2), (Nat.ne_of_lt l_va_na)⟩)⟩
          have S_ob := S_ob.keep Kc ⟨(nm4 ⟨(Nat.ne_of_lt x_b_kt.1), (Nat.ne_of_lt x_b_fa.1), (Nat.ne_of_lt x_b_wb.1), (Nat.ne_of_lt l_ob_na)⟩), (nm4 ⟨(Nat.ne_of_lt x_b_kt.2), (Nat.ne_of_lt x_b_fa.2), (Nat.ne_of_lt x_b_wb.2), (Nat.ne_of_lt l_vb_na)⟩)⟩
          have S_oc := S_oc.keep Kc ⟨(nm4 ⟨(Nat.ne_of_lt x_c_kt.1), (Nat.ne_of_lt x_c_fa.1), (Nat.ne_of_lt x_c_wb.1), (Nat.ne_of_lt l_oc_na)⟩), (nm4 ⟨(Nat.ne_of_lt x_c_kt.2), (Nat.ne_of_lt x_c_fa.2), (Nat.ne_of_lt x_c_wb.2), (Nat.ne_of_lt l_vc_na)⟩)⟩
          have SW : h64.size ≤ (h118).size := Nat.le_trans SW Kc.1
          have A_k0x := A_k0x.keep Kc (nm4 ⟨(Ne.symm (Nat.ne_of_lt l_kt_k0x)), dd2, dd3, (Nat.ne_of_lt l_k0x_na)⟩)
          have A_na := A_n
          have totb : ((([] : List Int8) ++ (enc NA ++ (enc (u8s ua).length ++ u8s ua))) ++ (enc NB ++ (enc (u8s ub).length ++ u8s ub))).length + Yb.length ≤ 32 := by
            have e3 := tota
            simp only [List.length_append] at e3 hYb ⊢; omega
          have HK : KTI Z _ n0 kt ba fa wb b P 1 [.ref k0x, .ref na, .null, .null, .null, .null, .null, .null] [(0 : Int32), ffb, (0 : Int32), (0 : Int32), (0 : Int32), (0 : Int32), (0 : Int32), (0 : Int32)] lab := HK2
          have A_wb := A_wb2
          refine WP.lstore KW68.1 187 [.val (.int pa), .val (.int pb), .val (.long na_), .second, .val (.long nb_), .second, .val (.int sh), .val (.int xx), .val (.int bb), .val (.int lA), .val (.int lB), .val (.int (1 : Int32)), .val (.int ((XT.ushr sh (11 : Int32)) &&& (63 : Int32))), .val (.long nA), .second, .val (.long nB), .second, .val (.long nC), .second, .val (.int b0), .val (.int b1), .val (.int dd), .val (.ref oa), .val (.ref ob), .val (.ref oc), .val (.ref kt), .val (.long zza), .second, .val (.long zzb), .second, .unset, .unset, .unset] at_185 rfl rfl ?_
          refine WP.aload KW68.1 189 at_187 rfl rfl rfl ?_
          refine WP.callV KW68.1 (a := kt) (C := "com/example/vestline/vestline/util/KeptTexts") 192 25 225 0 [] [] (hw _ (List.mem_of_getElem? (i := 113) rfl)) (hw _ (List.mem_of_getElem? (i := 114) rfl)) rfl (hw _ (List.mem_of_getElem? (i := 116) rfl)) (hw _ (List.mem_of_getElem? (i := 115) rfl)) (hw _ (List.mem_of_getElem? (i := 29) rfl)) (hw _ (List.mem_of_getElem? (i := 117) rfl)) (by decide) own_pd_28 rfl rfl rfl (by decide) (by decide) (Nat.le_of_eq rfl) rfl at_189 rfl rfl rfl (by decide) (by decide) HK.ex (own_forget l Z a0 hw n0 h118 kt ba fa wb b P 1 [.ref k0x, .ref na, .null, .null, .null, .null, .null, .null] [(0 : Int32), ffb, (0 : Int32), (0 : Int32), (0 : Int32), (0 : Int32), (0 : Int32), (0 : Int32)] lab HK (([] : List Int8) ++ (enc NA ++ (enc (u8s ua).length ++ u8s ua))).length hlb (by omega) (by decide)) (r0_next fun h121 q122 => ?_)
          obtain ⟨⟨fg, hfg, HK⟩, Kc⟩ := q122
          have Z0 : n0 ≤ (h121).size := Nat.le_trans Z0 Kc.1
          have SS := SS.keep Kc (kn2 (by omega) (by omega))
          have S_oa := S_oa.keep Kc ⟨(nm2 ⟨(Nat.ne_of_lt x_a_kt.1), (Nat.ne_of_lt x_a_fa.1)⟩), (nm2 ⟨(Nat.ne_of_lt x_a_kt.2), (Nat.ne_of_lt x_a_fa.2)⟩)⟩
          have S_ob := S_ob.keep Kc ⟨(nm2 ⟨(Nat.ne_of_lt x_b_kt.1), (Nat.ne_of_lt x_b_fa.1)⟩), (nm2 ⟨(Nat.ne_of_lt x_b_kt.2), (Nat.ne_of_lt x_b_fa.2)⟩)⟩
          have S_oc := S_oc.keep Kc ⟨(nm2 ⟨(Nat.ne_of_lt x_c_kt.1), (Nat.ne_of_lt x_c_fa.1)⟩), (nm2 ⟨(Nat.ne_of_lt x_c_kt.2), (Nat.ne_of_lt x_c_fa.2)⟩)⟩
          have SW : h64.size ≤ (h121).size := Nat.le_trans SW Kc.1
          have A_k0x := A_k0x.keep Kc (nm2 ⟨(Ne.symm (Nat.ne_of_lt l_kt_k0x)), dd2⟩)
          have A_na := A_na.keep Kc (nm2 ⟨(Ne.symm (Nat.ne_of_lt l_kt_na)), (Ne.symm (Nat.ne_of_lt l_fa_na))⟩)
          have A_wb := A_wb.keep Kc (nm2 ⟨(Ne.symm g3), (Ne.symm g6)⟩)
          have HK : KTI Z _ n0 kt ba fa wb b P 1 [.ref k0x, .ref na, .null, .null, .null, .null, .null, .null] [(0 : Int32), fg, (0 : Int32), (0 : Int32), (0 : Int32), (0 : Int32), (0 : Int32), (0 : Int32)] lab := HK
          have A_na : ArB Z h121 na ((([] : List Int8) ++ (enc NA ++ (enc (u8s ua).length ++ u8s ua))) ++ ((enc NB ++ (enc (u8s ub).length ++ u8s ub)) ++ Yb)) := by simpa using A_na
          have totg : (([] : List Int8) ++ (enc NA ++ (enc (u8s ua).length ++ u8s ua))).length + ((enc NB ++ (enc (u8s ub).length ++ u8s ub)) ++ Yb).length ≤ 32 := by
            have e3 := totb
            simp only [List.length_append] at e3 ⊢; omega
          refine WP.aload KW68.1 194 at_192 rfl rfl rfl ?_
          refine WP.aload KW68.1 196 at_194 rfl rfl rfl ?_
          refine WP.lload KW68.1 198 at_196 rfl rfl ?_
          refine WP.callV KW68.1 (a := kt) (C := "com/example/vestline/vestline/util/KeptTexts") 201 26 257 0 [(.ref oc), (.long nC)] [] (hw _ (List.mem_of_getElem? (i := 54) rfl)) (hw _ (List.mem_of_getElem? (i := 55) rfl)) rfl (hw _ (List.mem_of_getElem? (i := 57) rfl)) (hw _ (List.mem_of_getElem? (i := 56) rfl)) (hw _ (List.mem_of_getElem? (i := 29) rfl)) (hw _ (List.mem_of_getElem? (i := 58) rfl)) (by decide) own_pd_27 rfl rfl rfl (by decide) (by decide) (Nat.le_of_eq rfl) rfl at_198 rfl rfl rfl (by decide) (by decide) HK.ex (own_keep l Z a0 hw n0 h121 kt ba fa wb b P 1 [.ref k0x, .ref na, .null, .null, .null, .null, .null, .null] [(0 : Int32), fg, (0 : Int32), (0 : Int32), (0 : Int32), (0 : Int32), (0 : Int32), (0 : Int32)] lab HK oc vc uc S_oc _ A_wb hw64 ⟨(Nat.ne_of_lt x_c_wb.1), (Nat.ne_of_lt x_c_wb.2)⟩ cs fm SS nC NC hNC na (([] : List Int8) ++ (enc NA ++ (enc (u8s ua).length ++ u8s ua))) ((enc NB ++ (enc (u8s ub).length ++ u8s ub)) ++ Yb) fg (0 : Int32) rfl A_na totg rfl hfg rfl rfl (by decide) n0_na ⟨(Ne.symm (Nat.ne_of_lt l_kt_na)), (Ne.symm (Nat.ne_of_lt l_ba_na)), (Ne.symm (Nat.ne_of_lt l_fa_na)), (Ne.symm (Nat.ne_of_lt l_wb_na))⟩ ⟨(Nat.ne_of_lt x_c_kt.1), (Nat.ne_of_lt x_c_ba.1), (Nat.ne_of_lt x_c_fa.1), (Nat.ne_of_lt l_oc_na), (Nat.ne_of_lt x_c_kt.2), (Nat.ne_of_lt x_c_ba.2), (Nat.ne_of_lt x_c_fa.2), (Nat.ne_of_lt l_vc_na)⟩) (r1_next fun r126 h124 q125 => ?_)
          obtain ⟨zzc, lac, rfl, ⟨wsc, hw64, A_wb2⟩, hk⟩ := q125
          rcases hk with ⟨f1c, f2c, hzc, hlc, ⟨ffc, hfc, HK2⟩, ⟨Yc, hYc, A_n⟩, Kc⟩ | ⟨nc, ffc, Yc, hnf, sz_nc, hfc, hzc, hlc, HK2, hYc, A_n, Kc⟩
          · skip
            have Z0 : n0 ≤ (h124).size := Nat.le_trans Z0 Kc.1
            have SS := SS.keep Kc (kn4 (by omega) (by omega) (by omega) (by omega))
            have S_oa := S_oa.keep Kc ⟨(nm4 ⟨(Nat.ne_of_lt x_a_kt.1), (Nat.ne_of_lt x_a_fa.1), (Nat.ne_of_lt x_a_wb.1), (Nat.ne_of_lt l_oa_na)⟩), (nm4 ⟨(Nat.ne_of_lt x_a_kt.2), (Nat.ne_of_lt x_a_fa.2), (Nat.ne_of_lt x_a_wb.2), (Nat.ne_of_lt l_va_na)⟩)⟩
            have S_ob := S_ob.keep Kc ⟨(nm4 ⟨(Nat.ne_of_lt x_b_kt.1), (Nat.ne_of_lt x_b_fa.1), (Nat.ne_of_lt x_b_wb.1), (Nat.ne_of_lt l_ob_na)⟩), (nm4 ⟨(Nat.ne_of_lt x_b_kt.2), (Nat.ne_of_lt x_b_fa.2), (Nat.ne_of_lt x_b_wb.2), (Nat.ne_of_lt l_vb_na)⟩)⟩
            have S_oc := S_oc.keep Kc ⟨(nm4 ⟨(Nat.ne_of_lt x_c_kt.1), (Nat.ne_of_lt x_c_fa.1), (Nat.ne_of_lt x_c_wb.1), (Nat.ne_of_lt l_oc_na)⟩), (nm4 ⟨(Nat.ne_of_lt x_c_kt.2), (Nat.ne_of_lt x_c_fa.2), (Nat.ne_of_lt x_c_wb.2), (Nat.ne_of_lt l_vc_na)⟩)⟩
            have SW : h64.size ≤ (h124).size := Nat.le_trans SW Kc.1
            have A_k0x := A_k0x.keep Kc (nm4 ⟨(Ne.symm (Nat.ne_of_lt l_kt_k0x)), dd2, dd3, (Nat.ne_of_lt l_k0x_na)⟩)
            have A_na := A_n
            have totc : ((([] : List Int8) ++ (enc NA ++ (enc (u8s ua).length ++ u8s ua))) ++ (enc NC ++ (enc (u8s uc).length ++ u8s uc))).length + Yc.length ≤ 32 := by
              have e3 := totg
              simp only [List.length_append] at e3 hYc ⊢; omega
            have HK : KTI Z _ n0 kt ba fa wb b P 1 [.ref k0x, .ref na, .null, .null, .null, .null, .null, .null] [(0 : Int32), ffc, (0 : Int32), (0 : Int32), (0 : Int32), (0 : Int32), (0 : Int32), (0 : Int32)] lac := HK2
            have A_wb := A_wb2
            refine WP.lstore KW68.1 203 [.val (.int pa), .val (.int pb), .val (.long na_), .second, .val (.long nb_), .second, .val (.int sh), .val (.int xx), .val (.int bb), .val (.int lA), .val (.int lB), .val (.int (1 : Int32)), .val (.int ((XT.ushr sh (11 : Int32)) &&& (63 : Int32))), .val (.long nA), .second, .val (.long nB), .second, .val (.long nC), .second, .val (.int b0), .val (.int b1), .val (.int dd), .val (.ref oa), .val (.ref ob), .val (.ref oc), .val (.ref kt), .val (.long zza), .second, .val (.long zzb), .second, .val (.long zzc), .second, .unset] at_201 rfl rfl ?_
            refine WP.lload KW68.1 205 at_203 rfl rfl ?_
            refine WP.lload KW68.1 207 at_205 rfl rfl ?_
            refine WP.lcmp KW68.1 208 at_207 rfl ?_
            refine WP.ifl_ne KW68.1 240 211 at_208 (by decide) rfl (fun c208 => ?_) (fun c208 => ?_)
            · skip
              exact absurd (by omega) c208
            · skip
              refine WP.aload KW68.1 213 at_211 rfl rfl rfl ?_
              refine WP.lload KW68.1 215 at_213 rfl rfl ?_
              refine WP.aload KW68.1 217 at_215 rfl rfl rfl ?_
              refine WP.callV KW68.1 (a := kt) (C := "com/example/vestline/vestline/util/KeptTexts") 220 26 257 0 [(.long zzc), (.ref oc)] [] (hw _ (List.mem_of_getElem? (i := 118) rfl)) (hw _ (List.mem_of_getElem? (i := 119) rfl)) rfl (hw _ (List.mem_of_getElem? (i := 121) rfl)) (hw _ (List.mem_of_getElem? (i := 120) rfl)) (hw _ (List.mem_of_getElem? (i := 29) rfl)) (hw _ (List.mem_of_getElem? (i := 122) rfl)) (by decide) own_pd_29 rfl rfl rfl (by decide) (by decide) (Nat.le_of_eq rfl) rfl at_217 rfl rfl rfl (by decide) (by decide) HK.ex (own_holds l Z a0 hw n0 h124 kt ba fa wb b P 1 [.ref k0x, .ref na, .null, .null, .null, .null, .null, .null] [(0 : Int32), ffc, (0 : Int32), (0 : Int32), (0 : Int32), (0 : Int32), (0 : Int32), (0 : Int32)] lac HK zzc 1 NC (([] : List Int8) ++ (enc NA ++ (enc (u8s ua).length ++ u8s ua))) Yc na uc rfl A_na (by have e3 := totc; simp only [List.length_append] at e3 ⊢; omega) (by omega) (by decide) hzc hNC2 oc vc S_oc _ A_wb hw64 ⟨(Nat.ne_of_lt x_c_wb.1), (Nat.ne_of_lt x_c_wb.2)⟩ cs fm SS (Ne.symm (Nat.ne_of_lt l_wb_na))) (r1_next fun r129 h127 q128 => ?_)
              obtain ⟨rfl, Kc, wxc, hw64, A_wb⟩ := q128
              have Z0 : n0 ≤ (h127).size := Nat.le_trans Z0 Kc.1
              have SS := SS.keep Kc (kn1 (by omega))
              have S_oa := S_oa.keep Kc ⟨(nm1 (Nat.ne_of_lt x_a_wb.1)), (nm1 (Nat.ne_of_lt x_a_wb.2))⟩
              have S_ob := S_ob.keep Kc ⟨(nm1 (Nat.ne_of_lt x_b_wb.1)), (nm1 (Nat.ne_of_lt x_b_wb.2))⟩
              have S_oc := S_oc.keep Kc ⟨(nm1 (Nat.ne_of_lt x_c_wb.1)), (nm1 (Nat.ne_of_lt x_c_wb.2))⟩
              have SW : h64.size ≤ (h127).size := Nat.le_trans SW Kc.1
              have A_k0x := A_k0x.keep Kc (nm1 dd3)
              have A_na := A_na.keep Kc (nm1 (Ne.symm (Nat.ne_of_lt l_wb_na)))
              have HK := HK.keep Kc ⟨(nm1 g3), (nm1 g5), (nm1 g6)⟩
              refine WP.if_eq KW68.1 240 223 at_220 (by decide) rfl (fun c220 => ?_) (fun c220 => ?_)
              · skip
                exact absurd c220 (by decide)
              · skip
                refine WP.aload KW68.1 225 at_223 rfl rfl rfl ?_
                refine WP.lload KW68.1 227 at_225 rfl rfl ?_
                refine WP.callV KW68.1 (a := kt) (C := "com/example/vestline/vestline/util/KeptTexts") 230 26 257 0 [(.long zzc)] [] (hw _ (List.mem_of_getElem? (i := 137) rfl)) (hw _ (List.mem_of_getElem? (i := 138) rfl)) rfl (hw _ (List.mem_of_getElem? (i := 140) rfl)) (hw _ (List.mem_of_getElem? (i := 139) rfl)) (hw _ (List.mem_of_getElem? (i := 29) rfl)) (hw _ (List.mem_of_getElem? (i := 141) rfl)) (by decide) own_pd_30 rfl rfl rfl (by decide) (by decide) (Nat.le_of_eq rfl) rfl at_227 rfl rfl rfl (by decide) (by decide) HK.ex (own_number l Z a0 hw n0 h127 kt ba fa wb b P 1 [.ref k0x, .ref na, .null, .null, .null, .null, .null, .null] [(0 : Int32), ffc, (0 : Int32), (0 : Int32), (0 : Int32), (0 : Int32), (0 : Int32), (0 : Int32)] lac HK zzc 1 NC (([] : List Int8) ++ (enc NA ++ (enc (u8s ua).length ++ u8s ua))) Yc na uc rfl A_na (by have e3 := totc; simp only [List.length_append] at e3 ⊢; omega) (by omega) (by decide) hzc hNC2) (r1_next fun r132 h130 q131 => ?_)
                obtain ⟨⟨zvc, rfl, hzvc⟩, rfl⟩ := q131
                obtain rfl : nC = zvc := i64_eq (by rw [hzvc, hNC])
                refine WP.lload KW68.1 232 at_230 rfl rfl ?_
                refine WP.lcmp KW68.1 233 at_232 rfl ?_
                refine WP.ifl_ne KW68.1 240 236 at_233 (by decide) rfl (fun c233 => ?_) (fun c233 => ?_)
                · skip
                  exact absurd rfl c233
                · skip
                  refine WP.iconst KW68.1 (1 : Int32) 237 at_236 rfl rfl ?_
                  refine WP.goto KW68.1 241 at_237 (by decide) ?_
                  refine WP.istore KW68.1 243 [.val (.int pa), .val (.int pb), .val (.long na_), .second, .val (.long nb_), .second, .val (.int sh), .val (.int xx), .val (.int bb), .val (.int lA), .val (.int lB), .val (.int (1 : Int32)), .val (.int ((XT.ushr sh (11 : Int32)) &&& (63 : Int32))), .val (.long nA), .second, .val (.long nB), .second, .val (.long nC), .second, .val (.int b0), .val (.int b1), .val (.int dd), .val (.ref oa), .val (.ref ob), .val (.ref oc), .val (.ref kt), .val (.long zza), .second, .val (.long zzb), .second, .val (.long zzc), .second, .val (.int (1 : Int32))] at_241 rfl rfl ?_
                  refine WP.iload KW68.1 245 at_243 rfl rfl ?_
                  refine WP.if_eq KW68.1 285 248 at_245 (by decide) rfl (fun c245 => ?_) (fun c245 => ?_)
                  · skip
                    exact absurd c245 (by decide)
                  · skip
                    refine WP.iload KW68.1 250 at_248 rfl rfl ?_
                    refine WP.if_eq KW68.1 282 253 at_250 (by decide) rfl (fun c250 => ?_) (fun c250 => ?_)
                    · skip
                      exact absurd c250 (by decide)
                    · skip
                      refine WP.aload KW68.1 255 at_253 rfl rfl rfl ?_
                      refine WP.lload KW68.1 257 at_255 rfl rfl ?_
                      refine WP.aload KW68.1 259 at_257 rfl rfl rfl ?_
                      refine WP.callV KW68.1 (a := kt) (C := "com/example/vestline/vestline/util/KeptTexts") 262 26 257 0 [(.long zza), (.ref oa)] [] (hw _ (List.mem_of_getElem? (i := 118) rfl)) (hw _ (List.mem_of_getElem? (i := 119) rfl)) rfl (hw _ (List.mem_of_getElem? (i := 121) rfl)) (hw _ (List.mem_of_getElem? (i := 120) rfl)) (hw _ (List.mem_of_getElem? (i := 29) rfl)) (hw _ (List.mem_of_getElem? (i := 122) rfl)) (by decide) own_pd_29 rfl rfl rfl (by decide) (by decide) (Nat.le_of_eq rfl) rfl at_259 rfl rfl rfl (by decide) (by decide) HK.ex (own_holds l Z a0 hw n0 h127 kt ba fa wb b P 1 [.ref k0x, .ref na, .null, .null, .null, .null, .null, .null] [(0 : Int32), ffc, (0 : Int32), (0 : Int32), (0 : Int32), (0 : Int32), (0 : Int32), (0 : Int32)] lac HK zza 1 NA ([] : List Int8) ((enc NC ++ (enc (u8s uc).length ++ u8s uc)) ++ Yc) na ua rfl (by simpa using A_na) (by have e3 := totc; simp only [List.length_append] at e3 ⊢; omega) (by omega) (by decide) hza hNA2 oa va S_oa _ A_wb hw64 ⟨(Nat.ne_of_lt x_a_wb.1), (Nat.ne_of_lt x_a_wb.2)⟩ cs fm SS (Ne.symm (Nat.ne_of_lt l_wb_na))) (r1_next fun r135 h133 q134 => ?_)
                      obtain ⟨rfl, Kc, wxa, hw64, A_wb⟩ := q134
                      have Z0 : n0 ≤ (h133).size := Nat.le_trans Z0 Kc.1
                      have SS := SS.keep Kc (kn1 (by omega))
                      have S_oa := S_oa.keep Kc ⟨(nm1 (Nat.ne_of_lt x_a_wb.1)), (nm1 (Nat.ne_of_lt x_a_wb.2))⟩
                      have S_ob := S_ob.keep Kc ⟨(nm1 (Nat.ne_of_lt x_b_wb.1)), (nm1 (Nat.ne_of_lt x_b_wb.2))⟩
                      have S_oc := S_oc.keep Kc ⟨(nm1 (Nat.ne_of_lt x_c_wb.1)), (nm1 (Nat.ne_of_lt x_c_wb.2))⟩
                      have SW : h64.size ≤ (h133).size := Nat.le_trans SW Kc.1
                      have A_k0x := A_k0x.keep Kc (nm1 dd3)
                      have A_na := A_na.keep Kc (nm1 (Ne.symm (Nat.ne_of_lt l_wb_na)))
                      have HK := HK.keep Kc ⟨(nm1 g3), (nm1 g5), (nm1 g6)⟩
                      refine WP.if_eq KW68.1 282 265 at_262 (by decide) rfl (fun c262 => ?_) (fun c262 => ?_)
                      · skip
                        exact absurd c262 (by decide)
                      · skip
                        refine WP.aload KW68.1 267 at_265 rfl rfl rfl ?_
                        refine WP.lload KW68.1 269 at_267 rfl rfl ?_
                        refine WP.callV KW68.1 (a := kt) (C := "com/example/vestline/vestline/util/KeptTexts") 272 26 257 0 [(.long zza)] [] (hw _ (List.mem_of_getElem? (i := 137) rfl)) (hw _ (List.mem_of_getElem? (i := 138) rfl)) rfl (hw _ (List.mem_of_getElem? (i := 140) rfl)) (hw _ (List.mem_of_getElem? (i := 139) rfl)) (hw _ (List.mem_of_getElem? (i := 29) rfl)) (hw _ (List.mem_of_getElem? (i := 141) rfl)) (by decide) own_pd_30 rfl rfl rfl (by decide) (by decide) (Nat.le_of_eq rfl) rfl at_269 rfl rfl rfl (by decide) (by decide) HK.ex (own_number l Z a0 hw n0 h133 kt ba fa wb b P 1 [.ref k0x, .ref na, .null, .null, .null, .null, .null, .null] [(0 : Int32), ffc, (0 : Int32), (0 : Int32), (0 : Int32), (0 : Int32), (0 : Int32), (0 : Int32)] lac HK zza 1 NA ([] : List Int8) ((enc NC ++ (enc (u8s uc).length ++ u8s uc)) ++ Yc) na ua rfl (by simpa using A_na) (by have e3 := totc; simp only [List.length_append] at e3 ⊢; omega) (by omega) (by decide) hza hNA2) (r1_next fun r138 h136 q137 => ?_)
                        obtain ⟨⟨zva, rfl, hzva⟩, rfl⟩ := q137
                        obtain rfl : nA = zva := i64_eq (by rw [hzva, hNA])
                        refine WP.lload KW68.1 274 at_272 rfl rfl ?_
                        refine WP.lcmp KW68.1 275 at_274 rfl ?_
                        refine WP.ifl_ne KW68.1 282 278 at_275 (by decide) rfl (fun c275 => ?_) (fun c275 => ?_)
                        · skip
                          exact absurd rfl c275
                        · skip
                          refine WP.iconst KW68.1 (1 : Int32) 279 at_278 rfl rfl ?_
                          refine WP.goto KW68.1 283 at_279 (by decide) ?_
                          refine WP.istore KW68.1 285 [.val (.int pa), .val (.int pb), .val (.long na_), .second, .val (.long nb_), .second, .val (.int sh), .val (.int xx), .val (.int bb), .val (.int lA), .val (.int lB), .val (.int (1 : Int32)), .val (.int ((XT.ushr sh (11 : Int32)) &&& (63 : Int32))), .val (.long nA), .second, .val (.long nB), .second, .val (.long nC), .second, .val (.int b0), .val (.int b1), .val (.int dd), .val (.ref oa), .val (.ref ob), .val (.ref oc), .val (.ref kt), .val (.long zza), .second, .val (.long zzb), .second, .val (.long zzc), .second, .val (.int (1 : Int32))] at_283 rfl rfl ?_
                          refine WP.iload KW68.1 287 at_285 rfl rfl ?_
                          refine WP.iret KW68.1 rfl (Or.inr (Or.inl rfl)) rfl at_287 ?_ (by decide) (by decide)
                          exact ⟨⟨_, rfl, rfl⟩, SW⟩
          · skip
            exact absurd ⟨by simp only [List.length_append]; omega, by omega⟩ hnf
        · skip
          have l_oa_nb : @LT.lt Nat _ oa nb := Nat.lt_of_lt_of_le S_oa.rg.1 sz_nb
          have l_va_nb : @LT.lt Nat _ va nb := Nat.lt_of_lt_of_le S_oa.rg.2 sz_nb
          have l_ob_nb : @LT.lt Nat _ ob nb := Nat.lt_of_lt_of_le S_ob.rg.1 sz_nb
          have l_vb_nb : @LT.lt Nat _ vb nb := Nat.lt_of_lt_of_le S_ob.rg.2 sz_nb
          have l_oc_nb : @LT.lt Nat _ oc nb := Nat.lt_of_lt_of_le S_oc.rg.1 sz_nb
          have l_vc_nb : @LT.lt Nat _ vc nb := Nat.lt_of_lt_of_le S_oc.rg.2 sz_nb
          have l_k0x_nb : @LT.lt Nat _ k0x nb := Nat.lt_of_lt_of_le A_k0x.lt sz_nb
          have l_na_nb : @LT.lt Nat _ na nb := Nat.lt_of_lt_of_le A_na.lt sz_nb
          have l_kt_nb : @LT.lt Nat _ kt nb := Nat.lt_of_lt_of_le HK.rg.1 sz_nb
          have l_ba_nb : @LT.lt Nat _ ba nb := Nat.lt_of_lt_of_le HK.rg.2.1 sz_nb
          have l_fa_nb : @LT.lt Nat _ fa nb := Nat.lt_of_lt_of_le HK.rg.2.2.1 sz_nb
          have l_wb_nb : @LT.lt Nat _ wb nb := Nat.lt_of_lt_of_le A_wb.lt sz_nb
          have n0_nb : @LE.le Nat _ n0 nb := Nat.le_trans Z0 sz_nb
          have Z0 : n0 ≤ (h118).size := Nat.le_trans Z0 Kc.1
          have SS := SS.keep Kc (kn4 (by omega) (by omega) (by omega) (by omega))
          have S_oa := S_oa.keep Kc ⟨(nm4 ⟨(Nat.ne_of_lt x_a_kt.1), (Nat.ne_of_lt x_a_ba.1), (Nat.ne_of_lt x_a_fa.1), (Nat.ne_of_lt x_a_wb.1)⟩), (nm4 ⟨(Nat.ne_of_lt x_a_kt.2), (Nat.ne_of_lt x_a_ba.2), (Nat.ne_of_lt x_a_fa.2), (Nat.ne_of_lt x_a_wb.2)⟩)⟩
          have S_ob := S_ob.keep Kc ⟨(nm4 ⟨(Nat.ne_of_lt x_b_kt.1), (Nat.ne_of_lt x_b_ba.1), (Nat.ne_of_lt x_b_fa.1), (Nat.ne_of_lt x_b_wb.1)⟩), (nm4 ⟨(Nat.ne_of_lt x_b_kt.2), (Nat.ne_of_lt x_b_ba.2), (Nat.ne_of_lt x_b_fa.2), (Nat.ne_of_lt x_b_wb.2)⟩)⟩
          have S_oc := S_oc.keep Kc ⟨(nm4 ⟨(Nat.ne_of_lt x_c_kt.1), (Nat.ne_of_lt x_c_ba.1), (Nat.ne_of_lt x_c_fa.1), (Nat.ne_of_lt x_c_wb.1)⟩), (nm4 ⟨(Nat.ne_of_lt x_c_kt.2), (Nat.ne_of_lt x_c_ba.2), (Nat.ne_of_lt x_c_fa.2), (Nat.ne_of_lt x_c_wb.2)⟩)⟩
          have SW : h64.size ≤ (h118).size := Nat.le_trans SW Kc.1
          have A_k0x := A_k0x.keep Kc (nm4 ⟨(Ne.symm (Nat.ne_of_lt l_kt_k0x)), dd1, dd2, dd3⟩)
          have A_na := A_na.keep Kc (nm4 ⟨(Ne.symm (Nat.ne_of_lt l_kt_na)), (Ne.symm (Nat.ne_of_lt l_ba_na)), (Ne.symm (Nat.ne_of_lt l_fa_na)), (Ne.symm (Nat.ne_of_lt l_wb_na))⟩)
          have A_nb := A_n
          have totb : (([] : List Int8) ++ (enc NB ++ (enc (u8s ub).length ++ u8s ub))).length + Yb.length ≤ 32 := by simp only [List.length_append]; omega
          have HK : KTI Z _ n0 kt ba fa wb b P 2 [.ref k0x, .ref na, .ref nb, .null, .null, .null, .null, .null] [(0 : Int32), ffa, ffb, (0 : Int32), (0 : Int32), (0 : Int32), (0 : Int32), (0 : Int32)] lab := HK2
          have A_wb := A_wb2
          refine WP.lstore KW68.1 187 [.val (.int pa), .val (.int pb), .val (.long na_), .second, .val (.long nb_), .second, .val (.int sh), .val (.int xx), .val (.int bb), .val (.int lA), .val (.int lB), .val (.int (1 : Int32)), .val (.int ((XT.ushr sh (11 : Int32)) &&& (63 : Int32))), .val (.long nA), .second, .val (.long nB), .second, .val (.long nC), .second, .val (.int b0), .val (.int b1), .val (.int dd), .val (.ref oa), .val (.ref ob), .val (.ref oc), .val (.ref kt), .val (.long zza), .second, .val (.long zzb), .second, .unset, .unset, .unset] at_185 rfl rfl ?_
          refine WP.aload KW68.1 189 at_187 rfl rfl rfl ?_
          refine WP.callV KW68.1 (a := kt) (C := "com/example/vestline/vestline/util/KeptTexts") 192 25 225 0 [] [] (hw _ (List.mem_of_getElem? (i := 113) rfl)) (hw _ (List.mem_of_getElem? (i := 114) rfl)) rfl (hw _ (List.mem_of_getElem? (i := 116) rfl)) (hw _ (List.mem_of_getElem? (i := 115) rfl)) (hw _ (List.mem_of_getElem? (i := 29) rfl)) (hw _ (List.mem_of_getElem? (i := 117) rfl)) (by decide) own_pd_28 rfl rfl rfl (by decide) (by decide) (Nat.le_of_eq rfl) rfl at_189 rfl rfl rfl (by decide) (by decide) HK.ex (own_forget l Z a0 hw n0 h118 kt ba fa wb b P 2 [.ref k0x, .ref na, .ref nb, .null, .null, .null, .null, .null] [(0 : Int32), ffa, ffb, (0 : Int32), (0 : Int32), (0 : Int32), (0 : Int32), (0 : Int32)] lab HK ([] : List Int8).length hlb (by omega) (by decide)) (r0_next fun h139 q140 => ?_)
          obtain ⟨⟨fg, hfg, HK⟩, Kc⟩ := q140
          have Z0 : n0 ≤ (h139).size := Nat.le_trans Z0 Kc.1
          have SS := SS.keep Kc (kn2 (by omega) (by omega))
          have S_oa := S_oa.keep Kc ⟨(nm2 ⟨(Nat.ne_of_lt x_a_kt.1), (Nat.ne_of_lt x_a_fa.1)⟩), (nm2 ⟨(Nat.ne_of_lt x_a_kt.2), (Nat.ne_of_lt x_a_fa.2)⟩)⟩
          have S_ob := S_ob.keep Kc ⟨(nm2 ⟨(Nat.ne_of_lt x_b_kt.1), (Nat.ne_of_lt x_b_fa.1)⟩), (nm2 ⟨(Nat.ne_of_lt x_b_kt.2), (Nat.ne_of_lt x_b_fa.2)⟩)⟩
          have S_oc := S_oc.keep Kc ⟨(nm2 ⟨(Nat.ne_of_lt x_c_kt.1), (Nat.ne_of_lt x_c_fa.1)⟩), (nm2 ⟨(Nat.ne_of_lt x_c_kt.2), (Nat.ne_of_lt x_c_fa.2)⟩)⟩
          have SW : h64.size ≤ (h139).size := Nat.le_trans SW Kc.1
          have A_k0x := A_k0x.keep Kc (nm2 ⟨(Ne.symm (Nat.ne_of_lt l_kt_k0x)), dd2⟩)
          have A_na := A_na.keep Kc (nm2 ⟨(Ne.symm (Nat.ne_of_lt l_kt_na)), (Ne.symm (Nat.ne_of_lt l_fa_na))⟩)
          have A_nb := A_nb.keep Kc (nm2 ⟨(Ne.symm (Nat.ne_of_lt l_kt_nb)), (Ne.symm (Nat.ne_of_lt l_fa_nb))⟩)
          have A_wb := A_wb.keep Kc (nm2 ⟨(Ne.symm g3), (Ne.symm g6)⟩)
          have HK : KTI Z _ n0 kt ba fa wb b P 2 [.ref k0x, .ref na, .ref nb, .null, .null, .null, .null, .null] [(0 : Int32), ffa, fg, (0 : Int32), (0 : Int32), (0 : Int32), (0 : Int32), (0 : Int32)] lab := HK
          have A_nb : ArB Z h139 nb (([] : List Int8) ++ ((enc NB ++ (enc (u8s ub).length ++ u8s ub)) ++ Yb)) := by simpa using A_nb
          have totg : ([] : List Int8).length + ((enc NB ++ (enc (u8s ub).length ++ u8s ub)) ++ Yb).length ≤ 32 := by
            have e3 := totb
            simp only [List.length_append] at e3 ⊢; omega
          refine WP.aload KW68.1 194 at_192 rfl rfl rfl ?_
          refine WP.aload KW68.1 196 at_194 rfl rfl rfl ?_
          refine WP.lload KW68.1 198 at_196 rfl rfl ?_
          refine WP.callV KW68.1 (a := kt) (C := "com/example/vestline/vestline/util/KeptTexts") 201 26 257 0 [(.ref oc), (.long nC)] [] (hw _ (List.mem_of_getElem? (i := 54) rfl)) (hw _ (List.mem_of_getElem? (i := 55) rfl)) rfl (hw _ (List.mem_of_getElem? (i := 57) rfl)) (hw _ (List.mem_of_getElem? (i := 56) rfl)) (hw _ (List.mem_of_getElem? (i := 29) rfl)) (hw _ (List.mem_of_getElem? (i := 58) rfl)) (by decide) own_pd_27 rfl rfl rfl (by decide) (by decide) (Nat.le_of_eq rfl) rfl at_198 rfl rfl rfl (by decide) (by decide) HK.ex (own_keep l Z a0 hw n0 h139 kt ba fa wb b P 2 [.ref k0x, .ref na, .ref nb, .null, .null, .null, .null, .null] [(0 : Int32), ffa, fg, (0 : Int32), (0 : Int32), (0 : Int32), (0 : Int32), (0 : Int32)] lab HK oc vc uc S_oc _ A_wb hw64 ⟨(Nat.ne_of_lt x_c_wb.1), (Nat.ne_of_lt x_c_wb.2)⟩ cs fm SS nC NC hNC nb ([] : List Int8) ((enc NB ++ (enc (u8s ub).length ++ u8s ub)) ++ Yb) fg (0 : Int32) rfl A_nb totg rfl hfg rfl rfl (by decide) n0_nb ⟨(Ne.symm (Nat.ne_of_lt l_kt_nb)), (Ne.symm (Nat.ne_of_lt l_ba_nb)), (Ne.symm (Nat.ne_of_lt l_fa_nb)), (Ne.symm (Nat.ne_of_lt l_wb_nb))⟩ ⟨(Nat.ne_of_lt x_c_kt.1), (Nat.ne_of_lt x_c_ba.1), (Nat.ne_of_lt x_c_fa.1), (Nat.ne_of_lt l_oc_nb), (Nat.ne_of_lt x_c_kt.2), (Nat.ne_of_lt x_c_ba.2), (Nat.ne_of_lt x_c_fa.2), (Nat.ne_of_lt l_vc_nb)⟩) (r1_next fun r144 h142 q143 => ?_)
          obtain ⟨zzc, lac, rfl, ⟨wsc, hw64, A_wb2⟩, hk⟩ := q143
          rcases hk with ⟨f1c, f2c, hzc, hlc, ⟨ffc, hfc, HK2⟩, ⟨Yc, hYc, A_n⟩, Kc⟩ | ⟨nc, ffc, Yc, hnf, sz_nc, hfc, hzc, hlc, HK2, hYc, A_n, Kc⟩
          · skip
            have Z0 : n0 ≤ (h142).size := Nat.le_trans Z0 Kc.1
            have SS := SS.keep Kc (kn4 (by omega) (by omega) (by omega) (by omega))
            have S_oa := S_oa.keep Kc ⟨(nm4 ⟨(Nat.ne_of_lt x_a_kt.1), (Nat.ne_of_lt x_a_fa.1), (Nat.ne_of_lt x_a_wb.1), (Nat.ne_of_lt l_oa_nb)⟩), (nm4 ⟨(Nat.ne_of_lt x_a_kt.2), (Nat.ne_of_lt x_a_fa.2), (Nat.ne_of_lt x_a_wb.2), (Nat.ne_of_lt l_va_nb)⟩)⟩
            have S_ob := S_ob.keep Kc ⟨(nm4 ⟨(Nat.ne_of_lt x_b_kt.1), (Nat.ne_of_lt x_b_fa.1), (Nat.ne_of_lt x_b_wb.1), (Nat.ne_of_lt l_ob_nb)⟩), (nm4 ⟨(Nat.ne_of_lt x_b_kt.2), (Nat.ne_of_lt x_b_fa.2), (Nat.ne_of_lt x_b_wb.2), (Nat.ne_of_lt l_vb_nb)⟩)⟩
            have S_oc := S_oc.keep Kc ⟨(nm4 ⟨(Nat.ne_of_lt x_c_kt.1), (Nat.ne_of_lt x_c_fa.1), (Nat.ne_of_lt x_c_wb.1), (Nat.ne_of_lt l_oc_nb)⟩), (nm4 ⟨(Nat.ne_of_lt x_c_kt.2), (Nat.ne_of_lt x_c_fa.2), (Nat.ne_of_lt x_c_wb.2), (Nat.ne_of_lt l_vc_nb)⟩)⟩
            have SW : h64.size ≤ (h142).size := Nat.le_trans SW Kc.1
            have A_k0x := A_k0x.keep Kc (nm4 ⟨(Ne.symm (Nat.ne_of_lt l_kt_k0x)), dd2, dd3, (Nat.ne_of_lt l_k0x_nb)⟩)
            have A_na := A_na.keep Kc (nm4 ⟨(Ne.symm (Nat.ne_of_lt l_kt_na)), (Ne.symm (Nat.ne_of_lt l_fa_na)), (Ne.symm (Nat.ne_of_lt l_wb_na)), (Nat.ne_of_lt l_na_nb)⟩)
            have A_nb := A_n
            have totc : (([] : List Int8) ++ (enc NC ++ (enc (u8s uc).length ++ u8s uc))).length + Yc.length ≤ 32 := by
              have e3 := totg
              simp only [List.length_append] at e3 hYc ⊢; omega
            have HK : KTI Z _ n0 kt ba fa wb b P 2 [.ref k0x, .ref na, .ref nb, .null, .null, .null, .null, .null] [(0 : Int32), ffa, ffc, (0 : Int32), (0 : Int32), (0 : Int32), (0 : Int32), (0 : Int32)] lac := HK2
            have A_wb := A_wb2
            refine WP.lstore KW68.1 203 [.val (.int pa), .val (.int pb), .val (.long na_), .second, .val (.long nb_), .second, .val (.int sh), .val (.int xx), .val (.int bb), .val (.int lA), .val (.int lB), .val (.int (1 : Int32)), .val (.int ((XT.ushr sh (11 : Int32)) &&& (63 : Int32))), .val (.long nA), .second, .val (.long nB), .second, .val (.long nC), .second, .val (.int b0), .val (.int b1), .val (.int dd), .val (.ref oa), .val (.ref ob), .val (.ref oc), .val (.ref kt), .val (.long zza), .second, .val (.long zzb), .second, .val (.long zzc), .second, .unset] at_201 rfl rfl ?_
            refine WP.lload KW68.1 205 at_203 rfl rfl ?_
            refine WP.lload KW68.1 207 at_205 rfl rfl ?_
            refine WP.lcmp KW68.1 208 at_207 rfl ?_
            refine WP.ifl_ne KW68.1 240 211 at_208 (by decide) rfl (fun c208 => ?_) (fun c208 => ?_)
            · skip
              exact absurd (by omega) c208
            · skip
              refine WP.aload KW68.1 213 at_211 rfl rfl rfl ?_
              refine WP.lload KW68.1 215 at_213 rfl rfl ?_
              refine WP.aload KW68.1 217 at_215 rfl rfl rfl ?_
              refine WP.callV KW68.1 (a := kt) (C := "com/example/vestline/vestline/util/KeptTexts") 220 26 257 0 [(.long zzc), (.ref oc)] [] (hw _ (List.mem_of_getElem? (i := 118) rfl)) (hw _ (List.mem_of_getElem? (i := 119) rfl)) rfl (hw _ (List.mem_of_getElem? (i := 121) rfl)) (hw _ (List.mem_of_getElem? (i := 120) rfl)) (hw _ (List.mem_of_getElem? (i := 29) rfl)) (hw _ (List.mem_of_getElem? (i := 122) rfl)) (by decide) own_pd_29 rfl rfl rfl (by decide) (by decide) (Nat.le_of_eq rfl) rfl at_217 rfl rfl rfl (by decide) (by decide) HK.ex (own_holds l Z a0 hw n0 h142 kt ba fa wb b P 2 [.ref k0x, .ref na, .ref nb, .null, .null, .null, .null, .null] [(0 : Int32), ffa, ffc, (0 : Int32), (0 : Int32), (0 : Int32), (0 : Int32), (0 : Int32)] lac HK zzc 2 NC ([] : List Int8) Yc nb uc rfl A_nb (by have e3 := totc; simp only [List.length_append] at e3 ⊢; omega) (by omega) (by decide) hzc hNC2 oc vc S_oc _ A_wb hw64 ⟨(Nat.ne_of_lt x_c_wb.1), (Nat.ne_of_lt x_c_wb.2)⟩ cs fm SS (Ne.symm (Nat.ne_of_lt l_wb_nb))) (r1_next fun r147 h145 q146 => ?_)
              obtain ⟨rfl, Kc, wxc, hw64, A_wb⟩ := q146
              have Z0 : n0 ≤ (h145).size := Nat.le_trans Z0 Kc.1
              have SS := SS.keep Kc (kn1 (by omega))
              have S_oa := S_oa.keep Kc ⟨(nm1 (Nat.ne_of_lt x_a_wb.1)), (nm1 (Nat.ne_of_lt x_a_wb.2))⟩
              have S_ob := S_ob.keep Kc ⟨(nm1 (Nat.ne_of_lt x_b_wb.1)), (nm1 (Nat.ne_of_lt x_b_wb.2))⟩
              have S_oc := S_oc.keep Kc ⟨(nm1 (Nat.ne_of_lt x_c_wb.1)), (nm1 (Nat.ne_of_lt x_c_wb.2))⟩
              have SW : h64.size ≤ (h145).size := Nat.le_trans SW Kc.1
              have A_k0x := A_k0x.keep Kc (nm1 dd3)
              have A_na := A_na.keep Kc (nm1 (Ne.symm (Nat.ne_of_lt l_wb_na)))
              have A_nb := A_nb.keep Kc (nm1 (Ne.symm (Nat.ne_of_lt l_wb_nb)))
              have HK := HK.keep Kc ⟨(nm1 g3), (nm1 g5), (nm1 g6)⟩
              refine WP.if_eq KW68.1 240 223 at_220 (by decide) rfl (fun c220 => ?_) (fun c220 => ?_)
              · skip
                exact absurd c220 (by decide)
              · skip
                refine WP.aload KW68.1 225 at_223 rfl rfl rfl ?_
                refine WP.lload KW68.1 227 at_225 rfl rfl ?_
                refine WP.callV KW68.1 (a := kt) (C := "com/example/vestline/vestline/util/KeptTexts") 230 26 257 0 [(.long zzc)] [] (hw _ (List.mem_of_getElem? (i := 137) rfl)) (hw _ (List.mem_of_getElem? (i := 138) rfl)) rfl (hw _ (List.mem_of_getElem? (i := 140) rfl)) (hw _ (List.mem_of_getElem? (i := 139) rfl)) (hw _ (List.mem_of_getElem? (i := 29) rfl)) (hw _ (List.mem_of_getElem? (i := 141) rfl)) (by decide) own_pd_30 rfl rfl rfl (by decide) (by decide) (Nat.le_of_eq rfl) rfl at_227 rfl rfl rfl (by decide) (by decide) HK.ex (own_number l Z a0 hw n0 h145 kt ba fa wb b P 2 [.ref k0x, .ref na, .ref nb, .null, .null, .null, .null, .null] [(0 : Int32), ffa, ffc, (0 : Int32), (0 : Int32), (0 : Int32), (0 : Int32), (0 : Int32)] lac HK zzc 2 NC ([] : List Int8) Yc nb uc rfl A_nb (by have e3 := totc; simp only [List.length_append] at e3 ⊢; omega) (by omega) (by decide) hzc hNC2) (r1_next fun r150 h148 q149 => ?_)
                obtain ⟨⟨zvc, rfl, hzvc⟩, rfl⟩ := q149
                obtain rfl : nC = zvc := i64_eq (by rw [hzvc, hNC])
                refine WP.lload KW68.1 232 at_230 rfl rfl ?_
                refine WP.lcmp KW68.1 233 at_232 rfl ?_
                refine WP.ifl_ne KW68.1 240 236 at_233 (by decide) rfl (fun c233 => ?_) (fun c233 => ?_)
                · skip
                  exact absurd rfl c233
                · skip
                  refine WP.iconst KW68.1 (1 : Int32) 237 at_236 rfl rfl ?_
                  refine WP.goto KW68.1 241 at_237 (by decide) ?_
                  refine WP.istore KW68.1 243 [.val (.int pa), .val (.int pb), .val (.long na_), .second, .val (.long nb_), .second, .val (.int sh), .val (.int xx), .val (.int bb), .val (.int lA), .val (.int lB), .val (.int (1 : Int32)), .val (.int ((XT.ushr sh (11 : Int32)) &&& (63 : Int32))), .val (.long nA), .second, .val (.long nB), .second, .val (.long nC), .second, .val (.int b0), .val (.int b1), .val (.int dd), .val (.ref oa), .val (.ref ob), .val (.ref oc), .val (.ref kt), .val (.long zza), .second, .val (.long zzb), .second, .val (.long zzc), .second, .val (.int (1 : Int32))] at_241 rfl rfl ?_
                  refine WP.iload KW68.1 245 at_243 rfl rfl ?_
                  refine WP.if_eq KW68.1 285 248 at_245 (by decide) rfl (fun c245 => ?_) (fun c245 => ?_)
                  · skip
                    exact absurd c245 (by decide)
                  · skip
                    refine WP.iload KW68.1 250 at_248 rfl rfl ?_
                    refine WP.if_eq KW68.1 282 253 at_250 (by decide) rfl (fun c250 => ?_) (fun c250 => ?_)
                    · skip
                      exact absurd c250 (by decide)
                    · skip
                      refine WP.aload KW68.1 255 at_253 rfl rfl rfl ?_
                      refine WP.lload KW68.1 257 at_255 rfl rfl ?_
                      refine WP.aload KW68.1 259 at_257 rfl rfl rfl ?_
                      refine WP.callV KW68.1 (a := kt) (C := "com/example/vestline/vestline/util/KeptTexts") 262 26 257 0 [(.long zza), (.ref oa)] [] (hw _ (List.mem_of_getElem? (i := 118) rfl)) (hw _ (List.mem_of_getElem? (i := 119) rfl)) rfl (hw _ (List.mem_of_getElem? (i := 121) rfl)) (hw _ (List.mem_of_getElem? (i := 120) rfl)) (hw _ (List.mem_of_getElem? (i := 29) rfl)) (hw _ (List.mem_of_getElem? (i := 122) rfl)) (by decide) own_pd_29 rfl rfl rfl (by decide) (by decide) (Nat.le_of_eq rfl) rfl at_259 rfl rfl rfl (by decide) (by decide) HK.ex (own_holds l Z a0 hw n0 h145 kt ba fa wb b P 2 [.ref k0x, .ref na, .ref nb, .null, .null, .null, .null, .null] [(0 : Int32), ffa, ffc, (0 : Int32), (0 : Int32), (0 : Int32), (0 : Int32), (0 : Int32)] lac HK zza 1 NA ([] : List Int8) Ya na ua rfl A_na (by have e3 := tota; simp only [List.length_append] at e3 ⊢; omega) (by omega) (by decide) hza hNA2 oa va S_oa _ A_wb hw64 ⟨(Nat.ne_of_lt x_a_wb.1), (Nat.ne_of_lt x_a_wb.2)⟩ cs fm SS (Ne.symm (Nat.ne_of_lt l_wb_na))) (r1_next fun r153 h151 q152 => ?_)
                      obtain ⟨rfl, Kc, wxa, hw64, A_wb⟩ := q152
                      have Z0 : n0 ≤ (h151).size := Nat.le_trans Z0 Kc.1
                      have SS := SS.keep Kc (kn1 (by omega))
                      have S_oa := S_oa.keep Kc ⟨(nm1 (Nat.ne_of_lt x_a_wb.1)), (nm1 (Nat.ne_of_lt x_a_wb.2))⟩
                      have S_ob := S_ob.keep Kc ⟨(nm1 (Nat.ne_of_lt x_b_wb.1)), (nm1 (Nat.ne_of_lt x_b_wb.2))⟩
                      have S_oc := S_oc.keep Kc ⟨(nm1 (Nat.ne_of_lt x_c_wb.1)), (nm1 (Nat.ne_of_lt x_c_wb.2))⟩
                      have SW : h64.size ≤ (h151).size := Nat.le_trans SW Kc.1
                      have A_k0x := A_k0x.keep Kc (nm1 dd3)
                      have A_na := A_na.keep Kc (nm1 (Ne.symm (Nat.ne_of_lt l_wb_na)))
                      have A_nb := A_nb.keep Kc (nm1 (Ne.symm (Nat.ne_of_lt l_wb_nb)))
                      have HK := HK.keep Kc ⟨(nm1 g3), (nm1 g5), (nm1 g6)⟩
                      refine WP.if_eq KW68.1 282 265 at_262 (by decide) rfl (fun c262 => ?_) (fun c262 => ?_)
                      · skip
                        exact absurd c262 (by decide)
                      · skip
                        refine WP.aload KW68.1 267 at_265 rfl rfl rfl ?_
                        refine WP.lload KW68.1 269 at_267 rfl rfl ?_
                        refine WP.callV KW68.1 (a := kt) (C := "com/example/vestline/vestline/util/KeptTexts") 272 26 257 0 [(.long zza)] [] (hw _ (List.mem_of_getElem? (i := 137) rfl)) (hw _ (List.mem_of_getElem? (i := 138) rfl)) rfl (hw _ (List.mem_of_getElem? (i := 140) rfl)) (hw _ (List.mem_of_getElem? (i := 139) rfl)) (hw _ (List.mem_of_getElem? (i := 29) rfl)) (hw _ (List.mem_of_getElem? (i := 141) rfl)) (by decide) own_pd_30 rfl rfl rfl (by decide) (by decide) (Nat.le_of_eq rfl) rfl at_269 rfl rfl rfl (by decide) (by decide) HK.ex (own_number l Z a0 hw n0 h151 kt ba fa wb b P 2 [.ref k0x, .ref na, .ref nb, .null, .null, .null, .null, .null] [(0 : Int32), ffa, ffc, (0 : Int32), (0 : Int32), (0 : Int32), (0 : Int32), (0 : Int32)] lac HK zza 1 NA ([] : List Int8) Ya na ua rfl A_na (by have e3 := tota; simp only [List.length_append] at e3 ⊢; omega) (by omega) (by decide) hza hNA2) (r1_next fun r156 h154 q155 => ?_)
                        obtain ⟨⟨zva, rfl, hzva⟩, rfl⟩ := q155
                        obtain rfl : nA = zva := i64_eq (by rw [hzva, hNA])
                        refine WP.lload KW68.1 274 at_272 rfl rfl ?_
                        refine WP.lcmp KW68.1 275 at_274 rfl ?_
                        refine WP.ifl_ne KW68.1 282 278 at_275 (by decide) rfl (fun c275 => ?_) (fun c275 => ?_)
                        · skip
                          exact absurd rfl c275
                        · skip
                          refine WP.iconst KW68.1 (1 : Int32) 279 at_278 rfl rfl ?_
                          refine WP.goto KW68.1 283 at_279 (by decide) ?_
                          refine WP.istore KW68.1 285 [.val (.int pa), .val (.int pb), .val (.long na_), .second, .val (.long nb_), .second, .val (.int sh), .val (.int xx), .val (.int bb), .val (.int lA), .val (.int lB), .val (.int (1 : Int32)), .val (.int ((XT.ushr sh (11 : Int32)) &&& (63 : Int32))), .val (.long nA), .second, .val (.long nB), .second, .val (.long nC), .second, .val (.int b0), .val (.int b1), .val (.int dd), .val (.ref oa), .val (.ref ob), .val (.ref oc), .val (.ref kt), .val (.long zza), .second, .val (.long zzb), .second, .val (.long zzc), .second, .val (.int (1 : Int32))] at_283 rfl rfl ?_
                          refine WP.iload KW68.1 287 at_285 rfl rfl ?_
                          refine WP.iret KW68.1 rfl (Or.inr (Or.inl rfl)) rfl at_287 ?_ (by decide) (by decide)
                          exact ⟨⟨_, rfl, rfl⟩, SW⟩
          · skip
            exact absurd ⟨by simp only [List.length_append]; omega, by omega⟩ hnf
set_option maxRecDepth 65536 in
set_option maxHeartbeats 40000000 in
theorem comes_1 {Post : Tables → Env → Array Value → State → Outcome → State → Prop} (hpost : ∀ tb e args s v u, (limb_1_1.after args s (.returned v) u = true ∧ limb_1_2.after args s (.returned v) u = true ∧ True) → ReturnedEndW s (.returned v) u (Jvm.fieldLocs frame_1_writes args s ++ Jvm.arrayLocs frame_1_arrays args s ++ Jvm.staticLocs frame_1_statics s) 48 1472 → Post tb e args s (.returned v) u) :
    ArmFor flags0 classFile x code maxLocals ret World_1 tables_1 room_1 Calls_1 rest_1 Pre_1 Post := by
  intro l hfl _ _ p e ha hc hk s m args below hf hA hF happ hP
  obtain ⟨hcalls, hrest, hpre⟩ := hP
  obtain ⟨-, -, -, hnamed, -, -, -, hat⟩ := (Spec.applies_iff hf).mp happ
  obtain ⟨hg, hn⟩ := and_e (Cond.before_iff.mp (show (Jvm.Cond.and given_1 narrow_1).before args s = true from hpre))
  obtain ⟨g0, g1⟩ := and_e hg
  obtain ⟨w0, w1, w2, w3, w4, w5, rfl⟩ : ∃ w0 w1 w2 w3 w4 w5 : Value, args = #[w0, w1, w2, w3, w4, w5] := by
    have hs : args.size = 6 := by simpa [Cond.value, given_1] using g0
    obtain ⟨L⟩ := args
    match L, hs with
    | [w0, w1, w2, w3, w4, w5], _ => exact ⟨w0, w1, w2, w3, w4, w5, rfl⟩
  have hw := fun d (hd : d ∈ tables_1) => atoms_spec (ws := Jvm.Cond.code x code maxLocals ret :: tables_1) hat d (List.mem_cons_of_mem _ hd)
  have hfit : Fit s := fun {y c} hc i hi => by
    obtain ⟨ha, rfl⟩ := Array.getElem?_eq_some_iff.mp hc
    have q := List.all_eq_true.mp ((Array.all_eq_true_iff_forall_mem.mp hF) _ (Array.getElem_mem ha)) i (List.mem_range.mpr hi)
    simpa [Array.getElem?_eq_getElem hi] using q
  obtain ⟨u0, g2⟩ := and_e g1
  obtain ⟨i0, ei0⟩ := is_v u0
  obtain rfl : w0 = (.int i0) := Option.some.inj ei0
  obtain ⟨u1, g3⟩ := and_e g2
  obtain ⟨i1, ei1⟩ := is_v u1
  obtain rfl : w1 = (.int i1) := Option.some.inj ei1
  obtain ⟨u2, g4⟩ := and_e g3
  obtain ⟨i2, ei2⟩ := isL_v u2
  obtain rfl : w2 = (.long i2) := Option.some.inj ei2
  obtain ⟨u3, g5⟩ := and_e g4
  obtain ⟨i3, ei3⟩ := isL_v u3
  obtain rfl : w3 = (.long i3) := Option.some.inj ei3
  obtain ⟨u4, g6⟩ := and_e g5
  obtain ⟨i4, ei4⟩ := is_v u4
  obtain rfl : w4 = (.int i4) := Option.some.inj ei4
  obtain ⟨i5, ei5⟩ := is_v g6
  obtain rfl : w5 = (.int i5) := Option.some.inj ei5
  have hr := Cond.before_iff.mp (show rest_1_c.before _ s = true from hrest)
  obtain ⟨r0, hr⟩ := and_e hr
  obtain ⟨r1, hr⟩ := and_e hr
  obtain ⟨r2, hr⟩ := and_e hr
  obtain ⟨r3, hr⟩ := and_e hr
  obtain ⟨r4, hr⟩ := and_e hr
  obtain ⟨r5, hr⟩ := and_e hr
  obtain ⟨r6, hr⟩ := and_e hr
  obtain ⟨r7, hr⟩ := and_e hr
  obtain ⟨r8, hr⟩ := and_e hr
  obtain ⟨r9, hr⟩ := and_e hr
  obtain ⟨r10, hr⟩ := and_e hr
  obtain ⟨r11, hr⟩ := and_e hr
  obtain ⟨r12, hr⟩ := and_e hr
  obtain ⟨r13, hr⟩ := and_e hr
  obtain ⟨r14, hr⟩ := and_e hr
  obtain ⟨r15, hr⟩ := and_e hr
  obtain ⟨r16, hr⟩ := and_e hr
  obtain ⟨r17, hr⟩ := and_e hr
  obtain ⟨r18, -⟩ := and_e hr
  obtain ⟨cs, ecs⟩ := is_v r1
  have hcs := ne0_of ecs r2
  have S1 := StB.of (Sta.start ecs (Or.inl (Cond.before_iff.mpr r0)))
  have S2 := StB.of (Sta.start (eqi_of r12) (Or.inl (Cond.before_iff.mpr r11)))
  have S3 := StB.of (Sta.start (eqi_of r15) (Or.inl (Cond.before_iff.mpr r14)))
  have S4 := StB.of (Sta.start (eqi_of r18) (Or.inl (Cond.before_iff.mpr r17)))
  obtain ⟨fm, efm, hfm⟩ := own_isref r8
  have S5 := StB.of (Sta.start efm (Or.inl (Cond.before_iff.mpr r7)))
  have CH := CHv.start (own_EW hw) (fun p hp => by
    have : p = ("java/lang/String", 7) := by simpa [own_EL] using hp
    subst this
    exact hcalls.1 _ (List.mem_of_getElem? (i := 0) rfl)) (Cond.before_iff.mpr r2) (hw _ (List.mem_of_getElem? (i := 20) rfl)) (hw _ (List.mem_of_getElem? (i := 6) rfl))
  obtain ⟨n, o, h1, h2, h3, _, L, rfl, ⟨⟨_, rfl, rfl⟩, N⟩, hq⟩ := own_law l s _ hw s.heap.size s.heap i0 i1 i2 i3 i4 i5 cs fm ⟨S1, S2, S3, S4, S5, hcs, hfm⟩ (Nat.le_refl _) tables_1 p e ha hc hk s m _ below hf ((Spec.applies_iff_loose hf).mp happ).1 ⟨rfl, State.Warmed39.refl s, rfl, CH⟩ trivial
  refine ⟨n, _, h1, h2, h3, hpost _ _ _ _ _ _ ⟨Cond.after_iff.mpr rfl, Cond.after_iff.mpr (eq_i res_at (Term.int_eval (1)) rfl), trivial⟩ ⟨hq.1, hq.2.1, hq.2.2.1, (hq.2.2.2.sift fun y hy => Or.inr (N y hy)).mono (by decide) (by decide)⟩⟩
theorem main_1_1 : Claimed_1_1 := comes_1 fun _ _ _ _ _ _ h hF => ⟨h.1, hF⟩
theorem main_1_2 : Claimed_1_2 := comes_1 fun _ _ _ _ _ _ h hF => ⟨h.2.1, hF⟩
end Jvm.Pilot.@@N@@
namespace Jvm.Pilot.@@N@@
open Jvm Jvm.ClassFile Sem Op Lib Jvm.Free Jvm.Stand Jvm.Pilot.@@N@@.Jvm.D
/-! MADE BY PROGRAM (witnessworld.py) out of the Statement's table words and the real class files: 28 classes; the members and pool entries that the words name. The judged class is class 1, her method 2. -/
namespace start1
open Jvm.ClassFile
def u (s : String) : CpInfo := .utf8 (stringToUtf16 s)
/-- a pool by its gaps: so many unusable entries, then the entry; so many at the end -/
def gap : Nat → List CpInfo → List CpInfo
  | 0, r => r
  | n + 1, r => .unusable :: gap n r
def poolList (es : List (Nat × CpInfo)) (last : Nat) : List CpInfo := es.foldr (fun e r => gap e.1 (e.2 :: r)) (gap last [])
def pool (es : List (Nat × CpInfo)) (last : Nat) : Array CpInfo := ⟨poolList es last⟩
def fileOf (pool : Array CpInfo) (this : Nat) (attrs : Array Attribute := #[]) (ms : Array MethodInfo := #[]) (fl : Nat := 33) (sup : Nat := 0) (ifs : Array Nat := #[]) (fds : Array FieldInfo := #[]) : ClassFile where
  minorVersion := 0
  majorVersion := 65
  constantPool := pool
  accessFlags := fl
  thisClass := this
  superClass := sup
  interfaces := ifs
  fields := fds
  methods := ms
  attributes := attrs
def plain (name : String) (sup : Option ClassId) : Class where
  name := name
  kind := .ordinary
  loader := none
  accessFlags := 33
  super := sup
  interfaces := #[]
  cf := none
  fields := #[]
  methods := #[]
  instanceTypes := #[]
  staticTypes := #[]
  resolved := #[]
  callSites := []
  init := .initialized
  statics := none
  mirror := none

def pool0 : Array CpInfo := pool [(5, u "<init>"), (0, u "()V"), (1, .class_ 10), (1, u "java/lang/Object")] 113

def k0c0 : Code := { maxStack := 0, maxLocals := 1, code := object_method_1_code, exceptionTable := #[], attributes := #[] }
def k0m0 : Method := { name := "<init>", desc := "()V", sig := { parameters := [], returnType := none }, accessFlags := 1, code := some k0c0 }
/-- java/lang/Object -/
def k0 : Class := { plain "java/lang/Object" none with
  accessFlags := 33
  interfaces := #[]
  cf := some (fileOf pool0 8 #[] #[{ accessFlags := 1, nameIndex := 5, descriptorIndex := 6, attributes := #[] }] 33 0 #[] #[])
  fields := #[]
  methods := #[k0m0]
  instanceTypes := #[]
  staticTypes := #[]
  resolved := Array.replicate 124 none
  statics := none }

def pool1 : Array CpInfo := pool [(2, .class_ 4), (1, u "java/lang/Object"), (0, u "<init>"), (0, u "()V"), (0, .class_ 8), (0, u "java/lang/String"), (0, .methodref 7 10), (0, .nameAndType 5 11), (0, u "([C)V"), (2, .long 9223372036854775807), (1, .methodref 17 18), (0, .class_ 19), (0, .nameAndType 20 21), (0, u "com/example/vestline/vestline/util/KeptTextsForgetLastPinLaw"), (0, u "text"), (0, u "(ICC)Ljava/lang/String;"), (0, .class_ 23), (0, u "com/example/vestline/vestline/util/KeptTexts"), (0, .methodref 22 25), (0, .nameAndType 5 26), (0, u "(II)V"), (0, .long 18446744073709551615), (1, .methodref 22 30), (0, .nameAndType 31 32), (0, u "keep"), (0, u "(Ljava/lang/CharSequence;J)J"), (0, .methodref 22 34), (0, .nameAndType 35 6), (0, u "forgetLast"), (0, .methodref 22 37), (0, .nameAndType 38 39), (0, u "holds"), (0, u "(JLjava/lang/CharSequence;)Z"), (0, .methodref 22 41), (0, .nameAndType 42 43), (0, u "number"), (0, u "(J)J"), (3, u "law"), (0, u "(IIJJII)Z")] 2

def k1m0 : Method := { name := "<init>", desc := "()V", sig := { parameters := [], returnType := none }, accessFlags := 1, code := none }
def k1c1 : Code := { maxStack := 6, maxLocals := 3, code := method_2_code, exceptionTable := #[], attributes := #[] }
def k1m1 : Method := { name := "text", desc := "(ICC)Ljava/lang/String;", sig := { parameters := [.int, .char, .char], returnType := some (.object "java/lang/String") }, accessFlags := 10, code := some k1c1 }
def k1c2 : Code := { maxStack := 4, maxLocals := 33, code := code, exceptionTable := #[], attributes := #[] }
def k1m2 : Method := { name := "law", desc := "(IIJJII)Z", sig := { parameters := [.int, .int, .long, .long, .int, .int], returnType := some .boolean }, accessFlags := 9, code := some k1c2 }
/-- com/example/vestline/vestline/util/KeptTextsForgetLastPinLaw -/
def k1 : Class := { plain "com/example/vestline/vestline/util/KeptTextsForgetLastPinLaw" (some 0) with
  accessFlags := 49
  interfaces := #[]
  cf := some (fileOf pool1 17 #[] #[{ accessFlags := 1, nameIndex := 5, descriptorIndex := 6, attributes := #[] }, { accessFlags := 10, nameIndex := 20, descriptorIndex := 21, attributes := #[] }, { accessFlags := 9, nameIndex := 47, descriptorIndex := 48, attributes := #[] }] 49 2 #[] #[])
  fields := #[]
  methods := #[k1m0, k1m1, k1m2]
  instanceTypes := #[]
  staticTypes := #[]
  resolved := Array.replicate 51 none
  statics := none }

def pool2 : Array CpInfo := pool [(1, .class_ 2), (0, u "java/io/Serializable"), (0, .class_ 4), (0, u "java/lang/Object")] 2

/-- java/io/Serializable -/
def k2 : Class := { plain "java/io/Serializable" (some 0) with
  accessFlags := 1537
  interfaces := #[]
  cf := some (fileOf pool2 1 #[] #[] 1537 3 #[] #[])
  fields := #[]
  methods := #[]
  instanceTypes := #[]
  staticTypes := #[]
  resolved := Array.replicate 7 none
  statics := none }

def pool3 : Array CpInfo := pool [(1, .class_ 2), (0, u "java/lang/Comparable"), (0, .class_ 4), (0, u "java/lang/Object")] 7

/-- java/lang/Comparable -/
def k3 : Class := { plain "java/lang/Comparable" (some 0) with
  accessFlags := 1537
  interfaces := #[]
  cf := some (fileOf pool3 1 #[] #[] 1537 3 #[] #[])
  fields := #[]
  methods := #[]
  instanceTypes := #[]
  staticTypes := #[]
  resolved := Array.replicate 12 none
  statics := none }

def pool4 : Array CpInfo := pool [(2, .class_ 4), (1, u "java/lang/CharSequence"), (0, u "length"), (0, u "()I"), (38, u "charAt"), (0, u "(I)C"), (0, .class_ 48), (0, u "java/lang/CharSequence$1CodePointIterator"), (10, .class_ 60), (0, u "java/lang/CharSequence$1CharIterator"), (5, .class_ 67), (0, u "java/lang/Object")] 63

def k4m0 : Method := { name := "length", desc := "()I", sig := { parameters := [], returnType := some .int }, accessFlags := 1025, code := none }
def k4m1 : Method := { name := "charAt", desc := "(I)C", sig := { parameters := [.int], returnType := some .char }, accessFlags := 1025, code := none }
/-- java/lang/CharSequence -/
def k4 : Class := { plain "java/lang/CharSequence" (some 0) with
  accessFlags := 1537
  interfaces := #[]
  cf := some (fileOf pool4 2 #[.nestMembers #[47, 59]] #[{ accessFlags := 1025, nameIndex := 5, descriptorIndex := 6, attributes := #[] }, { accessFlags := 1025, nameIndex := 45, descriptorIndex := 46, attributes := #[] }] 1537 66 #[] #[])
  fields := #[]
  methods := #[k4m0, k4m1]
  instanceTypes := #[]
  staticTypes := #[]
  resolved := Array.replicate 131 none
  statics := none }

def pool5 : Array CpInfo := pool [(1, .class_ 2), (0, u "java/lang/constant/Constable"), (0, .class_ 4), (0, u "java/lang/Object")] 6

/-- java/lang/constant/Constable -/
def k5 : Class := { plain "java/lang/constant/Constable" (some 0) with
  accessFlags := 1537
  interfaces := #[]
  cf := some (fileOf pool5 1 #[] #[] 1537 3 #[] #[])
  fields := #[]
  methods := #[]
  instanceTypes := #[]
  staticTypes := #[]
  resolved := Array.replicate 11 none
  statics := none }

def pool6 : Array CpInfo := pool [(1, .class_ 2), (0, u "java/lang/constant/ConstantDesc"), (0, .class_ 4), (0, u "java/lang/Object")] 32

/-- java/lang/constant/ConstantDesc -/
def k6 : Class := { plain "java/lang/constant/ConstantDesc" (some 0) with
  accessFlags := 1537
  interfaces := #[]
  cf := some (fileOf pool6 1 #[] #[] 1537 3 #[] #[])
  fields := #[]
  methods := #[]
  instanceTypes := #[]
  staticTypes := #[]
  resolved := Array.replicate 37 none
  statics := none }

def pool7 : Array CpInfo := pool [(1, .methodref 2 3), (0, .class_ 4), (0, .nameAndType 5 6), (0, u "java/lang/Object"), (0, u "<init>"), (0, u "()V"), (0, .string 8), (0, u ""), (0, .fieldref 10 11), (0, .class_ 12), (0, .nameAndType 13 14), (0, u "java/lang/String"), (0, u "value"), (0, u "[B"), (0, .fieldref 10 16), (0, .nameAndType 17 18), (0, u "coder"), (0, u "B"), (2, u "hash"), (0, u "I"), (2, u "hashIsZero"), (0, u "Z"), (0, .methodref 10 28), (0, .nameAndType 5 29), (0, u "([CIILjava/lang/Void;)V"), (8, .fieldref 10 39), (0, .nameAndType 40 26), (0, u "COMPACT_STRINGS"), (1, .class_ 44), (1, u "java/lang/StringUTF16"), (0, u "compress"), (1, .methodref 42 48), (0, .nameAndType 49 50), (0, u "coderFromArrayLen"), (0, u "([BI)B"), (56, .class_ 109), (1, u "java/lang/StringLatin1"), (32, u "()Z"), (34, .methodref 42 178), (0, .nameAndType 45 179), (0, u "([CII)[B"), (154, u "()I"), (0, .methodref 10 336), (0, .nameAndType 17 337), (0, u "()B"), (25, u "([BI)C"), (27, u "(II)V"), (35, u "(I)C"), (64, .methodref 10 493), (0, .nameAndType 494 142), (0, u "isLatin1"), (0, .methodref 107 496), (0, .nameAndType 497 363), (0, u "charAt"), (0, .methodref 42 496), (2, u "checkIndex"), (5, u "length"), (67, .class_ 576), (0, u "java/lang/CharSequence"), (22, u "CASE_INSENSITIVE_ORDER"), (0, u "Ljava/util/Comparator;"), (409, u "([C)V"), (42, .fieldref 1054 1055), (0, .class_ 1056), (0, .nameAndType 1057 1058), (0, u "jdk/internal/util/Preconditions"), (0, u "SIOOBE_FORMATTER"), (0, u "Ljava/util/function/BiFunction;"), (0, .methodref 1054 1060), (0, .nameAndType 501 1061), (0, u "(IILjava/util/function/BiFunction;)I"), (39, u "serialPersistentFields"), (0, u "[Ljava/io/ObjectStreamField;"), (0, .class_ 1104), (0, u "java/lang/String$CaseInsensitiveComparator"), (1, .class_ 1107), (0, u "java/io/Serializable"), (0, .class_ 1109), (0, u "java/lang/Comparable"), (0, .class_ 1111), (0, u "java/lang/constant/Constable"), (0, .class_ 1113), (0, u "java/lang/constant/ConstantDesc"), (2, u "serialVersionUID"), (0, u "J"), (3, u "REPL"), (0, u "C"), (2, u "LATIN1"), (1, u "UTF16")] 323

def k7m0 : Method := { name := "<init>", desc := "()V", sig := { parameters := [], returnType := none }, accessFlags := 1, code := none }
def k7c1 : Code := { maxStack := 5, maxLocals := 2, code := jdk_42_method_3_code, exceptionTable := #[], attributes := #[] }
def k7m1 : Method := { name := "<init>", desc := "([C)V", sig := { parameters := [(.array .char)], returnType := none }, accessFlags := 1, code := some k7c1 }
def k7c2 : Code := { maxStack := 2, maxLocals := 1, code := jdk_42_method_54_code, exceptionTable := #[], attributes := #[] }
def k7m2 : Method := { name := "length", desc := "()I", sig := { parameters := [], returnType := some .int }, accessFlags := 1, code := some k7c2 }
def k7c3 : Code := { maxStack := 2, maxLocals := 2, code := jdk_42_method_56_code, exceptionTable := #[], attributes := #[] }
def k7m3 : Method := { name := "charAt", desc := "(I)C", sig := { parameters := [.int], returnType := some .char }, accessFlags := 1, code := some k7c3 }
def k7c4 : Code := { maxStack := 4, maxLocals := 6, code := jdk_42_method_149_code, exceptionTable := #[], attributes := #[] }
def k7m4 : Method := { name := "<init>", desc := "([CIILjava/lang/Void;)V", sig := { parameters := [(.array .char), .int, .int, (.object "java/lang/Void")], returnType := none }, accessFlags := 2, code := some k7c4 }
def k7c5 : Code := { maxStack := 1, maxLocals := 1, code := jdk_42_method_152_code, exceptionTable := #[], attributes := #[] }
def k7m5 : Method := { name := "coder", desc := "()B", sig := { parameters := [], returnType := some .byte }, accessFlags := 0, code := some k7c5 }
def k7c6 : Code := { maxStack := 1, maxLocals := 1, code := jdk_42_method_154_code, exceptionTable := #[], attributes := #[] }
def k7m6 : Method := { name := "isLatin1", desc := "()Z", sig := { parameters := [], returnType := some .boolean }, accessFlags := 0, code := some k7c6 }
def k7c7 : Code := { maxStack := 3, maxLocals := 2, code := jdk_42_method_155_code, exceptionTable := #[], attributes := #[] }
def k7m7 : Method := { name := "checkIndex", desc := "(II)V", sig := { parameters := [.int, .int], returnType := none }, accessFlags := 8, code := some k7c7 }
/-- java/lang/String -/
def k7 : Class := { plain "java/lang/String" (some 0) with
  accessFlags := 49
  interfaces := #[2, 3, 4, 5, 6]
  cf := some (fileOf pool7 10 #[.nestMembers #[1103]] #[{ accessFlags := 1, nameIndex := 5, descriptorIndex := 6, attributes := #[] }, { accessFlags := 1, nameIndex := 5, descriptorIndex := 1010, attributes := #[] }, { accessFlags := 1, nameIndex := 507, descriptorIndex := 334, attributes := #[] }, { accessFlags := 1, nameIndex := 497, descriptorIndex := 427, attributes := #[] }, { accessFlags := 2, nameIndex := 5, descriptorIndex := 29, attributes := #[] }, { accessFlags := 0, nameIndex := 17, descriptorIndex := 337, attributes := #[] }, { accessFlags := 0, nameIndex := 494, descriptorIndex := 142, attributes := #[] }, { accessFlags := 8, nameIndex := 501, descriptorIndex := 391, attributes := #[] }] 49 2 #[1106, 1108, 575, 1110, 1112] #[{ accessFlags := 18, nameIndex := 13, descriptorIndex := 14, attributes := #[] }, { accessFlags := 18, nameIndex := 17, descriptorIndex := 18, attributes := #[] }, { accessFlags := 2, nameIndex := 21, descriptorIndex := 22, attributes := #[] }, { accessFlags := 2, nameIndex := 25, descriptorIndex := 26, attributes := #[] }, { accessFlags := 26, nameIndex := 1116, descriptorIndex := 1117, attributes := #[] }, { accessFlags := 24, nameIndex := 40, descriptorIndex := 26, attributes := #[] }, { accessFlags := 26, nameIndex := 1101, descriptorIndex := 1102, attributes := #[] }, { accessFlags := 26, nameIndex := 1121, descriptorIndex := 1122, attributes := #[] }, { accessFlags := 25, nameIndex := 599, descriptorIndex := 600, attributes := #[] }, { accessFlags := 24, nameIndex := 1125, descriptorIndex := 18, attributes := #[] }, { accessFlags := 24, nameIndex := 1127, descriptorIndex := 18, attributes := #[] }])
  fields := #[{ name := "value", type := (.array .byte), accessFlags := 18, slot := 0, constantValue := 0 }, { name := "coder", type := .byte, accessFlags := 18, slot := 1, constantValue := 0 }, { name := "hash", type := .int, accessFlags := 2, slot := 2, constantValue := 0 }, { name := "hashIsZero", type := .boolean, accessFlags := 2, slot := 3, constantValue := 0 }, { name := "serialVersionUID", type := .long, accessFlags := 26, slot := 0, constantValue := 0 }, { name := "COMPACT_STRINGS", type := .boolean, accessFlags := 24, slot := 1, constantValue := 0 }, { name := "serialPersistentFields", type := (.array (.object "java/io/ObjectStreamField")), accessFlags := 26, slot := 2, constantValue := 0 }, { name := "REPL", type := .char, accessFlags := 26, slot := 3, constantValue := 0 }, { name := "CASE_INSENSITIVE_ORDER", type := (.object "java/util/Comparator"), accessFlags := 25, slot := 4, constantValue := 0 }, { name := "LATIN1", type := .byte, accessFlags := 24, slot := 5, constantValue := 0 }, { name := "UTF16", type := .byte, accessFlags := 24, slot := 6, constantValue := 0 }]
  methods := #[k7m0, k7m1, k7m2, k7m3, k7m4, k7m5, k7m6, k7m7]
  instanceTypes := #[(.array .byte), .byte, .int, .boolean]
  staticTypes := #[.long, .boolean, (.array (.object "java/io/ObjectStreamField")), .char, (.object "java/util/Comparator"), .byte, .byte]
  resolved := Array.replicate 1451 none
  statics := some 0 }

def pool8 : Array CpInfo := pool [(1, .class_ 2), (0, u "com/example/vestline/vestline/util/TextIndex$Texts"), (0, .class_ 4), (0, u "java/lang/Object"), (7, .class_ 13), (0, u "com/example/vestline/vestline/util/TextIndex")] 2

/-- com/example/vestline/vestline/util/TextIndex$Texts -/
def k8 : Class := { plain "com/example/vestline/vestline/util/TextIndex$Texts" (some 0) with
  accessFlags := 1537
  interfaces := #[]
  cf := some (fileOf pool8 1 #[.nestHost 12] #[] 1537 3 #[] #[])
  fields := #[]
  methods := #[]
  instanceTypes := #[]
  staticTypes := #[]
  resolved := Array.replicate 16 none
  statics := none }

def pool9 : Array CpInfo := pool [(3, .class_ 4), (0, u "com/example/vestline/vestline/util/KeptTexts"), (2, u "<init>"), (0, u "(II)V"), (0, .methodref 10 11), (0, .class_ 12), (0, .nameAndType 7 13), (0, u "java/lang/Object"), (0, u "()V"), (0, .fieldref 3 15), (0, .nameAndType 16 17), (0, u "written"), (0, u "[B"), (0, .fieldref 3 19), (0, .nameAndType 20 21), (0, u "blockBits"), (0, u "I"), (0, .fieldref 3 23), (0, .nameAndType 24 21), (0, u "offsetMask"), (0, .class_ 17), (0, .fieldref 3 27), (0, .nameAndType 28 29), (0, u "blocks"), (0, u "[[B"), (0, .fieldref 3 31), (0, .nameAndType 32 33), (0, u "filled"), (0, u "[I"), (0, .integer 65536), (0, .methodref 36 37), (0, .class_ 38), (0, .nameAndType 39 40), (0, u "java/lang/Math"), (0, u "min"), (0, u "(II)I"), (0, .methodref 3 42), (0, .nameAndType 43 44), (0, u "write"), (0, u "(Ljava/lang/CharSequence;)I"), (0, .methodref 3 46), (0, .nameAndType 47 48), (0, u "varintSize"), (0, u "(J)I"), (0, .methodref 3 50), (0, .nameAndType 51 52), (0, u "room"), (0, u "(I)I"), (0, .methodref 3 54), (0, .nameAndType 55 56), (0, u "putVarint"), (0, u "([BIJ)I"), (0, .methodref 58 59), (0, .class_ 60), (0, .nameAndType 61 62), (0, u "java/lang/System"), (0, u "arraycopy"), (0, u "(Ljava/lang/Object;ILjava/lang/Object;II)V"), (0, .fieldref 3 64), (0, .nameAndType 65 21), (0, u "last"), (0, .long 4294967295), (1, .fieldref 3 69), (0, .nameAndType 70 21), (0, u "block"), (0, .methodref 3 72), (0, .nameAndType 73 74), (0, u "varint"), (0, u "([BI)J"), (0, .methodref 76 77), (0, .class_ 78), (0, .nameAndType 79 80), (0, u "java/util/Arrays"), (0, u "equals"), (0, u "([BII[BII)Z"), (0, .interfaceMethodref 82 83), (0, .class_ 84), (0, .nameAndType 85 86), (0, u "java/lang/CharSequence"), (0, u "length"), (0, u "()I"), (0, .integer 715827871), (9, .methodref 36 98), (0, .nameAndType 99 40), (0, u "max"), (0, .interfaceMethodref 82 101), (0, .nameAndType 102 103), (0, u "charAt"), (0, u "(I)C"), (1, .long 2), (1, .methodref 36 108), (0, .nameAndType 39 109), (0, u "(JJ)J"), (0, .long 18446744073709551488), (1, .long 127), (1, .long 128), (1, .class_ 117), (0, u "java/lang/Long"), (0, .methodref 116 119), (0, .nameAndType 120 48), (0, u "numberOfLeadingZeros"), (0, .class_ 122), (0, u "com/example/vestline/vestline/util/TextIndex$Texts"), (0, u "LARGEST_BLOCK_BITS"), (2, u "FIRST_BLOCK"), (0, u "MOST_CHARS"), (2, u "keep"), (0, u "(Ljava/lang/CharSequence;J)J"), (0, u "forgetLast"), (0, u "number"), (0, u "(J)J"), (0, u "holds"), (0, u "(JLjava/lang/CharSequence;)Z")] 23

def k9m0 : Method := { name := "<init>", desc := "()V", sig := { parameters := [], returnType := none }, accessFlags := 1, code := none }
def k9c1 : Code := { maxStack := 5, maxLocals := 3, code := prog_136_method_2_code, exceptionTable := #[], attributes := #[] }
def k9m1 : Method := { name := "<init>", desc := "(II)V", sig := { parameters := [.int, .int], returnType := none }, accessFlags := 0, code := some k9c1 }
def k9c2 : Code := { maxStack := 5, maxLocals := 8, code := prog_136_method_3_code, exceptionTable := #[], attributes := #[] }
def k9m2 : Method := { name := "keep", desc := "(Ljava/lang/CharSequence;J)J", sig := { parameters := [(.object "java/lang/CharSequence"), .long], returnType := some .long }, accessFlags := 1, code := some k9c2 }
def k9c3 : Code := { maxStack := 4, maxLocals := 1, code := prog_136_method_4_code, exceptionTable := #[], attributes := #[] }
def k9m3 : Method := { name := "forgetLast", desc := "()V", sig := { parameters := [], returnType := none }, accessFlags := 1, code := some k9c3 }
def k9c4 : Code := { maxStack := 3, maxLocals := 4, code := prog_136_method_5_code, exceptionTable := #[], attributes := #[] }
def k9m4 : Method := { name := "number", desc := "(J)J", sig := { parameters := [.long], returnType := some .long }, accessFlags := 1, code := some k9c4 }
def k9c5 : Code := { maxStack := 6, maxLocals := 9, code := prog_136_method_6_code, exceptionTable := #[], attributes := #[] }
def k9m5 : Method := { name := "holds", desc := "(JLjava/lang/CharSequence;)Z", sig := { parameters := [.long, (.object "java/lang/CharSequence")], returnType := some .boolean }, accessFlags := 1, code := some k9c5 }
def k9c6 : Code := { maxStack := 5, maxLocals := 7, code := prog_136_method_7_code, exceptionTable := #[], attributes := #[] }
def k9m6 : Method := { name := "write", desc := "(Ljava/lang/CharSequence;)I", sig := { parameters := [(.object "java/lang/CharSequence")], returnType := some .int }, accessFlags := 2, code := some k9c6 }
def k9c7 : Code := { maxStack := 6, maxLocals := 4, code := prog_136_method_8_code, exceptionTable := #[], attributes := #[] }
def k9m7 : Method := { name := "room", desc := "(I)I", sig := { parameters := [.int], returnType := some .int }, accessFlags := 2, code := some k9c7 }
def k9c8 : Code := { maxStack := 5, maxLocals := 7, code := prog_136_method_9_code, exceptionTable := #[], attributes := #[] }
def k9m8 : Method := { name := "varint", desc := "([BI)J", sig := { parameters := [(.array .byte), .int], returnType := some .long }, accessFlags := 10, code := some k9c8 }
def k9c9 : Code := { maxStack := 6, maxLocals := 7, code := prog_136_method_10_code, exceptionTable := #[], attributes := #[] }
def k9m9 : Method := { name := "putVarint", desc := "([BIJ)I", sig := { parameters := [(.array .byte), .int, .long], returnType := some .int }, accessFlags := 10, code := some k9c9 }
def k9c10 : Code := { maxStack := 4, maxLocals := 2, code := prog_136_method_11_code, exceptionTable := #[], attributes := #[] }
def k9m10 : Method := { name := "varintSize", desc := "(J)I", sig := { parameters := [.long], returnType := some .int }, accessFlags := 10, code := some k9c10 }
/-- com/example/vestline/vestline/util/KeptTexts -/
def k9 : Class := { plain "com/example/vestline/vestline/util/KeptTexts" (some 0) with
  accessFlags := 33
  interfaces := #[8]
  cf := some (fileOf pool9 3 #[] #[{ accessFlags := 1, nameIndex := 7, descriptorIndex := 13, attributes := #[] }, { accessFlags := 0, nameIndex := 7, descriptorIndex := 8, attributes := #[] }, { accessFlags := 1, nameIndex := 130, descriptorIndex := 131, attributes := #[] }, { accessFlags := 1, nameIndex := 132, descriptorIndex := 13, attributes := #[] }, { accessFlags := 1, nameIndex := 133, descriptorIndex := 134, attributes := #[] }, { accessFlags := 1, nameIndex := 135, descriptorIndex := 136, attributes := #[] }, { accessFlags := 2, nameIndex := 43, descriptorIndex := 44, attributes := #[] }, { accessFlags := 2, nameIndex := 51, descriptorIndex := 52, attributes := #[] }, { accessFlags := 10, nameIndex := 73, descriptorIndex := 74, attributes := #[] }, { accessFlags := 10, nameIndex := 55, descriptorIndex := 56, attributes := #[] }, { accessFlags := 10, nameIndex := 47, descriptorIndex := 48, attributes := #[] }] 33 10 #[121] #[{ accessFlags := 26, nameIndex := 123, descriptorIndex := 21, attributes := #[] }, { accessFlags := 26, nameIndex := 126, descriptorIndex := 21, attributes := #[] }, { accessFlags := 26, nameIndex := 127, descriptorIndex := 21, attributes := #[] }, { accessFlags := 18, nameIndex := 20, descriptorIndex := 21, attributes := #[] }, { accessFlags := 18, nameIndex := 24, descriptorIndex := 21, attributes := #[] }, { accessFlags := 18, nameIndex := 28, descriptorIndex := 29, attributes := #[] }, { accessFlags := 18, nameIndex := 32, descriptorIndex := 33, attributes := #[] }, { accessFlags := 2, nameIndex := 70, descriptorIndex := 21, attributes := #[] }, { accessFlags := 2, nameIndex := 65, descriptorIndex := 21, attributes := #[] }, { accessFlags := 2, nameIndex := 16, descriptorIndex := 17, attributes := #[] }])
  fields := #[{ name := "LARGEST_BLOCK_BITS", type := .int, accessFlags := 26, slot := 0, constantValue := 0 }, { name := "FIRST_BLOCK", type := .int, accessFlags := 26, slot := 1, constantValue := 0 }, { name := "MOST_CHARS", type := .int, accessFlags := 26, slot := 2, constantValue := 0 }, { name := "blockBits", type := .int, accessFlags := 18, slot := 0, constantValue := 0 }, { name := "offsetMask", type := .int, accessFlags := 18, slot := 1, constantValue := 0 }, { name := "blocks", type := (.array (.array .byte)), accessFlags := 18, slot := 2, constantValue := 0 }, { name := "filled", type := (.array .int), accessFlags := 18, slot := 3, constantValue := 0 }, { name := "block", type := .int, accessFlags := 2, slot := 4, constantValue := 0 }, { name := "last", type := .int, accessFlags := 2, slot := 5, constantValue := 0 }, { name := "written", type := (.array .byte), accessFlags := 2, slot := 6, constantValue := 0 }]
  methods := #[k9m0, k9m1, k9m2, k9m3, k9m4, k9m5, k9m6, k9m7, k9m8, k9m9, k9m10]
  instanceTypes := #[.int, .int, (.array (.array .byte)), (.array .int), .int, .int, (.array .byte)]
  staticTypes := #[.int, .int, .int]
  resolved := Array.replicate 160 none
  statics := none }

def pool10 : Array CpInfo := pool [(1, .class_ 2), (0, u "java/lang/Math"), (1, .class_ 6), (1, u "java/lang/Object"), (0, u "<init>"), (0, u "()V"), (89, .class_ 100), (1, u "java/lang/Math$RandomNumberGeneratorHolder"), (20, u "(JJ)J"), (50, u "negativeZeroFloatBits"), (0, u "J"), (2, u "negativeZeroDoubleBits"), (21, u "max"), (2, u "min"), (43, u "$assertionsDisabled"), (0, u "Z"), (88, u "(II)I"), (2, u "twoToTheDoubleScaleDown"), (0, u "D"), (4, u "twoToTheDoubleScaleUp"), (9, u "E"), (3, u "PI"), (2, u "TAU"), (2, u "DEGREES_TO_RADIANS"), (0, u "RADIANS_TO_DEGREES")] 94

def k10m0 : Method := { name := "<init>", desc := "()V", sig := { parameters := [], returnType := none }, accessFlags := 2, code := none }
def k10c1 : Code := { maxStack := 2, maxLocals := 2, code := jdk_29_method_65_code, exceptionTable := #[], attributes := #[] }
def k10m1 : Method := { name := "max", desc := "(II)I", sig := { parameters := [.int, .int], returnType := some .int }, accessFlags := 9, code := some k10c1 }
def k10c2 : Code := { maxStack := 2, maxLocals := 2, code := jdk_29_method_69_code, exceptionTable := #[], attributes := #[] }
def k10m2 : Method := { name := "min", desc := "(II)I", sig := { parameters := [.int, .int], returnType := some .int }, accessFlags := 9, code := some k10c2 }
def k10c3 : Code := { maxStack := 4, maxLocals := 4, code := jdk_29_method_70_code, exceptionTable := #[], attributes := #[] }
def k10m3 : Method := { name := "min", desc := "(JJ)J", sig := { parameters := [.long, .long], returnType := some .long }, accessFlags := 9, code := some k10c3 }
/-- java/lang/Math -/
def k10 : Class := { plain "java/lang/Math" (some 0) with
  accessFlags := 49
  interfaces := #[]
  cf := some (fileOf pool10 1 #[.nestMembers #[98]] #[{ accessFlags := 2, nameIndex := 7, descriptorIndex := 8, attributes := #[] }, { accessFlags := 9, nameIndex := 198, descriptorIndex := 335, attributes := #[] }, { accessFlags := 9, nameIndex := 201, descriptorIndex := 335, attributes := #[] }, { accessFlags := 9, nameIndex := 201, descriptorIndex := 121, attributes := #[] }] 49 4 #[] #[{ accessFlags := 25, nameIndex := 354, descriptorIndex := 339, attributes := #[] }, { accessFlags := 25, nameIndex := 358, descriptorIndex := 339, attributes := #[] }, { accessFlags := 25, nameIndex := 361, descriptorIndex := 339, attributes := #[] }, { accessFlags := 26, nameIndex := 364, descriptorIndex := 339, attributes := #[] }, { accessFlags := 26, nameIndex := 365, descriptorIndex := 339, attributes := #[] }, { accessFlags := 26, nameIndex := 172, descriptorIndex := 173, attributes := #[] }, { accessFlags := 26, nameIndex := 176, descriptorIndex := 173, attributes := #[] }, { accessFlags := 8, nameIndex := 344, descriptorIndex := 339, attributes := #[] }, { accessFlags := 8, nameIndex := 338, descriptorIndex := 339, attributes := #[] }, { accessFlags := 4120, nameIndex := 245, descriptorIndex := 246, attributes := #[] }])
  fields := #[{ name := "E", type := .double, accessFlags := 25, slot := 0, constantValue := 0 }, { name := "PI", type := .double, accessFlags := 25, slot := 1, constantValue := 0 }, { name := "TAU", type := .double, accessFlags := 25, slot := 2, constantValue := 0 }, { name := "DEGREES_TO_RADIANS", type := .double, accessFlags := 26, slot := 3, constantValue := 0 }, { name := "RADIANS_TO_DEGREES", type := .double, accessFlags := 26, slot := 4, constantValue := 0 }, { name := "negativeZeroFloatBits", type := .long, accessFlags := 26, slot := 5, constantValue := 0 }, { name := "negativeZeroDoubleBits", type := .long, accessFlags := 26, slot := 6, constantValue := 0 }, { name := "twoToTheDoubleScaleUp", type := .double, accessFlags := 8, slot := 7, constantValue := 0 }, { name := "twoToTheDoubleScaleDown", type := .double, accessFlags := 8, slot := 8, constantValue := 0 }, { name := "$assertionsDisabled", type := .boolean, accessFlags := 4120, slot := 9, constantValue := 0 }]
  methods := #[k10m0, k10m1, k10m2, k10m3]
  instanceTypes := #[]
  staticTypes := #[.double, .double, .double, .double, .double, .long, .long, .double, .double, .boolean]
  resolved := Array.replicate 460 none
  statics := none }

def pool11 : Array CpInfo := pool [(2, .class_ 4), (1, u "java/lang/Object"), (0, u "<init>"), (0, u "()V"), (1, .class_ 10), (1, u "java/lang/Number"), (2, .class_ 14), (0, u "java/io/Serializable"), (0, u "serialVersionUID"), (0, u "J")] 20

def k11m0 : Method := { name := "<init>", desc := "()V", sig := { parameters := [], returnType := none }, accessFlags := 1, code := none }
/-- java/lang/Number -/
def k11 : Class := { plain "java/lang/Number" (some 0) with
  accessFlags := 1057
  interfaces := #[2]
  cf := some (fileOf pool11 8 #[] #[{ accessFlags := 1, nameIndex := 5, descriptorIndex := 6, attributes := #[] }] 1057 2 #[13] #[{ accessFlags := 26, nameIndex := 15, descriptorIndex := 16, attributes := #[] }])
  fields := #[{ name := "serialVersionUID", type := .long, accessFlags := 26, slot := 0, constantValue := 0 }]
  methods := #[k11m0]
  instanceTypes := #[]
  staticTypes := #[.long]
  resolved := Array.replicate 37 none
  statics := none }

def pool12 : Array CpInfo := pool [(1, .class_ 2), (0, u "java/lang/Long"), (15, .class_ 20), (1, u "java/lang/Integer"), (79, u "numberOfLeadingZeros"), (0, u "(J)I"), (133, .class_ 237), (1, u "java/lang/Long$LongCache"), (33, .class_ 272), (0, u "java/lang/Number"), (2, u "value"), (0, u "J"), (31, .methodref 18 309), (0, .nameAndType 100 310), (0, u "(I)I"), (50, u "TYPE"), (0, u "Ljava/lang/Class;"), (0, .class_ 364), (0, u "java/lang/Comparable"), (0, .class_ 366), (0, u "java/lang/constant/Constable"), (0, .class_ 368), (0, u "java/lang/constant/ConstantDesc"), (0, u "MIN_VALUE"), (1, u "MAX_VALUE"), (4, u "SIZE"), (0, u "I"), (1, u "BYTES"), (1, u "serialVersionUID")] 142

def k12c0 : Code := { maxStack := 3, maxLocals := 3, code := jdk_35_method_48_code, exceptionTable := #[], attributes := #[] }
def k12m0 : Method := { name := "numberOfLeadingZeros", desc := "(J)I", sig := { parameters := [.long], returnType := some .int }, accessFlags := 9, code := some k12c0 }
/-- java/lang/Long -/
def k12 : Class := { plain "java/lang/Long" (some 11) with
  accessFlags := 49
  interfaces := #[3, 5, 6]
  cf := some (fileOf pool12 1 #[.nestMembers #[235]] #[{ accessFlags := 9, nameIndex := 100, descriptorIndex := 101, attributes := #[] }] 49 271 #[363, 365, 367] #[{ accessFlags := 25, nameIndex := 369, descriptorIndex := 276, attributes := #[] }, { accessFlags := 25, nameIndex := 371, descriptorIndex := 276, attributes := #[] }, { accessFlags := 25, nameIndex := 361, descriptorIndex := 362, attributes := #[] }, { accessFlags := 18, nameIndex := 275, descriptorIndex := 276, attributes := #[] }, { accessFlags := 25, nameIndex := 376, descriptorIndex := 377, attributes := #[] }, { accessFlags := 25, nameIndex := 379, descriptorIndex := 377, attributes := #[] }, { accessFlags := 26, nameIndex := 381, descriptorIndex := 276, attributes := #[] }])
  fields := #[{ name := "MIN_VALUE", type := .long, accessFlags := 25, slot := 0, constantValue := 0 }, { name := "MAX_VALUE", type := .long, accessFlags := 25, slot := 1, constantValue := 0 }, { name := "TYPE", type := (.object "java/lang/Class"), accessFlags := 25, slot := 2, constantValue := 0 }, { name := "value", type := .long, accessFlags := 18, slot := 0, constantValue := 0 }, { name := "SIZE", type := .int, accessFlags := 25, slot := 3, constantValue := 0 }, { name := "BYTES", type := .int, accessFlags := 25, slot := 4, constantValue := 0 }, { name := "serialVersionUID", type := .long, accessFlags := 26, slot := 5, constantValue := 0 }]
  methods := #[k12m0]
  instanceTypes := #[.long]
  staticTypes := #[.long, .long, (.object "java/lang/Class"), .int, .int, .long]
  resolved := Array.replicate 524 none
  statics := none }

def pool13 : Array CpInfo := pool [(1, .class_ 2), (0, u "java/lang/Integer"), (16, u "digits"), (0, u "[C"), (32, u "numberOfLeadingZeros"), (0, u "(I)I"), (30, u "DigitOnes"), (0, u "[B"), (2, u "DigitTens"), (99, .class_ 190), (0, u "java/lang/Integer$IntegerCache"), (3, u "I"), (8, .class_ 204), (0, u "java/lang/Number"), (2, u "value"), (56, .integer 65536), (37, u "TYPE"), (0, u "Ljava/lang/Class;"), (0, .class_ 305), (0, u "java/lang/Comparable"), (0, .class_ 307), (0, u "java/lang/constant/Constable"), (0, .class_ 309), (0, u "java/lang/constant/ConstantDesc"), (0, u "MIN_VALUE"), (1, u "MAX_VALUE"), (3, u "SIZE"), (1, u "BYTES"), (1, u "serialVersionUID"), (0, u "J")] 131

def k13c0 : Code := { maxStack := 3, maxLocals := 2, code := jdk_33_method_47_code, exceptionTable := #[], attributes := #[] }
def k13m0 : Method := { name := "numberOfLeadingZeros", desc := "(I)I", sig := { parameters := [.int], returnType := some .int }, accessFlags := 9, code := some k13c0 }
/-- java/lang/Integer -/
def k13 : Class := { plain "java/lang/Integer" (some 11) with
  accessFlags := 49
  interfaces := #[3, 5, 6]
  cf := some (fileOf pool13 1 #[.nestMembers #[189]] #[{ accessFlags := 9, nameIndex := 53, descriptorIndex := 54, attributes := #[] }] 49 203 #[304, 306, 308] #[{ accessFlags := 25, nameIndex := 310, descriptorIndex := 194, attributes := #[] }, { accessFlags := 25, nameIndex := 312, descriptorIndex := 194, attributes := #[] }, { accessFlags := 25, nameIndex := 302, descriptorIndex := 303, attributes := #[] }, { accessFlags := 24, nameIndex := 19, descriptorIndex := 20, attributes := #[] }, { accessFlags := 24, nameIndex := 89, descriptorIndex := 86, attributes := #[] }, { accessFlags := 24, nameIndex := 85, descriptorIndex := 86, attributes := #[] }, { accessFlags := 18, nameIndex := 207, descriptorIndex := 194, attributes := #[] }, { accessFlags := 25, nameIndex := 316, descriptorIndex := 194, attributes := #[] }, { accessFlags := 25, nameIndex := 318, descriptorIndex := 194, attributes := #[] }, { accessFlags := 26, nameIndex := 320, descriptorIndex := 321, attributes := #[] }])
  fields := #[{ name := "MIN_VALUE", type := .int, accessFlags := 25, slot := 0, constantValue := 0 }, { name := "MAX_VALUE", type := .int, accessFlags := 25, slot := 1, constantValue := 0 }, { name := "TYPE", type := (.object "java/lang/Class"), accessFlags := 25, slot := 2, constantValue := 0 }, { name := "digits", type := (.array .char), accessFlags := 24, slot := 3, constantValue := 0 }, { name := "DigitTens", type := (.array .byte), accessFlags := 24, slot := 4, constantValue := 0 }, { name := "DigitOnes", type := (.array .byte), accessFlags := 24, slot := 5, constantValue := 0 }, { name := "value", type := .int, accessFlags := 18, slot := 0, constantValue := 0 }, { name := "SIZE", type := .int, accessFlags := 25, slot := 6, constantValue := 0 }, { name := "BYTES", type := .int, accessFlags := 25, slot := 7, constantValue := 0 }, { name := "serialVersionUID", type := .long, accessFlags := 26, slot := 8, constantValue := 0 }]
  methods := #[k13m0]
  instanceTypes := #[.int]
  staticTypes := #[.int, .int, (.object "java/lang/Class"), (.array .char), (.array .byte), (.array .byte), .int, .int, .long]
  resolved := Array.replicate 453 none
  statics := none }

def pool14 : Array CpInfo := pool [(2, .class_ 4), (1, u "java/lang/Object"), (0, u "<init>"), (0, u "()V"), (1, .class_ 10), (1, u "java/lang/System"), (0, u "allowSecurityManager"), (0, u "I"), (16, u "cons"), (0, u "Ljava/io/Console;"), (77, .class_ 110), (1, u "java/lang/System$CallersHolder"), (43, u "initialErrStream"), (0, u "Ljava/io/PrintStream;"), (19, u "security"), (0, u "Ljava/lang/SecurityManager;"), (31, .class_ 209), (0, u "java/lang/System$1"), (7, u "props"), (0, u "Ljava/util/Properties;"), (2, u "lineSeparator"), (0, u "Ljava/lang/String;"), (96, .class_ 321), (1, u "java/lang/System$LoggerFinder"), (5, .class_ 328), (0, u "java/lang/System$Logger"), (67, u "err"), (2, u "out"), (91, u "notSupportedJnuEncoding"), (15, u "in"), (17, u "initialIn"), (0, u "Ljava/io/InputStream;"), (35, u "bootLayer"), (0, u "Ljava/lang/ModuleLayer;"), (99, .class_ 664), (0, u "java/lang/System$2"), (9, u "NEVER"), (2, u "MAYBE"), (49, u "arraycopy"), (0, u "(Ljava/lang/Object;ILjava/lang/Object;II)V"), (72, .class_ 802), (0, u "java/lang/System$Logger$Level")] 31

def k14m0 : Method := { name := "<init>", desc := "()V", sig := { parameters := [], returnType := none }, accessFlags := 2, code := none }
def k14m1 : Method := { name := "arraycopy", desc := "(Ljava/lang/Object;ILjava/lang/Object;II)V", sig := { parameters := [(.object "java/lang/Object"), .int, (.object "java/lang/Object"), .int, .int], returnType := none }, accessFlags := 265, code := none }
/-- java/lang/System -/
def k14 : Class := { plain "java/lang/System" (some 0) with
  accessFlags := 49
  interfaces := #[]
  cf := some (fileOf pool14 8 #[.nestMembers #[319, 327, 801, 108, 663, 208]] #[{ accessFlags := 2, nameIndex := 5, descriptorIndex := 6, attributes := #[] }, { accessFlags := 265, nameIndex := 727, descriptorIndex := 728, attributes := #[] }] 49 2 #[] #[{ accessFlags := 25, nameIndex := 507, descriptorIndex := 526, attributes := #[] }, { accessFlags := 25, nameIndex := 399, descriptorIndex := 155, attributes := #[] }, { accessFlags := 25, nameIndex := 396, descriptorIndex := 155, attributes := #[] }, { accessFlags := 10, nameIndex := 525, descriptorIndex := 526, attributes := #[] }, { accessFlags := 26, nameIndex := 674, descriptorIndex := 12, attributes := #[] }, { accessFlags := 26, nameIndex := 677, descriptorIndex := 12, attributes := #[] }, { accessFlags := 10, nameIndex := 11, descriptorIndex := 12, attributes := #[] }, { accessFlags := 74, nameIndex := 175, descriptorIndex := 176, attributes := #[] }, { accessFlags := 10, nameIndex := 491, descriptorIndex := 222, attributes := #[] }, { accessFlags := 74, nameIndex := 29, descriptorIndex := 30, attributes := #[] }, { accessFlags := 74, nameIndex := 154, descriptorIndex := 155, attributes := #[] }, { accessFlags := 10, nameIndex := 217, descriptorIndex := 218, attributes := #[] }, { accessFlags := 10, nameIndex := 221, descriptorIndex := 222, attributes := #[] }, { accessFlags := 8, nameIndex := 562, descriptorIndex := 563, attributes := #[] }])
  fields := #[{ name := "in", type := (.object "java/io/InputStream"), accessFlags := 25, slot := 0, constantValue := 0 }, { name := "out", type := (.object "java/io/PrintStream"), accessFlags := 25, slot := 1, constantValue := 0 }, { name := "err", type := (.object "java/io/PrintStream"), accessFlags := 25, slot := 2, constantValue := 0 }, { name := "initialIn", type := (.object "java/io/InputStream"), accessFlags := 10, slot := 3, constantValue := 0 }, { name := "NEVER", type := .int, accessFlags := 26, slot := 4, constantValue := 0 }, { name := "MAYBE", type := .int, accessFlags := 26, slot := 5, constantValue := 0 }, { name := "allowSecurityManager", type := .int, accessFlags := 10, slot := 6, constantValue := 0 }, { name := "security", type := (.object "java/lang/SecurityManager"), accessFlags := 74, slot := 7, constantValue := 0 }, { name := "notSupportedJnuEncoding", type := (.object "java/lang/String"), accessFlags := 10, slot := 8, constantValue := 0 }, { name := "cons", type := (.object "java/io/Console"), accessFlags := 74, slot := 9, constantValue := 0 }, { name := "initialErrStream", type := (.object "java/io/PrintStream"), accessFlags := 74, slot := 10, constantValue := 0 }, { name := "props", type := (.object "java/util/Properties"), accessFlags := 10, slot := 11, constantValue := 0 }, { name := "lineSeparator", type := (.object "java/lang/String"), accessFlags := 10, slot := 12, constantValue := 0 }, { name := "bootLayer", type := (.object "java/lang/ModuleLayer"), accessFlags := 8, slot := 13, constantValue := 0 }]
  methods := #[k14m0, k14m1]
  instanceTypes := #[]
  staticTypes := #[(.object "java/io/InputStream"), (.object "java/io/PrintStream"), (.object "java/io/PrintStream"), (.object "java/io/InputStream"), .int, .int, .int, (.object "java/lang/SecurityManager"), (.object "java/lang/String"), (.object "java/io/Console"), (.object "java/io/PrintStream"), (.object "java/util/Properties"), (.object "java/lang/String"), (.object "java/lang/ModuleLayer")]
  resolved := Array.replicate 834 none
  statics := none }

def pool15 : Array CpInfo := pool [(2, .class_ 4), (1, u "java/lang/Object"), (0, u "<init>"), (0, u "()V"), (6, .methodref 14 15), (0, .class_ 16), (0, .nameAndType 17 18), (0, u "java/util/Arrays"), (0, u "rangeCheck"), (0, u "(III)V"), (55, .class_ 76), (1, u "java/util/Arrays$NaturalOrder"), (36, .class_ 115), (1, u "java/util/Arrays$LegacyMergeSort"), (1, u "Z"), (128, .class_ 248), (1, u "jdk/internal/util/ArraysSupport"), (0, u "mismatch"), (25, .methodref 246 276), (0, .nameAndType 249 277), (0, u "([BI[BII)I"), (20, u "equals"), (76, .class_ 376), (0, u "java/util/Arrays$ArrayList"), (68, u "$assertionsDisabled"), (269, u "MIN_ARRAY_SORT_GRAN"), (0, u "I"), (2, u "INSERTIONSORT_THRESHOLD"), (111, u "([BII[BII)Z"), (143, .class_ 976), (0, u "java/util/Arrays$ArrayItr")] 52

def k15m0 : Method := { name := "<init>", desc := "()V", sig := { parameters := [], returnType := none }, accessFlags := 2, code := none }
def k15c1 : Code := { maxStack := 4, maxLocals := 3, code := jdk_65_method_30_code, exceptionTable := #[], attributes := #[] }
def k15m1 : Method := { name := "rangeCheck", desc := "(III)V", sig := { parameters := [.int, .int, .int], returnType := none }, accessFlags := 8, code := some k15c1 }
def k15c2 : Code := { maxStack := 5, maxLocals := 8, code := jdk_65_method_90_code, exceptionTable := #[], attributes := #[] }
def k15m2 : Method := { name := "equals", desc := "([BII[BII)Z", sig := { parameters := [(.array .byte), .int, .int, (.array .byte), .int, .int], returnType := some .boolean }, accessFlags := 9, code := some k15c2 }
/-- java/util/Arrays -/
def k15 : Class := { plain "java/util/Arrays" (some 0) with
  accessFlags := 49
  interfaces := #[]
  cf := some (fileOf pool15 14 #[.nestMembers #[975, 375, 113, 74]] #[{ accessFlags := 2, nameIndex := 5, descriptorIndex := 6, attributes := #[] }, { accessFlags := 8, nameIndex := 17, descriptorIndex := 18, attributes := #[] }, { accessFlags := 9, nameIndex := 298, descriptorIndex := 831, attributes := #[] }] 49 2 #[] #[{ accessFlags := 26, nameIndex := 715, descriptorIndex := 716, attributes := #[] }, { accessFlags := 26, nameIndex := 719, descriptorIndex := 716, attributes := #[] }, { accessFlags := 4120, nameIndex := 445, descriptorIndex := 117, attributes := #[] }])
  fields := #[{ name := "MIN_ARRAY_SORT_GRAN", type := .int, accessFlags := 26, slot := 0, constantValue := 0 }, { name := "INSERTIONSORT_THRESHOLD", type := .int, accessFlags := 26, slot := 1, constantValue := 0 }, { name := "$assertionsDisabled", type := .boolean, accessFlags := 4120, slot := 2, constantValue := 0 }]
  methods := #[k15m0, k15m1, k15m2]
  instanceTypes := #[]
  staticTypes := #[.int, .int, .boolean]
  resolved := Array.replicate 1029 none
  statics := none }

def pool16 : Array CpInfo := pool [(9, u "<init>"), (6, .class_ 18), (1, u "java/lang/Object"), (0, u "()V"), (1, .class_ 23), (1, u "jdk/internal/util/ArraysSupport"), (0, u "LOG2_ARRAY_LONG_INDEX_SCALE"), (0, u "I"), (2, u "U"), (0, u "Ljdk/internal/misc/Unsafe;"), (8, u "BIG_ENDIAN"), (0, u "Z"), (8, u "LOG2_BYTE_BIT_SIZE"), (4, u "LOG2_ARRAY_INT_INDEX_SCALE"), (54, u "JLA"), (0, u "Ljdk/internal/access/JavaLangAccess;"), (11, u "LOG2_ARRAY_BOOLEAN_INDEX_SCALE"), (9, u "LOG2_ARRAY_BYTE_INDEX_SCALE"), (5, u "LOG2_ARRAY_CHAR_INDEX_SCALE"), (5, u "LOG2_ARRAY_SHORT_INDEX_SCALE"), (5, u "mismatch"), (12, u "LOG2_ARRAY_FLOAT_INDEX_SCALE"), (24, u "LOG2_ARRAY_DOUBLE_INDEX_SCALE"), (89, u "T_BOOLEAN"), (2, u "T_CHAR"), (1, u "T_FLOAT"), (1, u "T_DOUBLE"), (1, u "T_BYTE"), (1, u "T_SHORT"), (1, u "T_INT"), (1, u "T_LONG"), (1, u "SOFT_MAX_ARRAY_LENGTH"), (42, u "([BI[BII)I")] 40

def k16m0 : Method := { name := "<init>", desc := "()V", sig := { parameters := [], returnType := none }, accessFlags := 2, code := none }
def k16c1 : Code := { maxStack := 8, maxLocals := 8, code := jdk_48_method_14_code, exceptionTable := #[], attributes := #[] }
def k16m1 : Method := { name := "mismatch", desc := "([BI[BII)I", sig := { parameters := [(.array .byte), .int, (.array .byte), .int, .int], returnType := some .int }, accessFlags := 9, code := some k16c1 }
/-- jdk/internal/util/ArraysSupport -/
def k16 : Class := { plain "jdk/internal/util/ArraysSupport" (some 0) with
  accessFlags := 33
  interfaces := #[]
  cf := some (fileOf pool16 21 #[] #[{ accessFlags := 2, nameIndex := 9, descriptorIndex := 19, attributes := #[] }, { accessFlags := 9, nameIndex := 149, descriptorIndex := 337, attributes := #[] }] 33 16 #[] #[{ accessFlags := 24, nameIndex := 28, descriptorIndex := 29, attributes := #[] }, { accessFlags := 26, nameIndex := 38, descriptorIndex := 39, attributes := #[] }, { accessFlags := 25, nameIndex := 121, descriptorIndex := 25, attributes := #[] }, { accessFlags := 25, nameIndex := 131, descriptorIndex := 25, attributes := #[] }, { accessFlags := 25, nameIndex := 137, descriptorIndex := 25, attributes := #[] }, { accessFlags := 25, nameIndex := 143, descriptorIndex := 25, attributes := #[] }, { accessFlags := 25, nameIndex := 53, descriptorIndex := 25, attributes := #[] }, { accessFlags := 25, nameIndex := 24, descriptorIndex := 25, attributes := #[] }, { accessFlags := 25, nameIndex := 162, descriptorIndex := 25, attributes := #[] }, { accessFlags := 25, nameIndex := 187, descriptorIndex := 25, attributes := #[] }, { accessFlags := 26, nameIndex := 48, descriptorIndex := 25, attributes := #[] }, { accessFlags := 25, nameIndex := 277, descriptorIndex := 25, attributes := #[] }, { accessFlags := 25, nameIndex := 280, descriptorIndex := 25, attributes := #[] }, { accessFlags := 25, nameIndex := 282, descriptorIndex := 25, attributes := #[] }, { accessFlags := 25, nameIndex := 284, descriptorIndex := 25, attributes := #[] }, { accessFlags := 25, nameIndex := 286, descriptorIndex := 25, attributes := #[] }, { accessFlags := 25, nameIndex := 288, descriptorIndex := 25, attributes := #[] }, { accessFlags := 25, nameIndex := 290, descriptorIndex := 25, attributes := #[] }, { accessFlags := 25, nameIndex := 292, descriptorIndex := 25, attributes := #[] }, { accessFlags := 26, nameIndex := 108, descriptorIndex := 109, attributes := #[] }, { accessFlags := 25, nameIndex := 294, descriptorIndex := 25, attributes := #[] }])
  fields := #[{ name := "U", type := (.object "jdk/internal/misc/Unsafe"), accessFlags := 24, slot := 0, constantValue := 0 }, { name := "BIG_ENDIAN", type := .boolean, accessFlags := 26, slot := 1, constantValue := 0 }, { name := "LOG2_ARRAY_BOOLEAN_INDEX_SCALE", type := .int, accessFlags := 25, slot := 2, constantValue := 0 }, { name := "LOG2_ARRAY_BYTE_INDEX_SCALE", type := .int, accessFlags := 25, slot := 3, constantValue := 0 }, { name := "LOG2_ARRAY_CHAR_INDEX_SCALE", type := .int, accessFlags := 25, slot := 4, constantValue := 0 }, { name := "LOG2_ARRAY_SHORT_INDEX_SCALE", type := .int, accessFlags := 25, slot := 5, constantValue := 0 }, { name := "LOG2_ARRAY_INT_INDEX_SCALE", type := .int, accessFlags := 25, slot := 6, constantValue := 0 }, { name := "LOG2_ARRAY_LONG_INDEX_SCALE", type := .int, accessFlags := 25, slot := 7, constantValue := 0 }, { name := "LOG2_ARRAY_FLOAT_INDEX_SCALE", type := .int, accessFlags := 25, slot := 8, constantValue := 0 }, { name := "LOG2_ARRAY_DOUBLE_INDEX_SCALE", type := .int, accessFlags := 25, slot := 9, constantValue := 0 }, { name := "LOG2_BYTE_BIT_SIZE", type := .int, accessFlags := 26, slot := 10, constantValue := 0 }, { name := "T_BOOLEAN", type := .int, accessFlags := 25, slot := 11, constantValue := 0 }, { name := "T_CHAR", type := .int, accessFlags := 25, slot := 12, constantValue := 0 }, { name := "T_FLOAT", type := .int, accessFlags := 25, slot := 13, constantValue := 0 }, { name := "T_DOUBLE", type := .int, accessFlags := 25, slot := 14, constantValue := 0 }, { name := "T_BYTE", type := .int, accessFlags := 25, slot := 15, constantValue := 0 }, { name := "T_SHORT", type := .int, accessFlags := 25, slot := 16, constantValue := 0 }, { name := "T_INT", type := .int, accessFlags := 25, slot := 17, constantValue := 0 }, { name := "T_LONG", type := .int, accessFlags := 25, slot := 18, constantValue := 0 }, { name := "JLA", type := (.object "jdk/internal/access/JavaLangAccess"), accessFlags := 26, slot := 19, constantValue := 0 }, { name := "SOFT_MAX_ARRAY_LENGTH", type := .int, accessFlags := 25, slot := 20, constantValue := 0 }]
  methods := #[k16m0, k16m1]
  instanceTypes := #[]
  staticTypes := #[(.object "jdk/internal/misc/Unsafe"), .boolean, .int, .int, .int, .int, .int, .int, .int, .int, .int, .int, .int, .int, .int, .int, .int, .int, .int, (.object "jdk/internal/access/JavaLangAccess"), .int]
  resolved := Array.replicate 378 none
  statics := none }

def pool17 : Array CpInfo := pool [(3, .class_ 4), (0, u "java/lang/String"), (1, .class_ 8), (1, u "java/lang/Object"), (0, u "<init>"), (0, u "()V"), (0, .methodref 12 13), (0, .class_ 14), (0, .nameAndType 15 16), (0, u "java/lang/StringUTF16"), (0, u "newBytesLength"), (0, u "(I)I"), (3, .integer 1073741823), (23, .fieldref 12 45), (0, .nameAndType 46 47), (0, u "$assertionsDisabled"), (0, u "Z"), (0, .methodref 12 49), (0, .nameAndType 50 51), (0, u "length"), (0, u "([B)I"), (7, .fieldref 12 60), (0, .nameAndType 61 62), (0, u "HI_BYTE_SHIFT"), (0, u "I"), (0, .fieldref 12 64), (0, .nameAndType 65 62), (0, u "LO_BYTE_SHIFT"), (1, .methodref 12 68), (0, .nameAndType 69 70), (0, u "checkIndex"), (0, u "(I[B)V"), (0, .methodref 12 72), (0, .nameAndType 73 74), (0, u "getChar"), (0, u "([BI)C"), (32, .methodref 12 108), (0, .nameAndType 109 110), (0, u "newBytesFor"), (0, u "(I)[B"), (0, .methodref 12 112), (0, .nameAndType 113 114), (0, u "putChar"), (0, u "([BII)V"), (0, .methodref 12 116), (0, .nameAndType 117 118), (0, u "compress"), (0, u "([CI[BII)I"), (0, .methodref 12 120), (0, .nameAndType 121 122), (0, u "toBytes"), (0, u "([CII)[B"), (138, u "coderFromArrayLen"), (0, u "([BI)B"), (106, .class_ 371), (1, u "java/lang/StringUTF16$LinesSpliterator"), (20, u "charAt"), (21, .methodref 3 415), (0, .nameAndType 69 416), (0, u "(II)V"), (13, u "MAX_LENGTH"), (196, .class_ 628), (0, u "java/lang/StringUTF16$CodePointsSpliterator"), (0, .class_ 630), (0, u "java/lang/StringUTF16$CharsSpliterator")] 4

def k17m0 : Method := { name := "<init>", desc := "()V", sig := { parameters := [], returnType := none }, accessFlags := 0, code := none }
def k17c1 : Code := { maxStack := 1, maxLocals := 1, code := jdk_52_method_2_code, exceptionTable := #[], attributes := #[] }
def k17m1 : Method := { name := "newBytesFor", desc := "(I)[B", sig := { parameters := [.int], returnType := some (.array .byte) }, accessFlags := 9, code := some k17c1 }
def k17c2 : Code := { maxStack := 4, maxLocals := 1, code := jdk_52_method_3_code, exceptionTable := #[], attributes := #[] }
def k17m2 : Method := { name := "newBytesLength", desc := "(I)I", sig := { parameters := [.int], returnType := some .int }, accessFlags := 9, code := some k17c2 }
def k17c3 : Code := { maxStack := 4, maxLocals := 3, code := jdk_52_method_4_code, exceptionTable := #[], attributes := #[] }
def k17m3 : Method := { name := "putChar", desc := "([BII)V", sig := { parameters := [(.array .byte), .int, .int], returnType := none }, accessFlags := 8, code := some k17c3 }
def k17c4 : Code := { maxStack := 3, maxLocals := 2, code := jdk_52_method_5_code, exceptionTable := #[], attributes := #[] }
def k17m4 : Method := { name := "getChar", desc := "([BI)C", sig := { parameters := [(.array .byte), .int], returnType := some .char }, accessFlags := 8, code := some k17c4 }
def k17c5 : Code := { maxStack := 2, maxLocals := 1, code := jdk_52_method_6_code, exceptionTable := #[], attributes := #[] }
def k17m5 : Method := { name := "length", desc := "([B)I", sig := { parameters := [(.array .byte)], returnType := some .int }, accessFlags := 9, code := some k17c5 }
def k17c6 : Code := { maxStack := 4, maxLocals := 5, code := jdk_52_method_14_code, exceptionTable := #[], attributes := #[] }
def k17m6 : Method := { name := "toBytes", desc := "([CII)[B", sig := { parameters := [(.array .char), .int, .int], returnType := some (.array .byte) }, accessFlags := 9, code := some k17c6 }
def k17c7 : Code := { maxStack := 2, maxLocals := 2, code := jdk_52_method_15_code, exceptionTable := #[], attributes := #[] }
def k17m7 : Method := { name := "coderFromArrayLen", desc := "([BI)B", sig := { parameters := [(.array .byte), .int], returnType := some .byte }, accessFlags := 8, code := some k17c7 }
def k17c8 : Code := { maxStack := 5, maxLocals := 6, code := jdk_52_method_16_code, exceptionTable := #[], attributes := #[] }
def k17m8 : Method := { name := "compress", desc := "([CII)[B", sig := { parameters := [(.array .char), .int, .int], returnType := some (.array .byte) }, accessFlags := 9, code := some k17c8 }
def k17c9 : Code := { maxStack := 3, maxLocals := 7, code := jdk_52_method_21_code, exceptionTable := #[], attributes := #[] }
def k17m9 : Method := { name := "compress", desc := "([CI[BII)I", sig := { parameters := [(.array .char), .int, (.array .byte), .int, .int], returnType := some .int }, accessFlags := 9, code := some k17c9 }
def k17c10 : Code := { maxStack := 2, maxLocals := 2, code := jdk_52_method_83_code, exceptionTable := #[], attributes := #[] }
def k17m10 : Method := { name := "charAt", desc := "([BI)C", sig := { parameters := [(.array .byte), .int], returnType := some .char }, accessFlags := 9, code := some k17c10 }
def k17c11 : Code := { maxStack := 2, maxLocals := 2, code := jdk_52_method_91_code, exceptionTable := #[], attributes := #[] }
def k17m11 : Method := { name := "checkIndex", desc := "(I[B)V", sig := { parameters := [.int, (.array .byte)], returnType := none }, accessFlags := 9, code := some k17c11 }
/-- java/lang/StringUTF16 -/
def k17 : Class := { plain "java/lang/StringUTF16" (some 0) with
  accessFlags := 48
  interfaces := #[]
  cf := some (fileOf pool17 12 #[.nestMembers #[627, 629, 369]] #[{ accessFlags := 0, nameIndex := 9, descriptorIndex := 10, attributes := #[] }, { accessFlags := 9, nameIndex := 109, descriptorIndex := 110, attributes := #[] }, { accessFlags := 9, nameIndex := 15, descriptorIndex := 16, attributes := #[] }, { accessFlags := 8, nameIndex := 113, descriptorIndex := 114, attributes := #[] }, { accessFlags := 8, nameIndex := 73, descriptorIndex := 74, attributes := #[] }, { accessFlags := 9, nameIndex := 50, descriptorIndex := 51, attributes := #[] }, { accessFlags := 9, nameIndex := 121, descriptorIndex := 122, attributes := #[] }, { accessFlags := 8, nameIndex := 261, descriptorIndex := 262, attributes := #[] }, { accessFlags := 9, nameIndex := 117, descriptorIndex := 122, attributes := #[] }, { accessFlags := 9, nameIndex := 117, descriptorIndex := 118, attributes := #[] }, { accessFlags := 9, nameIndex := 392, descriptorIndex := 74, attributes := #[] }, { accessFlags := 9, nameIndex := 69, descriptorIndex := 70, attributes := #[] }] 48 6 #[] #[{ accessFlags := 26, nameIndex := 61, descriptorIndex := 62, attributes := #[] }, { accessFlags := 26, nameIndex := 65, descriptorIndex := 62, attributes := #[] }, { accessFlags := 24, nameIndex := 430, descriptorIndex := 62, attributes := #[] }, { accessFlags := 4120, nameIndex := 46, descriptorIndex := 47, attributes := #[] }])
  fields := #[{ name := "HI_BYTE_SHIFT", type := .int, accessFlags := 26, slot := 0, constantValue := 0 }, { name := "LO_BYTE_SHIFT", type := .int, accessFlags := 26, slot := 1, constantValue := 0 }, { name := "MAX_LENGTH", type := .int, accessFlags := 24, slot := 2, constantValue := 0 }, { name := "$assertionsDisabled", type := .boolean, accessFlags := 4120, slot := 3, constantValue := 0 }]
  methods := #[k17m0, k17m1, k17m2, k17m3, k17m4, k17m5, k17m6, k17m7, k17m8, k17m9, k17m10, k17m11]
  instanceTypes := #[]
  staticTypes := #[.int, .int, .int, .boolean]
  resolved := Array.replicate 635 none
  statics := some 1 }

def pool18 : Array CpInfo := pool [(1, .class_ 2), (0, u "java/lang/String"), (1, .class_ 6), (1, u "java/lang/Object"), (0, u "<init>"), (0, u "()V"), (0, .methodref 1 10), (0, .nameAndType 11 12), (0, u "checkIndex"), (0, u "(II)V"), (1, .class_ 16), (1, u "java/lang/StringLatin1"), (36, u "([BI)C"), (67, u "$assertionsDisabled"), (0, u "Z"), (98, .class_ 223), (1, u "java/lang/StringLatin1$LinesSpliterator"), (28, u "charAt"), (137, .class_ 391), (0, u "java/lang/StringLatin1$CharsSpliterator")] 3

def k18m0 : Method := { name := "<init>", desc := "()V", sig := { parameters := [], returnType := none }, accessFlags := 0, code := none }
def k18c1 : Code := { maxStack := 2, maxLocals := 2, code := jdk_43_method_2_code, exceptionTable := #[], attributes := #[] }
def k18m1 : Method := { name := "charAt", desc := "([BI)C", sig := { parameters := [(.array .byte), .int], returnType := some .char }, accessFlags := 9, code := some k18c1 }
/-- java/lang/StringLatin1 -/
def k18 : Class := { plain "java/lang/StringLatin1" (some 0) with
  accessFlags := 48
  interfaces := #[]
  cf := some (fileOf pool18 14 #[.nestMembers #[390, 221]] #[{ accessFlags := 0, nameIndex := 7, descriptorIndex := 8, attributes := #[] }, { accessFlags := 9, nameIndex := 252, descriptorIndex := 53, attributes := #[] }] 48 4 #[] #[{ accessFlags := 4120, nameIndex := 121, descriptorIndex := 122, attributes := #[] }])
  fields := #[{ name := "$assertionsDisabled", type := .boolean, accessFlags := 4120, slot := 0, constantValue := 0 }]
  methods := #[k18m0, k18m1]
  instanceTypes := #[]
  staticTypes := #[.boolean]
  resolved := Array.replicate 395 none
  statics := none }

def pool19 : Array CpInfo := pool [(2, .class_ 4), (1, u "java/lang/Object"), (0, u "<init>"), (0, u "()V"), (17, .class_ 26), (1, u "jdk/internal/util/Preconditions"), (6, u "checkIndex"), (21, .class_ 56), (0, u "jdk/internal/util/Preconditions$4"), (57, .class_ 115), (0, u "jdk/internal/util/Preconditions$1"), (7, u "SIOOBE_FORMATTER"), (0, u "Ljava/util/function/BiFunction;"), (0, .class_ 126), (0, u "jdk/internal/util/Preconditions$2"), (3, u "AIOOBE_FORMATTER"), (0, .class_ 132), (0, u "jdk/internal/util/Preconditions$3"), (3, u "IOOBE_FORMATTER"), (41, u "(IILjava/util/function/BiFunction;)I")] 15

def k19m0 : Method := { name := "<init>", desc := "()V", sig := { parameters := [], returnType := none }, accessFlags := 1, code := none }
def k19c1 : Code := { maxStack := 3, maxLocals := 3, code := jdk_41_method_11_code, exceptionTable := #[], attributes := #[] }
def k19m1 : Method := { name := "checkIndex", desc := "(IILjava/util/function/BiFunction;)I", sig := { parameters := [.int, .int, (.object "java/util/function/BiFunction")], returnType := some .int }, accessFlags := 9, code := some k19c1 }
/-- jdk/internal/util/Preconditions -/
def k19 : Class := { plain "jdk/internal/util/Preconditions" (some 0) with
  accessFlags := 33
  interfaces := #[]
  cf := some (fileOf pool19 24 #[.nestMembers #[55, 131, 125, 114]] #[{ accessFlags := 1, nameIndex := 5, descriptorIndex := 6, attributes := #[] }, { accessFlags := 9, nameIndex := 33, descriptorIndex := 178, attributes := #[] }] 33 2 #[] #[{ accessFlags := 25, nameIndex := 123, descriptorIndex := 124, attributes := #[] }, { accessFlags := 25, nameIndex := 130, descriptorIndex := 124, attributes := #[] }, { accessFlags := 25, nameIndex := 136, descriptorIndex := 124, attributes := #[] }])
  fields := #[{ name := "SIOOBE_FORMATTER", type := (.object "java/util/function/BiFunction"), accessFlags := 25, slot := 0, constantValue := 0 }, { name := "AIOOBE_FORMATTER", type := (.object "java/util/function/BiFunction"), accessFlags := 25, slot := 1, constantValue := 0 }, { name := "IOOBE_FORMATTER", type := (.object "java/util/function/BiFunction"), accessFlags := 25, slot := 2, constantValue := 0 }]
  methods := #[k19m0, k19m1]
  instanceTypes := #[]
  staticTypes := #[(.object "java/util/function/BiFunction"), (.object "java/util/function/BiFunction"), (.object "java/util/function/BiFunction")]
  resolved := Array.replicate 194 none
  statics := some 2 }

def pool20 : Array CpInfo := pool [(1, u "java/lang/Cloneable"), (0, .class_ 1), (0, u "java/lang/Object"), (0, .class_ 3)] 3

/-- java/lang/Cloneable -/
def k20 : Class := { plain "java/lang/Cloneable" (some 0) with
  accessFlags := 1537
  interfaces := #[]
  cf := some (fileOf pool20 2 #[] #[] 1537 4 #[] #[])
  fields := #[]
  methods := #[]
  instanceTypes := #[]
  staticTypes := #[]
  resolved := Array.replicate 8 none
  statics := none }

/-- the primitive byte -/
def k21 : Class := { plain "byte" none with kind := .primitive 'B', accessFlags := 0x411 }
/-- [B -/
def k22 : Class := { plain "[B" (some 0) with kind := .array 21 .byte, interfaces := #[20, 2], accessFlags := 1041 }

/-- the primitive char -/
def k23 : Class := { plain "char" none with kind := .primitive 'C', accessFlags := 0x411 }
/-- [C -/
def k24 : Class := { plain "[C" (some 0) with kind := .array 23 .char, interfaces := #[20, 2], accessFlags := 1041 }

/-- the primitive int -/
def k25 : Class := { plain "int" none with kind := .primitive 'I', accessFlags := 0x411 }
/-- [I -/
def k26 : Class := { plain "[I" (some 0) with kind := .array 25 .int, interfaces := #[20, 2], accessFlags := 1041 }

/-- [[B -/
def k27 : Class := { plain "[[B" (some 0) with kind := .array 22 (.array .byte), interfaces := #[20, 2], accessFlags := 1041 }

def heap : Heap := #[{ cls := 7, slots := #[.long 0, .int 1, .null, .int 0, .null, .int 0, .int 0], vm := .statics 7 },
  { cls := 17, slots := #[.int 0, .int 8, .int 0, .int 1], vm := .statics 17 },
  { cls := 19, slots := #[.null, .null, .null], vm := .statics 19 },
  { cls := 27, slots := #[.null], vm := .none }]
def classes : Array Class := #[k0, k1, k2, k3, k4, k5, k6, k7, k8, k9, k10, k11, k12, k13, k14, k15, k16, k17, k18, k19, k20, k21, k22, k23, k24, k25, k26, k27]
def interned : List (Array UInt16 × Addr) := []
def slotsUsed : Nat := 15
def theMethod : MethodId := ⟨1, 2⟩
def args0 : Array Value := #[.int 5, .int 7, .long 3, .long 4, .int 1, .int 2]
def aboutOver (below : List Frame) : State where
  vm := { classes := classes, interned := interned.toArray }
  heap := heap
  slotsUsed := slotsUsed
  threads := #[{ frames := .invoking theMethod args0 :: below }]
def below0 : List Frame := [.native { method := ⟨0, 0⟩, args := #[] }]
def about1 : State := aboutOver below0
def p0 : Program := .bare "" "" ""
def e0 : Env := launch0.env 0 0 0
theorem w_frames : about1.frames = Frame.invoking theMethod args0 :: below0 := rfl
set_option maxRecDepth 65536 in
theorem w_args : argsFit about1.vm theMethod args0 = true := by decide +kernel
set_option maxRecDepth 65536 in
theorem w_heap : heapFits about1 = true := by decide +kernel
set_option maxRecDepth 65536 in
theorem w_runnable : about1.curStatus? = some .runnable := by decide +kernel
set_option maxRecDepth 65536 in
theorem w_alone : about1.alone = true := by decide +kernel
set_option maxRecDepth 65536 in
theorem w_named : about1.methodNamed? x = some theMethod := by decide +kernel
set_option maxRecDepth 65536 in
theorem w_hears : about1.hears theMethod below0 = true := by decide +kernel
set_option maxRecDepth 65536 in
theorem w_ripe : about1.ripe theMethod args0 below0 = true := by decide +kernel
theorem w_running : about1.status = .running := rfl
set_option maxRecDepth 65536 in
theorem w_room : about1.hasRoom e0.platform room_1 = true :=
  launch0.hasRoom_least _ room_1 (by decide +kernel) (by decide +kernel) (by decide +kernel) (by decide +kernel) (by decide +kernel) (by decide +kernel)
theorem allAtoms_all (ts : List Jvm.Cond) (a : Array Jvm.Value) (st : Jvm.State) : (allAtoms ts).before a st = ts.all (fun c => c.before a st) := by
  induction ts with
  | nil => rfl
  | cons c t ih =>
    show (Jvm.Cond.and c (allAtoms t)).before a st = _
    rw [Jvm.Cond.before_and, ih, List.all_cons]
def words1 : List Jvm.Cond := Jvm.Cond.code x code maxLocals ret :: tables_1
/-- a 'code' word, met by the world's own term for the bytes: nothing is compared byte by byte -/
theorem code_word {y : MethodName} {bytes : ByteArray} {mx : Nat} {rt : Option FieldType} {a : Array Value} {s : State} {m : MethodId} {meth : Method} {c : Code} (h1 : s.methodNamed? y = some m) (h2 : s.vm.method? m = some meth) (h3 : meth.code = some c) (h4 : c.code = bytes)
    (h5 : (c.maxLocals == mx && c.exceptionTable.isEmpty && decide (c.maxStack ≤ mostOperands) && decide (meth.sig.returnType = rt) && !meth.locks && decide (parseMethodDescriptor y.desc = some meth.sig)) = true) : (Jvm.Cond.code y bytes mx rt).before a s = true := by
  simp only [Bool.and_eq_true, beq_iff_eq, Bool.not_eq_true', decide_eq_true_eq] at h5
  obtain ⟨⟨⟨⟨⟨g1, g2⟩, g3⟩, g4⟩, g5⟩, g6⟩ := h5
  simp [Cond.before, Cond.holds, Cond.value, h1, h2, h3, h4, g1, g2, g3, g4, g5, g6]
def isCode : Jvm.Cond → Bool
  | .code _ _ _ _ => true
  | _ => false
theorem all_split {L : List Jvm.Cond} {P : Jvm.Cond → Bool} (h1 : L.all (fun c => isCode c || P c) = true) (h2 : ∀ c ∈ L.filter isCode, P c = true) : L.all P = true := by
  refine List.all_eq_true.mpr fun c hc => ?_
  have h := List.all_eq_true.mp h1 c hc
  rcases Bool.eq_false_or_eq_true (isCode c) with hi | hi
  · exact h2 c (List.mem_filter.mpr ⟨hc, hi⟩)
  · simpa [hi] using h
set_option maxRecDepth 65536 in
theorem w_c0 : (Jvm.Cond.code x code maxLocals ret).before args0 about1 = true := code_word (m := ⟨1, 2⟩) (meth := k1m2) (c := k1c2) (by decide +kernel) rfl rfl rfl (by decide +kernel)
set_option maxRecDepth 65536 in
theorem w_c1 : (Jvm.Cond.code ({ cls := "com/example/vestline/vestline/util/KeptTextsForgetLastPinLaw", name := "text", desc := "(ICC)Ljava/lang/String;" } : Jvm.MethodName) method_2_code (3 : Nat) (Option.some (Jvm.ClassFile.FieldType.object "java/lang/String"))).before args0 about1 = true := code_word (m := ⟨1, 1⟩) (meth := k1m1) (c := k1c1) (by decide +kernel) rfl rfl rfl (by decide +kernel)
set_option maxRecDepth 65536 in
theorem w_c2 : (Jvm.Cond.code ({ cls := "java/lang/String", name := "<init>", desc := "([C)V" } : Jvm.MethodName) jdk_42_method_3_code (2 : Nat) (Option.none : Option Jvm.ClassFile.FieldType)).before args0 about1 = true := code_word (m := ⟨7, 1⟩) (meth := k7m1) (c := k7c1) (by decide +kernel) rfl rfl rfl (by decide +kernel)
set_option maxRecDepth 65536 in
theorem w_c3 : (Jvm.Cond.code ({ cls := "java/lang/String", name := "<init>", desc := "([CIILjava/lang/Void;)V" } : Jvm.MethodName) jdk_42_method_149_code (6 : Nat) (Option.none : Option Jvm.ClassFile.FieldType)).before args0 about1 = true := code_word (m := ⟨7, 4⟩) (meth := k7m4) (c := k7c4) (by decide +kernel) rfl rfl rfl (by decide +kernel)
set_option maxRecDepth 65536 in
theorem w_c4 : (Jvm.Cond.code ({ cls := "java/lang/Object", name := "<init>", desc := "()V" } : Jvm.MethodName) object_method_1_code (1 : Nat) (Option.none : Option Jvm.ClassFile.FieldType)).before args0 about1 = true := code_word (m := ⟨0, 0⟩) (meth := k0m0) (c := k0c0) (by decide +kernel) rfl rfl rfl (by decide +kernel)
set_option maxRecDepth 65536 in
theorem w_c5 : (Jvm.Cond.code ({ cls := "com/example/vestline/vestline/util/KeptTexts", name := "<init>", desc := "(II)V" } : Jvm.MethodName) prog_136_method_2_code (3 : Nat) (Option.none : Option Jvm.ClassFile.FieldType)).before args0 about1 = true := code_word (m := ⟨9, 1⟩) (meth := k9m1) (c := k9c1) (by decide +kernel) rfl rfl rfl (by decide +kernel)
set_option maxRecDepth 65536 in
theorem w_c6 : (Jvm.Cond.code ({ cls := "java/lang/Math", name := "min", desc := "(II)I" } : Jvm.MethodName) jdk_29_method_69_code (2 : Nat) (Option.some Jvm.ClassFile.FieldType.int)).before args0 about1 = true := code_word (m := ⟨10, 2⟩) (meth := k10m2) (c := k10c2) (by decide +kernel) rfl rfl rfl (by decide +kernel)
set_option maxRecDepth 65536 in
theorem w_c7 : (Jvm.Cond.code ({ cls := "com/example/vestline/vestline/util/KeptTexts", name := "keep", desc := "(Ljava/lang/CharSequence;J)J" } : Jvm.MethodName) prog_136_method_3_code (8 : Nat) (Option.some Jvm.ClassFile.FieldType.long)).before args0 about1 = true := code_word (m := ⟨9, 2⟩) (meth := k9m2) (c := k9c2) (by decide +kernel) rfl rfl rfl (by decide +kernel)
set_option maxRecDepth 65536 in
theorem w_c8 : (Jvm.Cond.code ({ cls := "com/example/vestline/vestline/util/KeptTexts", name := "write", desc := "(Ljava/lang/CharSequence;)I" } : Jvm.MethodName) prog_136_method_7_code (7 : Nat) (Option.some Jvm.ClassFile.FieldType.int)).before args0 about1 = true := code_word (m := ⟨9, 6⟩) (meth := k9m6) (c := k9c6) (by decide +kernel) rfl rfl rfl (by decide +kernel)
set_option maxRecDepth 65536 in
theorem w_c9 : (Jvm.Cond.code ({ cls := "java/lang/String", name := "length", desc := "()I" } : Jvm.MethodName) jdk_42_method_54_code (1 : Nat) (Option.some Jvm.ClassFile.FieldType.int)).before args0 about1 = true := code_word (m := ⟨7, 2⟩) (meth := k7m2) (c := k7c2) (by decide +kernel) rfl rfl rfl (by decide +kernel)
set_option maxRecDepth 65536 in
theorem w_c10 : (Jvm.Cond.code ({ cls := "java/lang/String", name := "coder", desc := "()B" } : Jvm.MethodName) jdk_42_method_152_code (1 : Nat) (Option.some Jvm.ClassFile.FieldType.byte)).before args0 about1 = true := code_word (m := ⟨7, 5⟩) (meth := k7m5) (c := k7c5) (by decide +kernel) rfl rfl rfl (by decide +kernel)
set_option maxRecDepth 65536 in
theorem w_c11 : (Jvm.Cond.code ({ cls := "com/example/vestline/vestline/util/KeptTexts", name := "varintSize", desc := "(J)I" } : Jvm.MethodName) prog_136_method_11_code (2 : Nat) (Option.some Jvm.ClassFile.FieldType.int)).before args0 about1 = true := code_word (m := ⟨9, 10⟩) (meth := k9m10) (c := k9c10) (by decide +kernel) rfl rfl rfl (by decide +kernel)
set_option maxRecDepth 65536 in
theorem w_c12 : (Jvm.Cond.code ({ cls := "java/lang/Long", name := "numberOfLeadingZeros", desc := "(J)I" } : Jvm.MethodName) jdk_35_method_48_code (3 : Nat) (Option.some Jvm.ClassFile.FieldType.int)).before args0 about1 = true := code_word (m := ⟨12, 0⟩) (meth := k12m0) (c := k12c0) (by decide +kernel) rfl rfl rfl (by decide +kernel)
set_option maxRecDepth 65536 in
theorem w_c13 : (Jvm.Cond.code ({ cls := "java/lang/Integer", name := "numberOfLeadingZeros", desc := "(I)I" } : Jvm.MethodName) jdk_33_method_47_code (2 : Nat) (Option.some Jvm.ClassFile.FieldType.int)).before args0 about1 = true := code_word (m := ⟨13, 0⟩) (meth := k13m0) (c := k13c0) (by decide +kernel) rfl rfl rfl (by decide +kernel)
set_option maxRecDepth 65536 in
theorem w_c14 : (Jvm.Cond.code ({ cls := "java/lang/Math", name := "max", desc := "(II)I" } : Jvm.MethodName) jdk_29_method_65_code (2 : Nat) (Option.some Jvm.ClassFile.FieldType.int)).before args0 about1 = true := code_word (m := ⟨10, 1⟩) (meth := k10m1) (c := k10c1) (by decide +kernel) rfl rfl rfl (by decide +kernel)
set_option maxRecDepth 65536 in
theorem w_c15 : (Jvm.Cond.code ({ cls := "com/example/vestline/vestline/util/KeptTexts", name := "room", desc := "(I)I" } : Jvm.MethodName) prog_136_method_8_code (4 : Nat) (Option.some Jvm.ClassFile.FieldType.int)).before args0 about1 = true := code_word (m := ⟨9, 7⟩) (meth := k9m7) (c := k9c7) (by decide +kernel) rfl rfl rfl (by decide +kernel)
set_option maxRecDepth 65536 in
theorem w_c16 : (Jvm.Cond.code ({ cls := "com/example/vestline/vestline/util/KeptTexts", name := "putVarint", desc := "([BIJ)I" } : Jvm.MethodName) prog_136_method_10_code (7 : Nat) (Option.some Jvm.ClassFile.FieldType.int)).before args0 about1 = true := code_word (m := ⟨9, 9⟩) (meth := k9m9) (c := k9c9) (by decide +kernel) rfl rfl rfl (by decide +kernel)
set_option maxRecDepth 65536 in
theorem w_c17 : (Jvm.Cond.code ({ cls := "com/example/vestline/vestline/util/KeptTexts", name := "forgetLast", desc := "()V" } : Jvm.MethodName) prog_136_method_4_code (1 : Nat) (Option.none : Option Jvm.ClassFile.FieldType)).before args0 about1 = true := code_word (m := ⟨9, 3⟩) (meth := k9m3) (c := k9c3) (by decide +kernel) rfl rfl rfl (by decide +kernel)
set_option maxRecDepth 65536 in
theorem w_c18 : (Jvm.Cond.code ({ cls := "com/example/vestline/vestline/util/KeptTexts", name := "holds", desc := "(JLjava/lang/CharSequence;)Z" } : Jvm.MethodName) prog_136_method_6_code (9 : Nat) (Option.some Jvm.ClassFile.FieldType.boolean)).before args0 about1 = true := code_word (m := ⟨9, 5⟩) (meth := k9m5) (c := k9c5) (by decide +kernel) rfl rfl rfl (by decide +kernel)
set_option maxRecDepth 65536 in
theorem w_c19 : (Jvm.Cond.code ({ cls := "com/example/vestline/vestline/util/KeptTexts", name := "varint", desc := "([BI)J" } : Jvm.MethodName) prog_136_method_9_code (7 : Nat) (Option.some Jvm.ClassFile.FieldType.long)).before args0 about1 = true := code_word (m := ⟨9, 8⟩) (meth := k9m8) (c := k9c8) (by decide +kernel) rfl rfl rfl (by decide +kernel)
set_option maxRecDepth 65536 in
theorem w_c20 : (Jvm.Cond.code ({ cls := "java/util/Arrays", name := "equals", desc := "([BII[BII)Z" } : Jvm.MethodName) jdk_65_method_90_code (8 : Nat) (Option.some Jvm.ClassFile.FieldType.boolean)).before args0 about1 = true := code_word (m := ⟨15, 2⟩) (meth := k15m2) (c := k15c2) (by decide +kernel) rfl rfl rfl (by decide +kernel)
set_option maxRecDepth 65536 in
theorem w_c21 : (Jvm.Cond.code ({ cls := "java/util/Arrays", name := "rangeCheck", desc := "(III)V" } : Jvm.MethodName) jdk_65_method_30_code (3 : Nat) (Option.none : Option Jvm.ClassFile.FieldType)).before args0 about1 = true := code_word (m := ⟨15, 1⟩) (meth := k15m1) (c := k15c1) (by decide +kernel) rfl rfl rfl (by decide +kernel)
set_option maxRecDepth 65536 in
theorem w_c22 : (Jvm.Cond.code ({ cls := "jdk/internal/util/ArraysSupport", name := "mismatch", desc := "([BI[BII)I" } : Jvm.MethodName) jdk_48_method_14_code (8 : Nat) (Option.some Jvm.ClassFile.FieldType.int)).before args0 about1 = true := code_word (m := ⟨16, 1⟩) (meth := k16m1) (c := k16c1) (by decide +kernel) rfl rfl rfl (by decide +kernel)
set_option maxRecDepth 65536 in
theorem w_c23 : (Jvm.Cond.code ({ cls := "com/example/vestline/vestline/util/KeptTexts", name := "number", desc := "(J)J" } : Jvm.MethodName) prog_136_method_5_code (4 : Nat) (Option.some Jvm.ClassFile.FieldType.long)).before args0 about1 = true := code_word (m := ⟨9, 4⟩) (meth := k9m4) (c := k9c4) (by decide +kernel) rfl rfl rfl (by decide +kernel)
set_option maxRecDepth 65536 in
theorem w_c24 : (Jvm.Cond.code ({ cls := "java/lang/Math", name := "min", desc := "(JJ)J" } : Jvm.MethodName) jdk_29_method_70_code (4 : Nat) (Option.some Jvm.ClassFile.FieldType.long)).before args0 about1 = true := code_word (m := ⟨10, 3⟩) (meth := k10m3) (c := k10c3) (by decide +kernel) rfl rfl rfl (by decide +kernel)
set_option maxRecDepth 65536 in
theorem w_c25 : (Jvm.Cond.code ({ cls := "java/lang/StringUTF16", name := "compress", desc := "([CII)[B" } : Jvm.MethodName) jdk_52_method_16_code (6 : Nat) (Option.some (Jvm.ClassFile.FieldType.array Jvm.ClassFile.FieldType.byte))).before args0 about1 = true := code_word (m := ⟨17, 8⟩) (meth := k17m8) (c := k17c8) (by decide +kernel) rfl rfl rfl (by decide +kernel)
set_option maxRecDepth 65536 in
theorem w_c26 : (Jvm.Cond.code ({ cls := "java/lang/StringUTF16", name := "compress", desc := "([CI[BII)I" } : Jvm.MethodName) jdk_52_method_21_code (7 : Nat) (Option.some Jvm.ClassFile.FieldType.int)).before args0 about1 = true := code_word (m := ⟨17, 9⟩) (meth := k17m9) (c := k17c9) (by decide +kernel) rfl rfl rfl (by decide +kernel)
set_option maxRecDepth 65536 in
theorem w_c27 : (Jvm.Cond.code ({ cls := "java/lang/StringUTF16", name := "coderFromArrayLen", desc := "([BI)B" } : Jvm.MethodName) jdk_52_method_15_code (2 : Nat) (Option.some Jvm.ClassFile.FieldType.byte)).before args0 about1 = true := code_word (m := ⟨17, 7⟩) (meth := k17m7) (c := k17c7) (by decide +kernel) rfl rfl rfl (by decide +kernel)
set_option maxRecDepth 65536 in
theorem w_c28 : (Jvm.Cond.code ({ cls := "java/lang/String", name := "charAt", desc := "(I)C" } : Jvm.MethodName) jdk_42_method_56_code (2 : Nat) (Option.some Jvm.ClassFile.FieldType.char)).before args0 about1 = true := code_word (m := ⟨7, 3⟩) (meth := k7m3) (c := k7c3) (by decide +kernel) rfl rfl rfl (by decide +kernel)
set_option maxRecDepth 65536 in
theorem w_c29 : (Jvm.Cond.code ({ cls := "java/lang/String", name := "isLatin1", desc := "()Z" } : Jvm.MethodName) jdk_42_method_154_code (1 : Nat) (Option.some Jvm.ClassFile.FieldType.boolean)).before args0 about1 = true := code_word (m := ⟨7, 6⟩) (meth := k7m6) (c := k7c6) (by decide +kernel) rfl rfl rfl (by decide +kernel)
set_option maxRecDepth 65536 in
theorem w_c30 : (Jvm.Cond.code ({ cls := "java/lang/StringLatin1", name := "charAt", desc := "([BI)C" } : Jvm.MethodName) jdk_43_method_2_code (2 : Nat) (Option.some Jvm.ClassFile.FieldType.char)).before args0 about1 = true := code_word (m := ⟨18, 1⟩) (meth := k18m1) (c := k18c1) (by decide +kernel) rfl rfl rfl (by decide +kernel)
set_option maxRecDepth 65536 in
theorem w_c31 : (Jvm.Cond.code ({ cls := "java/lang/String", name := "checkIndex", desc := "(II)V" } : Jvm.MethodName) jdk_42_method_155_code (2 : Nat) (Option.none : Option Jvm.ClassFile.FieldType)).before args0 about1 = true := code_word (m := ⟨7, 7⟩) (meth := k7m7) (c := k7c7) (by decide +kernel) rfl rfl rfl (by decide +kernel)
set_option maxRecDepth 65536 in
theorem w_c32 : (Jvm.Cond.code ({ cls := "jdk/internal/util/Preconditions", name := "checkIndex", desc := "(IILjava/util/function/BiFunction;)I" } : Jvm.MethodName) jdk_41_method_11_code (3 : Nat) (Option.some Jvm.ClassFile.FieldType.int)).before args0 about1 = true := code_word (m := ⟨19, 1⟩) (meth := k19m1) (c := k19c1) (by decide +kernel) rfl rfl rfl (by decide +kernel)
set_option maxRecDepth 65536 in
theorem w_c33 : (Jvm.Cond.code ({ cls := "java/lang/StringUTF16", name := "toBytes", desc := "([CII)[B" } : Jvm.MethodName) jdk_52_method_14_code (5 : Nat) (Option.some (Jvm.ClassFile.FieldType.array Jvm.ClassFile.FieldType.byte))).before args0 about1 = true := code_word (m := ⟨17, 6⟩) (meth := k17m6) (c := k17c6) (by decide +kernel) rfl rfl rfl (by decide +kernel)
set_option maxRecDepth 65536 in
theorem w_c34 : (Jvm.Cond.code ({ cls := "java/lang/StringUTF16", name := "newBytesFor", desc := "(I)[B" } : Jvm.MethodName) jdk_52_method_2_code (1 : Nat) (Option.some (Jvm.ClassFile.FieldType.array Jvm.ClassFile.FieldType.byte))).before args0 about1 = true := code_word (m := ⟨17, 1⟩) (meth := k17m1) (c := k17c1) (by decide +kernel) rfl rfl rfl (by decide +kernel)
set_option maxRecDepth 65536 in
theorem w_c35 : (Jvm.Cond.code ({ cls := "java/lang/StringUTF16", name := "newBytesLength", desc := "(I)I" } : Jvm.MethodName) jdk_52_method_3_code (1 : Nat) (Option.some Jvm.ClassFile.FieldType.int)).before args0 about1 = true := code_word (m := ⟨17, 2⟩) (meth := k17m2) (c := k17c2) (by decide +kernel) rfl rfl rfl (by decide +kernel)
set_option maxRecDepth 65536 in
theorem w_c36 : (Jvm.Cond.code ({ cls := "java/lang/StringUTF16", name := "putChar", desc := "([BII)V" } : Jvm.MethodName) jdk_52_method_4_code (3 : Nat) (Option.none : Option Jvm.ClassFile.FieldType)).before args0 about1 = true := code_word (m := ⟨17, 3⟩) (meth := k17m3) (c := k17c3) (by decide +kernel) rfl rfl rfl (by decide +kernel)
set_option maxRecDepth 65536 in
theorem w_c37 : (Jvm.Cond.code ({ cls := "java/lang/StringUTF16", name := "getChar", desc := "([BI)C" } : Jvm.MethodName) jdk_52_method_5_code (2 : Nat) (Option.some Jvm.ClassFile.FieldType.char)).before args0 about1 = true := code_word (m := ⟨17, 4⟩) (meth := k17m4) (c := k17c4) (by decide +kernel) rfl rfl rfl (by decide +kernel)
set_option maxRecDepth 65536 in
theorem w_c38 : (Jvm.Cond.code ({ cls := "java/lang/StringUTF16", name := "charAt", desc := "([BI)C" } : Jvm.MethodName) jdk_52_method_83_code (2 : Nat) (Option.some Jvm.ClassFile.FieldType.char)).before args0 about1 = true := code_word (m := ⟨17, 10⟩) (meth := k17m10) (c := k17c10) (by decide +kernel) rfl rfl rfl (by decide +kernel)
set_option maxRecDepth 65536 in
theorem w_c39 : (Jvm.Cond.code ({ cls := "java/lang/StringUTF16", name := "checkIndex", desc := "(I[B)V" } : Jvm.MethodName) jdk_52_method_91_code (2 : Nat) (Option.none : Option Jvm.ClassFile.FieldType)).before args0 about1 = true := code_word (m := ⟨17, 11⟩) (meth := k17m11) (c := k17c11) (by decide +kernel) rfl rfl rfl (by decide +kernel)
set_option maxRecDepth 65536 in
theorem w_c40 : (Jvm.Cond.code ({ cls := "java/lang/StringUTF16", name := "length", desc := "([B)I" } : Jvm.MethodName) jdk_52_method_6_code (1 : Nat) (Option.some Jvm.ClassFile.FieldType.int)).before args0 about1 = true := code_word (m := ⟨17, 5⟩) (meth := k17m5) (c := k17c5) (by decide +kernel) rfl rfl rfl (by decide +kernel)
def codes1 : List Jvm.Cond := [Jvm.Cond.code x code maxLocals ret, Jvm.Cond.code ({ cls := "com/example/vestline/vestline/util/KeptTextsForgetLastPinLaw", name := "text", desc := "(ICC)Ljava/lang/String;" } : Jvm.MethodName) method_2_code (3 : Nat) (Option.some (Jvm.ClassFile.FieldType.object "java/lang/String")), Jvm.Cond.code ({ cls := "java/lang/String", name := "<init>", desc := "([C)V" } : Jvm.MethodName) jdk_42_method_3_code (2 : Nat) (Option.none : Option Jvm.ClassFile.FieldType), Jvm.Cond.code ({ cls := "java/lang/String", name := "<init>", desc := "([CIILjava/lang/Void;)V" } : Jvm.MethodName) jdk_42_method_149_code (6 : Nat) (Option.none : Option Jvm.ClassFile.FieldType), Jvm.Cond.code ({ cls := "java/lang/Object", name := "<init>", desc := "()V" } : Jvm.MethodName) object_method_1_code (1 : Nat) (Option.none : Option Jvm.ClassFile.FieldType), Jvm.Cond.code ({ cls := "com/example/vestline/vestline/util/KeptTexts", name := "<init>", desc := "(II)V" } : Jvm.MethodName) prog_136_method_2_code (3 : Nat) (Option.none : Option Jvm.ClassFile.FieldType), Jvm.Cond.code ({ cls := "java/lang/Math", name := "min", desc := "(II)I" } : Jvm.MethodName) jdk_29_method_69_code (2 : Nat) (Option.some Jvm.ClassFile.FieldType.int), Jvm.Cond.code ({ cls := "com/example/vestline/vestline/util/KeptTexts", name := "keep", desc := "(Ljava/lang/CharSequence;J)J" } : Jvm.MethodName) prog_136_method_3_code (8 : Nat) (Option.some Jvm.ClassFile.FieldType.long), Jvm.Cond.code ({ cls := "com/example/vestline/vestline/util/KeptTexts", name := "write", desc := "(Ljava/lang/CharSequence;)I" } : Jvm.MethodName) prog_136_method_7_code (7 : Nat) (Option.some Jvm.ClassFile.FieldType.int), Jvm.Cond.code ({ cls := "java/lang/String", name := "length", desc := "()I" } : Jvm.MethodName) jdk_42_method_54_code (1 : Nat) (Option.some Jvm.ClassFile.FieldType.int), Jvm.Cond.code ({ cls := "java/lang/String", name := "coder", desc := "()B" } : Jvm.MethodName) jdk_42_method_152_code (1 : Nat) (Option.some Jvm.ClassFile.FieldType.byte), Jvm.Cond.code ({ cls := "com/example/vestline/vestline/util/KeptTexts", name := "varintSize", desc := "(J)I" } : Jvm.MethodName) prog_136_method_11_code (2 : Nat) (Option.some Jvm.ClassFile.FieldType.int), Jvm.Cond.code ({ cls := "java/lang/Long", name := "numberOfLeadingZeros", desc := "(J)I" } : Jvm.MethodName) jdk_35_method_48_code (3 : Nat) (Option.some Jvm.ClassFile.FieldType.int), Jvm.Cond.code ({ cls := "java/lang/Integer", name := "numberOfLeadingZeros", desc := "(I)I" } : Jvm.MethodName) jdk_33_method_47_code (2 : Nat) (Option.some Jvm.ClassFile.FieldType.int), Jvm.Cond.code ({ cls := "java/lang/Math", name := "max", desc := "(II)I" } : Jvm.MethodName) jdk_29_method_65_code (2 : Nat) (Option.some Jvm.ClassFile.FieldType.int), Jvm.Cond.code ({ cls := "com/example/vestline/vestline/util/KeptTexts", name := "room", desc := "(I)I" } : Jvm.MethodName) prog_136_method_8_code (4 : Nat) (Option.some Jvm.ClassFile.FieldType.int), Jvm.Cond.code ({ cls := "com/example/vestline/vestline/util/KeptTexts", name := "putVarint", desc := "([BIJ)I" } : Jvm.MethodName) prog_136_method_10_code (7 : Nat) (Option.some Jvm.ClassFile.FieldType.int), Jvm.Cond.code ({ cls := "com/example/vestline/vestline/util/KeptTexts", name := "forgetLast", desc := "()V" } : Jvm.MethodName) prog_136_method_4_code (1 : Nat) (Option.none : Option Jvm.ClassFile.FieldType), Jvm.Cond.code ({ cls := "com/example/vestline/vestline/util/KeptTexts", name := "holds", desc := "(JLjava/lang/CharSequence;)Z" } : Jvm.MethodName) prog_136_method_6_code (9 : Nat) (Option.some Jvm.ClassFile.FieldType.boolean), Jvm.Cond.code ({ cls := "com/example/vestline/vestline/util/KeptTexts", name := "varint", desc := "([BI)J" } : Jvm.MethodName) prog_136_method_9_code (7 : Nat) (Option.some Jvm.ClassFile.FieldType.long), Jvm.Cond.code ({ cls := "java/util/Arrays", name := "equals", desc := "([BII[BII)Z" } : Jvm.MethodName) jdk_65_method_90_code (8 : Nat) (Option.some Jvm.ClassFile.FieldType.boolean), Jvm.Cond.code ({ cls := "java/util/Arrays", name := "rangeCheck", desc := "(III)V" } : Jvm.MethodName) jdk_65_method_30_code (3 : Nat) (Option.none : Option Jvm.ClassFile.FieldType), Jvm.Cond.code ({ cls := "jdk/internal/util/ArraysSupport", name := "mismatch", desc := "([BI[BII)I" } : Jvm.MethodName) jdk_48_method_14_code (8 : Nat) (Option.some Jvm.ClassFile.FieldType.int), Jvm.Cond.code ({ cls := "com/example/vestline/vestline/util/KeptTexts", name := "number", desc := "(J)J" } : Jvm.MethodName) prog_136_method_5_code (4 : Nat) (Option.some Jvm.ClassFile.FieldType.long), Jvm.Cond.code ({ cls := "java/lang/Math", name := "min", desc := "(JJ)J" } : Jvm.MethodName) jdk_29_method_70_code (4 : Nat) (Option.some Jvm.ClassFile.FieldType.long), Jvm.Cond.code ({ cls := "java/lang/StringUTF16", name := "compress", desc := "([CII)[B" } : Jvm.MethodName) jdk_52_method_16_code (6 : Nat) (Option.some (Jvm.ClassFile.FieldType.array Jvm.ClassFile.FieldType.byte)), Jvm.Cond.code ({ cls := "java/lang/StringUTF16", name := "compress", desc := "([CI[BII)I" } : Jvm.MethodName) jdk_52_method_21_code (7 : Nat) (Option.some Jvm.ClassFile.FieldType.int), Jvm.Cond.code ({ cls := "java/lang/StringUTF16", name := "coderFromArrayLen", desc := "([BI)B" } : Jvm.MethodName) jdk_52_method_15_code (2 : Nat) (Option.some Jvm.ClassFile.FieldType.byte), Jvm.Cond.code ({ cls := "java/lang/String", name := "charAt", desc := "(I)C" } : Jvm.MethodName) jdk_42_method_56_code (2 : Nat) (Option.some Jvm.ClassFile.FieldType.char), Jvm.Cond.code ({ cls := "java/lang/String", name := "isLatin1", desc := "()Z" } : Jvm.MethodName) jdk_42_method_154_code (1 : Nat) (Option.some Jvm.ClassFile.FieldType.boolean), Jvm.Cond.code ({ cls := "java/lang/StringLatin1", name := "charAt", desc := "([BI)C" } : Jvm.MethodName) jdk_43_method_2_code (2 : Nat) (Option.some Jvm.ClassFile.FieldType.char), Jvm.Cond.code ({ cls := "java/lang/String", name := "checkIndex", desc := "(II)V" } : Jvm.MethodName) jdk_42_method_155_code (2 : Nat) (Option.none : Option Jvm.ClassFile.FieldType), Jvm.Cond.code ({ cls := "jdk/internal/util/Preconditions", name := "checkIndex", desc := "(IILjava/util/function/BiFunction;)I" } : Jvm.MethodName) jdk_41_method_11_code (3 : Nat) (Option.some Jvm.ClassFile.FieldType.int), Jvm.Cond.code ({ cls := "java/lang/StringUTF16", name := "toBytes", desc := "([CII)[B" } : Jvm.MethodName) jdk_52_method_14_code (5 : Nat) (Option.some (Jvm.ClassFile.FieldType.array Jvm.ClassFile.FieldType.byte)), Jvm.Cond.code ({ cls := "java/lang/StringUTF16", name := "newBytesFor", desc := "(I)[B" } : Jvm.MethodName) jdk_52_method_2_code (1 : Nat) (Option.some (Jvm.ClassFile.FieldType.array Jvm.ClassFile.FieldType.byte)), Jvm.Cond.code ({ cls := "java/lang/StringUTF16", name := "newBytesLength", desc := "(I)I" } : Jvm.MethodName) jdk_52_method_3_code (1 : Nat) (Option.some Jvm.ClassFile.FieldType.int), Jvm.Cond.code ({ cls := "java/lang/StringUTF16", name := "putChar", desc := "([BII)V" } : Jvm.MethodName) jdk_52_method_4_code (3 : Nat) (Option.none : Option Jvm.ClassFile.FieldType), Jvm.Cond.code ({ cls := "java/lang/StringUTF16", name := "getChar", desc := "([BI)C" } : Jvm.MethodName) jdk_52_method_5_code (2 : Nat) (Option.some Jvm.ClassFile.FieldType.char), Jvm.Cond.code ({ cls := "java/lang/StringUTF16", name := "charAt", desc := "([BI)C" } : Jvm.MethodName) jdk_52_method_83_code (2 : Nat) (Option.some Jvm.ClassFile.FieldType.char), Jvm.Cond.code ({ cls := "java/lang/StringUTF16", name := "checkIndex", desc := "(I[B)V" } : Jvm.MethodName) jdk_52_method_91_code (2 : Nat) (Option.none : Option Jvm.ClassFile.FieldType), Jvm.Cond.code ({ cls := "java/lang/StringUTF16", name := "length", desc := "([B)I" } : Jvm.MethodName) jdk_52_method_6_code (1 : Nat) (Option.some Jvm.ClassFile.FieldType.int)]
set_option maxRecDepth 65536 in
theorem codes_eq : words1.filter isCode = codes1 := rfl
theorem w_codes : ∀ c ∈ words1.filter isCode, c.before args0 about1 = true := by
  rw [codes_eq]
  intro c hc
  simp only [codes1, List.mem_cons, List.not_mem_nil, or_false] at hc
  rcases hc with rfl | rfl | rfl | rfl | rfl | rfl | rfl | rfl | rfl | rfl | rfl | rfl | rfl | rfl | rfl | rfl | rfl | rfl | rfl | rfl | rfl | rfl | rfl | rfl | rfl | rfl | rfl | rfl | rfl | rfl | rfl | rfl | rfl | rfl | rfl | rfl | rfl | rfl | rfl | rfl | rfl
  · exact w_c0
  · exact w_c1
  · exact w_c2
  · exact w_c3
  · exact w_c4
  · exact w_c5
  · exact w_c6
  · exact w_c7
  · exact w_c8
  · exact w_c9
  · exact w_c10
  · exact w_c11
  · exact w_c12
  · exact w_c13
  · exact w_c14
  · exact w_c15
  · exact w_c16
  · exact w_c17
  · exact w_c18
  · exact w_c19
  · exact w_c20
  · exact w_c21
  · exact w_c22
  · exact w_c23
  · exact w_c24
  · exact w_c25
  · exact w_c26
  · exact w_c27
  · exact w_c28
  · exact w_c29
  · exact w_c30
  · exact w_c31
  · exact w_c32
  · exact w_c33
  · exact w_c34
  · exact w_c35
  · exact w_c36
  · exact w_c37
  · exact w_c38
  · exact w_c39
  · exact w_c40
set_option maxRecDepth 65536 in
theorem w_t1 : (words1.take 24).all (fun c => isCode c || c.before args0 about1) = true := by decide +kernel
set_option maxRecDepth 65536 in
theorem w_t2 : ((words1.drop 24).take 24).all (fun c => isCode c || c.before args0 about1) = true := by decide +kernel
set_option maxRecDepth 65536 in
theorem w_t3 : (((words1.drop 24).drop 24).take 24).all (fun c => isCode c || c.before args0 about1) = true := by decide +kernel
set_option maxRecDepth 65536 in
theorem w_t4 : ((((words1.drop 24).drop 24).drop 24).take 24).all (fun c => isCode c || c.before args0 about1) = true := by decide +kernel
set_option maxRecDepth 65536 in
theorem w_t5 : (((((words1.drop 24).drop 24).drop 24).drop 24).take 24).all (fun c => isCode c || c.before args0 about1) = true := by decide +kernel
set_option maxRecDepth 65536 in
theorem w_t6 : ((((((words1.drop 24).drop 24).drop 24).drop 24).drop 24).take 24).all (fun c => isCode c || c.before args0 about1) = true := by decide +kernel
set_option maxRecDepth 65536 in
theorem w_t7 : (((((((words1.drop 24).drop 24).drop 24).drop 24).drop 24).drop 24).take 24).all (fun c => isCode c || c.before args0 about1) = true := by decide +kernel
set_option maxRecDepth 65536 in
theorem w_t8 : ((((((((words1.drop 24).drop 24).drop 24).drop 24).drop 24).drop 24).drop 24).take 24).all (fun c => isCode c || c.before args0 about1) = true := by decide +kernel
set_option maxRecDepth 65536 in
theorem w_t9 : ((((((((words1.drop 24).drop 24).drop 24).drop 24).drop 24).drop 24).drop 24).drop 24).all (fun c => isCode c || c.before args0 about1) = true := by decide +kernel
theorem w_tables : (allAtoms (Jvm.Cond.code x code maxLocals ret :: tables_1)).before args0 about1 = true := by
  rw [allAtoms_all]
  show words1.all (fun c => c.before args0 about1) = true
  refine all_split ?_ w_codes
  rw [← List.take_append_drop 24 words1, List.all_append, w_t1, ← List.take_append_drop 24 (words1.drop 24), List.all_append, w_t2, ← List.take_append_drop 24 ((words1.drop 24).drop 24), List.all_append, w_t3, ← List.take_append_drop 24 (((words1.drop 24).drop 24).drop 24), List.all_append, w_t4, ← List.take_append_drop 24 ((((words1.drop 24).drop 24).drop 24).drop 24), List.all_append, w_t5, ← List.take_append_drop 24 (((((words1.drop 24).drop 24).drop 24).drop 24).drop 24), List.all_append, w_t6, ← List.take_append_drop 24 ((((((words1.drop 24).drop 24).drop 24).drop 24).drop 24).drop 24), List.all_append, w_t7, ← List.take_append_drop 24 (((((((words1.drop 24).drop 24).drop 24).drop 24).drop 24).drop 24).drop 24), List.all_append, w_t8, w_t9]
  rfl
set_option maxRecDepth 65536 in
theorem w_rest : rest_1_c.before args0 about1 = true := by decide +kernel
set_option maxRecDepth 65536 in
theorem w_case : (Jvm.Cond.and given_1 narrow_1).before args0 about1 = true := by decide +kernel
set_option maxRecDepth 65536 in
theorem w_consts : constsHeld consts_1 about1 := Jvm.Lit.constsHeldB_iff.mp (by decide +kernel)
theorem w_applies : (headSpec (Jvm.Cond.code x code maxLocals ret :: tables_1) room_1).applies x e0.platform about1 = true :=
  (Spec.applies_iff w_frames).mpr ⟨w_running, w_runnable, w_alone, w_named, w_hears, w_ripe, w_room, w_tables⟩
theorem atStart : AtStart classFile x code maxLocals ret World_1 tables_1 room_1 Calls_1 rest_1 Pre_1 launch0 p0 e0 about1 theMethod args0 below0 :=
  ⟨lists_1, trivial, launch0.admits_env _ _ _, launch0.least_env, fairChoices_fair.cas, fairChoices_fair.clock, w_frames, w_args, w_heap, w_applies, ⟨w_consts, trivial⟩, w_rest, w_case⟩
end start1
theorem witness_1 : WitnessClaimed_1 := ⟨start1.p0, start1.e0, start1.about1, start1.theMethod, start1.args0, start1.below0, start1.atStart⟩
end Jvm.Pilot.@@N@@
