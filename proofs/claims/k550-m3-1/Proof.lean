import JvmDerived
import JvmDerived.Pilot.@@N@@Statement
import JvmDerived.Pilot.@@N@@Code
set_option linter.unusedVariables false
set_option linter.unusedSimpArgs false
namespace Jvm.OwnKit
open Jvm Jvm.ClassFile Sem Op Lib Jvm.Stand Jvm.Free Jvm.LawKit Jvm.RoadKit
/-! A small calculus of my own over the library's laws: Go says 'from here the body comes to its end, and what it leaves satisfies Q'. -/
abbrev Bod : Type := Bool × Program × Launch × Env × Room × State × MethodId × Array Value × List Frame × Method × Code
abbrev Bod.p (B : Bod) : Program := B.2.1
abbrev Bod.l (B : Bod) : Launch := B.2.2.1
abbrev Bod.e (B : Bod) : Env := B.2.2.2.1
abbrev Bod.R (B : Bod) : Room := B.2.2.2.2.1
abbrev Bod.s (B : Bod) : State := B.2.2.2.2.2.1
abbrev Bod.m (B : Bod) : MethodId := B.2.2.2.2.2.2.1
abbrev Bod.args (B : Bod) : Array Value := B.2.2.2.2.2.2.2.1
abbrev Bod.below (B : Bod) : List Frame := B.2.2.2.2.2.2.2.2.1
abbrev Bod.meth (B : Bod) : Method := B.2.2.2.2.2.2.2.2.2.1
abbrev Bod.c (B : Bod) : Code := B.2.2.2.2.2.2.2.2.2.2
abbrev St (B : Bod) (T : State) (locs : List Loc) (k n : Nat) : Prop := Stand B.p B.l B.e B.R B.s B.m B.args B.below B.meth B.c T locs k n
def EndB : Bool → State → Outcome → State → List Loc → Nat → Nat → Prop
  | false, s, o, t, L, k, n => FrameEnd s o t L k n
  | true, s, o, t, L, k, n => ReturnedEndW s o t L k n
theorem EndB.of {w : Bool} {s t : State} {o : Outcome} {L : List Loc} {k n : Nat} (h : FrameEnd s o t L k n) : EndB w s o t L k n := by
  cases w with
  | false => exact h
  | true => exact ReturnedEndW.of_narrow h.1 h.2.1 h.2.2
def Fin0 (B : Bod) (n0 : Nat) (Q : Option Value → Heap → Prop) (g : JFrame) (T : State) : Prop :=
  ∃ t o, Steps B.p.tables B.e B.below (T.setTop g) t ∧ t.status = .running ∧ Ended t B.below o ∧ ∃ v L, o = .returned v ∧ (Fr n0 L ∧ Q v t.heap) ∧ EndB B.1 B.s o t L B.R.cells B.R.slots
def Go (B : Bod) (n0 : Nat) (Q : Option Value → Heap → Prop) (h : Heap) (k n pc : Nat) (L : Array Slot) (st : List Value) : Prop :=
  ∀ T locs, St B T locs k n → Fr n0 locs → T.heap = h → Fin0 B n0 Q (mkF B.m pc L st) T
def Ctx (B : Bod) (l : Launch) (rm : Room) (bytes : ByteArray) (own nm : String) (maxL : Nat) (ret : Option FieldType) (Z : State) : Prop :=
  B.l = l ∧ B.R = rm ∧ B.p.tables.exec = Jvm.exec ∧ B.c.code = bytes ∧ Z.Warmed39 B.s.vm ∧ B.s.vm.findClass own = some B.m.cls ∧ B.meth.name = nm ∧ B.c.maxLocals = maxL ∧ B.meth.sig.returnType = ret ∧ B.meth.locks = false
/-- a method's contract: called with these arguments over this heap it returns, and Q holds of what it returns and of the heap it leaves -/
def Met1 (l : Launch) (Z : State) (y : MethodName) (bytes : ByteArray) (maxL : Nat) (ret : Option FieldType) (rm : Room) (n0 : Nat) (as' : Array Value) (h0 : Heap) (Q : Option Value → Heap → Prop) : Prop :=
  ∀ ws : List Jvm.Cond, MetFree l y (head1 (Jvm.Cond.code y bytes maxL ret :: ws) rm) (fun a U => a = as' ∧ Z.Warmed39 U.vm ∧ U.heap = h0) (fun _ _ _ _ _ => True) (fun _ U o U' => ∃ v L, o = .returned v ∧ (Fr n0 L ∧ Q v U'.heap) ∧ FrameEnd U o U' L rm.cells rm.slots)
section Base
variable {B : Bod} {l : Launch} {rm : Room} {bytes : ByteArray} {own nm : String} {maxL : Nat} {ret : Option FieldType} {Z : State} {n0 : Nat} {Q : Option Value → Heap → Prop} {h : Heap} {k n pc pc' : Nat} {L L' : Array Slot} {st st' : List Value} {a0 : Array Value}
theorem met_of {y : MethodName} {as' : Array Value} (hp : plainFor y = true) {L0 : Array Slot} (hL : argsToLocals as' maxL = L0) (go : ∀ B : Bod, Ctx B l rm bytes y.cls y.name maxL ret Z → Go B n0 Q h 0 0 0 L0 []) : Met1 l Z y bytes maxL ret rm n0 as' h Q := by
  intro ws
  refine MetFree.of_bodySF hp hisR ?_
  intro p e s m args below meth c s₁ Bd hml0 hP hK
  obtain ⟨rfl, hZ, hh⟩ := hP
  subst hL
  obtain ⟨t, o, h1, h2, h3, v, L, h4, h5, h6⟩ := go (false, p, l, e, rm, s, m, args, below, meth, c) ⟨rfl, rfl, Bd.exec, Bd.bytes, hZ, findClass_of_methodNamed Bd.named, (name_of_methodNamed Bd.named Bd.method).1, hml0, Bd.returns, BodyLoose.notSynchronized Bd⟩ s₁ [] (Stand.of_body Bd) (Fr.nil n0) (by rw [← hh, Bd.state]; rfl)
  exact ⟨t, o, h1, h2, h3, v, L, h4, h5, h6⟩
/-- a step that moves the frame alone -/
theorem Go.step (f : ∀ T locs, St B T locs k n → T.heap = h → ∀ t, Steps B.p.tables B.e B.below (T.setTop (mkF B.m pc' L' st')) t → Steps B.p.tables B.e B.below (T.setTop (mkF B.m pc L st)) t) (go : Go B n0 Q h k n pc' L' st') : Go B n0 Q h k n pc L st := fun T locs X N eT => by
  obtain ⟨t, o, a, r⟩ := go T locs X N eT
  exact ⟨t, o, f T locs X eT t a, r⟩
/-- a step that moves the tables too -/
theorem Go.move (f : ∀ T locs, St B T locs k n → T.heap = h → ∃ T', St B T' locs k n ∧ T'.heap = h ∧ ∀ t, Steps B.p.tables B.e B.below (T'.setTop (mkF B.m pc' L' st')) t → Steps B.p.tables B.e B.below (T.setTop (mkF B.m pc L st)) t) (go : Go B n0 Q h k n pc' L' st') : Go B n0 Q h k n pc L st := fun T locs X N eT => by
  obtain ⟨T', X', e', f'⟩ := f T locs X eT
  obtain ⟨t, o, a, r⟩ := go T' locs X' N e'
  exact ⟨t, o, f' t a, r⟩
theorem Go.eqs {st2 : List Value} (go : Go B n0 Q h k n pc L st2) (e : st = st2) : Go B n0 Q h k n pc L st := e ▸ go
theorem Go.eqh {h2 : Heap} (go : Go B n0 Q h2 k n pc L st) (e : h = h2) : Go B n0 Q h k n pc L st := e ▸ go
theorem g_iload_n (C : Ctx B l rm bytes own nm maxL ret Z) {i : Fin 4} {v : Int32} (hd : decode bytes pc = .ok (.iload_n i, 1)) (hl : L[i.val]? = some (.val (.int v))) (hpc : pc + 1 = pc') (go : Go B n0 Q h k n pc' L (.int v :: st)) : Go B n0 Q h k n pc L st := go.step fun T locs X eT t q => Jvm.Free.XS.iloadN X.here C.2.2.1 rfl (hb C.2.2.2.1 hd) hl (by subst hpc; exact q)
theorem g_iload (C : Ctx B l rm bytes own nm maxL ret Z) {i : Nat} {v : Int32} (hd : decode bytes pc = .ok (.iload i, 2)) (hl : L[i]? = some (.val (.int v))) (hpc : pc + 2 = pc') (go : Go B n0 Q h k n pc' L (.int v :: st)) : Go B n0 Q h k n pc L st := go.step fun T locs X eT t q => Jvm.Free.XS.iload X.here C.2.2.1 rfl (hb C.2.2.2.1 hd) hl (by subst hpc; exact q)
theorem g_lload_n (C : Ctx B l rm bytes own nm maxL ret Z) {i : Fin 4} {v : Int64} (hd : decode bytes pc = .ok (.lload_n i, 1)) (hl : L[i.val]? = some (.val (.long v))) (hpc : pc + 1 = pc') (go : Go B n0 Q h k n pc' L (.long v :: st)) : Go B n0 Q h k n pc L st := go.step fun T locs X eT t q => Jvm.Free.XT.lloadN X.here C.2.2.1 rfl (hb C.2.2.2.1 hd) hl (by subst hpc; exact q)
theorem g_lload (C : Ctx B l rm bytes own nm maxL ret Z) {i : Nat} {v : Int64} (hd : decode bytes pc = .ok (.lload i, 2)) (hl : L[i]? = some (.val (.long v))) (hpc : pc + 2 = pc') (go : Go B n0 Q h k n pc' L (.long v :: st)) : Go B n0 Q h k n pc L st := go.step fun T locs X eT t q => Jvm.Free.XT.lload X.here C.2.2.1 rfl (hb C.2.2.2.1 hd) hl (by subst hpc; exact q)
theorem g_aload_n (C : Ctx B l rm bytes own nm maxL ret Z) {i : Fin 4} {v : Value} (hd : decode bytes pc = .ok (.aload_n i, 1)) (hl : L[i.val]? = some (.val v)) (hv : v.isRef = true) (hpc : pc + 1 = pc') (go : Go B n0 Q h k n pc' L (v :: st)) : Go B n0 Q h k n pc L st := go.step fun T locs X eT t q => Jvm.Free.XS.aloadN X.here C.2.2.1 rfl (hb C.2.2.2.1 hd) hl hv (by subst hpc; exact q)
theorem g_aload (C : Ctx B l rm bytes own nm maxL ret Z) {i : Nat} {v : Value} (hd : decode bytes pc = .ok (.aload i, 2)) (hl : L[i]? = some (.val v)) (hv : v.isRef = true) (hpc : pc + 2 = pc') (go : Go B n0 Q h k n pc' L (v :: st)) : Go B n0 Q h k n pc L st := go.step fun T locs X eT t q => Jvm.Free.XS.aload X.here C.2.2.1 rfl (hb C.2.2.2.1 hd) hl hv (by subst hpc; exact q)
theorem g_istore_n (C : Ctx B l rm bytes own nm maxL ret Z) {i : Fin 4} {v : Int32} (hd : decode bytes pc = .ok (.istore_n i, 1)) (hl : storeLocals L i.val (.int v) = some L') (hpc : pc + 1 = pc') (go : Go B n0 Q h k n pc' L' st) : Go B n0 Q h k n pc L (.int v :: st) := go.step fun T locs X eT t q => Jvm.Free.XS.istoreN X.here C.2.2.1 rfl (hb C.2.2.2.1 hd) rfl hl (by subst hpc; exact q)
theorem g_istore (C : Ctx B l rm bytes own nm maxL ret Z) {i : Nat} {v : Int32} (hd : decode bytes pc = .ok (.istore i, 2)) (hl : storeLocals L i (.int v) = some L') (hpc : pc + 2 = pc') (go : Go B n0 Q h k n pc' L' st) : Go B n0 Q h k n pc L (.int v :: st) := go.step fun T locs X eT t q => Jvm.Free.XS.istore X.here C.2.2.1 rfl (hb C.2.2.2.1 hd) rfl hl (by subst hpc; exact q)
theorem g_lstore_n (C : Ctx B l rm bytes own nm maxL ret Z) {i : Fin 4} {v : Int64} (hd : decode bytes pc = .ok (.lstore_n i, 1)) (hl : storeLocals L i.val (.long v) = some L') (hpc : pc + 1 = pc') (go : Go B n0 Q h k n pc' L' st) : Go B n0 Q h k n pc L (.long v :: st) := go.step fun T locs X eT t q => Jvm.Free.XT.lstoreN X.here C.2.2.1 rfl (hb C.2.2.2.1 hd) rfl hl (by subst hpc; exact q)
theorem g_lstore (C : Ctx B l rm bytes own nm maxL ret Z) {i : Nat} {v : Int64} (hd : decode bytes pc = .ok (.lstore i, 2)) (hl : storeLocals L i (.long v) = some L') (hpc : pc + 2 = pc') (go : Go B n0 Q h k n pc' L' st) : Go B n0 Q h k n pc L (.long v :: st) := go.step fun T locs X eT t q => Jvm.Free.XT.lstore X.here C.2.2.1 rfl (hb C.2.2.2.1 hd) rfl hl (by subst hpc; exact q)
theorem g_astore_n (C : Ctx B l rm bytes own nm maxL ret Z) {i : Fin 4} {v : Value} (hd : decode bytes pc = .ok (.astore_n i, 1)) (hl : storeLocals L i.val v = some L') (hv : v.isRef = true) (hpc : pc + 1 = pc') (go : Go B n0 Q h k n pc' L' st) : Go B n0 Q h k n pc L (v :: st) := go.step fun T locs X eT t q => Jvm.Free.XS.astoreN X.here C.2.2.1 rfl (hb C.2.2.2.1 hd) rfl hv hl (by subst hpc; exact q)
theorem g_astore (C : Ctx B l rm bytes own nm maxL ret Z) {i : Nat} {v : Value} (hd : decode bytes pc = .ok (.astore i, 2)) (hl : storeLocals L i v = some L') (hv : v.isRef = true) (hpc : pc + 2 = pc') (go : Go B n0 Q h k n pc' L' st) : Go B n0 Q h k n pc L (v :: st) := go.step fun T locs X eT t q => Jvm.Free.XS.astore X.here C.2.2.1 rfl (hb C.2.2.2.1 hd) rfl hv hl (by subst hpc; exact q)
theorem g_iinc (C : Ctx B l rm bytes own nm maxL ret Z) {i : Nat} {z : Int} {v w : Int32} (hd : decode bytes pc = .ok (.iinc i z, 3)) (hl : L[i]? = some (.val (.int v))) (hw : v + Int32.ofInt z = w) (hl' : storeLocals L i (.int w) = some L') (hpc : pc + 3 = pc') (go : Go B n0 Q h k n pc' L' st) : Go B n0 Q h k n pc L st := go.step fun T locs X eT t q => Jvm.Free.XS.iinc X.here C.2.2.1 rfl (hb C.2.2.2.1 hd) hl (by rw [hw]; exact hl') (by subst hpc; exact q)
theorem g_iconst (C : Ctx B l rm bytes own nm maxL ret Z) {z : Int} {v : Int32} (hd : decode bytes pc = .ok (.iconst z, 1)) (hv : Int32.ofInt z = v) (hpc : pc + 1 = pc') (go : Go B n0 Q h k n pc' L (.int v :: st)) : Go B n0 Q h k n pc L st := go.step fun T locs X eT t q => Jvm.Free.XS.iconst X.here C.2.2.1 rfl (hb C.2.2.2.1 hd) (by subst hpc hv; exact q)
theorem g_bipush (C : Ctx B l rm bytes own nm maxL ret Z) {z : Int} {v : Int32} (hd : decode bytes pc = .ok (.bipush z, 2)) (hv : (Int8.ofInt z).toInt32 = v) (hpc : pc + 2 = pc') (go : Go B n0 Q h k n pc' L (.int v :: st)) : Go B n0 Q h k n pc L st := go.step fun T locs X eT t q => Jvm.Free.XS.bipush X.here C.2.2.1 rfl (hb C.2.2.2.1 hd) (by subst hpc hv; exact q)
theorem g_lconst (C : Ctx B l rm bytes own nm maxL ret Z) {i : Fin 2} {v : Int64} (hd : decode bytes pc = .ok (.lconst i, 1)) (hv : Int64.ofNat i = v) (hpc : pc + 1 = pc') (go : Go B n0 Q h k n pc' L (.long v :: st)) : Go B n0 Q h k n pc L st := go.step fun T locs X eT t q => Jvm.Free.XT.lconst X.here C.2.2.1 rfl (hb C.2.2.2.1 hd) (by subst hpc hv; exact q)
theorem g_aconst_null (C : Ctx B l rm bytes own nm maxL ret Z)  (hd : decode bytes pc = .ok (.aconst_null, 1))  (hpc : pc + 1 = pc') (go : Go B n0 Q h k n pc' L (.null :: st)) : Go B n0 Q h k n pc L st := go.step fun T locs X eT t q => Jvm.Free.XS.aconstNull X.here C.2.2.1 rfl (hb C.2.2.2.1 hd)  (by subst hpc; exact q)
theorem g_iadd (C : Ctx B l rm bytes own nm maxL ret Z) {x y : Int32} (hd : decode bytes pc = .ok (.iadd, 1))  (hpc : pc + 1 = pc') (go : Go B n0 Q h k n pc' L (.int (x + y) :: st)) : Go B n0 Q h k n pc L (.int y :: .int x :: st) := go.step fun T locs X eT t q => Jvm.Free.XS.iadd X.here C.2.2.1 rfl (hb C.2.2.2.1 hd) rfl (by subst hpc; exact q)
theorem g_isub (C : Ctx B l rm bytes own nm maxL ret Z) {x y : Int32} (hd : decode bytes pc = .ok (.isub, 1))  (hpc : pc + 1 = pc') (go : Go B n0 Q h k n pc' L (.int (x - y) :: st)) : Go B n0 Q h k n pc L (.int y :: .int x :: st) := go.step fun T locs X eT t q => Jvm.Free.XS.isub X.here C.2.2.1 rfl (hb C.2.2.2.1 hd) rfl (by subst hpc; exact q)
theorem g_iand (C : Ctx B l rm bytes own nm maxL ret Z) {x y : Int32} (hd : decode bytes pc = .ok (.iand, 1))  (hpc : pc + 1 = pc') (go : Go B n0 Q h k n pc' L (.int (x &&& y) :: st)) : Go B n0 Q h k n pc L (.int y :: .int x :: st) := go.step fun T locs X eT t q => Jvm.Free.XS.iand X.here C.2.2.1 rfl (hb C.2.2.2.1 hd) rfl (by subst hpc; exact q)
theorem g_imul (C : Ctx B l rm bytes own nm maxL ret Z) {x y : Int32} (hd : decode bytes pc = .ok (.imul, 1))  (hpc : pc + 1 = pc') (go : Go B n0 Q h k n pc' L (.int (x * y) :: st)) : Go B n0 Q h k n pc L (.int y :: .int x :: st) := go.step fun T locs X eT t q => Jvm.Free.XS.imul X.here C.2.2.1 rfl (hb C.2.2.2.1 hd) rfl (by subst hpc; exact q)
theorem g_ixor (C : Ctx B l rm bytes own nm maxL ret Z) {x y : Int32} (hd : decode bytes pc = .ok (.ixor, 1))  (hpc : pc + 1 = pc') (go : Go B n0 Q h k n pc' L (.int (x ^^^ y) :: st)) : Go B n0 Q h k n pc L (.int y :: .int x :: st) := go.step fun T locs X eT t q => Jvm.Free.XT.ixor X.here C.2.2.1 rfl (hb C.2.2.2.1 hd) rfl (by subst hpc; exact q)
theorem g_ior (C : Ctx B l rm bytes own nm maxL ret Z) {x y : Int32} (hd : decode bytes pc = .ok (.ior, 1))  (hpc : pc + 1 = pc') (go : Go B n0 Q h k n pc' L (.int (x ||| y) :: st)) : Go B n0 Q h k n pc L (.int y :: .int x :: st) := go.step fun T locs X eT t q => Jvm.Free.XT.ior X.here C.2.2.1 rfl (hb C.2.2.2.1 hd) rfl (by subst hpc; exact q)
theorem g_ishl (C : Ctx B l rm bytes own nm maxL ret Z) {x y : Int32} (hd : decode bytes pc = .ok (.ishl, 1))  (hpc : pc + 1 = pc') (go : Go B n0 Q h k n pc' L (.int (x <<< (y &&& 31)) :: st)) : Go B n0 Q h k n pc L (.int y :: .int x :: st) := go.step fun T locs X eT t q => Jvm.Free.XT.ishl X.here C.2.2.1 rfl (hb C.2.2.2.1 hd) rfl (by subst hpc; exact q)
theorem g_ishr (C : Ctx B l rm bytes own nm maxL ret Z) {x y : Int32} (hd : decode bytes pc = .ok (.ishr, 1))  (hpc : pc + 1 = pc') (go : Go B n0 Q h k n pc' L (.int (x >>> (y &&& 31)) :: st)) : Go B n0 Q h k n pc L (.int y :: .int x :: st) := go.step fun T locs X eT t q => Jvm.Free.XT.ishr X.here C.2.2.1 rfl (hb C.2.2.2.1 hd) rfl (by subst hpc; exact q)
theorem g_iushr (C : Ctx B l rm bytes own nm maxL ret Z) {x y : Int32} (hd : decode bytes pc = .ok (.iushr, 1))  (hpc : pc + 1 = pc') (go : Go B n0 Q h k n pc' L (.int (Jvm.Free.XT.ushr x y) :: st)) : Go B n0 Q h k n pc L (.int y :: .int x :: st) := go.step fun T locs X eT t q => Jvm.Free.XT.iushr X.here C.2.2.1 rfl (hb C.2.2.2.1 hd) rfl (by subst hpc; exact q)
theorem g_idiv (C : Ctx B l rm bytes own nm maxL ret Z) {x y : Int32} (hd : decode bytes pc = .ok (.idiv, 1)) (hy : y ≠ 0) (hpc : pc + 1 = pc') (go : Go B n0 Q h k n pc' L (.int (x / y) :: st)) : Go B n0 Q h k n pc L (.int y :: .int x :: st) := go.step fun T locs X eT t q => Jvm.Free.XS.idiv X.here C.2.2.1 rfl (hb C.2.2.2.1 hd) rfl hy (by subst hpc; exact q)
theorem g_irem (C : Ctx B l rm bytes own nm maxL ret Z) {x y : Int32} (hd : decode bytes pc = .ok (.irem, 1)) (hy : y ≠ 0) (hpc : pc + 1 = pc') (go : Go B n0 Q h k n pc' L (.int (x - (x / y) * y) :: st)) : Go B n0 Q h k n pc L (.int y :: .int x :: st) := go.step fun T locs X eT t q => Jvm.Free.XS.irem X.here C.2.2.1 rfl (hb C.2.2.2.1 hd) rfl hy (by subst hpc; exact q)
theorem g_ineg (C : Ctx B l rm bytes own nm maxL ret Z) {x : Int32} (hd : decode bytes pc = .ok (.ineg, 1))  (hpc : pc + 1 = pc') (go : Go B n0 Q h k n pc' L (.int (-x) :: st)) : Go B n0 Q h k n pc L (.int x :: st) := go.step fun T locs X eT t q => Jvm.Free.XS.ineg X.here C.2.2.1 rfl (hb C.2.2.2.1 hd) rfl (by subst hpc; exact q)
theorem g_ladd (C : Ctx B l rm bytes own nm maxL ret Z) {x y : Int64} (hd : decode bytes pc = .ok (.ladd, 1))  (hpc : pc + 1 = pc') (go : Go B n0 Q h k n pc' L (.long (x + y) :: st)) : Go B n0 Q h k n pc L (.long y :: .long x :: st) := go.step fun T locs X eT t q => Jvm.Free.XT.ladd X.here C.2.2.1 rfl (hb C.2.2.2.1 hd) rfl (by subst hpc; exact q)
theorem g_lsub (C : Ctx B l rm bytes own nm maxL ret Z) {x y : Int64} (hd : decode bytes pc = .ok (.lsub, 1))  (hpc : pc + 1 = pc') (go : Go B n0 Q h k n pc' L (.long (x - y) :: st)) : Go B n0 Q h k n pc L (.long y :: .long x :: st) := go.step fun T locs X eT t q => Jvm.Free.XT.lsub X.here C.2.2.1 rfl (hb C.2.2.2.1 hd) rfl (by subst hpc; exact q)
theorem g_lmul (C : Ctx B l rm bytes own nm maxL ret Z) {x y : Int64} (hd : decode bytes pc = .ok (.lmul, 1))  (hpc : pc + 1 = pc') (go : Go B n0 Q h k n pc' L (.long (x * y) :: st)) : Go B n0 Q h k n pc L (.long y :: .long x :: st) := go.step fun T locs X eT t q => Jvm.Free.XT.lmul X.here C.2.2.1 rfl (hb C.2.2.2.1 hd) rfl (by subst hpc; exact q)
theorem g_land (C : Ctx B l rm bytes own nm maxL ret Z) {x y : Int64} (hd : decode bytes pc = .ok (.land, 1))  (hpc : pc + 1 = pc') (go : Go B n0 Q h k n pc' L (.long (x &&& y) :: st)) : Go B n0 Q h k n pc L (.long y :: .long x :: st) := go.step fun T locs X eT t q => Jvm.Free.XT.land X.here C.2.2.1 rfl (hb C.2.2.2.1 hd) rfl (by subst hpc; exact q)
theorem g_lor (C : Ctx B l rm bytes own nm maxL ret Z) {x y : Int64} (hd : decode bytes pc = .ok (.lor, 1))  (hpc : pc + 1 = pc') (go : Go B n0 Q h k n pc' L (.long (x ||| y) :: st)) : Go B n0 Q h k n pc L (.long y :: .long x :: st) := go.step fun T locs X eT t q => Jvm.Free.XT.lor X.here C.2.2.1 rfl (hb C.2.2.2.1 hd) rfl (by subst hpc; exact q)
theorem g_lxor (C : Ctx B l rm bytes own nm maxL ret Z) {x y : Int64} (hd : decode bytes pc = .ok (.lxor, 1))  (hpc : pc + 1 = pc') (go : Go B n0 Q h k n pc' L (.long (x ^^^ y) :: st)) : Go B n0 Q h k n pc L (.long y :: .long x :: st) := go.step fun T locs X eT t q => Jvm.Free.XT.lxor X.here C.2.2.1 rfl (hb C.2.2.2.1 hd) rfl (by subst hpc; exact q)
theorem g_ldiv (C : Ctx B l rm bytes own nm maxL ret Z) {x y : Int64} (hd : decode bytes pc = .ok (.ldiv, 1)) (hy : y ≠ 0) (hpc : pc + 1 = pc') (go : Go B n0 Q h k n pc' L (.long (x / y) :: st)) : Go B n0 Q h k n pc L (.long y :: .long x :: st) := go.step fun T locs X eT t q => Jvm.Free.XT.ldiv X.here C.2.2.1 rfl (hb C.2.2.2.1 hd) rfl hy (by subst hpc; exact q)
theorem g_lrem (C : Ctx B l rm bytes own nm maxL ret Z) {x y : Int64} (hd : decode bytes pc = .ok (.lrem, 1)) (hy : y ≠ 0) (hpc : pc + 1 = pc') (go : Go B n0 Q h k n pc' L (.long (x - (x / y) * y) :: st)) : Go B n0 Q h k n pc L (.long y :: .long x :: st) := go.step fun T locs X eT t q => Jvm.Free.XT.lrem X.here C.2.2.1 rfl (hb C.2.2.2.1 hd) rfl hy (by subst hpc; exact q)
theorem g_lneg (C : Ctx B l rm bytes own nm maxL ret Z) {x : Int64} (hd : decode bytes pc = .ok (.lneg, 1))  (hpc : pc + 1 = pc') (go : Go B n0 Q h k n pc' L (.long (-x) :: st)) : Go B n0 Q h k n pc L (.long x :: st) := go.step fun T locs X eT t q => Jvm.Free.XT.lneg X.here C.2.2.1 rfl (hb C.2.2.2.1 hd) rfl (by subst hpc; exact q)
theorem g_lshl (C : Ctx B l rm bytes own nm maxL ret Z) {x : Int64} {y : Int32} (hd : decode bytes pc = .ok (.lshl, 1))  (hpc : pc + 1 = pc') (go : Go B n0 Q h k n pc' L (.long (x <<< (y.toInt64 &&& 63)) :: st)) : Go B n0 Q h k n pc L (.int y :: .long x :: st) := go.step fun T locs X eT t q => Jvm.Free.XT.lshl X.here C.2.2.1 rfl (hb C.2.2.2.1 hd) rfl (by subst hpc; exact q)
theorem g_lshr (C : Ctx B l rm bytes own nm maxL ret Z) {x : Int64} {y : Int32} (hd : decode bytes pc = .ok (.lshr, 1))  (hpc : pc + 1 = pc') (go : Go B n0 Q h k n pc' L (.long (x >>> (y.toInt64 &&& 63)) :: st)) : Go B n0 Q h k n pc L (.int y :: .long x :: st) := go.step fun T locs X eT t q => Jvm.Free.XT.lshr X.here C.2.2.1 rfl (hb C.2.2.2.1 hd) rfl (by subst hpc; exact q)
theorem g_lushr (C : Ctx B l rm bytes own nm maxL ret Z) {x : Int64} {y : Int32} (hd : decode bytes pc = .ok (.lushr, 1))  (hpc : pc + 1 = pc') (go : Go B n0 Q h k n pc' L (.long (Jvm.Free.XT.ushrL x y) :: st)) : Go B n0 Q h k n pc L (.int y :: .long x :: st) := go.step fun T locs X eT t q => Jvm.Free.XT.lushr X.here C.2.2.1 rfl (hb C.2.2.2.1 hd) rfl (by subst hpc; exact q)
theorem g_lcmp (C : Ctx B l rm bytes own nm maxL ret Z) {x y : Int64} (hd : decode bytes pc = .ok (.lcmp, 1))  (hpc : pc + 1 = pc') (go : Go B n0 Q h k n pc' L (.int (Jvm.Free.XT.cmpL x y) :: st)) : Go B n0 Q h k n pc L (.long y :: .long x :: st) := go.step fun T locs X eT t q => Jvm.Free.XT.lcmp X.here C.2.2.1 rfl (hb C.2.2.2.1 hd) rfl (by subst hpc; exact q)
theorem g_i2l (C : Ctx B l rm bytes own nm maxL ret Z) {x : Int32} (hd : decode bytes pc = .ok (.i2l, 1))  (hpc : pc + 1 = pc') (go : Go B n0 Q h k n pc' L (.long (x.toInt64) :: st)) : Go B n0 Q h k n pc L (.int x :: st) := go.step fun T locs X eT t q => Jvm.Free.XT.i2l X.here C.2.2.1 rfl (hb C.2.2.2.1 hd) rfl (by subst hpc; exact q)
theorem g_l2i (C : Ctx B l rm bytes own nm maxL ret Z) {x : Int64} (hd : decode bytes pc = .ok (.l2i, 1))  (hpc : pc + 1 = pc') (go : Go B n0 Q h k n pc' L (.int (x.toInt32) :: st)) : Go B n0 Q h k n pc L (.long x :: st) := go.step fun T locs X eT t q => Jvm.Free.XT.l2i X.here C.2.2.1 rfl (hb C.2.2.2.1 hd) rfl (by subst hpc; exact q)
theorem g_i2b (C : Ctx B l rm bytes own nm maxL ret Z) {x : Int32} (hd : decode bytes pc = .ok (.i2b, 1))  (hpc : pc + 1 = pc') (go : Go B n0 Q h k n pc' L (.int (x.toInt8.toInt32) :: st)) : Go B n0 Q h k n pc L (.int x :: st) := go.step fun T locs X eT t q => Jvm.Free.XT.i2b X.here C.2.2.1 rfl (hb C.2.2.2.1 hd) rfl (by subst hpc; exact q)
theorem g_i2c (C : Ctx B l rm bytes own nm maxL ret Z) {x : Int32} (hd : decode bytes pc = .ok (.i2c, 1))  (hpc : pc + 1 = pc') (go : Go B n0 Q h k n pc' L (.int (x.toUInt32.toUInt16.toUInt32.toInt32) :: st)) : Go B n0 Q h k n pc L (.int x :: st) := go.step fun T locs X eT t q => Jvm.Free.XT.i2c X.here C.2.2.1 rfl (hb C.2.2.2.1 hd) rfl (by subst hpc; exact q)
theorem g_i2s (C : Ctx B l rm bytes own nm maxL ret Z) {x : Int32} (hd : decode bytes pc = .ok (.i2s, 1))  (hpc : pc + 1 = pc') (go : Go B n0 Q h k n pc' L (.int (x.toInt16.toInt32) :: st)) : Go B n0 Q h k n pc L (.int x :: st) := go.step fun T locs X eT t q => Jvm.Free.XT.i2s X.here C.2.2.1 rfl (hb C.2.2.2.1 hd) rfl (by subst hpc; exact q)
theorem g_dup (C : Ctx B l rm bytes own nm maxL ret Z) {x : Value} (hd : decode bytes pc = .ok (.dup, 1)) (hc : x.category = 1) (hpc : pc + 1 = pc') (go : Go B n0 Q h k n pc' L (x :: x :: st)) : Go B n0 Q h k n pc L (x :: st) := go.step fun T locs X eT t q => Jvm.Free.XS.dup X.here C.2.2.1 rfl (hb C.2.2.2.1 hd) rfl hc (by subst hpc; exact q)
theorem g_pop (C : Ctx B l rm bytes own nm maxL ret Z) {x : Value} (hd : decode bytes pc = .ok (.pop, 1)) (hc : x.category = 1) (hpc : pc + 1 = pc') (go : Go B n0 Q h k n pc' L st) : Go B n0 Q h k n pc L (x :: st) := go.step fun T locs X eT t q => Jvm.Free.XT.pop X.here C.2.2.1 rfl (hb C.2.2.2.1 hd) rfl hc (by subst hpc; exact q)
theorem g_dup_x1 (C : Ctx B l rm bytes own nm maxL ret Z) {x y : Value} (hd : decode bytes pc = .ok (.dup_x1, 1)) (hc : x.category = 1) (hc' : y.category = 1) (hpc : pc + 1 = pc') (go : Go B n0 Q h k n pc' L (x :: y :: x :: st)) : Go B n0 Q h k n pc L (x :: y :: st) := go.step fun T locs X eT t q => Jvm.Free.XT.dupX1 X.here C.2.2.1 rfl (hb C.2.2.2.1 hd) rfl hc hc' (by subst hpc; exact q)
theorem g_dup2 (C : Ctx B l rm bytes own nm maxL ret Z) {x y : Value} (hd : decode bytes pc = .ok (.dup2, 1)) (hc : x.category = 1) (hc' : y.category = 1) (hpc : pc + 1 = pc') (go : Go B n0 Q h k n pc' L (x :: y :: x :: y :: st)) : Go B n0 Q h k n pc L (x :: y :: st) := go.step fun T locs X eT t q => Jvm.Free.XT.dup2 X.here C.2.2.1 rfl (hb C.2.2.2.1 hd) rfl hc hc' (by subst hpc; exact q)
theorem g_dup2L (C : Ctx B l rm bytes own nm maxL ret Z) {x : Int64} (hd : decode bytes pc = .ok (.dup2, 1))  (hpc : pc + 1 = pc') (go : Go B n0 Q h k n pc' L (.long x :: .long x :: st)) : Go B n0 Q h k n pc L (.long x :: st) := go.step fun T locs X eT t q => Jvm.Free.XT.dup2L X.here C.2.2.1 rfl (hb C.2.2.2.1 hd) rfl (by subst hpc; exact q)
theorem g_goto (C : Ctx B l rm bytes own nm maxL ret Z) {o : Int} (hd : decode bytes pc = .ok (.goto o, 3)) (ho : 0 ≤ (pc : Int) + o) (hp : ((pc : Int) + o).toNat = pc') (go : Go B n0 Q h k n pc' L st) : Go B n0 Q h k n pc L st := go.step fun T locs X eT t q => Jvm.Free.XS.goto X.here C.2.2.1 rfl rfl (hb C.2.2.2.1 hd) ho hp q
theorem g_if_y (C : Ctx B l rm bytes own nm maxL ret Z) {cd : ClassFile.Cond} {x : Int32} {o : Int} (hd : decode bytes pc = .ok (.ifCond cd o, 3)) (hc : ifCond.holds cd x = true) (ho : 0 ≤ (pc : Int) + o) (hp : ((pc : Int) + o).toNat = pc') (go : Go B n0 Q h k n pc' L st) : Go B n0 Q h k n pc L (.int x :: st) := go.step fun T locs X eT t q => Jvm.Free.XS.ifYes X.here C.2.2.1 rfl rfl (hb C.2.2.2.1 hd) rfl hc ho hp q
theorem g_if_n (C : Ctx B l rm bytes own nm maxL ret Z) {cd : ClassFile.Cond} {x : Int32} {o : Int} (hd : decode bytes pc = .ok (.ifCond cd o, 3)) (hc : ifCond.holds cd x = false) (hpc : pc + 3 = pc') (go : Go B n0 Q h k n pc' L st) : Go B n0 Q h k n pc L (.int x :: st) := go.step fun T locs X eT t q => Jvm.Free.XS.ifNo X.here C.2.2.1 rfl (hb C.2.2.2.1 hd) rfl hc (by subst hpc; exact q)
theorem g_icmp_y (C : Ctx B l rm bytes own nm maxL ret Z) {cd : ClassFile.Cond} {x y : Int32} {o : Int} (hd : decode bytes pc = .ok (.if_icmp cd o, 3)) (hc : if_icmp.holds cd x y = true) (ho : 0 ≤ (pc : Int) + o) (hp : ((pc : Int) + o).toNat = pc') (go : Go B n0 Q h k n pc' L st) : Go B n0 Q h k n pc L (.int y :: .int x :: st) := go.step fun T locs X eT t q => Jvm.Free.XS.icmpYes X.here C.2.2.1 rfl rfl (hb C.2.2.2.1 hd) rfl hc ho hp q
theorem g_icmp_n (C : Ctx B l rm bytes own nm maxL ret Z) {cd : ClassFile.Cond} {x y : Int32} {o : Int} (hd : decode bytes pc = .ok (.if_icmp cd o, 3)) (hc : if_icmp.holds cd x y = false) (hpc : pc + 3 = pc') (go : Go B n0 Q h k n pc' L st) : Go B n0 Q h k n pc L (.int y :: .int x :: st) := go.step fun T locs X eT t q => Jvm.Free.XS.icmpNo X.here C.2.2.1 rfl (hb C.2.2.2.1 hd) rfl hc (by subst hpc; exact q)
theorem g_acmp_y (C : Ctx B l rm bytes own nm maxL ret Z) {cd : ClassFile.ACond} {x y : Value} {o : Int} (hd : decode bytes pc = .ok (.if_acmp cd o, 3)) (hc1 : x.isRef = true) (hc2 : y.isRef = true) (hc : Jvm.Free.XT.acmp cd x y = true) (ho : 0 ≤ (pc : Int) + o) (hp : ((pc : Int) + o).toNat = pc') (go : Go B n0 Q h k n pc' L st) : Go B n0 Q h k n pc L (y :: x :: st) := go.step fun T locs X eT t q => Jvm.Free.XT.acmpYes X.here C.2.2.1 rfl rfl (hb C.2.2.2.1 hd) rfl hc1 hc2 hc ho hp q
theorem g_acmp_n (C : Ctx B l rm bytes own nm maxL ret Z) {cd : ClassFile.ACond} {x y : Value} {o : Int} (hd : decode bytes pc = .ok (.if_acmp cd o, 3)) (hc1 : x.isRef = true) (hc2 : y.isRef = true) (hc : Jvm.Free.XT.acmp cd x y = false) (hpc : pc + 3 = pc') (go : Go B n0 Q h k n pc' L st) : Go B n0 Q h k n pc L (y :: x :: st) := go.step fun T locs X eT t q => Jvm.Free.XT.acmpNo X.here C.2.2.1 rfl (hb C.2.2.2.1 hd) rfl hc1 hc2 hc (by subst hpc; exact q)
theorem g_ifnull_y (C : Ctx B l rm bytes own nm maxL ret Z) {o : Int} (hd : decode bytes pc = .ok (.ifnull o, 3)) (ho : 0 ≤ (pc : Int) + o) (hp : ((pc : Int) + o).toNat = pc') (go : Go B n0 Q h k n pc' L st) : Go B n0 Q h k n pc L (.null :: st) := go.step fun T locs X eT t q => Jvm.Free.XS.ifnullYes X.here C.2.2.1 rfl rfl (hb C.2.2.2.1 hd) rfl ho hp q
theorem g_ifnull_n (C : Ctx B l rm bytes own nm maxL ret Z) {o : Int} {b : Addr} (hd : decode bytes pc = .ok (.ifnull o, 3)) (hpc : pc + 3 = pc') (go : Go B n0 Q h k n pc' L st) : Go B n0 Q h k n pc L (.ref b :: st) := go.step fun T locs X eT t q => Jvm.Free.XS.ifnullNo X.here C.2.2.1 rfl (hb C.2.2.2.1 hd) rfl (by subst hpc; exact q)
theorem g_ifnonnull_y (C : Ctx B l rm bytes own nm maxL ret Z) {o : Int} {b : Addr} (hd : decode bytes pc = .ok (.ifnonnull o, 3)) (ho : 0 ≤ (pc : Int) + o) (hp : ((pc : Int) + o).toNat = pc') (go : Go B n0 Q h k n pc' L st) : Go B n0 Q h k n pc L (.ref b :: st) := go.step fun T locs X eT t q => Jvm.Free.XT.ifnonnullYes X.here C.2.2.1 rfl rfl (hb C.2.2.2.1 hd) rfl ho hp q
theorem g_ifnonnull_n (C : Ctx B l rm bytes own nm maxL ret Z) {o : Int} (hd : decode bytes pc = .ok (.ifnonnull o, 3)) (hpc : pc + 3 = pc') (go : Go B n0 Q h k n pc' L st) : Go B n0 Q h k n pc L (.null :: st) := go.step fun T locs X eT t q => Jvm.Free.XT.ifnonnullNo X.here C.2.2.1 rfl (hb C.2.2.2.1 hd) rfl (by subst hpc; exact q)
theorem g_ldc (C : Ctx B l rm bytes own nm maxL ret Z) {i : Nat} {v : Int32} (w : (Jvm.Cond.constant own i v).before a0 Z = true) (hd : decode bytes pc = .ok (.ldc i, 2)) (hpc : pc + 2 = pc') (go : Go B n0 Q h k n pc' L (.int v :: st)) : Go B n0 Q h k n pc L st := go.step fun T locs X eT t q => X.ldcInt C.2.2.1 C.2.2.2.2.2.1 (mvT C.2.2.2.2.1 w) (g := mkF B.m pc L st) rfl (hb C.2.2.2.1 hd) t (by subst hpc; exact q)
theorem g_ldc_w (C : Ctx B l rm bytes own nm maxL ret Z) {i : Nat} {v : Int32} (w : (Jvm.Cond.constant own i v).before a0 Z = true) (hd : decode bytes pc = .ok (.ldc_w i, 3)) (hpc : pc + 3 = pc') (go : Go B n0 Q h k n pc' L (.int v :: st)) : Go B n0 Q h k n pc L st := go.step fun T locs X eT t q => X.ldcwInt C.2.2.1 C.2.2.2.2.2.1 (mvT C.2.2.2.2.1 w) (g := mkF B.m pc L st) rfl (hb C.2.2.2.1 hd) t (by subst hpc; exact q)
theorem g_ldc2_w (C : Ctx B l rm bytes own nm maxL ret Z) {i : Nat} {v : Int64} (w : (Jvm.Cond.constantLong own i v).before a0 Z = true) (hd : decode bytes pc = .ok (.ldc2_w i, 3)) (hpc : pc + 3 = pc') (go : Go B n0 Q h k n pc' L (.long v :: st)) : Go B n0 Q h k n pc L st := go.step fun T locs X eT t q => X.ldc2Long C.2.2.1 C.2.2.2.2.2.1 (mvT C.2.2.2.2.1 w) (g := mkF B.m pc L st) rfl (hb C.2.2.2.1 hd) t (by subst hpc; exact q)
theorem g_getfield (C : Ctx B l rm bytes own nm maxL ret Z) {i : Nat} {R0 O fn d host : String} {a : Addr} {v : Value} (w : (Jvm.Cond.fieldLink own i R0 fn d).before a0 Z = true ∨ (Jvm.Cond.fieldLinkNest own i R0 fn d host).before a0 Z = true) (via : Via Z R0 O fn d) (F : Fld Z h a O fn d v) (hd : decode bytes pc = .ok (.getfield i, 3)) (hpc : pc + 3 = pc') (go : Go B n0 Q h k n pc' L (v :: st)) : Go B n0 Q h k n pc L (.ref a :: st) := go.move fun T locs X eT => by
  obtain ⟨T', X', e', f⟩ := getF X C.2.2.1 C.2.2.2.2.1 C.2.2.2.2.2.1 w via eT F (g := mkF B.m pc L (.ref a :: st)) rfl rfl (hb C.2.2.2.1 hd)
  subst hpc; exact ⟨T', X', e', f⟩
theorem g_getstatic (C : Ctx B l rm bytes own nm maxL ret Z) {i : Nat} {R0 O fn d host : String} {v : Value} (w : (Jvm.Cond.fieldLink own i R0 fn d).before a0 Z = true ∨ (Jvm.Cond.fieldLinkNest own i R0 fn d host).before a0 Z = true) (via : Via Z R0 O fn d) (F : Sta Z h O fn d v) (hd : decode bytes pc = .ok (.getstatic i, 3)) (hpc : pc + 3 = pc') (go : Go B n0 Q h k n pc' L (v :: st)) : Go B n0 Q h k n pc L st := go.move fun T locs X eT => by
  obtain ⟨T', X', e', f⟩ := getS2 X C.2.2.1 C.2.2.2.2.1 C.2.2.2.2.2.1 w via eT F (g := mkF B.m pc L st) rfl (hb C.2.2.2.1 hd)
  subst hpc; exact ⟨T', X', e', f⟩
theorem g_checkcast (C : Ctx B l rm bytes own nm maxL ret Z) {i : Nat} {K : String} {a : Addr} (w : (Jvm.Cond.classLink own i K).before a0 Z = true) (F : Ins Z h a K true) (hd : decode bytes pc = .ok (.checkcast i, 3)) (hpc : pc + 3 = pc') (go : Go B n0 Q h k n pc' L (.ref a :: st)) : Go B n0 Q h k n pc L (.ref a :: st) := go.move fun T locs X eT => by
  obtain ⟨T', X', e', f⟩ := castY X C.2.2.1 C.2.2.2.2.1 C.2.2.2.2.2.1 w eT F (g := mkF B.m pc L (.ref a :: st)) rfl rfl (hb C.2.2.2.1 hd)
  subst hpc; exact ⟨T', X', e', f⟩
theorem g_instanceof_y (C : Ctx B l rm bytes own nm maxL ret Z) {i : Nat} {K : String} {a : Addr} (w : (Jvm.Cond.classLink own i K).before a0 Z = true) (F : Ins Z h a K true) (hd : decode bytes pc = .ok (.instanceof i, 3)) (hpc : pc + 3 = pc') (go : Go B n0 Q h k n pc' L (.int 1 :: st)) : Go B n0 Q h k n pc L (.ref a :: st) := go.move fun T locs X eT => by
  obtain ⟨T', X', e', f⟩ := instY X C.2.2.1 C.2.2.2.2.1 C.2.2.2.2.2.1 w eT F (g := mkF B.m pc L (.ref a :: st)) rfl rfl (hb C.2.2.2.1 hd)
  subst hpc; exact ⟨T', X', e', f⟩
theorem g_instanceof_n (C : Ctx B l rm bytes own nm maxL ret Z) {i : Nat} {K K' : String} {a : Addr} (w : (Jvm.Cond.classLink own i K).before a0 Z = true) (E : Exa Z h a K') (F : ∃ c t, Z.vm.findClass K' = some c ∧ Z.vm.findClass K = some t ∧ Z.vm.assignable c t = false) (hd : decode bytes pc = .ok (.instanceof i, 3)) (hpc : pc + 3 = pc') (go : Go B n0 Q h k n pc' L (.int 0 :: st)) : Go B n0 Q h k n pc L (.ref a :: st) := go.move fun T locs X eT => by
  obtain ⟨T', X', e', f⟩ := instNo X C.2.2.1 C.2.2.2.2.1 C.2.2.2.2.2.1 w eT E F (g := mkF B.m pc L (.ref a :: st)) rfl rfl (hb C.2.2.2.1 hd)
  subst hpc; exact ⟨T', X', e', f⟩
theorem g_putfield (C : Ctx B l rm bytes own nm maxL ret Z) {i kk : Nat} {R0 O fn d host K : String} {ty : FieldType} {a : Addr} {v old : Value} (w : (Jvm.Cond.fieldLink own i R0 fn d).before a0 Z = true ∨ (Jvm.Cond.fieldLinkNest own i R0 fn d host).before a0 Z = true) (via : Via Z R0 O fn d) (F : Fld Z h a O fn d old) (E : Exa Z h a K) (Ly : (Jvm.Cond.lays K O fn d).before a0 Z = true ∨ ((Jvm.Cond.laysFinal K O fn d).before a0 Z = true ∧ own = O ∧ nm = "<init>")) (wi : (Jvm.Cond.instantiable K kk).before a0 Z = true) (hty : parseFieldDescriptor d = some ty) (hn : narrow ty v = v) (hf : fits ty v = true) (ge : n0 ≤ a) (hd : decode bytes pc = .ok (.putfield i, 3)) (hpc : pc + 3 = pc') (go : ∀ h', Wr h h' a (Jvm.RoadKit.slotOf Z O fn d) v → Go B n0 Q h' k n pc' L st) : Go B n0 Q h k n pc L (v :: .ref a :: st) := fun T locs X N eT => by
  obtain ⟨T', h', X', e', W, f⟩ := putF X C.2.2.1 C.2.2.2.2.1 C.2.2.2.2.2.1 w via eT F E (Ly.imp id fun q => ⟨q.1, q.2.1, by rw [C.2.2.2.2.2.2.1]; exact q.2.2⟩) wi hty hn hf (g := mkF B.m pc L (v :: .ref a :: st)) rfl rfl (hb C.2.2.2.1 hd)
  obtain ⟨t, o, q, r⟩ := go h' W T' _ X' (Fr.snoc X' N ge) e'
  subst hpc
  exact ⟨t, o, f t q, r⟩
theorem g_new (C : Ctx B l rm bytes own nm maxL ret Z) {i nn : Nat} {K : String} (w : (Jvm.Cond.classLink own i K).before a0 Z = true) (wi : (Jvm.Cond.instantiable K nn).before a0 Z = true) (wz : (Jvm.Cond.initialized K).before a0 Z = true) (hc : k + 1 ≤ rm.cells) (hl : n + nn ≤ rm.slots) (hd : decode bytes pc = .ok (.new i, 3)) (hpc : pc + 3 = pc') (go : ∀ h' a, a = h.size → Ext h h' → Exa Z h' a K → (∀ {O fn d : String} {ty : FieldType}, Laid Z a0 K O fn d → parseFieldDescriptor d = some ty → Fld Z h' a O fn d (defaultValue ty)) → Go B n0 Q h' (k + 1) (n + nn) pc' L (.ref a :: st)) : Go B n0 Q h k n pc L st := fun T locs X N eT => by
  obtain ⟨T', h', X', e', E, A, D, -, f⟩ := newO X C.2.2.1 C.2.2.2.2.1 C.2.2.2.2.2.1 w wi wz eT (g := mkF B.m pc L st) rfl (hb C.2.2.2.1 hd) (by rw [C.2.1]; exact hc) (by rw [C.2.1]; exact hl)
  obtain ⟨t, o, q, r⟩ := go h' _ rfl E A D T' _ X' N e'
  subst hpc
  exact ⟨t, o, f t q, r⟩
theorem g_initObj (C : Ctx B l rm bytes own nm maxL ret Z) {i : Nat} {a : Addr} (w1 : (Jvm.Cond.methodLink own i Lib.objectInit).before a0 Z = true) (w2 : (Jvm.Cond.instanceMethod Lib.objectInit).before a0 Z = true) (w3 : (Jvm.Cond.code Lib.objectInit ⟨#[0xb1]⟩ 1 none).before a0 Z = true) (hsz : L.size = maxL) (hf : 1 ≤ rm.frames) {W : Nat} (hW : (st.map fun v => v.category).sum ≤ W) (hl : W + 12 ≤ rm.locals) (hd : decode bytes pc = .ok (.invokespecial i, 3)) (hpc : pc + 3 = pc') (go : Go B n0 Q h k n pc' L st) : Go B n0 Q h k n pc L (.ref a :: st) := fun T locs X N eT => by
  obtain ⟨T', X', e', f⟩ := initO X C.2.2.1 C.2.2.2.2.1 C.2.2.2.2.2.1 w1 w2 w3 eT (g := mkF B.m pc L (.ref a :: st)) rfl (by rw [C.2.2.2.2.2.2.2.1]; exact hsz) rfl (hb C.2.2.2.1 hd) (by rw [C.2.1]; exact hf) (W := W) (by show 2 * 0 + _ ≤ _; omega) (by rw [C.2.1]; exact hl)
  obtain ⟨t, o, q, r⟩ := go T' _ X' N e'
  subst hpc
  exact ⟨t, o, f t q, r⟩
theorem g_static (C : Ctx B l rm bytes own nm maxL ret Z) {i : Nat} {y : MethodName} {b' : ByteArray} {mx : Nat} {rt : Option FieldType} {rm' : Room} {as' : Array Value} {Q' : Option Value → Heap → Prop} (w1 : (Jvm.Cond.methodLink own i y).before a0 Z = true) (w2 : (Jvm.Cond.static y).before a0 Z = true) (wz : (Jvm.Cond.initialized y.cls).before a0 Z = true) (wc : (Jvm.Cond.code y b' mx rt).before a0 Z = true) (hy : y.cls ≠ "java/lang/invoke/MethodHandle" ∧ y.cls ≠ "java/lang/invoke/VarHandle") (K : Met1 l Z y b' mx rt rm' n0 as' h Q') (argsL : List Value) {stk : List Value} (hst : stk = argsL.reverse ++ st) (has : as' = argsL.toArray) {ps : List FieldType} {r' : Option FieldType} (pd : parseMethodDescriptor y.desc = some ⟨ps, r'⟩) (hlen : argsL.length = ps.length) (hsz : L.size = maxL) (hf : rm'.frames + 1 ≤ rm.frames) {W : Nat} (hW : (st.map fun v => v.category).sum ≤ W) (hlo : W + (mx + 11) + rm'.locals ≤ rm.locals) (hc : k + rm'.cells ≤ rm.cells) (hs : n + rm'.slots ≤ rm.slots) (hd : decode bytes pc = .ok (.invokestatic i, 3)) (hpc : pc + 3 = pc') (go : ∀ v h', Q' v h' → Go B n0 Q h' (k + rm'.cells) (n + rm'.slots) pc' L (v.toList ++ st)) : Go B n0 Q h k n pc L stk := fun T locs X N eT => by
  subst hst has
  obtain ⟨v, _, ⟨T', L1, k1, n1⟩, -, X', ⟨L2, ⟨N', hq⟩, l1, l2, l3⟩, f⟩ := Jvm.LawKit.callS X C.2.2.1 (y := y) C.2.2.2.2.2.1 (mvT C.2.2.2.2.1 w1) (mvT C.2.2.2.2.1 w2) (mvT C.2.2.2.2.1 wz) (mvT C.2.2.2.2.1 wc) hy (backOf (W := W) (Q := fun v h L => Fr n0 L ∧ Q' v h) (C.1 ▸ K []) C.2.2.2.2.1 wc wz (by rw [C.2.1]; exact hf) (by rw [C.2.1]; exact hlo)) (g := mkF B.m pc L (argsL.reverse ++ st)) rfl (by rw [C.2.2.2.2.2.2.2.1]; exact hsz) (argsL := argsL) (rest := st) (lenOf pd hlen) rfl (by show 2 * 0 + _ ≤ _; omega) (hb C.2.2.2.1 hd) (fun _ _ => ⟨rfl, eT, by rw [C.2.1]; exact hc, by rw [C.2.1]; exact hs⟩)
  dsimp only [Pt.U, Pt.locs, Pt.cells, Pt.slots] at X' l1 l2 l3 f hq
  subst l1 l2 l3
  obtain ⟨t, o, q, r⟩ := go v _ hq T' _ X' (Fr.app N N') rfl
  subst hpc
  exact ⟨t, o, f t q, r⟩
theorem g_special (C : Ctx B l rm bytes own nm maxL ret Z) {i : Nat} {y : MethodName} {b' : ByteArray} {mx : Nat} {rm' : Room} {as' : Array Value} {Q' : Option Value → Heap → Prop} {a : Addr} (hy1 : y.name = "<init>") (w1 : (Jvm.Cond.methodLink own i y).before a0 Z = true) (w2 : (Jvm.Cond.instanceMethod y).before a0 Z = true) (wz : (Jvm.Cond.initialized y.cls).before a0 Z = true) (wc : (Jvm.Cond.code y b' mx none).before a0 Z = true) (hy : y.cls ≠ "java/lang/invoke/MethodHandle" ∧ y.cls ≠ "java/lang/invoke/VarHandle") (K : Met1 l Z y b' mx none rm' n0 as' h Q') (argsL : List Value) {stk : List Value} (hst : stk = argsL.reverse ++ .ref a :: st) (has : as' = (Value.ref a :: argsL).toArray) {ps : List FieldType} {r' : Option FieldType} (pd : parseMethodDescriptor y.desc = some ⟨ps, r'⟩) (hlen : argsL.length = ps.length) (hsz : L.size = maxL) (hf : rm'.frames + 1 ≤ rm.frames) {W : Nat} (hW : (st.map fun v => v.category).sum ≤ W) (hlo : W + (mx + 11) + rm'.locals ≤ rm.locals) (hc : k + rm'.cells ≤ rm.cells) (hs : n + rm'.slots ≤ rm.slots) (hd : decode bytes pc = .ok (.invokespecial i, 3)) (hpc : pc + 3 = pc') (go : ∀ v h', Q' v h' → Go B n0 Q h' (k + rm'.cells) (n + rm'.slots) pc' L (v.toList ++ st)) : Go B n0 Q h k n pc L stk := fun T locs X N eT => by
  subst hst has
  obtain ⟨v, _, ⟨T', L1, k1, n1⟩, -, X', ⟨L2, ⟨N', hq⟩, l1, l2, l3⟩, f⟩ := X.specialBack C.2.2.1 (y := y) hy1 C.2.2.2.2.2.1 (mvT C.2.2.2.2.1 w1) (mvT C.2.2.2.2.1 w2) (mvT C.2.2.2.2.1 wc) hy (backOf (W := W) (Q := fun v h L => Fr n0 L ∧ Q' v h) (C.1 ▸ K []) C.2.2.2.2.1 wc wz (by rw [C.2.1]; exact hf) (by rw [C.2.1]; exact hlo)) (g := mkF B.m pc L (argsL.reverse ++ .ref a :: st)) rfl (by rw [C.2.2.2.2.2.2.2.1]; exact hsz) (Steps.refl _) (a := a) (argsL := argsL) (rest := st) (lenOf pd hlen) rfl (by show 2 * 0 + _ ≤ _; omega) (hb C.2.2.2.1 hd) (fun _ _ => ⟨rfl, eT, by rw [C.2.1]; exact hc, by rw [C.2.1]; exact hs⟩)
  dsimp only [Pt.U, Pt.locs, Pt.cells, Pt.slots] at X' l1 l2 l3 f hq
  subst l1 l2 l3
  obtain ⟨t, o, q, r⟩ := go v _ hq T' _ X' (Fr.app N N') rfl
  subst hpc
  exact ⟨t, o, f.trans q, r⟩
theorem g_virtual (C : Ctx B l rm bytes own nm maxL ret Z) {i : Nat} {y : MethodName} {b' : ByteArray} {mx : Nat} {rt : Option FieldType} {rm' : Room} {as' : Array Value} {Q' : Option Value → Heap → Prop} {a : Addr} {K' : String} {y0 : MethodName} (w1 : (Jvm.Cond.methodLink own i y0).before a0 Z = true) (w2 : (Jvm.Cond.declares y0).before a0 Z = true) (w3 : (Jvm.Cond.selects K' y0 y).before a0 Z = true) (w4 : (Jvm.Cond.instanceMethod y).before a0 Z = true) (wz : (Jvm.Cond.initialized y.cls).before a0 Z = true) (wc : (Jvm.Cond.code y b' mx rt).before a0 Z = true) (nf : NotFace B.s y0) (hy : y0.cls ≠ "java/lang/invoke/MethodHandle" ∧ y0.cls ≠ "java/lang/invoke/VarHandle") (E : Exa Z h a K') (K : Met1 l Z y b' mx rt rm' n0 as' h Q') (argsL : List Value) {stk : List Value} (hst : stk = argsL.reverse ++ .ref a :: st) (has : as' = (Value.ref a :: argsL).toArray) {ps : List FieldType} {r' : Option FieldType} (pd : parseMethodDescriptor y0.desc = some ⟨ps, r'⟩) (hlen : argsL.length = ps.length) (hsz : L.size = maxL) (hf : rm'.frames + 1 ≤ rm.frames) {W : Nat} (hW : (st.map fun v => v.category).sum ≤ W) (hlo : W + (mx + 11) + rm'.locals ≤ rm.locals) (hc : k + rm'.cells ≤ rm.cells) (hs : n + rm'.slots ≤ rm.slots) (hd : decode bytes pc = .ok (.invokevirtual i, 3)) (hpc : pc + 3 = pc') (go : ∀ v h', Q' v h' → Go B n0 Q h' (k + rm'.cells) (n + rm'.slots) pc' L (v.toList ++ st)) : Go B n0 Q h k n pc L stk := fun T locs X N eT => by
  subst hst has
  obtain ⟨cq, kq, qa, qb, qc⟩ := isOf C.2.2.2.2.1 eT E
  obtain ⟨v, _, ⟨T', L1, k1, n1⟩, -, X', ⟨L2, ⟨N', hq⟩, l1, l2, l3⟩, f⟩ := X.virtualBack C.2.2.1 (y := y0) (z := y) C.2.2.2.2.2.1 (mvT C.2.2.2.2.1 w1) (mvT C.2.2.2.2.1 w2) nf (mvT C.2.2.2.2.1 w3) (mvT C.2.2.2.2.1 w4) hy (backOf (W := W) (Q := fun v h L => Fr n0 L ∧ Q' v h) (C.1 ▸ K []) C.2.2.2.2.1 wc wz (by rw [C.2.1]; exact hf) (by rw [C.2.1]; exact hlo)) qa qc (g := mkF B.m pc L (argsL.reverse ++ .ref a :: st)) rfl (by rw [C.2.2.2.2.2.2.2.1]; exact hsz) (Steps.refl _) (argsL := argsL) (rest := st) (lenOf pd hlen) rfl (by show 2 * 0 + _ ≤ _; omega) (hb C.2.2.2.1 hd) (fun _ _ => ⟨rfl, eT, by rw [C.2.1]; exact hc, by rw [C.2.1]; exact hs⟩)
  dsimp only [Pt.U, Pt.locs, Pt.cells, Pt.slots] at X' l1 l2 l3 f hq
  subst l1 l2 l3
  obtain ⟨t, o, q, r⟩ := go v _ hq T' _ X' (Fr.app N N') rfl
  subst hpc
  exact ⟨t, o, f.trans q, r⟩
theorem g_ret (C : Ctx B l rm bytes own nm maxL ret Z) {v : Value} {ty : FieldType} {i : Instr} (hret : ret = some ty) (hn : narrow ty v = v)
    (hi : (i = .ireturn ∧ (ty = .int ∨ ty = .boolean ∨ ty = .byte ∨ ty = .char ∨ ty = .short) ∧ ∃ z, v = .int z) ∨ (i = .lreturn ∧ ty = .long ∧ ∃ z, v = .long z) ∨ (i = .dreturn ∧ ty = .double ∧ ∃ z, v = .double z) ∨ (i = .freturn ∧ ty = .float ∧ ∃ z, v = .float z) ∨ (i = .areturn ∧ ty.isReference = true ∧ v.isRef = true))
    (hd : decode bytes pc = .ok (i, 1)) (hk : k ≤ rm.cells) (hs : n ≤ rm.slots) (go : Q (some v) h) : Go B n0 Q h k n pc L (v :: st) := fun T locs X N eT => by
  have hr0 : B.meth.sig.returnType = some ty := C.2.2.2.2.2.2.2.2.1.trans hret
  obtain ⟨fs, hr, hrun, hended, hW, hsame⟩ := X.leave (v := some v) (fun q => by rw [hr0] at q; cases q) C.2.2.2.2.2.2.2.2.2
  exact ⟨_, _, retOut X C.2.2.1 hr0 hn hi (hb C.2.2.2.1 hd) hr, hrun, hended, _, _, rfl, ⟨N, by show Q _ T.heap; rw [eT]; exact go⟩, EndB.of ⟨⟨_, rfl⟩, hW, hsame.mono (by rw [C.2.1]; exact hk) (by rw [C.2.1]; exact hs)⟩⟩
theorem g_return (C : Ctx B l rm bytes own nm maxL ret Z) (hret : ret = none) (hd : decode bytes pc = .ok (.return_, 1)) (hk : k ≤ rm.cells) (hs : n ≤ rm.slots) (go : Q none h) : Go B n0 Q h k n pc L [] := fun T locs X N eT => by
  have hr0 : B.meth.sig.returnType = none := C.2.2.2.2.2.2.2.2.1.trans hret
  obtain ⟨fs, hr, hrun, hended, hW, hsame⟩ := X.leave (v := none) (fun _ => rfl) C.2.2.2.2.2.2.2.2.2
  exact ⟨_, _, X.returnOut C.2.2.1 hr0 (hb C.2.2.2.1 hd) hr, hrun, hended, _, _, rfl, ⟨N, by show Q _ T.heap; rw [eT]; exact go⟩, EndB.of ⟨⟨_, rfl⟩, hW, hsame.mono (by rw [C.2.1]; exact hk) (by rw [C.2.1]; exact hs)⟩⟩
end Base
/-! arrays made on the road -/
section Arrays
variable {Z : State} {h h' : Heap} {a b : Addr} {ty : FieldType} {vs : List Value} {ws : List Addr} {sl : Nat} {v : Value} {K : String}
def Ary (Z : State) (h : Heap) (a : Addr) (ty : FieldType) (vs : List Value) : Prop := ∃ c : Cell, Arr Z h a c ty ∧ c.slots.toList = vs ∧ vs.length < 2 ^ 31
def AryR (Z : State) (h : Heap) (a : Addr) (K : String) (vs : List Value) : Prop := ∃ c : Cell, Arr Z h a c (.object K) ∧ Ovr Z c.cls K ∧ c.slots.toList = vs ∧ vs.length < 2 ^ 31
theorem AryR.ary (F : AryR Z h a K vs) : Ary Z h a (.object K) vs := by obtain ⟨c, A, -, r⟩ := F; exact ⟨c, A, r⟩
theorem Ary.lt (F : Ary Z h a ty vs) : a < h.size := by obtain ⟨c, A, -⟩ := F; exact A.lt
theorem AryR.lt (F : AryR Z h a K vs) : a < h.size := F.ary.lt
theorem Ary.ext (F : Ary Z h a ty vs) (E : Ext h h') : Ary Z h' a ty vs := by obtain ⟨c, A, r⟩ := F; exact ⟨c, A.ext E, r⟩
theorem AryR.ext (F : AryR Z h a K vs) (E : Ext h h') : AryR Z h' a K vs := by obtain ⟨c, A, r⟩ := F; exact ⟨c, A.ext E, r⟩
theorem Ary.keep (F : Ary Z h a ty vs) (K : Keep h h' ws) (q : a ∉ ws) : Ary Z h' a ty vs := by obtain ⟨c, A, r⟩ := F; exact ⟨c, ⟨K.2.1 a c A.1 q, A.2⟩, r⟩
theorem AryR.keep (F : AryR Z h a K vs) (Kp : Keep h h' ws) (q : a ∉ ws) : AryR Z h' a K vs := by obtain ⟨c, A, r⟩ := F; exact ⟨c, ⟨Kp.2.1 a c A.1 q, A.2⟩, r⟩
theorem set_list (c : Cell) (i : Nat) (v : Value) : (c.setSlot i v).slots.toList = c.slots.toList.set i v := by simp [Cell.setSlot]
theorem keep_ext (E : Ext h h') : Keep h h' [] := (Keep.refl h []).ext E
theorem ne_new {c : Nat} (q : a < c) (e : b = c) : a ≠ b := fun z => absurd q (by rw [z, e]; exact Nat.lt_irrefl _)
theorem ne_newL {c : Nat} (q : a < c) (e : b = c) : b ≠ a := fun z => absurd q (by rw [← z, e]; exact Nat.lt_irrefl _)
theorem ne_ge {c : Nat} (q : a < c) (e : c ≤ b) : a ≠ b := fun z => absurd q (Nat.not_lt.mpr (z ▸ e))
theorem nin1 (q : a ≠ b) : a ∉ [b] := ninS q nin0
theorem in_b {j : Int32} {c : Cell} {i : Nat} (h0 : ¬ j < 0) (hj : j.toNatClampNeg = i) (hi : i < c.slots.size) : ¬ (j < 0 ∨ c.slots.size ≤ j.toNatClampNeg) := fun q => q.elim h0 fun q => by omega
end Arrays
section ArraySteps
variable {B : Bod} {l : Launch} {rm : Room} {bytes : ByteArray} {own nm : String} {maxL : Nat} {ret : Option FieldType} {Z : State} {n0 : Nat} {Q : Option Value → Heap → Prop} {h : Heap} {k n pc pc' : Nat} {L L' : Array Slot} {st st' : List Value} {a0 : Array Value}
theorem g_iaload (C : Ctx B l rm bytes own nm maxL ret Z) {a : Addr} {vs : List Value} {j : Int32} {i : Nat} {v : Int32} (F : Ary Z h a .int vs) (h0 : ¬ j < 0) (hj : j.toNatClampNeg = i) (hv : vs[i]? = some (.int v)) (hd : decode bytes pc = .ok (.iaload, 1)) (hpc : pc + 1 = pc') (go : Go B n0 Q h k n pc' L (.int v :: st)) : Go B n0 Q h k n pc L (.int j :: .ref a :: st) := go.step fun T locs X eT t q => by
  obtain ⟨c, A, rfl, hl⟩ := F
  have hi := (List.getElem?_eq_some_iff.mp hv).1
  rw [Array.length_toList] at hi
  rw [Array.getElem?_toList, ← hj] at hv
  exact X.iaload C.2.2.1 (by rw [eT]; exact A.1) (State.isArrayOf_alike C.2.2.2.2.1.alike A.2.1)  A.2.2 (in_b h0 hj hi) hv (g := mkF B.m pc L (.int j :: .ref a :: st)) rfl rfl (hb C.2.2.2.1 hd) t (by subst hpc; exact q)
theorem g_laload (C : Ctx B l rm bytes own nm maxL ret Z) {a : Addr} {vs : List Value} {j : Int32} {i : Nat} {v : Int64} (F : Ary Z h a .long vs) (h0 : ¬ j < 0) (hj : j.toNatClampNeg = i) (hv : vs[i]? = some (.long v)) (hd : decode bytes pc = .ok (.laload, 1)) (hpc : pc + 1 = pc') (go : Go B n0 Q h k n pc' L (.long v :: st)) : Go B n0 Q h k n pc L (.int j :: .ref a :: st) := go.step fun T locs X eT t q => by
  obtain ⟨c, A, rfl, hl⟩ := F
  have hi := (List.getElem?_eq_some_iff.mp hv).1
  rw [Array.length_toList] at hi
  rw [Array.getElem?_toList, ← hj] at hv
  exact X.laload C.2.2.1 (by rw [eT]; exact A.1) (State.isArrayOf_alike C.2.2.2.2.1.alike A.2.1)  A.2.2 (in_b h0 hj hi) hv (g := mkF B.m pc L (.int j :: .ref a :: st)) rfl rfl (hb C.2.2.2.1 hd) t (by subst hpc; exact q)
theorem g_caload (C : Ctx B l rm bytes own nm maxL ret Z) {a : Addr} {vs : List Value} {j : Int32} {i : Nat} {v : Int32} (F : Ary Z h a .char vs) (h0 : ¬ j < 0) (hj : j.toNatClampNeg = i) (hv : vs[i]? = some (.int v)) (hd : decode bytes pc = .ok (.caload, 1)) (hpc : pc + 1 = pc') (go : Go B n0 Q h k n pc' L (.int v :: st)) : Go B n0 Q h k n pc L (.int j :: .ref a :: st) := go.step fun T locs X eT t q => by
  obtain ⟨c, A, rfl, hl⟩ := F
  have hi := (List.getElem?_eq_some_iff.mp hv).1
  rw [Array.length_toList] at hi
  rw [Array.getElem?_toList, ← hj] at hv
  exact X.caload C.2.2.1 (by rw [eT]; exact A.1) (State.isArrayOf_alike C.2.2.2.2.1.alike A.2.1)  A.2.2 (in_b h0 hj hi) hv (g := mkF B.m pc L (.int j :: .ref a :: st)) rfl rfl (hb C.2.2.2.1 hd) t (by subst hpc; exact q)
theorem g_baloadB (C : Ctx B l rm bytes own nm maxL ret Z) {a : Addr} {vs : List Value} {j : Int32} {i : Nat} {v : Int32} (F : Ary Z h a .byte vs) (h0 : ¬ j < 0) (hj : j.toNatClampNeg = i) (hv : vs[i]? = some (.int v)) (hd : decode bytes pc = .ok (.baload, 1)) (hpc : pc + 1 = pc') (go : Go B n0 Q h k n pc' L (.int v :: st)) : Go B n0 Q h k n pc L (.int j :: .ref a :: st) := go.step fun T locs X eT t q => by
  obtain ⟨c, A, rfl, hl⟩ := F
  have hi := (List.getElem?_eq_some_iff.mp hv).1
  rw [Array.length_toList] at hi
  rw [Array.getElem?_toList, ← hj] at hv
  exact X.baloadBytes C.2.2.1 (by rw [eT]; exact A.1) (State.isArrayOf_alike C.2.2.2.2.1.alike A.2.1)  A.2.2 (in_b h0 hj hi) hv (g := mkF B.m pc L (.int j :: .ref a :: st)) rfl rfl (hb C.2.2.2.1 hd) t (by subst hpc; exact q)
theorem g_baloadZ (C : Ctx B l rm bytes own nm maxL ret Z) {a : Addr} {vs : List Value} {j : Int32} {i : Nat} {v : Int32} (F : Ary Z h a .boolean vs) (h0 : ¬ j < 0) (hj : j.toNatClampNeg = i) (hv : vs[i]? = some (.int v)) (hd : decode bytes pc = .ok (.baload, 1)) (hpc : pc + 1 = pc') (go : Go B n0 Q h k n pc' L (.int v :: st)) : Go B n0 Q h k n pc L (.int j :: .ref a :: st) := go.step fun T locs X eT t q => by
  obtain ⟨c, A, rfl, hl⟩ := F
  have hi := (List.getElem?_eq_some_iff.mp hv).1
  rw [Array.length_toList] at hi
  rw [Array.getElem?_toList, ← hj] at hv
  exact X.baloadBooleans C.2.2.1 (by rw [eT]; exact A.1) (State.isArrayOf_alike C.2.2.2.2.1.alike A.2.1)  A.2.2 (in_b h0 hj hi) hv (g := mkF B.m pc L (.int j :: .ref a :: st)) rfl rfl (hb C.2.2.2.1 hd) t (by subst hpc; exact q)
theorem g_aaload (C : Ctx B l rm bytes own nm maxL ret Z) {a : Addr} {vs : List Value} {j : Int32} {i : Nat} {v : Value} {ty : FieldType} (F : Ary Z h a ty vs) (hty : ty.isReference = true) (h0 : ¬ j < 0) (hj : j.toNatClampNeg = i) (hv : vs[i]? = some v) (hd : decode bytes pc = .ok (.aaload, 1)) (hpc : pc + 1 = pc') (go : Go B n0 Q h k n pc' L (v :: st)) : Go B n0 Q h k n pc L (.int j :: .ref a :: st) := go.step fun T locs X eT t q => by
  obtain ⟨c, A, rfl, hl⟩ := F
  have hi := (List.getElem?_eq_some_iff.mp hv).1
  rw [Array.length_toList] at hi
  rw [Array.getElem?_toList, ← hj] at hv
  exact X.aaload C.2.2.1 (by rw [eT]; exact A.1) (State.isArrayOf_alike C.2.2.2.2.1.alike A.2.1) hty A.2.2 (in_b h0 hj hi) hv (g := mkF B.m pc L (.int j :: .ref a :: st)) rfl rfl (hb C.2.2.2.1 hd) t (by subst hpc; exact q)
theorem g_arraylength (C : Ctx B l rm bytes own nm maxL ret Z) {a : Addr} {vs : List Value} {ty : FieldType} {z : Int32} (F : Ary Z h a ty vs) (hz : vs.length.toInt32 = z) (hd : decode bytes pc = .ok (.arraylength, 1)) (hpc : pc + 1 = pc') (go : Go B n0 Q h k n pc' L (.int z :: st)) : Go B n0 Q h k n pc L (.ref a :: st) := go.step fun T locs X eT t q => by
  obtain ⟨c, A, rfl, hl⟩ := F
  rw [Array.length_toList] at hz
  exact X.arraylength C.2.2.1 (by rw [eT]; exact A.1) (State.isArrayOf_alike C.2.2.2.2.1.alike A.2.1) (g := mkF B.m pc L (.ref a :: st)) rfl rfl (hb C.2.2.2.1 hd) t (by subst hpc hz; exact q)
theorem g_iastore (C : Ctx B l rm bytes own nm maxL ret Z) {a : Addr} {vs : List Value} {j : Int32} {i : Nat} {v : Int32} {w : Value} (F : Ary Z h a .int vs) (h0 : ¬ j < 0) (hj : j.toNatClampNeg = i) (hi : i < vs.length) (hw : Value.int v = w) (ge : n0 ≤ a) (hd : decode bytes pc = .ok (.iastore, 1)) (hpc : pc + 1 = pc') (go : ∀ h', Keep h h' [a] → Ary Z h' a .int (vs.set i w) → Go B n0 Q h' k n pc' L st) : Go B n0 Q h k n pc L (.int v :: .int j :: .ref a :: st) := fun T locs X N eT => by
  obtain ⟨c, A, rfl, hl⟩ := F
  have hi' := hi
  rw [Array.length_toList] at hi'
  obtain ⟨T', h', X', e', W, f⟩ := stI X C.2.2.1 C.2.2.2.2.1 eT A (in_b h0 hj hi') (g := mkF B.m pc L (.int v :: .int j :: .ref a :: st)) rfl rfl (hb C.2.2.2.1 hd)
  rw [hj, hw] at W
  obtain ⟨t, o, q, r⟩ := go h' (Keep.of_wr W) ⟨_, A.same W, set_list c i w, by rw [List.length_set]; exact hl⟩ T' _ X' (Fr.snoc X' N ge) e'
  subst hpc
  exact ⟨t, o, f t q, r⟩
theorem g_lastore (C : Ctx B l rm bytes own nm maxL ret Z) {a : Addr} {vs : List Value} {j : Int32} {i : Nat} {v : Int64} {w : Value} (F : Ary Z h a .long vs) (h0 : ¬ j < 0) (hj : j.toNatClampNeg = i) (hi : i < vs.length) (hw : Value.long v = w) (ge : n0 ≤ a) (hd : decode bytes pc = .ok (.lastore, 1)) (hpc : pc + 1 = pc') (go : ∀ h', Keep h h' [a] → Ary Z h' a .long (vs.set i w) → Go B n0 Q h' k n pc' L st) : Go B n0 Q h k n pc L (.long v :: .int j :: .ref a :: st) := fun T locs X N eT => by
  obtain ⟨c, A, rfl, hl⟩ := F
  have hi' := hi
  rw [Array.length_toList] at hi'
  obtain ⟨T', h', X', e', W, f⟩ := stJ X C.2.2.1 C.2.2.2.2.1 eT A (in_b h0 hj hi') (g := mkF B.m pc L (.long v :: .int j :: .ref a :: st)) rfl rfl (hb C.2.2.2.1 hd)
  rw [hj, hw] at W
  obtain ⟨t, o, q, r⟩ := go h' (Keep.of_wr W) ⟨_, A.same W, set_list c i w, by rw [List.length_set]; exact hl⟩ T' _ X' (Fr.snoc X' N ge) e'
  subst hpc
  exact ⟨t, o, f t q, r⟩
theorem g_castore (C : Ctx B l rm bytes own nm maxL ret Z) {a : Addr} {vs : List Value} {j : Int32} {i : Nat} {v : Int32} {w : Value} (F : Ary Z h a .char vs) (h0 : ¬ j < 0) (hj : j.toNatClampNeg = i) (hi : i < vs.length) (hw : Value.int (nar .char v) = w) (ge : n0 ≤ a) (hd : decode bytes pc = .ok (.castore, 1)) (hpc : pc + 1 = pc') (go : ∀ h', Keep h h' [a] → Ary Z h' a .char (vs.set i w) → Go B n0 Q h' k n pc' L st) : Go B n0 Q h k n pc L (.int v :: .int j :: .ref a :: st) := fun T locs X N eT => by
  obtain ⟨c, A, rfl, hl⟩ := F
  have hi' := hi
  rw [Array.length_toList] at hi'
  obtain ⟨T', h', X', e', W, f⟩ := stC X C.2.2.1 C.2.2.2.2.1 eT A (in_b h0 hj hi') (g := mkF B.m pc L (.int v :: .int j :: .ref a :: st)) rfl rfl (hb C.2.2.2.1 hd)
  rw [hj, hw] at W
  obtain ⟨t, o, q, r⟩ := go h' (Keep.of_wr W) ⟨_, A.same W, set_list c i w, by rw [List.length_set]; exact hl⟩ T' _ X' (Fr.snoc X' N ge) e'
  subst hpc
  exact ⟨t, o, f t q, r⟩
theorem g_bastoreB (C : Ctx B l rm bytes own nm maxL ret Z) {a : Addr} {vs : List Value} {j : Int32} {i : Nat} {v : Int32} {w : Value} (F : Ary Z h a .byte vs) (h0 : ¬ j < 0) (hj : j.toNatClampNeg = i) (hi : i < vs.length) (hw : Value.int (nar .byte v) = w) (ge : n0 ≤ a) (hd : decode bytes pc = .ok (.bastore, 1)) (hpc : pc + 1 = pc') (go : ∀ h', Keep h h' [a] → Ary Z h' a .byte (vs.set i w) → Go B n0 Q h' k n pc' L st) : Go B n0 Q h k n pc L (.int v :: .int j :: .ref a :: st) := fun T locs X N eT => by
  obtain ⟨c, A, rfl, hl⟩ := F
  have hi' := hi
  rw [Array.length_toList] at hi'
  obtain ⟨T', h', X', e', W, f⟩ := stB X C.2.2.1 C.2.2.2.2.1 eT A (in_b h0 hj hi') (g := mkF B.m pc L (.int v :: .int j :: .ref a :: st)) rfl rfl (hb C.2.2.2.1 hd)
  rw [hj, hw] at W
  obtain ⟨t, o, q, r⟩ := go h' (Keep.of_wr W) ⟨_, A.same W, set_list c i w, by rw [List.length_set]; exact hl⟩ T' _ X' (Fr.snoc X' N ge) e'
  subst hpc
  exact ⟨t, o, f t q, r⟩
theorem g_bastoreZ (C : Ctx B l rm bytes own nm maxL ret Z) {a : Addr} {vs : List Value} {j : Int32} {i : Nat} {v : Int32} {w : Value} (F : Ary Z h a .boolean vs) (h0 : ¬ j < 0) (hj : j.toNatClampNeg = i) (hi : i < vs.length) (hw : Value.int (nar .boolean v) = w) (ge : n0 ≤ a) (hd : decode bytes pc = .ok (.bastore, 1)) (hpc : pc + 1 = pc') (go : ∀ h', Keep h h' [a] → Ary Z h' a .boolean (vs.set i w) → Go B n0 Q h' k n pc' L st) : Go B n0 Q h k n pc L (.int v :: .int j :: .ref a :: st) := fun T locs X N eT => by
  obtain ⟨c, A, rfl, hl⟩ := F
  have hi' := hi
  rw [Array.length_toList] at hi'
  obtain ⟨T', h', X', e', W, f⟩ := stZ X C.2.2.1 C.2.2.2.2.1 eT A (in_b h0 hj hi') (g := mkF B.m pc L (.int v :: .int j :: .ref a :: st)) rfl rfl (hb C.2.2.2.1 hd)
  rw [hj, hw] at W
  obtain ⟨t, o, q, r⟩ := go h' (Keep.of_wr W) ⟨_, A.same W, set_list c i w, by rw [List.length_set]; exact hl⟩ T' _ X' (Fr.snoc X' N ge) e'
  subst hpc
  exact ⟨t, o, f t q, r⟩
theorem g_aastore (C : Ctx B l rm bytes own nm maxL ret Z) {a y : Addr} {K : String} {vs : List Value} {j : Int32} {i : Nat} (F : AryR Z h a K vs) (I : Ins Z h y K true) (h0 : ¬ j < 0) (hj : j.toNatClampNeg = i) (hi : i < vs.length) (ge : n0 ≤ a) (hd : decode bytes pc = .ok (.aastore, 1)) (hpc : pc + 1 = pc') (go : ∀ h', Keep h h' [a] → AryR Z h' a K (vs.set i (.ref y)) → Go B n0 Q h' k n pc' L st) : Go B n0 Q h k n pc L (.ref y :: .int j :: .ref a :: st) := fun T locs X N eT => by
  obtain ⟨c, A, O, rfl, hl⟩ := F
  have hi' := hi
  rw [Array.length_toList] at hi'
  obtain ⟨T', h', X', e', W, f⟩ := stR X C.2.2.1 C.2.2.2.2.1 eT A (in_b h0 hj hi') rfl (Sto.of A O I) (g := mkF B.m pc L (.ref y :: .int j :: .ref a :: st)) rfl rfl (hb C.2.2.2.1 hd)
  rw [hj] at W
  obtain ⟨t, o, q, r⟩ := go h' (Keep.of_wr W) ⟨_, A.same W, O, set_list c i _, by rw [List.length_set]; exact hl⟩ T' _ X' (Fr.snoc X' N ge) e'
  subst hpc
  exact ⟨t, o, f t q, r⟩
theorem g_newarray (C : Ctx B l rm bytes own nm maxL ret Z) {aty : ArrayType} {z : Int32} {cap : Nat} {ty : FieldType} (w : (Jvm.Cond.arrayClass (newarray.typeOf aty)).before a0 Z = true) (hty : newarray.typeOf aty = ty) (hz : ¬ z < 0) (hcap : z.toNatClampNeg = cap) (hcb : cap * 8 ≤ 536870912) (hc : k + 1 ≤ rm.cells) (hl : n + cap ≤ rm.slots) (hd : decode bytes pc = .ok (.newarray aty, 2)) (hpc : pc + 2 = pc') (go : ∀ h' a, a = h.size → Ext h h' → Ary Z h' a ty (List.replicate cap (defaultValue ty)) → Go B n0 Q h' (k + 1) (n + cap) pc' L (.ref a :: st)) : Go B n0 Q h k n pc L (.int z :: st) := fun T locs X N eT => by
  subst hty
  obtain ⟨T', h', cA, X', e', E, A, f⟩ := newP X C.2.2.1 C.2.2.2.2.1 w eT (g := mkF B.m pc L (.int z :: st)) rfl (hb C.2.2.2.1 hd) rfl hz (cap := cap) (Nat.le_of_eq hcap) hcb (by rw [C.2.1]; exact hc) (by rw [C.2.1]; exact hl)
  obtain ⟨t, o, q, r⟩ := go h' _ rfl E ⟨_, A, by rw [← hcap]; simp [newA], by rw [List.length_replicate]; omega⟩ T' _ X' N e'
  subst hpc
  exact ⟨t, o, f t q, r⟩
theorem g_newarrayUpTo (C : Ctx B l rm bytes own nm maxL ret Z) {aty : ArrayType} {z : Int32} {len cap : Nat} {ty : FieldType} (w : (Jvm.Cond.arrayClass (newarray.typeOf aty)).before a0 Z = true) (hty : newarray.typeOf aty = ty) (hz : ¬ z < 0) (hlen : z.toNatClampNeg = len) (hcap : len ≤ cap) (hcb : cap * 8 ≤ 536870912) (hc : k + 1 ≤ rm.cells) (hl : n + cap ≤ rm.slots) (hd : decode bytes pc = .ok (.newarray aty, 2)) (hpc : pc + 2 = pc') (go : ∀ h' a, a = h.size → Ext h h' → Ary Z h' a ty (List.replicate len (defaultValue ty)) → Go B n0 Q h' (k + 1) (n + cap) pc' L (.ref a :: st)) : Go B n0 Q h k n pc L (.int z :: st) := fun T locs X N eT => by
  subst hty
  obtain ⟨T', h', cA, X', e', E, A, f⟩ := newP X C.2.2.1 C.2.2.2.2.1 w eT (g := mkF B.m pc L (.int z :: st)) rfl (hb C.2.2.2.1 hd) rfl hz (cap := cap) (by rw [hlen]; exact hcap) hcb (by rw [C.2.1]; exact hc) (by rw [C.2.1]; exact hl)
  obtain ⟨t, o, q, r⟩ := go h' _ rfl E ⟨_, A, by rw [← hlen]; simp [newA], by rw [List.length_replicate]; omega⟩ T' _ X' N e'
  subst hpc
  exact ⟨t, o, f t q, r⟩
theorem g_anewarray (C : Ctx B l rm bytes own nm maxL ret Z) {i : Nat} {K : String} {z : Int32} {cap : Nat} (w : (Jvm.Cond.classLink own i K).before a0 Z = true) (w2 : (Jvm.Cond.arrayOver (.object K)).before a0 Z = true) (hz : ¬ z < 0) (hcap : z.toNatClampNeg = cap) (hcb : cap * 8 ≤ 536870912) (hc : k + 1 ≤ rm.cells) (hl : n + cap ≤ rm.slots) (hd : decode bytes pc = .ok (.anewarray i, 3)) (hpc : pc + 3 = pc') (go : ∀ h' a, a = h.size → Ext h h' → AryR Z h' a K (List.replicate cap .null) → Go B n0 Q h' (k + 1) (n + cap) pc' L (.ref a :: st)) : Go B n0 Q h k n pc L (.int z :: st) := fun T locs X N eT => by
  obtain ⟨T', h', cA, X', e', E, A, O, f⟩ := newR X C.2.2.1 C.2.2.2.2.1 C.2.2.2.2.2.1 w w2 eT (g := mkF B.m pc L (.int z :: st)) rfl (hb C.2.2.2.1 hd) rfl hz (cap := cap) (Nat.le_of_eq hcap) hcb (by rw [C.2.1]; exact hc) (by rw [C.2.1]; exact hl)
  obtain ⟨t, o, q, r⟩ := go h' _ rfl E ⟨_, A, O, by rw [← hcap]; simp [newA, defaultValue], by rw [List.length_replicate]; omega⟩ T' _ X' N e'
  subst hpc
  exact ⟨t, o, f t q, r⟩
end ArraySteps
end Jvm.OwnKit
namespace Jvm.OwnKit
open Jvm Jvm.ClassFile Sem Op Lib Jvm.Stand Jvm.Free Jvm.LawKit Jvm.RoadKit
section More
variable {B : Bod} {l : Launch} {rm : Room} {bytes : ByteArray} {own nm : String} {maxL : Nat} {ret : Option FieldType} {Z : State} {n0 : Nat} {Q : Option Value → Heap → Prop} {h h' : Heap} {k n pc pc' : Nat} {L L' : Array Slot} {st st' : List Value} {a0 : Array Value} {a b : Addr} {ty : FieldType} {vs vd : List Value}
theorem g_sipush (C : Ctx B l rm bytes own nm maxL ret Z) {z : Int} {v : Int32} (hd : decode bytes pc = .ok (.sipush z, 3)) (hv : (Int16.ofInt z).toInt32 = v) (hpc : pc + 3 = pc') (go : Go B n0 Q h k n pc' L (.int v :: st)) : Go B n0 Q h k n pc L st := go.step fun T locs X eT t q => Jvm.Free.XS.sipush X.here C.2.2.1 rfl (hb C.2.2.2.1 hd) (by subst hpc hv; exact q)
theorem g_instanceof_null (C : Ctx B l rm bytes own nm maxL ret Z) {i : Nat} (hd : decode bytes pc = .ok (.instanceof i, 3)) (hpc : pc + 3 = pc') (go : Go B n0 Q h k n pc' L (.int 0 :: st)) : Go B n0 Q h k n pc L (.null :: st) := go.step fun T locs X eT t q => X.instanceofNull C.2.2.1 (g := mkF B.m pc L (.null :: st)) rfl rfl (hb C.2.2.2.1 hd) t (by subst hpc; exact q)
theorem g_checkcast_null (C : Ctx B l rm bytes own nm maxL ret Z) {i : Nat} (hd : decode bytes pc = .ok (.checkcast i, 3)) (hpc : pc + 3 = pc') (go : Go B n0 Q h k n pc' L (.null :: st)) : Go B n0 Q h k n pc L (.null :: st) := go.step fun T locs X eT t q => X.checkcastNull C.2.2.1 (g := mkF B.m pc L (.null :: st)) rfl rfl (hb C.2.2.2.1 hd) t (by subst hpc; exact q)
theorem g_private (C : Ctx B l rm bytes own nm maxL ret Z) {i nn : Nat} {y : MethodName} {b' : ByteArray} {mx : Nat} {rt : Option FieldType} {rm' : Room} {as' : Array Value} {Q' : Option Value → Heap → Prop} {K' : String} (w1 : (Jvm.Cond.methodLink own i y).before a0 Z = true) (w4 : (Jvm.Cond.instanceMethod y).before a0 Z = true) (wp : (Jvm.Cond.privateMethod y).before a0 Z = true) (wi : (Jvm.Cond.instantiable y.cls nn).before a0 Z = true) (wz : (Jvm.Cond.initialized y.cls).before a0 Z = true) (wc : (Jvm.Cond.code y b' mx rt).before a0 Z = true) (hy : y.cls ≠ "java/lang/invoke/MethodHandle" ∧ y.cls ≠ "java/lang/invoke/VarHandle") (E : Exa Z h a K') (K : Met1 l Z y b' mx rt rm' n0 as' h Q') (argsL : List Value) {stk : List Value} (hst : stk = argsL.reverse ++ .ref a :: st) (has : as' = (Value.ref a :: argsL).toArray) {ps : List FieldType} {r' : Option FieldType} (pd : parseMethodDescriptor y.desc = some ⟨ps, r'⟩) (hlen : argsL.length = ps.length) (hsz : L.size = maxL) (hf : rm'.frames + 1 ≤ rm.frames) {W : Nat} (hW : (st.map fun v => v.category).sum ≤ W) (hlo : W + (mx + 11) + rm'.locals ≤ rm.locals) (hc : k + rm'.cells ≤ rm.cells) (hs : n + rm'.slots ≤ rm.slots) (hd : decode bytes pc = .ok (.invokevirtual i, 3)) (hpc : pc + 3 = pc') (go : ∀ v h', Q' v h' → Go B n0 Q h' (k + rm'.cells) (n + rm'.slots) pc' L (v.toList ++ st)) : Go B n0 Q h k n pc L stk := fun T locs X N eT => by
  subst hst has
  obtain ⟨cq, kq, qa, qb, cellq, qc, qd, qe⟩ := isOf C.2.2.2.2.1 eT E
  obtain ⟨c9, k9, u1, u2, u3, u4, -⟩ := Cond.instantiable_spec (mvT (args := B.args) C.2.2.2.2.1 wi)
  have hni : k9.isInterface = false := by simp only [Bool.or_eq_false_iff] at u4; exact u4.1
  have hpr := Cond.privateMethod_at (mvP C.2.2.2.2.1 wp (args := B.args))
  have hsel := selects_self_of_private (args := B.args) u1 u2 hni hpr (mvT C.2.2.2.2.1 w4) hy
  obtain ⟨v, _, ⟨T', L1, k1, n1⟩, -, X', ⟨L2, ⟨N', hq⟩, l1, l2, l3⟩, f⟩ := X.privateBack C.2.2.1 (y := y) C.2.2.2.2.2.1 (mvT C.2.2.2.2.1 w1) (mvT C.2.2.2.2.1 w4) hsel hpr (mvT C.2.2.2.2.1 wc) hy (backOf (W := W) (Q := fun v h L => Fr n0 L ∧ Q' v h) (C.1 ▸ K []) C.2.2.2.2.1 wc wz (by rw [C.2.1]; exact hf) (by rw [C.2.1]; exact hlo)) (g := mkF B.m pc L (argsL.reverse ++ .ref a :: st)) rfl (by rw [C.2.2.2.2.2.2.2.1]; exact hsz) (Steps.refl _) (a := a) qc (fun z e => by rw [e] at qe; cases qe) (argsL := argsL) (rest := st) (lenOf pd hlen) rfl (by show 2 * 0 + _ ≤ _; omega) (hb C.2.2.2.1 hd) (fun _ _ => ⟨rfl, eT, by rw [C.2.1]; exact hc, by rw [C.2.1]; exact hs⟩)
  dsimp only [Pt.U, Pt.locs, Pt.cells, Pt.slots] at X' l1 l2 l3 f hq
  subst l1 l2 l3
  obtain ⟨t, o, q, r⟩ := go v _ hq T' _ X' (Fr.app N N') rfl
  subst hpc
  exact ⟨t, o, f.trans q, r⟩
theorem nat32 {m : Nat} (q : m < 2 ^ 31) : m.toInt32.toNatClampNeg = m := Int32.toNatClampNeg_ofNat_of_lt q
theorem nneg32 {m : Nat} (q : m < 2 ^ 31) : ¬ m.toInt32 < 0 := by
  have e := len_toInt q
  rw [Int32.lt_iff_toInt_lt, e]
  show ¬ (m : Int) < 0
  omega
theorem Ary.arv (F : Ary Z h a ty vs) (hf : ∀ v ∈ vs, fits ty v = true) (dv : Value) : ∃ kk, Arv Z h a kk ty vs.length.toInt32 vs dv := by
  obtain ⟨c, A, rfl, hl⟩ := F
  have hs : c.slots.toList.length = c.slots.size := Array.length_toList
  refine ⟨c.cls, c, A, rfl, ?_, nneg32 hl, fun i hi => ?_, fun i hi => ?_⟩
  · rw [nat32 hl, hs]
  · rw [List.getD_eq_getElem?_getD, Array.getElem?_toList, Array.getElem?_eq_getElem hi]; rfl
  · apply hf
    rw [List.getD_eq_getElem?_getD, Array.getElem?_toList, Array.getElem?_eq_getElem hi]
    exact Array.mem_toList_iff.mpr (Array.getElem_mem hi)
theorem Arv.ary {kk : ClassId} {z : Int32} {dv : Value} (F : Arv Z h a kk ty z vs dv) (hz : z.toNatClampNeg = vs.length) (hl : vs.length < 2 ^ 31) : Ary Z h a ty vs := by
  obtain ⟨c, A, -, S, -, H, -⟩ := F
  refine ⟨c, A, ?_, hl⟩
  apply List.ext_getElem?
  intro i
  by_cases hi : i < c.slots.size
  · rw [Array.getElem?_toList, H i hi, List.getD_eq_getElem?_getD, List.getElem?_eq_getElem (by omega)]; rfl
  · rw [List.getElem?_eq_none (by rw [Array.length_toList]; omega), List.getElem?_eq_none (by omega)]
theorem g_arraycopy (C : Ctx B l rm bytes own nm maxL ret Z) {i : Nat} {sp dp nn : Int32} {spN dpN nnN : Nat} (w1 : (Jvm.Cond.methodLink own i Jvm.Stand.acN).before a0 Z = true) (w2 : (Jvm.Cond.native Jvm.Stand.acN).before a0 Z = true) (w3 : (Jvm.Cond.static Jvm.Stand.acN).before a0 Z = true) (w4 : (Jvm.Cond.initialized "java/lang/System").before a0 Z = true) (F : Ary Z h a ty vs) (G : Ary Z h b ty vd) (hp : refKind ty = false) (hfa : ∀ v ∈ vs, fits ty v = true) (hfb : ∀ v ∈ vd, fits ty v = true) (h1 : ¬ sp < 0) (h2 : ¬ dp < 0) (h3 : ¬ nn < 0) (e1 : sp.toNatClampNeg = spN) (e2 : dp.toNatClampNeg = dpN) (e3 : nn.toNatClampNeg = nnN) (h4 : spN + nnN ≤ vs.length) (h5 : dpN + nnN ≤ vd.length) {out : List Value} (ho : vd.take dpN ++ (List.range nnN).map (fun j => vs.getD (spN + j) .null) ++ vd.drop (dpN + nnN) = out) (ge : n0 ≤ b) (hsz : L.size = maxL) (hf : 1 ≤ rm.frames) {W : Nat} (hW : (st.map fun v => v.category).sum ≤ W) (hlo : W + (nativeFrameWords "java/lang/System" "arraycopy" 5 + 11) ≤ rm.locals) (hd : decode bytes pc = .ok (.invokestatic i, 3)) (hpc : pc + 3 = pc') (go : ∀ h', Keep h h' [b] → Ary Z h' b ty out → Go B n0 Q h' k n pc' L st) : Go B n0 Q h k n pc L (.int nn :: .int dp :: .ref b :: .int sp :: .ref a :: st) := fun T locs X N eT => by
  obtain ⟨ka, A⟩ := F.arv hfa .null
  obtain ⟨kb, A'⟩ := G.arv hfb .null
  obtain ⟨-, -, -, hla⟩ := F
  have hlb : vd.length < 2 ^ 31 := by obtain ⟨-, -, -, q⟩ := G; exact q
  subst e1 e2 e3
  obtain ⟨T', h', L', X', e', N', Kp, R', f⟩ := cpA X C.2.2.1 C.2.2.2.2.1 C.2.2.2.2.2.1 w1 w2 w3 w4 eT A A' (us := (List.range nn.toNatClampNeg).map fun j => vs.getD (sp.toNatClampNeg + j) .null) (Or.inl ⟨rfl, hp⟩) h1 h2 h3 (by rw [nat32 hla]; exact h4) (by rw [nat32 hlb]; exact h5) rfl h5 N ge (g := mkF B.m pc L (.int nn :: .int dp :: .ref b :: .int sp :: .ref a :: st)) rfl (by rw [C.2.2.2.2.2.2.2.1]; exact hsz) rfl (hb C.2.2.2.1 hd) (by rw [C.2.1]; exact hf) (W := W) (by show 2 * 0 + _ ≤ _; omega) (by rw [C.2.1]; exact hlo)
  have ol : (vd.take dp.toNatClampNeg ++ (List.range nn.toNatClampNeg).map (fun j => vs.getD (sp.toNatClampNeg + j) .null) ++ vd.drop (dp.toNatClampNeg + nn.toNatClampNeg)).length = vd.length := by simp; omega
  obtain ⟨t, o, q, r⟩ := go h' Kp (ho ▸ Arv.ary R' (by rw [nat32 hlb, ol]) (by rw [ol]; exact hlb)) T' _ X' N' e'
  subst hpc
  exact ⟨t, o, f t q, r⟩
theorem g_newarrayE (C : Ctx B l rm bytes own nm maxL ret Z) {aty : ArrayType} {z : Int32} {cap : Nat} {ty : FieldType} {ad : String} (w : (Jvm.Cond.arrayClass (newarray.typeOf aty)).before a0 Z = true) (hty : newarray.typeOf aty = ty) (had : "[" ++ (newarray.typeOf aty).toString = ad) (hz : ¬ z < 0) (hcap : z.toNatClampNeg = cap) (hcb : cap * 8 ≤ 536870912) (hc : k + 1 ≤ rm.cells) (hl : n + cap ≤ rm.slots) (hd : decode bytes pc = .ok (.newarray aty, 2)) (hpc : pc + 2 = pc') (go : ∀ h' a, a = h.size → Ext h h' → Ary Z h' a ty (List.replicate cap (defaultValue ty)) → Exa Z h' a ad → Go B n0 Q h' (k + 1) (n + cap) pc' L (.ref a :: st)) : Go B n0 Q h k n pc L (.int z :: st) := fun T locs X N eT => by
  subst hty
  obtain ⟨T', h', cA, X', e', E, A, Ex, f⟩ := newPE X C.2.2.1 C.2.2.2.2.1 w eT (g := mkF B.m pc L (.int z :: st)) rfl (hb C.2.2.2.1 hd) rfl hz (cap := cap) (Nat.le_of_eq hcap) hcb (by rw [C.2.1]; exact hc) (by rw [C.2.1]; exact hl) had
  obtain ⟨t, o, q, r⟩ := go h' _ rfl E ⟨_, A, by rw [← hcap]; simp [newA], by rw [List.length_replicate]; omega⟩ Ex T' _ X' N e'
  subst hpc
  exact ⟨t, o, f t q, r⟩
theorem g_clone (C : Ctx B l rm bytes own nm maxL ret Z) {i cap : Nat} {ad : String} (w1 : (Jvm.Cond.methodLink own i ⟨ad, "clone", "()Ljava/lang/Object;"⟩).before a0 Z = true) (w2 : (Jvm.Cond.sameMethod ad "java/lang/Object" "clone" "()Ljava/lang/Object;").before a0 Z = true) (w3 : (Jvm.Cond.native ⟨"java/lang/Object", "clone", "()Ljava/lang/Object;"⟩).before a0 Z = true)
    (w4 : (Jvm.Cond.instanceMethod ⟨"java/lang/Object", "clone", "()Ljava/lang/Object;"⟩).before a0 Z = true) (w5 : (Jvm.Cond.selects ad ⟨ad, "clone", "()Ljava/lang/Object;"⟩ ⟨"java/lang/Object", "clone", "()Ljava/lang/Object;"⟩).before a0 Z = true) (w6 : (Jvm.Cond.castable ad "java/lang/Cloneable").before a0 Z = true)
    (F : Ary Z h a ty vs) (E : Exa Z h a ad) (hfa : ∀ v ∈ vs, fits ty v = true) (hsz : L.size = maxL) (hf : 1 ≤ rm.frames) {W : Nat} (hW : (st.map fun v => v.category).sum ≤ W) (hlo : W + 14 ≤ rm.locals) (hcap : vs.length ≤ cap) (hc : k + 1 ≤ rm.cells) (hl : n + cap ≤ rm.slots) (hd : decode bytes pc = .ok (.invokevirtual i, 3)) (hpc : pc + 3 = pc') (go : ∀ h' b, b = h.size → Ext h h' → Ary Z h' b ty vs → Exa Z h' b ad → Go B n0 Q h' (k + 1) (n + cap) pc' L (.ref b :: st)) : Go B n0 Q h k n pc L (.ref a :: st) := fun T locs X N eT => by
  obtain ⟨c, A, rfl, hlv⟩ := F
  have FC : FitC Z c := fitC_of A fun j hj v hv => hfa v (by rw [Array.mem_toList_iff]; exact Array.mem_of_getElem? hv)
  obtain ⟨T', h', X', e', Ex, A', E', f⟩ := cloneA X C.2.2.1 C.2.2.2.2.1 C.2.2.2.2.2.1 w1 w2 w3 w4 w5 w6 eT A E FC (g := mkF B.m pc L (.ref a :: st)) rfl (by rw [C.2.2.2.2.2.2.2.1]; exact hsz) rfl (hb C.2.2.2.1 hd) (by rw [C.2.1]; exact hf) (W := W) (cap := cap) (by show 2 * 0 + _ ≤ _; omega) (by rw [C.2.1]; exact hlo) (by rw [← Array.length_toList]; exact hcap) (by rw [C.2.1]; exact hc) (by rw [C.2.1]; exact hl)
  obtain ⟨t, o, q, r⟩ := go h' _ rfl Ex ⟨_, A', rfl, hlv⟩ E' T' _ X' N e'
  subst hpc
  exact ⟨t, o, f t q, r⟩
end More
end Jvm.OwnKit
namespace Jvm.OwnKit
open Jvm Jvm.ClassFile Sem Op Lib Jvm.Stand Jvm.Free Jvm.LawKit Jvm.RoadKit
section Third
variable {B : Bod} {l : Launch} {rm : Room} {bytes : ByteArray} {own nm : String} {maxL : Nat} {ret : Option FieldType} {Z : State} {n0 : Nat} {Q : Option Value → Heap → Prop} {h h' : Heap} {k n pc pc' : Nat} {L L' : Array Slot} {st st' : List Value} {a0 : Array Value} {a b : Addr} {ty : FieldType} {vs vd : List Value}
theorem own_pop2 {tb : Tables} [Ours tb] {e : Env} {below : List Frame} {T target : State} {m : MethodId} {c : Code} {g : JFrame} (h : At T m c below) (hx : tb.exec = Jvm.exec) (hg : g.method = m) {x : Int64} {rest : List Value} (hd : decode c.code g.pc = .ok (.pop2, 1)) (hs : g.stack = .long x :: rest)
    (hr : Steps tb e below (T.setTop { g with pc := g.pc + 1, stack := rest }) target) : Steps tb e below (T.setTop g) target := by
  subst hg
  jvm_step h [h.top, hx, hd, hs, Value.category]
  exact hr
theorem g_pop2L (C : Ctx B l rm bytes own nm maxL ret Z) {x : Int64} (hd : decode bytes pc = .ok (.pop2, 1)) (hpc : pc + 1 = pc') (go : Go B n0 Q h k n pc' L st) : Go B n0 Q h k n pc L (.long x :: st) := go.step fun T locs X eT t q => own_pop2 X.here C.2.2.1 rfl (hb C.2.2.2.1 hd) rfl (by subst hpc; exact q)
theorem g_interface (C : Ctx B l rm bytes own nm maxL ret Z) {i cnt : Nat} {y y0 : MethodName} {b' : ByteArray} {mx : Nat} {rt : Option FieldType} {rm' : Room} {as' : Array Value} {Q' : Option Value → Heap → Prop} {K' : String} (w1 : (Jvm.Cond.methodLink own i y0).before a0 Z = true) (w2 : (Jvm.Cond.declares y0).before a0 Z = true) (wf : (Jvm.Cond.interfaceMethod y0.cls y0.cls y0.name y0.desc).before a0 Z = true) (hwf : (Jvm.Cond.interfaceMethod y0.cls y0.cls y0.name y0.desc).faceAtom = true) (w3 : (Jvm.Cond.selects K' y0 y).before a0 Z = true) (w4 : (Jvm.Cond.instanceMethod y).before a0 Z = true) (wp : (Jvm.Cond.publicMethod y).before a0 Z = true) (wu : (Jvm.Cond.unhidden K' y0.name y0.desc).before a0 Z = true) (wk : (Jvm.Cond.castable K' y0.cls).before a0 Z = true) (wz : (Jvm.Cond.initialized y.cls).before a0 Z = true) (wc : (Jvm.Cond.code y b' mx rt).before a0 Z = true) (hy : y0.cls ≠ "java/lang/invoke/MethodHandle" ∧ y0.cls ≠ "java/lang/invoke/VarHandle") (E : Exa Z h a K') (K : Met1 l Z y b' mx rt rm' n0 as' h Q') (argsL : List Value) {stk : List Value} (hst : stk = argsL.reverse ++ .ref a :: st) (has : as' = (Value.ref a :: argsL).toArray) {ps : List FieldType} {r' : Option FieldType} (pd : parseMethodDescriptor y0.desc = some ⟨ps, r'⟩) (hlen : argsL.length = ps.length) (hsz : L.size = maxL) (hf : rm'.frames + 1 ≤ rm.frames) {W : Nat} (hW : (st.map fun v => v.category).sum ≤ W) (hlo : W + (mx + 11) + rm'.locals ≤ rm.locals) (hc : k + rm'.cells ≤ rm.cells) (hs : n + rm'.slots ≤ rm.slots) (hd : decode bytes pc = .ok (.invokeinterface i cnt, 5)) (hpc : pc + 5 = pc') (go : ∀ v h', Q' v h' → Go B n0 Q h' (k + rm'.cells) (n + rm'.slots) pc' L (v.toList ++ st)) : Go B n0 Q h k n pc L stk := fun T locs X N eT => by
  subst hst has
  obtain ⟨cq, kq, qa, qb, qc⟩ := isOf C.2.2.2.2.1 eT E
  obtain ⟨v, _, ⟨T', L1, k1, n1⟩, -, X', ⟨L2, ⟨N', hq⟩, l1, l2, l3⟩, f⟩ := X.interfaceBack C.2.2.1 (xi := y0) (y := y) C.2.2.2.2.2.1 (mvT C.2.2.2.2.1 w1) (mvT C.2.2.2.2.1 w2) (mvT C.2.2.2.2.1 wf (by simp [Cond.onTables, Cond.keepsFace, Cond.keeps, Cond.steady, hwf])) (mvT C.2.2.2.2.1 w3) (mvT C.2.2.2.2.1 w4) (mvT C.2.2.2.2.1 wp) (mvT C.2.2.2.2.1 wu) (mvT C.2.2.2.2.1 wk) hy (backOf (W := W) (Q := fun v h L => Fr n0 L ∧ Q' v h) (C.1 ▸ K []) C.2.2.2.2.1 wc wz (by rw [C.2.1]; exact hf) (by rw [C.2.1]; exact hlo)) qa qb qc (g := mkF B.m pc L (argsL.reverse ++ .ref a :: st)) rfl (by rw [C.2.2.2.2.2.2.2.1]; exact hsz) (Steps.refl _) (argsL := argsL) (rest := st) (lenOf pd hlen) rfl (by show 2 * 0 + _ ≤ _; omega) (hb C.2.2.2.1 hd) (fun _ _ => ⟨rfl, eT, by rw [C.2.1]; exact hc, by rw [C.2.1]; exact hs⟩)
  dsimp only [Pt.U, Pt.locs, Pt.cells, Pt.slots] at X' l1 l2 l3 f hq
  subst l1 l2 l3
  obtain ⟨t, o, q, r⟩ := go v _ hq T' _ X' (Fr.app N N') rfl
  subst hpc
  exact ⟨t, o, f.trans q, r⟩
theorem own_mvRef {Z T : State} {args : Array Value} {own : String} {i : Nat} {y : MethodName} {mq : MethodId} (hZ : Z.Warmed39 T.vm) (hn : Z.methodNamed? y = some mq) (hy : y.cls ≠ "java/lang/invoke/MethodHandle" ∧ y.cls ≠ "java/lang/invoke/VarHandle") (w : (Jvm.Cond.methodRef own i y).before a0 Z = true) : (Jvm.Cond.methodRef own i y).before args T = true := by
  have h1 : (Jvm.Cond.methodRef own i y).before a0 (Z.setVm T.vm) = true := Cond.methodRef_warmed39 hZ hn hy w
  exact h1
/-- a constructor by an entry that has been used before -/
theorem g_specialRef (C : Ctx B l rm bytes own nm maxL ret Z) {i : Nat} {y : MethodName} {b' : ByteArray} {mx : Nat} {rm' : Room} {as' : Array Value} {Q' : Option Value → Heap → Prop} (hy1 : y.name = "<init>") (w1 : (Jvm.Cond.methodRef own i y).before a0 Z = true) (w2 : (Jvm.Cond.instanceMethod y).before a0 Z = true) (wz : (Jvm.Cond.initialized y.cls).before a0 Z = true) (wc : (Jvm.Cond.code y b' mx none).before a0 Z = true) (hy : y.cls ≠ "java/lang/invoke/MethodHandle" ∧ y.cls ≠ "java/lang/invoke/VarHandle") (K : Met1 l Z y b' mx none rm' n0 as' h Q') (argsL : List Value) {stk : List Value} (hst : stk = argsL.reverse ++ .ref a :: st) (has : as' = (Value.ref a :: argsL).toArray) {ps : List FieldType} {r' : Option FieldType} (pd : parseMethodDescriptor y.desc = some ⟨ps, r'⟩) (hlen : argsL.length = ps.length) (hsz : L.size = maxL) (hf : rm'.frames + 1 ≤ rm.frames) {W : Nat} (hW : (st.map fun v => v.category).sum ≤ W) (hlo : W + (mx + 11) + rm'.locals ≤ rm.locals) (hc : k + rm'.cells ≤ rm.cells) (hs : n + rm'.slots ≤ rm.slots) (hd : decode bytes pc = .ok (.invokespecial i, 3)) (hpc : pc + 3 = pc') (go : ∀ v h', Q' v h' → Go B n0 Q h' (k + rm'.cells) (n + rm'.slots) pc' L (v.toList ++ st)) : Go B n0 Q h k n pc L stk := fun T locs X N eT => by
  subst hst has
  have hZT : Z.Warmed39 T.vm := wtrans C.2.2.2.2.1 X.warmed
  obtain ⟨mz, methZ, hnZ, -⟩ := Cond.instanceMethod_spec w2
  have hownT : T.vm.findClass own = some B.m.cls := by rw [X.warmed.alike.findClass]; exact C.2.2.2.2.2.1
  obtain ⟨m1, c1, hfound, hready, hcls, hnames⟩ := Cond.methodRef_named B.e hownT (own_mvRef (args := B.args) hZT hnZ hy w1)
  obtain ⟨mq, methM, hnamed, hmethM, hstM, habM⟩ := Cond.instanceMethod_spec (mv (args := B.args) hZT w2)
  obtain rfl : mq = m1 := Option.some.inj ((State.methodFound?_of_named hnamed hy).symm.trans hfound)
  obtain rfl : mq.cls = c1 := Option.some.inj ((findClass_of_methodNamed hnamed).symm.trans hcls)
  obtain ⟨kP, hkP, -⟩ := className_of_methodNamed hnamed
  obtain ⟨hnm1, hds1⟩ := name_of_methodNamed hnamed hmethM
  obtain ⟨methM', cM, hmethM', -, -, -, -, -, -, hsigM⟩ := Cond.code_spec hnamed (mv (args := B.args) hZT wc)
  cases hmethM.symm.trans hmethM'
  have hlook : lookupSpecial T.vm mq.cls "<init>" methM.desc = .method mq := by
    have q := lookupSpecial_of_named hnamed hmethM hstM
    rw [hy1] at q; rw [hds1]; exact q
  have hl : argsL.length = methM.sig.parameters.length := lenOf pd hlen _ hsigM
  have hdc : decode B.c.code pc = .ok (.invokespecial i, 3) := hb C.2.2.2.1 hd
  have step : ∀ target, (∀ acts, Steps B.p.tables B.e B.below (doInvoke B.e (T.setTop (mkF B.m pc L st)) acts mq (.ref a :: argsL).toArray).1 target) → Steps B.p.tables B.e B.below (T.setTop (mkF B.m pc L (argsL.reverse ++ .ref a :: st))) target := fun target hr => by
    jvm_step X.here [C.2.2.1, hdc, invokespecial.wp_init (e := B.e) (s := T) (f := mkF B.m pc L (argsL.reverse ++ .ref a :: st)) (k := kP) (meth := methM) (m := mq) (a := a) (args := argsL) (rest := st) X.here.top hnames hready hkP hmethM (hnm1.trans hy1) hstM habM hlook hl rfl]
    exact hr
  have hK := backOf (R := B.R) (l := B.l) (s := B.s) (p := B.p) (e := B.e) (below := B.below) (args := B.args) (len := 3) (W := W) (Q := fun v h L => Fr n0 L ∧ Q' v h) (C.1 ▸ K []) C.2.2.2.2.1 wc wz (by rw [C.2.1]; exact hf) (by rw [C.2.1]; exact hlo)
  obtain ⟨v, ⟨T', L1, k1, n1⟩, X', ⟨L2, ⟨N', hq⟩, l1, l2, l3⟩, f⟩ := hK B.m B.meth B.c ⟨T, locs, k, n⟩ (mkF B.m pc L st) (.invokespecial i) mq (.ref a :: argsL).toArray X rfl (by rw [C.2.2.2.2.2.2.2.1]; exact hsz) hdc (by show 2 * 0 + (st.map fun v => v.category).sum ≤ W; omega) hnamed ⟨rfl, eT, by rw [C.2.1]; exact hc, by rw [C.2.1]; exact hs⟩
  dsimp only [Pt.U, Pt.locs, Pt.cells, Pt.slots] at X' l1 l2 l3 f hq
  subst l1 l2 l3
  obtain ⟨t, o, q, r⟩ := go v _ hq T' _ X' (Fr.app N N') rfl
  subst hpc
  exact ⟨t, o, (step _ fun acts => by rw [doInvoke_state]; exact Steps.refl _).trans (f.trans q), r⟩
end Third
end Jvm.OwnKit
namespace Jvm.OwnKit
open Jvm Jvm.ClassFile Sem Op Lib Jvm.Stand Jvm.Free Jvm.LawKit Jvm.RoadKit
/-! roads that may load a String constant: the wide end, and the body over the start with the tables at hand -/
section Wide
variable {B : Bod} {l : Launch} {rm : Room} {bytes : ByteArray} {own nm : String} {maxL : Nat} {ret : Option FieldType} {Z : State} {n0 : Nat} {Q : Option Value → Heap → Prop} {h : Heap} {k n pc pc' : Nat} {L L' : Array Slot} {st st' : List Value} {a0 : Array Value}
def Met1W (l : Launch) (Z : State) (y : MethodName) (bytes : ByteArray) (maxL : Nat) (ret : Option FieldType) (rm : Room) (n0 : Nat) (as' : Array Value) (h0 : Heap) (Q : Option Value → Heap → Prop) : Prop :=
  ∀ ws : List Jvm.Cond, MetFree l y (head1 (Jvm.Cond.code y bytes maxL ret :: ws) rm) (fun a U => a = as' ∧ Z.Warmed39 U.vm ∧ U.heap = h0) (fun _ _ _ _ _ => True) (fun _ U o U' => ∃ v L, o = .returned v ∧ (Fr n0 L ∧ Q v U'.heap) ∧ ReturnedEndW U o U' L rm.cells rm.slots)
theorem met_ofW {y : MethodName} {as' : Array Value} (hp : plainFor y = true) {L0 : Array Slot} (hL : argsToLocals as' maxL = L0) (go : ∀ B : Bod, Ctx B l rm bytes y.cls y.name maxL ret Z → B.1 = true → Go B n0 Q h 0 0 0 L0 []) : Met1W l Z y bytes maxL ret rm n0 as' h Q := by
  intro ws
  refine MetFree.of_bodySF hp hisR ?_
  intro p e s m args below meth c s₁ Bd hml0 hP hK
  obtain ⟨rfl, hZ, hh⟩ := hP
  subst hL
  obtain ⟨t, o, h1, h2, h3, v, L, h4, h5, h6⟩ := go (true, p, l, e, rm, s, m, args, below, meth, c) ⟨rfl, rfl, Bd.exec, Bd.bytes, hZ, findClass_of_methodNamed Bd.named, (name_of_methodNamed Bd.named Bd.method).1, hml0, Bd.returns, BodyLoose.notSynchronized Bd⟩ rfl s₁ [] (Stand.of_body Bd) (Fr.nil n0) (by rw [← hh, Bd.state]; rfl)
  exact ⟨t, o, h1, h2, h3, v, L, h4, h5, h6⟩
/-- the body over the start with other tables -/
def Bod.tab (B : Bod) (vm : Vm) : Bod := (B.1, B.p, B.l, B.e, B.R, B.s.setVm vm, B.m, B.args, B.below, B.meth, B.c)
theorem Fin0.tab {g g' : JFrame} {T T' : State} (hw : B.1 = true) (hS : B.s.Since T'.vm T'.heap.size) (f : ∀ t, Steps B.p.tables B.e B.below (T'.setTop g') t → Steps B.p.tables B.e B.below (T.setTop g) t) (go : Fin0 (B.tab T'.vm) n0 Q g' T') : Fin0 B n0 Q g T := by
  obtain ⟨t, o, h1, h2, h3, v, L, h4, h5, h6⟩ := go
  have hle0 : (T'.setTop g').heap.size ≤ t.heap.size := Steps.heap_le h1
  have hle : T'.heap.size ≤ t.heap.size := hle0
  refine ⟨t, o, f t h1, h2, h3, v, L, h4, h5, ?_⟩
  have h7 : EndB B.1 (B.s.setVm T'.vm) o t L B.R.cells B.R.slots := h6
  rw [hw] at h7 ⊢
  obtain ⟨q1, q2, q3, q4⟩ := h7
  have h8 := hS.trans ⟨q2, q3⟩ hle
  exact ⟨q1, h8.1, h8.2, q4.setVm B.s.vm⟩
theorem g_ldcS (C : Ctx B l rm bytes own nm maxL ret Z) (hw : B.1 = true) {i : Nat} {text : String} (w : (Jvm.Cond.stringLink own i text).before a0 Z = true) (wS : ∀ a ∈ Bundle.stringAtoms, a.before a0 Z = true) {nn : Nat} (hn : 4 * text.toList.length ≤ nn) (hbig : nn ≤ 536870912) (hc : k + 2 ≤ rm.cells) (hl : n + (nn + 4) ≤ rm.slots) (hd : decode bytes pc = .ok (.ldc i, 2)) (hpc : pc + 2 = pc')
    (go : ∀ B' : Bod, Ctx B' l rm bytes own nm maxL ret Z → B'.1 = true → ∀ h' a, Ext h h' → Go B' n0 Q h' (k + 2) (n + (nn + 4)) pc' L (.ref a :: st)) : Go B n0 Q h k n pc L st := fun T locs X N eT => by
  obtain ⟨a, T', h', k1, X', e', E, hS, hk, hZ', hown', f⟩ := ldcS (s := B.s) (vm0 := B.s.vm) X C.2.2.1 C.2.2.2.2.1 C.2.2.2.2.2.1 w wS eT ((State.WarmedH.refl B.s).since 0) (Nat.zero_le _) (g := mkF B.m pc L st) rfl (hb C.2.2.2.1 hd) hn hbig (by rw [C.2.1]; exact hc) (by rw [C.2.1]; exact hl)
  have hS' : B.s.Since T'.vm T'.heap.size := ⟨hS.1, fun j p hj hp => ⟨(hS.2 j p hj hp).1, Nat.lt_of_lt_of_le (hS.2 j p hj hp).2 (by rw [e']; exact hk)⟩⟩
  subst hpc
  exact Fin0.tab hw hS' f (go (B.tab T'.vm) ⟨C.1, C.2.1, C.2.2.1, C.2.2.2.1, hZ', hown', C.2.2.2.2.2.2⟩ hw h' a E T' locs X' N e')
end Wide
end Jvm.OwnKit
namespace Jvm.Pilot.@@N@@
open Jvm Jvm.ClassFile Sem Op Lib Jvm.Free Jvm.Stand Jvm.LawKit Jvm.RoadKit Jvm.OwnKit Bundle Jvm.Pilot.@@N@@.Jvm.D
theorem own_w {a0 : Array Value} {Z : State} (hw : ∀ d ∈ tables_1, d.before a0 Z = true) (k : Nat) {d : Jvm.Cond} (e : tables_1[k]? = some d) : d.before a0 Z = true := hw _ (List.mem_of_getElem? e)
theorem own_narb (x : Int32) : nar .byte (Int8.toInt32 (Int32.toInt8 x)) = (Int8.toInt32 (Int32.toInt8 x)) := by
  show (Int8.toInt32 (Int32.toInt8 (Int8.toInt32 (Int32.toInt8 x)))) = _
  rw [Int8.toInt8_toInt32]
/-- a char that one byte holds -/
def Ch (c : Int32) : Prop := nar .char c = c ∧ ¬ (255 : Int32) < c ∧ ¬ c < (0 : Int32)
theorem own_nch {c : Int32} (h : nar .char c = c) : narrow .char (.int c) = .int c := congrArg Value.int h
theorem own_chM (x : Int32) : Ch (x &&& (255 : Int32)) := by
  refine ⟨i2c_mask x, ?_, ?_⟩
  · have h := c_mask x (255 : Int32) 8 (by decide) (by decide)
    have e : (255 : Int32).toInt = 255 := rfl
    rw [Int32.lt_iff_toInt_lt]; omega
  · have h := c_mask x (255 : Int32) 8 (by decide) (by decide)
    have e : (0 : Int32).toInt = 0 := rfl
    rw [Int32.lt_iff_toInt_lt]; omega
/-- compact Strings are on -/
def Cmp (Z : State) : Prop := ∃ z : Int32, Sta Z Z.heap "java/lang/String" "COMPACT_STRINGS" "Z" (.int z) ∧ ¬ z = (0 : Int32)
theorem own_cmp {args : Array Value} {s : State} (w0 : (Jvm.Cond.initializedFor "java/lang/String" "COMPACT_STRINGS" "Z").before args s = true) (w1 : (Jvm.Cond.isInt (.static "java/lang/String" "COMPACT_STRINGS" "Z")).before args s = true) (w2 : (Jvm.Cond.not (.eq (.static "java/lang/String" "COMPACT_STRINGS" "Z") (.int 0))).before args s = true) : Cmp s := by
  obtain ⟨z, e⟩ := is_v (Cond.before_iff.mp w1)
  refine ⟨z, Sta.start e (Or.inl w0), fun q => ?_⟩
  have h := not_v (Cond.before_iff.mp w2)
  subst q
  simp only [Jvm.Cond.value, e, Jvm.Term.int_eval] at h
  simp at h
theorem own_cn {c : Int32} (h : nar .char c = c) : c.toBitVec.toNat < 65536 := by
  have e : (nar .char c).toBitVec.toNat = c.toBitVec.toNat % 65536 := by
    show (BitVec.setWidth 32 (BitVec.setWidth 16 c.toBitVec)).toNat = _
    rw [BitVec.toNat_setWidth, BitVec.toNat_setWidth]; omega
  rw [h] at e; omega
theorem own_gcbv (b : BitVec 32) (h : b.toNat < 65536) :
   BitVec.setWidth 32 (BitVec.setWidth 16 (((BitVec.signExtend 32 (BitVec.signExtend 8 (b.sshiftRight 0)) &&& 255#32) <<< 0) ||| ((BitVec.signExtend 32 (BitVec.signExtend 8 (b.sshiftRight 8)) &&& 255#32) <<< 8))) = b := by
  apply BitVec.eq_of_getLsbD_eq
  intro i hi
  have hm : (255#32) = BitVec.setWidth 32 (BitVec.allOnes 8) := by decide
  rw [hm]
  by_cases h16 : i < 16
  · simp only [BitVec.getLsbD_setWidth, BitVec.getLsbD_or, BitVec.getLsbD_shiftLeft, BitVec.getLsbD_and, BitVec.getLsbD_signExtend, BitVec.getLsbD_sshiftRight, BitVec.getLsbD_allOnes]
    by_cases h8 : i < 8
    · simp [hi, h16, h8, show ¬ 32 ≤ i by omega]
    · simp [hi, h16, h8, show ¬ 32 ≤ i by omega, show i - 8 < 8 by omega, show i - 8 < 32 by omega, show 8 + (i - 8) = i by omega, show ¬ 32 ≤ i - 8 by omega]
  · have e : b.getLsbD i = false := by
      rw [BitVec.getLsbD, Nat.testBit_lt_two_pow]
      exact Nat.lt_of_lt_of_le h (Nat.pow_le_pow_right (n := 2) (by decide) (show 16 ≤ i by omega))
    rw [e]; simp [h16]
theorem own_gc {c : Int32} (h : nar .char c = c) : (UInt32.toInt32 (UInt16.toUInt32 (UInt32.toUInt16 (Int32.toUInt32 ((((Int8.toInt32 (Int32.toInt8 (c >>> ((0 : Int32) &&& 31)))) &&& (255 : Int32)) <<< ((0 : Int32) &&& 31)) ||| (((Int8.toInt32 (Int32.toInt8 (c >>> ((8 : Int32) &&& 31)))) &&& (255 : Int32)) <<< ((8 : Int32) &&& 31))))))) = c := by
  apply Int32.toBitVec_inj.mp
  refine Eq.trans (b := BitVec.setWidth 32 (BitVec.setWidth 16 (((((Int8.toInt32 (Int32.toInt8 (c >>> ((0 : Int32) &&& 31)))) &&& (255 : Int32)) <<< ((0 : Int32) &&& 31)) ||| (((Int8.toInt32 (Int32.toInt8 (c >>> ((8 : Int32) &&& 31)))) &&& (255 : Int32)) <<< ((8 : Int32) &&& 31))).toBitVec))) rfl ?_
  refine Eq.trans ?_ (own_gcbv c.toBitVec (own_cn h))
  congr 2
theorem own_l1 {c : Int32} (h : nar .char c = c) (hb : ¬ (255 : Int32) < c) : (UInt32.toInt32 (UInt16.toUInt32 (UInt32.toUInt16 (Int32.toUInt32 ((Int8.toInt32 (Int32.toInt8 c)) &&& (255 : Int32)))))) = c := by
  rw [i2c_mask]
  have hn := own_cn h
  have hc : c.toInt = c.toBitVec.toNat := by
    show c.toBitVec.toInt = _
    rw [BitVec.toInt_eq_toNat_of_lt (by omega)]
  have e : (255 : Int32).toInt = 255 := rfl
  rw [Int32.lt_iff_toInt_lt, e] at hb
  apply Int32.toBitVec_inj.mp
  refine Eq.trans (b := (BitVec.signExtend 32 (BitVec.signExtend 8 c.toBitVec)) &&& 255#32) (by simp) ?_
  apply BitVec.eq_of_getLsbD_eq
  intro i hi
  have hm : (255#32) = BitVec.setWidth 32 (BitVec.allOnes 8) := by decide
  rw [hm]
  simp only [BitVec.getLsbD_setWidth, BitVec.getLsbD_and, BitVec.getLsbD_signExtend, BitVec.getLsbD_allOnes]
  by_cases h8 : i < 8
  · simp [hi, h8]
  · have e : c.toBitVec.getLsbD i = false := by
      rw [BitVec.getLsbD, Nat.testBit_lt_two_pow]
      exact Nat.lt_of_lt_of_le (show c.toBitVec.toNat < 2 ^ 8 by omega) (Nat.pow_le_pow_right (n := 2) (by decide) (show 8 ≤ i by omega))
    rw [e]; simp [h8]
theorem own_chof {c : Int32} (h : nar .char c = c) : ¬ c < (0 : Int32) := by
  have hn := own_cn h
  have hc : c.toInt = c.toBitVec.toNat := by
    show c.toBitVec.toInt = _
    rw [BitVec.toInt_eq_toNat_of_lt (by omega)]
  have e : (0 : Int32).toInt = 0 := rfl
  rw [Int32.lt_iff_toInt_lt, e, hc]; omega
theorem own_nari2c (x : Int32) : nar .char (UInt32.toInt32 (UInt16.toUInt32 (UInt32.toUInt16 (Int32.toUInt32 x)))) = (UInt32.toInt32 (UInt16.toUInt32 (UInt32.toUInt16 (Int32.toUInt32 x)))) := by
  apply Int32.toBitVec_inj.mp
  show BitVec.setWidth 32 (BitVec.setWidth 16 (BitVec.setWidth 32 (BitVec.setWidth 16 x.toBitVec))) = BitVec.setWidth 32 (BitVec.setWidth 16 x.toBitVec)
  apply BitVec.eq_of_toNat_eq
  simp only [BitVec.toNat_setWidth]; omega
def Bg (c : Int32) : Prop := nar .char c = c ∧ (255 : Int32) < c
/-- the statics that the UTF-16 road reads -/
def Um (Z : State) : Prop := Cmp Z ∧ ((∃ a : Addr, Sta Z Z.heap "jdk/internal/util/Preconditions" "SIOOBE_FORMATTER" "Ljava/util/function/BiFunction;" (.ref a)) ∨ Sta Z Z.heap "jdk/internal/util/Preconditions" "SIOOBE_FORMATTER" "Ljava/util/function/BiFunction;" .null)
theorem own_steq {args : Array Value} {s : State} {K nm d : String} {z : Int32} (w0 : (Jvm.Cond.initializedFor K nm d).before args s = true) (w1 : (Jvm.Cond.eq (.static K nm d) (.int z)).before args s = true) : Sta s s.heap K nm d (.int z) := by
  have h := Cond.before_iff.mp w1
  obtain ⟨x, y, e1, e2, k1, k2⟩ := cmp_v (Or.inl h)
  cases e2
  obtain ⟨x', rfl⟩ := k2
  simp only [Jvm.Cond.value, e1, Jvm.Term.int_eval] at h
  have hx : x' = z := by simpa using h
  subst hx
  exact Sta.start e1 (Or.inl w0)
theorem own_stref {args : Array Value} {s : State} {K nm d : String} (w0 : (Jvm.Cond.initializedFor K nm d).before args s = true) (w1 : (Jvm.Cond.isRef (.static K nm d)).before args s = true) : (∃ a : Addr, Sta s s.heap K nm d (.ref a)) ∨ Sta s s.heap K nm d .null := by
  obtain ⟨x, e1, hx⟩ := isR_v (Cond.before_iff.mp w1)
  cases x with
  | ref a => exact Or.inl ⟨a, Sta.start e1 (Or.inl w0)⟩
  | null => exact Or.inr (Sta.start e1 (Or.inl w0))
  | int a => cases hx
  | long a => cases hx
  | float a => cases hx
  | double a => cases hx
  | retAddr a => cases hx
theorem own_nn (x : Int32) : 0 ≤ (x &&& (2147483647 : Int32)).toInt := by
  have h := c_mask x (2147483647 : Int32) 31 (by decide) (by decide)
  rw [h]; exact Int.emod_nonneg _ (by decide)
theorem own_rem10 {x : Int32} (hx : 0 ≤ x.toInt) : 0 ≤ (x - (x / (10 : Int32)) * (10 : Int32)).toInt ∧ (x - (x / (10 : Int32)) * (10 : Int32)).toInt < 10 := by
  have e : (10 : Int32).toInt = 10 := rfl
  have h1 := (c_idiv x (10 : Int32) 10 rfl (by decide)).1 hx
  have h2 := c_imul (x / (10 : Int32)) (10 : Int32)
  have h3 := c_isub x (x / (10 : Int32) * (10 : Int32))
  have r1 := rng32 x
  have r2 := rng32 (x - x / (10 : Int32) * (10 : Int32))
  rw [h1, e] at h2
  omega
abbrev own_pows : List Value := [.long (1 : Int64), .long (10 : Int64), .long (100 : Int64), .long (1000 : Int64), .long (10000 : Int64), .long (100000 : Int64), .long (1000000 : Int64), .long (10000000 : Int64), .long (100000000 : Int64), .long (1000000000 : Int64), .long (10000000000 : Int64)]
theorem own_powe (e : Nat) (he : e < 11) : ∃ pw : Int64, own_pows[e]? = some (.long pw) ∧ pw.toInt = ((10 ^ e : Nat) : Int) ∧ pw ≠ 0 ∧ pw ≠ -1 := by
  match e, he with
  | 0, _ => exact ⟨_, rfl, by decide, by decide, by decide⟩
  | 1, _ => exact ⟨_, rfl, by decide, by decide, by decide⟩
  | 2, _ => exact ⟨_, rfl, by decide, by decide, by decide⟩
  | 3, _ => exact ⟨_, rfl, by decide, by decide, by decide⟩
  | 4, _ => exact ⟨_, rfl, by decide, by decide, by decide⟩
  | 5, _ => exact ⟨_, rfl, by decide, by decide, by decide⟩
  | 6, _ => exact ⟨_, rfl, by decide, by decide, by decide⟩
  | 7, _ => exact ⟨_, rfl, by decide, by decide, by decide⟩
  | 8, _ => exact ⟨_, rfl, by decide, by decide, by decide⟩
  | 9, _ => exact ⟨_, rfl, by decide, by decide, by decide⟩
  | 10, _ => exact ⟨_, rfl, by decide, by decide, by decide⟩
  | e + 11, h => exact absurd h (by omega)
def Rg (p g d : Int32) : Prop := 0 ≤ p.toInt ∧ p.toInt ≤ 3 ∧ 0 ≤ g.toInt ∧ g.toInt ≤ 1 ∧ 1 ≤ d.toInt ∧ d.toInt ≤ 10
def AtP (ix : Int) (p g d : Int32) (mg : Int64) (r : Int32) : Prop := (p.toInt ≤ ix → ix < p.toInt + g.toInt → r = (45 : Int32)) ∧ (∀ e : Nat, ix = p.toInt + g.toInt + d.toInt - 1 - e → (e : Int) < d.toInt → r.toInt = 48 + mg.toInt / ((10 ^ e : Nat) : Int) % 10)
section At550
variable {ix p g d : Int32} {mg : Int64}
theorem own_at1 (r : Int32) (ra : Rg p g d) (h : ix < p) : AtP ix.toInt p g d mg r := by
  obtain ⟨a1, a2, a3, a4, a5, a6⟩ := ra
  rw [Int32.lt_iff_toInt_lt] at h
  exact ⟨fun _ _ => by omega, fun e _ _ => by omega⟩
theorem own_pg (ra : Rg p g d) : (p + g).toInt = p.toInt + g.toInt := by
  obtain ⟨a1, a2, a3, a4, a5, a6⟩ := ra
  have h1 := c_iadd p g
  have h2 := rng32 (p + g)
  omega
theorem own_at2 (ra : Rg p g d) (h1 : ¬ ix < p) (h : ix < (p + g)) : AtP ix.toInt p g d mg (45 : Int32) := by
  have e := own_pg ra
  obtain ⟨a1, a2, a3, a4, a5, a6⟩ := ra
  rw [Int32.lt_iff_toInt_lt] at h h1
  exact ⟨fun _ _ => rfl, fun e _ _ => by omega⟩
theorem own_atj (ra : Rg p g d) (h1 : ¬ ix < p) (hx : ix.toInt ≤ 15) : ((ix - p) - g).toInt = ix.toInt - p.toInt - g.toInt ∧ (((d - (1 : Int32)) - ((ix - p) - g))).toInt = d.toInt - 1 - (ix.toInt - p.toInt - g.toInt) := by
  obtain ⟨a1, a2, a3, a4, a5, a6⟩ := ra
  rw [Int32.lt_iff_toInt_lt] at h1
  have e1 := c_isub ix p
  have e2 := c_isub (ix - p) g
  have e3 := c_isub d (1 : Int32)
  have e4 := c_isub (d - (1 : Int32)) ((ix - p) - g)
  have o1 : (1 : Int32).toInt = 1 := rfl
  have r1 := rng32 (ix - p)
  have r2 := rng32 ((ix - p) - g)
  have r3 := rng32 (d - (1 : Int32))
  have r4 := rng32 ((d - (1 : Int32)) - ((ix - p) - g))
  omega
theorem own_at3i (ra : Rg p g d) (hx : ix.toInt ≤ 15) (h1 : ¬ ix < p) (h2 : ¬ ix < (p + g)) (h3 : ((ix - p) - g) < d) :
    ∃ (e : Nat) (pw : Int64), ¬ ((d - (1 : Int32)) - ((ix - p) - g)) < 0 ∧ ((d - (1 : Int32)) - ((ix - p) - g)).toNatClampNeg = e ∧ own_pows[e]? = some (.long pw) ∧ pw.toInt = ((10 ^ e : Nat) : Int) ∧ pw ≠ 0 ∧ pw ≠ -1 ∧ ix.toInt = p.toInt + g.toInt + d.toInt - 1 - e := by
  obtain ⟨ej, ee⟩ := own_atj ra h1 hx
  have epg := own_pg ra
  obtain ⟨a1, a2, a3, a4, a5, a6⟩ := ra
  rw [Int32.lt_iff_toInt_lt] at h1 h2 h3
  have hz : (0 : Int32).toInt = 0 := rfl
  obtain ⟨pw, q1, q2, q3, q4⟩ := own_powe ((d - (1 : Int32)) - ((ix - p) - g)).toNatClampNeg (by show Int.toNat _ < 11; rw [ee]; omega)
  refine ⟨_, pw, ?_, rfl, q1, q2, q3, q4, ?_⟩
  · rw [Int32.lt_iff_toInt_lt, hz, ee]; omega
  · show _ = _ - ((Int.toNat ((d - (1 : Int32)) - ((ix - p) - g)).toInt : Nat) : Int); rw [ee]; omega
theorem own_at3 {e : Nat} {pw : Int64} (ra : Rg p g d) (m0 : 0 ≤ mg.toInt) (h2 : ¬ ix < (p + g)) (q2 : pw.toInt = ((10 ^ e : Nat) : Int)) (q4 : pw ≠ -1) (q5 : ix.toInt = p.toInt + g.toInt + d.toInt - 1 - e) {r : Int32} (er : r = (UInt32.toInt32 (UInt16.toUInt32 (UInt32.toUInt16 (Int32.toUInt32 ((48 : Int32) + (Int64.toInt32 ((mg / pw) - ((mg / pw) / (10 : Int64)) * (10 : Int64))))))))) :
    Ch r ∧ AtP ix.toInt p g d mg r := by
  have e1 := (c_ldiv mg pw _ q2 q4).1 m0
  have hp : (0 : Int) ≤ mg.toInt / ((10 ^ e : Nat) : Int) := Int.ediv_nonneg m0 (Int.natCast_nonneg _)
  have ten : (10 : Int64).toInt = 10 := rfl
  have e2 := (c_lrem (mg / pw) (10 : Int64) 10 ten).1 (by rw [e1]; exact hp)
  rw [e1] at e2
  have e3 := c_l2i ((mg / pw) - ((mg / pw) / (10 : Int64)) * (10 : Int64))
  have r3 := rng32 (Int64.toInt32 ((mg / pw) - ((mg / pw) / (10 : Int64)) * (10 : Int64)))
  have e4 := c_iadd (48 : Int32) (Int64.toInt32 ((mg / pw) - ((mg / pw) / (10 : Int64)) * (10 : Int64)))
  have r4 := rng32 ((48 : Int32) + (Int64.toInt32 ((mg / pw) - ((mg / pw) / (10 : Int64)) * (10 : Int64))))
  have f48 : (48 : Int32).toInt = 48 := rfl
  have e5 := c_i2c ((48 : Int32) + (Int64.toInt32 ((mg / pw) - ((mg / pw) / (10 : Int64)) * (10 : Int64))))
  have hm : r.toInt = 48 + mg.toInt / ((10 ^ e : Nat) : Int) % 10 := by
    rw [er]; generalize mg.toInt / ((10 ^ e : Nat) : Int) = q at *; omega
  refine ⟨⟨by rw [er]; exact own_nari2c _, ?_, ?_⟩, fun hp1 hp2 => ?_, fun e' he' hl => ?_⟩
  · rw [Int32.lt_iff_toInt_lt, show (255 : Int32).toInt = 255 from rfl, hm]; omega
  · rw [Int32.lt_iff_toInt_lt, show (0 : Int32).toInt = 0 from rfl, hm]; omega
  · have epg := own_pg ra
    rw [Int32.lt_iff_toInt_lt] at h2; omega
  · have : e' = e := by omega
    rw [this]; exact hm
theorem own_at4 (r : Int32) (ra : Rg p g d) (hx : ix.toInt ≤ 15) (h1 : ¬ ix < p) (h2 : ¬ ix < (p + g)) (h3 : ¬ ((ix - p) - g) < d) : AtP ix.toInt p g d mg r := by
  obtain ⟨ej, ee⟩ := own_atj ra h1 hx
  have epg := own_pg ra
  rw [Int32.lt_iff_toInt_lt] at h1 h2 h3
  exact ⟨fun _ _ => by omega, fun e _ _ => by omega⟩
end At550
/-- the digits of M stand in vs from f on -/
def DgP (vs : List Value) (f : Int32) (M : Int64) (N : Nat) : Prop := ∀ j : Nat, j < N → ∃ c : Int32, vs[(f.toInt + j).toNat]? = some (.int (Int8.toInt32 (Int32.toInt8 c))) ∧ Ch c ∧ c.toInt = 48 + M.toInt / ((10 ^ (N - 1 - j) : Nat) : Int) % 10
theorem own_ofAt {p g d f : Int32} {mg : Int64} (rs : List Int32) (hr : rs.length = 16) (ra : Rg p g d) (H : ∀ k (hk : k < 16), Ch (rs[k]'(by omega)) ∧ AtP (k : Int) p g d mg (rs[k]'(by omega))) (hf : f.toInt = p.toInt + g.toInt) {vs : List Value} (hv : vs = rs.map fun c => .int (Int8.toInt32 (Int32.toInt8 c))) :
    DgP vs f mg d.toInt.toNat ∧ (g.toInt = 1 → vs[p.toInt.toNat]? = some (.int (Int8.toInt32 (Int32.toInt8 (45 : Int32))))) := by
  obtain ⟨a1, a2, a3, a4, a5, a6⟩ := ra
  subst hv
  refine ⟨fun j hj => ?_, fun hg => ?_⟩
  · have hk : (f.toInt + j).toNat < 16 := by omega
    obtain ⟨h1, h2⟩ := H _ hk
    refine ⟨rs[(f.toInt + j).toNat]'(by omega), by simp [List.getElem?_map, List.getElem?_eq_getElem (show (f.toInt + j).toNat < rs.length by omega)], h1, h2.2 (d.toInt.toNat - 1 - j) (by omega) (by omega)⟩
  · have hk : p.toInt.toNat < 16 := by omega
    obtain ⟨h1, h2⟩ := H _ hk
    have := h2.1 (by omega) (by omega)
    rw [List.getElem?_map, List.getElem?_eq_getElem (show p.toInt.toNat < rs.length by omega), this]; rfl
/-- one digit more -/
theorem own_dstep {M acc ac2 : Int64} {c : Int32} {r : Nat} (m0 : 0 ≤ M.toInt) (m1 : M.toInt ≤ 2147483648) (h : acc.toInt = M.toInt / ((10 ^ (r + 1) : Nat) : Int)) (hc : c.toInt = 48 + M.toInt / ((10 ^ r : Nat) : Int) % 10) (e : ac2 = (((10 : Int64) * acc) + (Int32.toInt64 (c - (48 : Int32))))) :
    ac2.toInt = M.toInt / ((10 ^ r : Nat) : Int) ∧ ¬ (2147483648 : Int64) < ac2 := by
  have hq : M.toInt / ((10 ^ (r + 1) : Nat) : Int) = (M.toInt / ((10 ^ r : Nat) : Int)) / 10 := by
    rw [Int.ediv_ediv_of_nonneg (Int.natCast_nonneg _), Nat.pow_succ]; rfl
  have hp : (0 : Int) ≤ M.toInt / ((10 ^ r : Nat) : Int) := Int.ediv_nonneg m0 (Int.natCast_nonneg _)
  have hle : M.toInt / ((10 ^ r : Nat) : Int) ≤ M.toInt := Int.ediv_le_self _ m0
  rw [hq] at h
  have e1 := c_lmul (10 : Int64) acc
  have e2 := c_isub c (48 : Int32)
  have e3 := c_i2l (c - (48 : Int32))
  have e4 := c_ladd ((10 : Int64) * acc) (Int32.toInt64 (c - (48 : Int32)))
  have t1 : (10 : Int64).toInt = 10 := rfl
  have t2 : (48 : Int32).toInt = 48 := rfl
  have t3 : (2147483648 : Int64).toInt = 2147483648 := rfl
  have r1 := rng64 ((10 : Int64) * acc)
  have r2 := rng32 (c - (48 : Int32))
  have r3 := rng64 (((10 : Int64) * acc) + (Int32.toInt64 (c - (48 : Int32))))
  rw [← e] at e4 r3
  rw [t1] at e1
  generalize M.toInt / ((10 ^ r : Nat) : Int) = q at *
  have hh : ac2.toInt = q := by omega
  refine ⟨hh, ?_⟩
  rw [Int64.lt_iff_toInt_lt, t3, hh]; omega
theorem own_ush1 (x : Int32) : 0 ≤ (Jvm.Free.XT.ushr x (1 : Int32)).toInt := by
  have h := c_iushr x (1 : Int32) 1 (by decide) (by decide)
  have e : (Jvm.Free.XT.ushr x (1 : Int32)).toInt = (x.toInt % 4294967296) / (2 ^ 1 : Nat) := h
  rw [e]; omega
theorem own_m3 (x : Int32) : 0 ≤ (x &&& (3 : Int32)).toInt ∧ (x &&& (3 : Int32)).toInt < 4 := by
  have h := c_mask x (3 : Int32) 2 (by decide) (by decide)
  omega
theorem own_dd {x : Int32} (hx : 0 ≤ x.toInt) {dg : Int32} (e : dg = ((1 : Int32) + (x - (x / (10 : Int32)) * (10 : Int32)))) : 1 ≤ dg.toInt ∧ dg.toInt ≤ 10 := by
  have h := own_rem10 hx
  have e1 := c_iadd (1 : Int32) (x - (x / (10 : Int32)) * (10 : Int32))
  have r1 := rng32 ((1 : Int32) + (x - (x / (10 : Int32)) * (10 : Int32)))
  have o1 : (1 : Int32).toInt = 1 := rfl
  rw [← e] at e1 r1
  omega
theorem own_powd {dg : Int32} (h : 1 ≤ dg.toInt ∧ dg.toInt ≤ 10) : ∃ pw : Int64, ¬ dg < 0 ∧ own_pows[dg.toNatClampNeg]? = some (.long pw) ∧ pw.toInt = ((10 ^ dg.toInt.toNat : Nat) : Int) ∧ pw ≠ 0 ∧ pw ≠ -1 := by
  obtain ⟨pw, q1, q2, q3, q4⟩ := own_powe dg.toNatClampNeg (by show Int.toNat _ < 11; omega)
  refine ⟨pw, ?_, q1, q2, q3, q4⟩
  rw [Int32.lt_iff_toInt_lt, show (0 : Int32).toInt = 0 from rfl]; omega
/-- the magnitude -/
theorem own_mag {w pw mg : Int64} {N : Nat} {top : Int} (h0 : 0 ≤ w.toInt) (h1 : w.toInt ≤ top) (q2 : pw.toInt = ((10 ^ N : Nat) : Int)) (e : mg = (w - (w / pw) * pw)) : 0 ≤ mg.toInt ∧ mg.toInt < ((10 ^ N : Nat) : Int) ∧ mg.toInt ≤ top := by
  have e1 := (c_lrem w pw _ q2).1 h0
  rw [← e] at e1
  have hp : (0 : Int) < ((10 ^ N : Nat) : Int) := Int.natCast_pos.mpr (Nat.pow_pos (by decide))
  have h3 := Int.emod_nonneg w.toInt (Int.ne_of_gt hp)
  have h4 := Int.emod_lt_of_pos w.toInt hp
  have h5 : w.toInt % ((10 ^ N : Nat) : Int) ≤ w.toInt := by
    rcases Int.lt_or_le w.toInt ((10 ^ N : Nat) : Int) with h | h
    · rw [Int.emod_eq_of_lt h0 h]; exact Int.le_refl _
    · omega
  omega
theorem own_w0 (x : Int64) {w : Int64} (e : w = (x &&& (2147483647 : Int64))) : 0 ≤ w.toInt ∧ w.toInt ≤ 2147483647 := by
  have h := c_maskL x (2147483647 : Int64) 31 (by decide) (by decide)
  rw [← e] at h; omega
theorem own_w1 (x : Int64) {w : Int64} (e : w = ((x &&& (4294967295 : Int64)) - ((x &&& (4294967295 : Int64)) / (2147483649 : Int64)) * (2147483649 : Int64))) : 0 ≤ w.toInt ∧ w.toInt ≤ 2147483648 := by
  have h := c_maskL x (4294967295 : Int64) 32 (by decide) (by decide)
  have h0 : 0 ≤ (x &&& (4294967295 : Int64)).toInt := by omega
  have e1 := (c_lrem (x &&& (4294967295 : Int64)) (2147483649 : Int64) 2147483649 rfl).1 h0
  rw [← e] at e1; omega
theorem own_min {vl m : Int64} {x : Int32} {mn : Int32} (v0 : -2147483648 ≤ vl.toInt) (v1 : vl.toInt ≤ 2147483647) (hm : m = (-2147483648 : Int64) ∨ m = (vl - ((Int32.toInt64 x) &&& (2147483647 : Int64)))) (h1 : ¬ m < (-2147483648 : Int64)) (e : mn = Int64.toInt32 m) : mn.toInt ≤ vl.toInt := by
  have h := c_maskL (Int32.toInt64 x) (2147483647 : Int64) 31 (by decide) (by decide)
  have e1 := c_lsub vl ((Int32.toInt64 x) &&& (2147483647 : Int64))
  have r1 := rng64 (vl - ((Int32.toInt64 x) &&& (2147483647 : Int64)))
  have e2 := c_l2i m
  rw [← e] at e2
  have r2 := rng32 mn
  have t : (-2147483648 : Int64).toInt = -2147483648 := rfl
  rw [Int64.lt_iff_toInt_lt, t] at h1
  rcases hm with rfl | rfl
  · omega
  · omega
theorem d1_0 : decode jdk_29_method_66_code 0 = .ok (.lload_n 0, 1) := by decide +kernel
theorem d1_1 : decode jdk_29_method_66_code 1 = .ok (.lload_n 2, 1) := by decide +kernel
theorem d1_2 : decode jdk_29_method_66_code 2 = .ok (.lcmp, 1) := by decide +kernel
theorem d1_3 : decode jdk_29_method_66_code 3 = .ok (.ifCond .lt 7, 3) := by decide +kernel
theorem d1_6 : decode jdk_29_method_66_code 6 = .ok (.lload_n 0, 1) := by decide +kernel
theorem d1_7 : decode jdk_29_method_66_code 7 = .ok (.goto 4, 3) := by decide +kernel
theorem d1_10 : decode jdk_29_method_66_code 10 = .ok (.lload_n 2, 1) := by decide +kernel
theorem d1_11 : decode jdk_29_method_66_code 11 = .ok (.lreturn, 1) := by decide +kernel
set_option maxRecDepth 65536 in
set_option maxHeartbeats 40000000 in
theorem rm_max (l : Launch) (Z : State) (a0 : Array Value) (hw : ∀ d ∈ tables_1, d.before a0 Z = true) (n0 : Nat) (x1 x2 : Int64) (h0 : Heap) (Z0 : n0 ≤ h0.size)  :
    Met1 l Z (⟨"java/lang/Math", "max", "(JJ)J"⟩ : MethodName) jdk_29_method_66_code 4 (some .long) ({ frames := 0, cells := 0, slots := 0, locals := 0 } : Room) n0 #[(.long x1), (.long x2)] h0 (fun v h => ∃ m : Int64, v = some (.long m) ∧ (m = x1 ∨ m = x2) ∧ ¬ m < x1 ∧ h0 = h) := by
  refine met_of (Jvm.Free.JP.mathPlain rfl (by decide +kernel)) (L0 := #[.val (.long x1), .second, .val (.long x2), .second]) (by first | (simp [argsToLocals, Value.category]; done) | rfl) ?_
  intro B C
  change Ctx B l _ _ "java/lang/Math" "max" _ _ Z at C
  refine g_lload_n C d1_0 (v := x1) rfl (pc' := 1) rfl ?_
  refine g_lload_n C d1_1 (v := x2) rfl (pc' := 2) rfl ?_
  refine g_lcmp C (x := x1) (y := x2) d1_2 (pc' := 3) rfl ?_
  by_cases hb_1 : x1 < x2
  · refine g_if_y C d1_3 (Jvm.Free.XT.ll_lt_t hb_1) (pc' := 10) (by decide) (by decide) ?_
    refine g_lload_n C d1_10 (v := x2) rfl (pc' := 11) rfl ?_
    refine g_ret C (v := (.long x2)) (ty := .long) rfl rfl (Or.inr (Or.inl ⟨rfl, rfl, _, rfl⟩)) d1_11 (by decide) (by decide) ?_
    exact ⟨_, rfl, Or.inr rfl, (by have q := hb_1; rw [Int64.lt_iff_toInt_lt] at q ⊢; omega), rfl⟩
  · refine g_if_n C d1_3 (Jvm.Free.XT.ll_lt_f hb_1) (pc' := 6) rfl ?_
    refine g_lload_n C d1_6 (v := x1) rfl (pc' := 7) rfl ?_
    refine g_goto C d1_7 (pc' := 11) (by decide) (by decide) ?_
    refine g_ret C (v := (.long x1)) (ty := .long) rfl rfl (Or.inr (Or.inl ⟨rfl, rfl, _, rfl⟩)) d1_11 (by decide) (by decide) ?_
    exact ⟨_, rfl, Or.inl rfl, (by rw [Int64.lt_iff_toInt_lt]; omega), rfl⟩
theorem d2_0 : decode method_2_code 0 = .ok (.iload_n 0, 1) := by decide +kernel
theorem d2_1 : decode method_2_code 1 = .ok (.iload_n 1, 1) := by decide +kernel
theorem d2_2 : decode method_2_code 2 = .ok (.if_icmp .ge 6, 3) := by decide +kernel
theorem d2_5 : decode method_2_code 5 = .ok (.iload 6, 2) := by decide +kernel
theorem d2_7 : decode method_2_code 7 = .ok (.ireturn, 1) := by decide +kernel
theorem d2_8 : decode method_2_code 8 = .ok (.iload_n 0, 1) := by decide +kernel
theorem d2_9 : decode method_2_code 9 = .ok (.iload_n 1, 1) := by decide +kernel
theorem d2_10 : decode method_2_code 10 = .ok (.iload_n 2, 1) := by decide +kernel
theorem d2_11 : decode method_2_code 11 = .ok (.iadd, 1) := by decide +kernel
theorem d2_12 : decode method_2_code 12 = .ok (.if_icmp .ge 6, 3) := by decide +kernel
theorem d2_15 : decode method_2_code 15 = .ok (.bipush 45, 2) := by decide +kernel
theorem d2_17 : decode method_2_code 17 = .ok (.ireturn, 1) := by decide +kernel
theorem d2_18 : decode method_2_code 18 = .ok (.iload_n 0, 1) := by decide +kernel
theorem d2_19 : decode method_2_code 19 = .ok (.iload_n 1, 1) := by decide +kernel
theorem d2_20 : decode method_2_code 20 = .ok (.isub, 1) := by decide +kernel
theorem d2_21 : decode method_2_code 21 = .ok (.iload_n 2, 1) := by decide +kernel
theorem d2_22 : decode method_2_code 22 = .ok (.isub, 1) := by decide +kernel
theorem d2_23 : decode method_2_code 23 = .ok (.istore 9, 2) := by decide +kernel
theorem d2_25 : decode method_2_code 25 = .ok (.iload 9, 2) := by decide +kernel
theorem d2_27 : decode method_2_code 27 = .ok (.iload_n 3, 1) := by decide +kernel
theorem d2_28 : decode method_2_code 28 = .ok (.if_icmp .ge 25, 3) := by decide +kernel
theorem d2_31 : decode method_2_code 31 = .ok (.bipush 48, 2) := by decide +kernel
theorem d2_33 : decode method_2_code 33 = .ok (.lload 4, 2) := by decide +kernel
theorem d2_35 : decode method_2_code 35 = .ok (.aload 8, 2) := by decide +kernel
theorem d2_37 : decode method_2_code 37 = .ok (.iload_n 3, 1) := by decide +kernel
theorem d2_38 : decode method_2_code 38 = .ok (.iconst 1, 1) := by decide +kernel
theorem d2_39 : decode method_2_code 39 = .ok (.isub, 1) := by decide +kernel
theorem d2_40 : decode method_2_code 40 = .ok (.iload 9, 2) := by decide +kernel
theorem d2_42 : decode method_2_code 42 = .ok (.isub, 1) := by decide +kernel
theorem d2_43 : decode method_2_code 43 = .ok (.laload, 1) := by decide +kernel
theorem d2_44 : decode method_2_code 44 = .ok (.ldiv, 1) := by decide +kernel
theorem d2_45 : decode method_2_code 45 = .ok (.ldc2_w 7, 3) := by decide +kernel
theorem d2_48 : decode method_2_code 48 = .ok (.lrem, 1) := by decide +kernel
theorem d2_49 : decode method_2_code 49 = .ok (.l2i, 1) := by decide +kernel
theorem d2_50 : decode method_2_code 50 = .ok (.iadd, 1) := by decide +kernel
theorem d2_51 : decode method_2_code 51 = .ok (.i2c, 1) := by decide +kernel
theorem d2_52 : decode method_2_code 52 = .ok (.ireturn, 1) := by decide +kernel
theorem d2_53 : decode method_2_code 53 = .ok (.iload 7, 2) := by decide +kernel
theorem d2_55 : decode method_2_code 55 = .ok (.ireturn, 1) := by decide +kernel
theorem own_pn_org_linkloom_io_FieldsIntegerPinLaw : plainName "org/linkloom/io/FieldsIntegerPinLaw" = true := by first | (simp [plainName, overriddenIn]; done) | decide +kernel
set_option maxRecDepth 65536 in
set_option maxHeartbeats 40000000 in
theorem rm_at (l : Launch) (Z : State) (a0 : Array Value) (hw : ∀ d ∈ tables_1, d.before a0 Z = true) (n0 : Nat) (ix p g dg : Int32) (mg : Int64) (ca cb : Int32) (a1 : Addr) (h0 : Heap) (Z0 : n0 ≤ h0.size) (A1 : Ary Z h0 a1 .long own_pows) (ra : Rg p g dg) (hx : ix.toInt ≤ 15) (ka : Ch ca) (kb : Ch cb) (m0 : 0 ≤ mg.toInt) :
    Met1 l Z (⟨"org/linkloom/io/FieldsIntegerPinLaw", "at", "(IIIIJCC[J)C"⟩ : MethodName) method_2_code 10 (some .char) ({ frames := 0, cells := 0, slots := 0, locals := 0 } : Room) n0 #[(.int ix), (.int p), (.int g), (.int dg), (.long mg), (.int ca), (.int cb), (.ref a1)] h0 (fun v h => ∃ r : Int32, v = some (.int r) ∧ Ch r ∧ AtP ix.toInt p g dg mg r ∧ h0 = h) := by
  refine met_of (plainFor_of_name own_pn_org_linkloom_io_FieldsIntegerPinLaw) (L0 := #[.val (.int ix), .val (.int p), .val (.int g), .val (.int dg), .val (.long mg), .second, .val (.int ca), .val (.int cb), .val (.ref a1), .unset]) (by first | (simp [argsToLocals, Value.category]; done) | rfl) ?_
  intro B C
  change Ctx B l _ _ "org/linkloom/io/FieldsIntegerPinLaw" "at" _ _ Z at C
  refine g_iload_n C d2_0 (v := ix) rfl (pc' := 1) rfl ?_
  refine g_iload_n C d2_1 (v := p) rfl (pc' := 2) rfl ?_
  by_cases hb_1 : ix < p
  · refine g_icmp_n C d2_2 (Jvm.Free.XT.ii_ge_f hb_1) (pc' := 5) rfl ?_
    refine g_iload C d2_5 (v := ca) rfl (pc' := 7) rfl ?_
    refine g_ret C (v := (.int ca)) (ty := .char) rfl (own_nch ka.1) (Or.inl ⟨rfl, Or.inr (Or.inr (Or.inr (Or.inl rfl))), _, rfl⟩) d2_7 (by decide) (by decide) ?_
    exact ⟨_, rfl, ka, own_at1 _ ra hb_1, rfl⟩
  · refine g_icmp_y C d2_2 (Jvm.Free.XT.ii_ge_t hb_1) (pc' := 8) (by decide) (by decide) ?_
    refine g_iload_n C d2_8 (v := ix) rfl (pc' := 9) rfl ?_
    refine g_iload_n C d2_9 (v := p) rfl (pc' := 10) rfl ?_
    refine g_iload_n C d2_10 (v := g) rfl (pc' := 11) rfl ?_
    refine g_iadd C (x := p) (y := g) d2_11  (pc' := 12) rfl ?_
    by_cases hb_2 : ix < (p + g)
    · refine g_icmp_n C d2_12 (Jvm.Free.XT.ii_ge_f hb_2) (pc' := 15) rfl ?_
      refine g_bipush C d2_15 (v := (45 : Int32)) rfl (pc' := 17) rfl ?_
      refine g_ret C (v := (.int (45 : Int32))) (ty := .char) rfl rfl (Or.inl ⟨rfl, Or.inr (Or.inr (Or.inr (Or.inl rfl))), _, rfl⟩) d2_17 (by decide) (by decide) ?_
      exact ⟨_, rfl, (by refine ⟨?_, ?_, ?_⟩ <;> decide), own_at2 ra hb_1 hb_2, rfl⟩
    · refine g_icmp_y C d2_12 (Jvm.Free.XT.ii_ge_t hb_2) (pc' := 18) (by decide) (by decide) ?_
      refine g_iload_n C d2_18 (v := ix) rfl (pc' := 19) rfl ?_
      refine g_iload_n C d2_19 (v := p) rfl (pc' := 20) rfl ?_
      refine g_isub C (x := ix) (y := p) d2_20  (pc' := 21) rfl ?_
      refine g_iload_n C d2_21 (v := g) rfl (pc' := 22) rfl ?_
      refine g_isub C (x := (ix - p)) (y := g) d2_22  (pc' := 23) rfl ?_
      refine g_istore C d2_23 (v := ((ix - p) - g)) (L' := #[.val (.int ix), .val (.int p), .val (.int g), .val (.int dg), .val (.long mg), .second, .val (.int ca), .val (.int cb), .val (.ref a1), .val (.int ((ix - p) - g))]) rfl (pc' := 25) rfl ?_
      refine g_iload C d2_25 (v := ((ix - p) - g)) rfl (pc' := 27) rfl ?_
      refine g_iload_n C d2_27 (v := dg) rfl (pc' := 28) rfl ?_
      by_cases hb_3 : ((ix - p) - g) < dg
      · refine g_icmp_n C d2_28 (Jvm.Free.XT.ii_ge_f hb_3) (pc' := 31) rfl ?_
        refine g_bipush C d2_31 (v := (48 : Int32)) rfl (pc' := 33) rfl ?_
        refine g_lload C d2_33 (v := mg) rfl (pc' := 35) rfl ?_
        refine g_aload C d2_35 (v := (.ref a1)) rfl rfl (pc' := 37) rfl ?_
        refine g_iload_n C d2_37 (v := dg) rfl (pc' := 38) rfl ?_
        refine g_iconst C d2_38 (v := (1 : Int32)) rfl (pc' := 39) rfl ?_
        refine g_isub C (x := dg) (y := (1 : Int32)) d2_39  (pc' := 40) rfl ?_
        refine g_iload C d2_40 (v := ((ix - p) - g)) rfl (pc' := 42) rfl ?_
        refine g_isub C (x := (dg - (1 : Int32))) (y := ((ix - p) - g)) d2_42  (pc' := 43) rfl ?_
        obtain ⟨e_, pw, g1, g2, g3, g4, g5, g6, g7⟩ := own_at3i ra hx hb_1 hb_2 hb_3
        refine g_laload C A1 g1 (i := e_) g2 (v := pw) g3 d2_43 (pc' := 44) rfl ?_
        refine g_ldiv C (x := mg) (y := pw) d2_44 g5 (pc' := 45) rfl ?_
        refine g_ldc2_w C (v := (10 : Int64)) (own_w hw 1 rfl) d2_45 (pc' := 48) rfl ?_
        refine g_lrem C (x := (mg / pw)) (y := (10 : Int64)) d2_48 (by decide) (pc' := 49) rfl ?_
        refine g_l2i C (x := ((mg / pw) - ((mg / pw) / (10 : Int64)) * (10 : Int64))) d2_49 (pc' := 50) rfl ?_
        refine g_iadd C (x := (48 : Int32)) (y := (Int64.toInt32 ((mg / pw) - ((mg / pw) / (10 : Int64)) * (10 : Int64)))) d2_50  (pc' := 51) rfl ?_
        refine g_i2c C (x := ((48 : Int32) + (Int64.toInt32 ((mg / pw) - ((mg / pw) / (10 : Int64)) * (10 : Int64))))) d2_51 (pc' := 52) rfl ?_
        obtain ⟨rc, erc⟩ : ∃ z : Int32, z = (UInt32.toInt32 (UInt16.toUInt32 (UInt32.toUInt16 (Int32.toUInt32 ((48 : Int32) + (Int64.toInt32 ((mg / pw) - ((mg / pw) / (10 : Int64)) * (10 : Int64)))))))) := ⟨_, rfl⟩
        rw [← erc]
        have hrc := own_at3 ra m0 hb_2 g4 g6 g7 erc
        refine g_ret C (v := (.int rc)) (ty := .char) rfl (own_nch hrc.1.1) (Or.inl ⟨rfl, Or.inr (Or.inr (Or.inr (Or.inl rfl))), _, rfl⟩) d2_52 (by decide) (by decide) ?_
        exact ⟨_, rfl, hrc.1, hrc.2, rfl⟩
      · refine g_icmp_y C d2_28 (Jvm.Free.XT.ii_ge_t hb_3) (pc' := 53) (by decide) (by decide) ?_
        refine g_iload C d2_53 (v := cb) rfl (pc' := 55) rfl ?_
        refine g_ret C (v := (.int cb)) (ty := .char) rfl (own_nch kb.1) (Or.inl ⟨rfl, Or.inr (Or.inr (Or.inr (Or.inl rfl))), _, rfl⟩) d2_55 (by decide) (by decide) ?_
        exact ⟨_, rfl, kb, own_at4 _ ra hx hb_1 hb_2 hb_3, rfl⟩
theorem d14_0 : decode jdk_41_method_11_code 0 = .ok (.iload_n 0, 1) := by decide +kernel
theorem d14_1 : decode jdk_41_method_11_code 1 = .ok (.ifCond .lt 8, 3) := by decide +kernel
theorem d14_4 : decode jdk_41_method_11_code 4 = .ok (.iload_n 0, 1) := by decide +kernel
theorem d14_5 : decode jdk_41_method_11_code 5 = .ok (.iload_n 1, 1) := by decide +kernel
theorem d14_6 : decode jdk_41_method_11_code 6 = .ok (.if_icmp .lt 10, 3) := by decide +kernel
theorem d14_16 : decode jdk_41_method_11_code 16 = .ok (.iload_n 0, 1) := by decide +kernel
theorem d14_17 : decode jdk_41_method_11_code 17 = .ok (.ireturn, 1) := by decide +kernel
theorem own_pn_jdk_internal_util_Preconditions : plainName "jdk/internal/util/Preconditions" = true := by first | (simp [plainName, overriddenIn]; done) | decide +kernel
set_option maxRecDepth 65536 in
set_option maxHeartbeats 40000000 in
theorem rm_pci_r (l : Launch) (Z : State) (a0 : Array Value) (hw : ∀ d ∈ tables_1, d.before a0 Z = true) (n0 : Nat) (ix nx : Int32) (a1 : Addr) (h0 : Heap) (Z0 : n0 ≤ h0.size) (hix : ¬ ix < (0 : Int32)) (hnx : ix < nx) :
    Met1 l Z (⟨"jdk/internal/util/Preconditions", "checkIndex", "(IILjava/util/function/BiFunction;)I"⟩ : MethodName) jdk_41_method_11_code 3 (some .int) ({ frames := 0, cells := 0, slots := 0, locals := 0 } : Room) n0 #[(.int ix), (.int nx), (.ref a1)] h0 (fun v h => v = some (.int ix) ∧ h0 = h) := by
  refine met_of (plainFor_of_name own_pn_jdk_internal_util_Preconditions) (L0 := #[.val (.int ix), .val (.int nx), .val (.ref a1)]) (by first | (simp [argsToLocals, Value.category]; done) | rfl) ?_
  intro B C
  change Ctx B l _ _ "jdk/internal/util/Preconditions" "checkIndex" _ _ Z at C
  refine g_iload_n C d14_0 (v := ix) rfl (pc' := 1) rfl ?_
  refine g_if_n C d14_1 (Jvm.Free.XT.i0_lt_f hix) (pc' := 4) rfl ?_
  refine g_iload_n C d14_4 (v := ix) rfl (pc' := 5) rfl ?_
  refine g_iload_n C d14_5 (v := nx) rfl (pc' := 6) rfl ?_
  refine g_icmp_y C d14_6 (Jvm.Free.XT.ii_lt_t hnx) (pc' := 16) (by decide) (by decide) ?_
  refine g_iload_n C d14_16 (v := ix) rfl (pc' := 17) rfl ?_
  refine g_ret C (v := (.int ix)) (ty := .int) rfl rfl (Or.inl ⟨rfl, Or.inl rfl, _, rfl⟩) d14_17 (by decide) (by decide) ?_
  exact ⟨rfl, rfl⟩
set_option maxRecDepth 65536 in
set_option maxHeartbeats 40000000 in
theorem rm_pci_n (l : Launch) (Z : State) (a0 : Array Value) (hw : ∀ d ∈ tables_1, d.before a0 Z = true) (n0 : Nat) (ix nx : Int32)  (h0 : Heap) (Z0 : n0 ≤ h0.size) (hix : ¬ ix < (0 : Int32)) (hnx : ix < nx) :
    Met1 l Z (⟨"jdk/internal/util/Preconditions", "checkIndex", "(IILjava/util/function/BiFunction;)I"⟩ : MethodName) jdk_41_method_11_code 3 (some .int) ({ frames := 0, cells := 0, slots := 0, locals := 0 } : Room) n0 #[(.int ix), (.int nx), .null] h0 (fun v h => v = some (.int ix) ∧ h0 = h) := by
  refine met_of (plainFor_of_name own_pn_jdk_internal_util_Preconditions) (L0 := #[.val (.int ix), .val (.int nx), .val .null]) (by first | (simp [argsToLocals, Value.category]; done) | rfl) ?_
  intro B C
  change Ctx B l _ _ "jdk/internal/util/Preconditions" "checkIndex" _ _ Z at C
  refine g_iload_n C d14_0 (v := ix) rfl (pc' := 1) rfl ?_
  refine g_if_n C d14_1 (Jvm.Free.XT.i0_lt_f hix) (pc' := 4) rfl ?_
  refine g_iload_n C d14_4 (v := ix) rfl (pc' := 5) rfl ?_
  refine g_iload_n C d14_5 (v := nx) rfl (pc' := 6) rfl ?_
  refine g_icmp_y C d14_6 (Jvm.Free.XT.ii_lt_t hnx) (pc' := 16) (by decide) (by decide) ?_
  refine g_iload_n C d14_16 (v := ix) rfl (pc' := 17) rfl ?_
  refine g_ret C (v := (.int ix)) (ty := .int) rfl rfl (Or.inl ⟨rfl, Or.inl rfl, _, rfl⟩) d14_17 (by decide) (by decide) ?_
  exact ⟨rfl, rfl⟩
theorem own_pd_5_checkIndex : parseMethodDescriptor "(IILjava/util/function/BiFunction;)I" = some ⟨[.int, .int, (.object "java/util/function/BiFunction")], (some .int)⟩ := by decide +kernel
theorem d13_0 : decode jdk_42_method_155_code 0 = .ok (.iload_n 0, 1) := by decide +kernel
theorem d13_1 : decode jdk_42_method_155_code 1 = .ok (.iload_n 1, 1) := by decide +kernel
theorem d13_2 : decode jdk_42_method_155_code 2 = .ok (.getstatic 1053, 3) := by decide +kernel
theorem d13_5 : decode jdk_42_method_155_code 5 = .ok (.invokestatic 1059, 3) := by decide +kernel
theorem d13_8 : decode jdk_42_method_155_code 8 = .ok (.pop, 1) := by decide +kernel
theorem d13_9 : decode jdk_42_method_155_code 9 = .ok (.return_, 1) := by decide +kernel
theorem own_pn_java_lang_String : plainName "java/lang/String" = true := by first | (simp [plainName, overriddenIn]; done) | decide +kernel
set_option maxRecDepth 65536 in
set_option maxHeartbeats 40000000 in
theorem rm_sci (l : Launch) (Z : State) (a0 : Array Value) (hw : ∀ d ∈ tables_1, d.before a0 Z = true) (n0 : Nat) (ix nx : Int32) (h0 : Heap) (Z0 : n0 ≤ h0.size) (cm : Um Z) (O : Old Z n0 h0) (hix : ¬ ix < (0 : Int32)) (hnx : ix < nx) :
    Met1 l Z (⟨"java/lang/String", "checkIndex", "(II)V"⟩ : MethodName) jdk_42_method_155_code 2 none ({ frames := 1, cells := 0, slots := 0, locals := 14 } : Room) n0 #[(.int ix), (.int nx)] h0 (fun v h => v = none ∧ h0 = h) := by
  refine met_of (plainFor_of_name own_pn_java_lang_String) (L0 := #[.val (.int ix), .val (.int nx)]) (by first | (simp [argsToLocals, Value.category]; done) | rfl) ?_
  intro B C
  change Ctx B l _ _ "java/lang/String" "checkIndex" _ _ Z at C
  have cm' := cm
  obtain ⟨⟨cz, Scz, hcz⟩, Sfm⟩ := cm'
  rcases Sfm with ⟨fa, Sfa⟩ | Sfa
  · show Go B n0 _ h0 0 0 0 #[.val (.int ix), .val (.int nx)] []
    refine g_iload_n C d13_0 (v := ix) rfl (pc' := 1) rfl ?_
    refine g_iload_n C d13_1 (v := nx) rfl (pc' := 2) rfl ?_
    refine g_getstatic C (host := "") (v := (.ref fa)) (Or.inl (own_w hw 77 rfl)) Via.refl (Sfa.ext O.2) d13_2 (pc' := 5) rfl ?_
    refine g_static C (own_w hw 79 rfl) (own_w hw 80 rfl) (own_w hw 78 rfl) (own_w hw 81 rfl) (by decide) (rm_pci_r l Z a0 hw n0 ix nx fa h0 Z0 hix hnx) (st := []) [(.int ix), (.int nx), (.ref fa)] rfl rfl own_pd_5_checkIndex rfl rfl (by decide) (W := 0) (Nat.le_of_eq rfl) (by decide) (by decide) (by decide) d13_5 (pc' := 8) rfl ?_
    intro v_3 h_1 q_2
    obtain ⟨rfl, rfl⟩ := q_2
    show Go B n0 _ h0 0 0 8 #[.val (.int ix), .val (.int nx)] [(.int ix)]
    refine g_pop C d13_8 rfl (pc' := 9) rfl ?_
    refine g_return C rfl d13_9 (by decide) (by decide) ?_
    exact ⟨rfl, rfl⟩
  · show Go B n0 _ h0 0 0 0 #[.val (.int ix), .val (.int nx)] []
    refine g_iload_n C d13_0 (v := ix) rfl (pc' := 1) rfl ?_
    refine g_iload_n C d13_1 (v := nx) rfl (pc' := 2) rfl ?_
    refine g_getstatic C (host := "") (v := .null) (Or.inl (own_w hw 77 rfl)) Via.refl (Sfa.ext O.2) d13_2 (pc' := 5) rfl ?_
    refine g_static C (own_w hw 79 rfl) (own_w hw 80 rfl) (own_w hw 78 rfl) (own_w hw 81 rfl) (by decide) (rm_pci_n l Z a0 hw n0 ix nx h0 Z0 hix hnx) (st := []) [(.int ix), (.int nx), .null] rfl rfl own_pd_5_checkIndex rfl rfl (by decide) (W := 0) (Nat.le_of_eq rfl) (by decide) (by decide) (by decide) d13_5 (pc' := 8) rfl ?_
    intro v_6 h_4 q_5
    obtain ⟨rfl, rfl⟩ := q_5
    show Go B n0 _ h0 0 0 8 #[.val (.int ix), .val (.int nx)] [(.int ix)]
    refine g_pop C d13_8 rfl (pc' := 9) rfl ?_
    refine g_return C rfl d13_9 (by decide) (by decide) ?_
    exact ⟨rfl, rfl⟩
theorem own_pd_3_checkIndex : parseMethodDescriptor "(II)V" = some ⟨[.int, .int], none⟩ := by decide +kernel
theorem d12_0 : decode jdk_43_method_2_code 0 = .ok (.iload_n 1, 1) := by decide +kernel
theorem d12_1 : decode jdk_43_method_2_code 1 = .ok (.aload_n 0, 1) := by decide +kernel
theorem d12_2 : decode jdk_43_method_2_code 2 = .ok (.arraylength, 1) := by decide +kernel
theorem d12_3 : decode jdk_43_method_2_code 3 = .ok (.invokestatic 9, 3) := by decide +kernel
theorem d12_6 : decode jdk_43_method_2_code 6 = .ok (.aload_n 0, 1) := by decide +kernel
theorem d12_7 : decode jdk_43_method_2_code 7 = .ok (.iload_n 1, 1) := by decide +kernel
theorem d12_8 : decode jdk_43_method_2_code 8 = .ok (.baload, 1) := by decide +kernel
theorem d12_9 : decode jdk_43_method_2_code 9 = .ok (.sipush 255, 3) := by decide +kernel
theorem d12_12 : decode jdk_43_method_2_code 12 = .ok (.iand, 1) := by decide +kernel
theorem d12_13 : decode jdk_43_method_2_code 13 = .ok (.i2c, 1) := by decide +kernel
theorem d12_14 : decode jdk_43_method_2_code 14 = .ok (.ireturn, 1) := by decide +kernel
theorem own_pn_java_lang_StringLatin1 : plainName "java/lang/StringLatin1" = true := by first | (simp [plainName, overriddenIn]; done) | decide +kernel
set_option maxRecDepth 65536 in
set_option maxHeartbeats 40000000 in
theorem rm_lchar (l : Launch) (Z : State) (a0 : Array Value) (hw : ∀ d ∈ tables_1, d.before a0 Z = true) (n0 : Nat) (a1 : Addr) (vs : List Value) (ix c : Int32) (h0 : Heap) (Z0 : n0 ≤ h0.size) (cm : Um Z) (O : Old Z n0 h0) (A1 : Ary Z h0 a1 .byte vs) (hvl : vs.length = 16) (hix : ¬ ix < (0 : Int32)) (hnx : ix < (16 : Int32)) (hv : vs[ix.toNatClampNeg]? = some (.int (Int8.toInt32 (Int32.toInt8 c)))) (kc : Ch c) :
    Met1 l Z (⟨"java/lang/StringLatin1", "charAt", "([BI)C"⟩ : MethodName) jdk_43_method_2_code 2 (some .char) ({ frames := 2, cells := 0, slots := 0, locals := 27 } : Room) n0 #[(.ref a1), (.int ix)] h0 (fun v h => v = some (.int c) ∧ h0 = h) := by
  refine met_of (plainFor_of_name own_pn_java_lang_StringLatin1) (L0 := #[.val (.ref a1), .val (.int ix)]) (by first | (simp [argsToLocals, Value.category]; done) | rfl) ?_
  intro B C
  change Ctx B l _ _ "java/lang/StringLatin1" "charAt" _ _ Z at C
  have cm' := cm
  obtain ⟨⟨cz, Scz, hcz⟩, Sfm⟩ := cm'
  refine g_iload_n C d12_0 (v := ix) rfl (pc' := 1) rfl ?_
  refine g_aload_n C d12_1 (v := (.ref a1)) rfl rfl (pc' := 2) rfl ?_
  refine g_arraylength C A1 (z := (16 : Int32)) (by rw [hvl]; rfl) d12_2 (pc' := 3) rfl ?_
  refine g_static C (own_w hw 74 rfl) (own_w hw 75 rfl) (own_w hw 26 rfl) (own_w hw 76 rfl) (by decide) (rm_sci l Z a0 hw n0 ix (16 : Int32) h0 Z0 cm O hix hnx) (st := []) [(.int ix), (.int (16 : Int32))] rfl rfl own_pd_3_checkIndex rfl rfl (by decide) (W := 0) (Nat.le_of_eq rfl) (by decide) (by decide) (by decide) d12_3 (pc' := 6) rfl ?_
  intro v_3 h_1 q_2
  obtain ⟨rfl, rfl⟩ := q_2
  show Go B n0 _ h0 0 0 6 #[.val (.ref a1), .val (.int ix)] []
  refine g_aload_n C d12_6 (v := (.ref a1)) rfl rfl (pc' := 7) rfl ?_
  refine g_iload_n C d12_7 (v := ix) rfl (pc' := 8) rfl ?_
  refine g_baloadB C A1 hix (i := ix.toNatClampNeg) rfl (v := (Int8.toInt32 (Int32.toInt8 c))) hv d12_8 (pc' := 9) rfl ?_
  refine g_sipush C d12_9 (v := (255 : Int32)) rfl (pc' := 12) rfl ?_
  refine g_iand C (x := (Int8.toInt32 (Int32.toInt8 c))) (y := (255 : Int32)) d12_12  (pc' := 13) rfl ?_
  refine g_i2c C (x := ((Int8.toInt32 (Int32.toInt8 c)) &&& (255 : Int32))) d12_13 (pc' := 14) rfl ?_
  rw [own_l1 kc.1 kc.2.1]
  refine g_ret C (v := (.int c)) (ty := .char) rfl (own_nch kc.1) (Or.inl ⟨rfl, Or.inr (Or.inr (Or.inr (Or.inl rfl))), _, rfl⟩) d12_14 (by decide) (by decide) ?_
  exact ⟨rfl, rfl⟩
theorem d11_0 : decode jdk_42_method_154_code 0 = .ok (.getstatic 38, 3) := by decide +kernel
theorem d11_3 : decode jdk_42_method_154_code 3 = .ok (.ifCond .eq 14, 3) := by decide +kernel
theorem d11_6 : decode jdk_42_method_154_code 6 = .ok (.aload_n 0, 1) := by decide +kernel
theorem d11_7 : decode jdk_42_method_154_code 7 = .ok (.getfield 15, 3) := by decide +kernel
theorem d11_10 : decode jdk_42_method_154_code 10 = .ok (.ifCond .ne 7, 3) := by decide +kernel
theorem d11_13 : decode jdk_42_method_154_code 13 = .ok (.iconst 1, 1) := by decide +kernel
theorem d11_14 : decode jdk_42_method_154_code 14 = .ok (.goto 4, 3) := by decide +kernel
theorem d11_18 : decode jdk_42_method_154_code 18 = .ok (.ireturn, 1) := by decide +kernel
set_option maxRecDepth 65536 in
set_option maxHeartbeats 40000000 in
theorem rm_isLatin1 (l : Launch) (Z : State) (a0 : Array Value) (hw : ∀ d ∈ tables_1, d.before a0 Z = true) (n0 : Nat) (a1 : Addr) (h0 : Heap) (Z0 : n0 ≤ h0.size) (cm : Um Z) (O : Old Z n0 h0) (F1 : Fld Z h0 a1 "java/lang/String" "coder" "B" (.int (0 : Int32))) :
    Met1 l Z (⟨"java/lang/String", "isLatin1", "()Z"⟩ : MethodName) jdk_42_method_154_code 1 (some .boolean) ({ frames := 0, cells := 0, slots := 0, locals := 0 } : Room) n0 #[(.ref a1)] h0 (fun v h => v = some (.int (1 : Int32)) ∧ h0 = h) := by
  refine met_of (plainFor_of_name own_pn_java_lang_String) (L0 := #[.val (.ref a1)]) (by first | (simp [argsToLocals, Value.category]; done) | rfl) ?_
  intro B C
  change Ctx B l _ _ "java/lang/String" "isLatin1" _ _ Z at C
  have cm' := cm
  obtain ⟨⟨cz, Scz, hcz⟩, Sfm⟩ := cm'
  refine g_getstatic C (host := "") (v := (.int cz)) (Or.inl (own_w hw 37 rfl)) Via.refl (Scz.ext O.2) d11_0 (pc' := 3) rfl ?_
  refine g_if_n C d11_3 (Jvm.Free.XT.i0_eq_f hcz) (pc' := 6) rfl ?_
  refine g_aload_n C d11_6 (v := (.ref a1)) rfl rfl (pc' := 7) rfl ?_
  refine g_getfield C (host := "") (v := (.int (0 : Int32))) (Or.inl (own_w hw 49 rfl)) Via.refl F1 d11_7 (pc' := 10) rfl ?_
  refine g_if_n C d11_10 (Jvm.Free.XT.i0_ne_f (by decide)) (pc' := 13) rfl ?_
  refine g_iconst C d11_13 (v := (1 : Int32)) rfl (pc' := 14) rfl ?_
  refine g_goto C d11_14 (pc' := 18) (by decide) (by decide) ?_
  refine g_ret C (v := (.int (1 : Int32))) (ty := .boolean) rfl rfl (Or.inl ⟨rfl, Or.inr (Or.inl rfl), _, rfl⟩) d11_18 (by decide) (by decide) ?_
  exact ⟨rfl, rfl⟩
theorem own_pd_1_isLatin1 : parseMethodDescriptor "()Z" = some ⟨[], (some .boolean)⟩ := by decide +kernel
theorem own_pd_11_charAt : parseMethodDescriptor "([BI)C" = some ⟨[(.array .byte), .int], (some .char)⟩ := by decide +kernel
theorem d10_0 : decode jdk_42_method_56_code 0 = .ok (.aload_n 0, 1) := by decide +kernel
theorem d10_1 : decode jdk_42_method_56_code 1 = .ok (.invokevirtual 492, 3) := by decide +kernel
theorem d10_4 : decode jdk_42_method_56_code 4 = .ok (.ifCond .eq 12, 3) := by decide +kernel
theorem d10_7 : decode jdk_42_method_56_code 7 = .ok (.aload_n 0, 1) := by decide +kernel
theorem d10_8 : decode jdk_42_method_56_code 8 = .ok (.getfield 9, 3) := by decide +kernel
theorem d10_11 : decode jdk_42_method_56_code 11 = .ok (.iload_n 1, 1) := by decide +kernel
theorem d10_12 : decode jdk_42_method_56_code 12 = .ok (.invokestatic 495, 3) := by decide +kernel
theorem d10_15 : decode jdk_42_method_56_code 15 = .ok (.ireturn, 1) := by decide +kernel
set_option maxRecDepth 65536 in
set_option maxHeartbeats 40000000 in
theorem rm_charAt (l : Launch) (Z : State) (a0 : Array Value) (hw : ∀ d ∈ tables_1, d.before a0 Z = true) (n0 : Nat) (a1 b1 : Addr) (vs : List Value) (ix c : Int32) (h0 : Heap) (Z0 : n0 ≤ h0.size) (cm : Um Z) (O : Old Z n0 h0) (E0 : Exa Z h0 a1 "java/lang/String") (F0 : Fld Z h0 a1 "java/lang/String" "value" "[B" (.ref b1)) (F1 : Fld Z h0 a1 "java/lang/String" "coder" "B" (.int (0 : Int32))) (A1 : Ary Z h0 b1 .byte vs) (hvl : vs.length = 16) (hix : ¬ ix < (0 : Int32)) (hnx : ix < (16 : Int32)) (hv : vs[ix.toNatClampNeg]? = some (.int (Int8.toInt32 (Int32.toInt8 c)))) (kc : Ch c) :
    Met1 l Z (⟨"java/lang/String", "charAt", "(I)C"⟩ : MethodName) jdk_42_method_56_code 2 (some .char) ({ frames := 3, cells := 0, slots := 0, locals := 40 } : Room) n0 #[(.ref a1), (.int ix)] h0 (fun v h => v = some (.int c) ∧ h0 = h) := by
  refine met_of (plainFor_of_name own_pn_java_lang_String) (L0 := #[.val (.ref a1), .val (.int ix)]) (by first | (simp [argsToLocals, Value.category]; done) | rfl) ?_
  intro B C
  change Ctx B l _ _ "java/lang/String" "charAt" _ _ Z at C
  have cm' := cm
  obtain ⟨⟨cz, Scz, hcz⟩, Sfm⟩ := cm'
  refine g_aload_n C d10_0 (v := (.ref a1)) rfl rfl (pc' := 1) rfl ?_
  refine g_virtual C (own_w hw 65 rfl) (own_w hw 66 rfl) (own_w hw 68 rfl) (own_w hw 67 rfl) (own_w hw 26 rfl) (own_w hw 69 rfl) (notFace_of_selects (args := #[]) (mvT C.2.2.2.2.1 (own_w hw 68 rfl))) (by decide) E0 (rm_isLatin1 l Z a0 hw n0 a1 h0 Z0 cm O F1) (st := []) [] rfl rfl own_pd_1_isLatin1 rfl rfl (by decide) (W := 0) (Nat.le_of_eq rfl) (by decide) (by decide) (by decide) d10_1 (pc' := 4) rfl ?_
  intro v_3 h_1 q_2
  obtain ⟨rfl, rfl⟩ := q_2
  show Go B n0 _ h0 0 0 4 #[.val (.ref a1), .val (.int ix)] [(.int (1 : Int32))]
  refine g_if_n C d10_4 (Jvm.Free.XT.i0_eq_f (by decide)) (pc' := 7) rfl ?_
  refine g_aload_n C d10_7 (v := (.ref a1)) rfl rfl (pc' := 8) rfl ?_
  refine g_getfield C (host := "") (v := (.ref b1)) (Or.inl (own_w hw 51 rfl)) Via.refl F0 d10_8 (pc' := 11) rfl ?_
  refine g_iload_n C d10_11 (v := ix) rfl (pc' := 12) rfl ?_
  refine g_static C (own_w hw 70 rfl) (own_w hw 71 rfl) (own_w hw 72 rfl) (own_w hw 73 rfl) (by decide) (rm_lchar l Z a0 hw n0 b1 vs ix c h0 Z0 cm O A1 hvl hix hnx hv kc) (st := []) [(.ref b1), (.int ix)] rfl rfl own_pd_11_charAt rfl rfl (by decide) (W := 0) (Nat.le_of_eq rfl) (by decide) (by decide) (by decide) d10_12 (pc' := 15) rfl ?_
  intro v_6 h_4 q_5
  obtain ⟨rfl, rfl⟩ := q_5
  show Go B n0 _ h0 0 0 15 #[.val (.ref a1), .val (.int ix)] [(.int c)]
  refine g_ret C (v := (.int c)) (ty := .char) rfl (own_nch kc.1) (Or.inl ⟨rfl, Or.inr (Or.inr (Or.inr (Or.inl rfl))), _, rfl⟩) d10_15 (by decide) (by decide) ?_
  exact ⟨rfl, rfl⟩
theorem own_dix {f ix to : Int32} {N j r : Nat} (h0 : 0 ≤ f.toInt) (h1 : to.toInt = f.toInt + N) (h2 : to.toInt ≤ 16) (h3 : j + (r + 1) = N) (h4 : ix.toInt = f.toInt + j) : ¬ ix < (0 : Int32) ∧ ix < (16 : Int32) ∧ ix < to ∧ ix.toNatClampNeg = (f.toInt + j).toNat ∧ (ix + (1 : Int32)).toInt = f.toInt + ((j + 1 : Nat) : Int) := by
  have t0 : (0 : Int32).toInt = 0 := rfl
  have t1 : (16 : Int32).toInt = 16 := rfl
  have o1 : (1 : Int32).toInt = 1 := rfl
  have e1 := c_iadd ix (1 : Int32)
  have r1 := rng32 (ix + (1 : Int32))
  refine ⟨by rw [Int32.lt_iff_toInt_lt, t0]; omega, by rw [Int32.lt_iff_toInt_lt, t1]; omega, by rw [Int32.lt_iff_toInt_lt]; omega, by show ix.toInt.toNat = _; rw [h4], by omega⟩
theorem own_ch9 {c : Int32} {M : Int64} {e : Nat} (h : c.toInt = 48 + M.toInt / ((10 ^ e : Nat) : Int) % 10) : ¬ c < (48 : Int32) ∧ ¬ (57 : Int32) < c ∧ ¬ c = (45 : Int32) := by
  have t0 : (48 : Int32).toInt = 48 := rfl
  have t1 : (57 : Int32).toInt = 57 := rfl
  generalize M.toInt / ((10 ^ e : Nat) : Int) = q at h
  refine ⟨by rw [Int32.lt_iff_toInt_lt, t0]; omega, by rw [Int32.lt_iff_toInt_lt, t1]; omega, fun z => ?_⟩
  rw [z] at h
  have t2 : (45 : Int32).toInt = 45 := rfl
  omega
theorem own_pd_2_charAt : parseMethodDescriptor "(I)C" = some ⟨[.int], (some .char)⟩ := by decide +kernel
theorem d15_0 : decode prog_23_method_5_code 0 = .ok (.iload_n 1, 1) := by decide +kernel
theorem d15_1 : decode prog_23_method_5_code 1 = .ok (.iload_n 2, 1) := by decide +kernel
theorem d15_2 : decode prog_23_method_5_code 2 = .ok (.if_icmp .lt 7, 3) := by decide +kernel
theorem d15_9 : decode prog_23_method_5_code 9 = .ok (.lconst 0, 1) := by decide +kernel
theorem d15_10 : decode prog_23_method_5_code 10 = .ok (.lstore_n 3, 1) := by decide +kernel
theorem d15_11 : decode prog_23_method_5_code 11 = .ok (.iload_n 1, 1) := by decide +kernel
theorem d15_12 : decode prog_23_method_5_code 12 = .ok (.istore 5, 2) := by decide +kernel
theorem d15_14 : decode prog_23_method_5_code 14 = .ok (.iload 5, 2) := by decide +kernel
theorem d15_16 : decode prog_23_method_5_code 16 = .ok (.iload_n 2, 1) := by decide +kernel
theorem d15_17 : decode prog_23_method_5_code 17 = .ok (.if_icmp .ge 60, 3) := by decide +kernel
theorem d15_20 : decode prog_23_method_5_code 20 = .ok (.aload_n 0, 1) := by decide +kernel
theorem d15_21 : decode prog_23_method_5_code 21 = .ok (.iload 5, 2) := by decide +kernel
theorem d15_23 : decode prog_23_method_5_code 23 = .ok (.invokevirtual 45, 3) := by decide +kernel
theorem d15_26 : decode prog_23_method_5_code 26 = .ok (.istore 6, 2) := by decide +kernel
theorem d15_28 : decode prog_23_method_5_code 28 = .ok (.iload 6, 2) := by decide +kernel
theorem d15_30 : decode prog_23_method_5_code 30 = .ok (.bipush 48, 2) := by decide +kernel
theorem d15_32 : decode prog_23_method_5_code 32 = .ok (.if_icmp .lt 10, 3) := by decide +kernel
theorem d15_35 : decode prog_23_method_5_code 35 = .ok (.iload 6, 2) := by decide +kernel
theorem d15_37 : decode prog_23_method_5_code 37 = .ok (.bipush 57, 2) := by decide +kernel
theorem d15_39 : decode prog_23_method_5_code 39 = .ok (.if_icmp .le 7, 3) := by decide +kernel
theorem d15_46 : decode prog_23_method_5_code 46 = .ok (.ldc2_w 54, 3) := by decide +kernel
theorem d15_49 : decode prog_23_method_5_code 49 = .ok (.lload_n 3, 1) := by decide +kernel
theorem d15_50 : decode prog_23_method_5_code 50 = .ok (.lmul, 1) := by decide +kernel
theorem d15_51 : decode prog_23_method_5_code 51 = .ok (.iload 6, 2) := by decide +kernel
theorem d15_53 : decode prog_23_method_5_code 53 = .ok (.bipush 48, 2) := by decide +kernel
theorem d15_55 : decode prog_23_method_5_code 55 = .ok (.isub, 1) := by decide +kernel
theorem d15_56 : decode prog_23_method_5_code 56 = .ok (.i2l, 1) := by decide +kernel
theorem d15_57 : decode prog_23_method_5_code 57 = .ok (.ladd, 1) := by decide +kernel
theorem d15_58 : decode prog_23_method_5_code 58 = .ok (.lstore_n 3, 1) := by decide +kernel
theorem d15_59 : decode prog_23_method_5_code 59 = .ok (.lload_n 3, 1) := by decide +kernel
theorem d15_60 : decode prog_23_method_5_code 60 = .ok (.ldc2_w 56, 3) := by decide +kernel
theorem d15_63 : decode prog_23_method_5_code 63 = .ok (.lcmp, 1) := by decide +kernel
theorem d15_64 : decode prog_23_method_5_code 64 = .ok (.ifCond .le 7, 3) := by decide +kernel
theorem d15_71 : decode prog_23_method_5_code 71 = .ok (.iinc 5 1, 3) := by decide +kernel
theorem d15_74 : decode prog_23_method_5_code 74 = .ok (.goto (-60), 3) := by decide +kernel
theorem d15_77 : decode prog_23_method_5_code 77 = .ok (.lload_n 3, 1) := by decide +kernel
theorem d15_78 : decode prog_23_method_5_code 78 = .ok (.lreturn, 1) := by decide +kernel
theorem own_pn_org_linkloom_io_Fields : plainName "org/linkloom/io/Fields" = true := by first | (simp [plainName, overriddenIn]; done) | decide +kernel
set_option maxRecDepth 65536 in
set_option maxHeartbeats 40000000 in
theorem rm_digits (l : Launch) (Z : State) (a0 : Array Value) (hw : ∀ d ∈ tables_1, d.before a0 Z = true) (n0 : Nat) (a1 b1 : Addr) (vs : List Value) (fr to : Int32) (mg : Int64) (N : Nat) (h0 : Heap) (Z0 : n0 ≤ h0.size) (cm : Um Z) (O : Old Z n0 h0) (E0 : Exa Z h0 a1 "java/lang/String") (F0 : Fld Z h0 a1 "java/lang/String" "value" "[B" (.ref b1)) (F1 : Fld Z h0 a1 "java/lang/String" "coder" "B" (.int (0 : Int32))) (A1 : Ary Z h0 b1 .byte vs) (hvl : vs.length = 16) (hN : 1 ≤ N) (hf : 0 ≤ fr.toInt) (hto : to.toInt = fr.toInt + N) (hto' : to.toInt ≤ 16) (m0 : 0 ≤ mg.toInt) (m1 : mg.toInt < ((10 ^ N : Nat) : Int)) (m2 : mg.toInt ≤ 2147483648) (Dg : DgP vs fr mg N) :
    Met1 l Z (⟨"org/linkloom/io/Fields", "digits", "(Ljava/lang/String;II)J"⟩ : MethodName) prog_23_method_5_code 7 (some .long) ({ frames := 4, cells := 0, slots := 0, locals := 53 } : Room) n0 #[(.ref a1), (.int fr), (.int to)] h0 (fun v h => v = some (.long mg) ∧ h0 = h) := by
  refine met_of (plainFor_of_name own_pn_org_linkloom_io_Fields) (L0 := #[.val (.ref a1), .val (.int fr), .val (.int to), .unset, .unset, .unset, .unset]) (by first | (simp [argsToLocals, Value.category]; done) | rfl) ?_
  intro B C
  change Ctx B l _ _ "org/linkloom/io/Fields" "digits" _ _ Z at C
  have cm' := cm
  obtain ⟨⟨cz, Scz, hcz⟩, Sfm⟩ := cm'
  refine g_iload_n C d15_0 (v := fr) rfl (pc' := 1) rfl ?_
  refine g_iload_n C d15_1 (v := to) rfl (pc' := 2) rfl ?_
  refine g_icmp_y C d15_2 (Jvm.Free.XT.ii_lt_t (by rw [Int32.lt_iff_toInt_lt]; omega)) (pc' := 9) (by decide) (by decide) ?_
  refine g_lconst C d15_9 (v := (0 : Int64)) rfl (pc' := 10) rfl ?_
  refine g_lstore_n C d15_10 (v := (0 : Int64)) (L' := #[.val (.ref a1), .val (.int fr), .val (.int to), .val (.long (0 : Int64)), .second, .unset, .unset]) rfl (pc' := 11) rfl ?_
  refine g_iload_n C d15_11 (v := fr) rfl (pc' := 12) rfl ?_
  refine g_istore C d15_12 (v := fr) (L' := #[.val (.ref a1), .val (.int fr), .val (.int to), .val (.long (0 : Int64)), .second, .val (.int fr), .unset]) rfl (pc' := 14) rfl ?_
  have lp : ∀ (r j : Nat) (acc : Int64) (ix : Int32) (sl : Slot), (sl = .unset ∨ ∃ z, sl = .val (.int z)) → j + r = N → acc.toInt = mg.toInt / ((10 ^ r : Nat) : Int) → ix.toInt = fr.toInt + j → Go B n0 (fun v h => v = some (.long mg) ∧ h0 = h) h0 0 0 14 #[.val (.ref a1), .val (.int fr), .val (.int to), .val (.long acc), .second, .val (.int ix), sl] [] := by
    intro r
    induction r with
    | zero =>
      intro j acc ix sl hsl hj hac hix
      have hnl : ¬ ix < to := by rw [Int32.lt_iff_toInt_lt]; omega
      obtain rfl : acc = mg := Int64.toInt_inj.mp (by simpa using hac)
      show Go B n0 _ h0 0 0 14 #[.val (.ref a1), .val (.int fr), .val (.int to), .val (.long acc), .second, .val (.int ix), sl] []
      refine g_iload C d15_14 (v := ix) rfl (pc' := 16) rfl ?_
      refine g_iload_n C d15_16 (v := to) rfl (pc' := 17) rfl ?_
      refine g_icmp_y C d15_17 (Jvm.Free.XT.ii_ge_t hnl) (pc' := 77) (by decide) (by decide) ?_
      refine g_lload_n C d15_77 (v := acc) rfl (pc' := 78) rfl ?_
      refine g_ret C (v := (.long acc)) (ty := .long) rfl rfl (Or.inr (Or.inl ⟨rfl, rfl, _, rfl⟩)) d15_78 (by decide) (by decide) ?_
      exact ⟨rfl, rfl⟩
    | succ r ih =>
      intro j acc ix sl hsl hj hac hix
      obtain ⟨hix0, hnx, hlt, hnat, hnext⟩ := own_dix hf hto hto' hj hix
      obtain ⟨c, hv0, kc, ec⟩ := Dg j (by omega)
      rw [show N - 1 - j = r by omega] at ec
      obtain ⟨hc1, hc2, -⟩ := own_ch9 ec
      have hv : vs[ix.toNatClampNeg]? = some (.int (Int8.toInt32 (Int32.toInt8 c))) := by rw [hnat]; exact hv0
      rcases hsl with rfl | ⟨z, rfl⟩
      · show Go B n0 _ h0 0 0 14 #[.val (.ref a1), .val (.int fr), .val (.int to), .val (.long acc), .second, .val (.int ix), .unset] []
        refine g_iload C d15_14 (v := ix) rfl (pc' := 16) rfl ?_
        refine g_iload_n C d15_16 (v := to) rfl (pc' := 17) rfl ?_
        refine g_icmp_n C d15_17 (Jvm.Free.XT.ii_ge_f hlt) (pc' := 20) rfl ?_
        refine g_aload_n C d15_20 (v := (.ref a1)) rfl rfl (pc' := 21) rfl ?_
        refine g_iload C d15_21 (v := ix) rfl (pc' := 23) rfl ?_
        refine g_virtual C (own_w hw 60 rfl) (own_w hw 61 rfl) (own_w hw 63 rfl) (own_w hw 62 rfl) (own_w hw 26 rfl) (own_w hw 64 rfl) (notFace_of_selects (args := #[]) (mvT C.2.2.2.2.1 (own_w hw 63 rfl))) (by decide) E0 (rm_charAt l Z a0 hw n0 a1 b1 vs ix c h0 Z0 cm O E0 F0 F1 A1 hvl hix0 hnx hv kc) (st := []) [(.int ix)] rfl rfl own_pd_2_charAt rfl rfl (by decide) (W := 0) (Nat.le_of_eq rfl) (by decide) (by decide) (by decide) d15_23 (pc' := 26) rfl ?_
        intro v_3 h_1 q_2
        obtain ⟨rfl, rfl⟩ := q_2
        show Go B n0 _ h0 0 0 26 #[.val (.ref a1), .val (.int fr), .val (.int to), .val (.long acc), .second, .val (.int ix), .unset] [(.int c)]
        refine g_istore C d15_26 (v := c) (L' := #[.val (.ref a1), .val (.int fr), .val (.int to), .val (.long acc), .second, .val (.int ix), .val (.int c)]) rfl (pc' := 28) rfl ?_
        refine g_iload C d15_28 (v := c) rfl (pc' := 30) rfl ?_
        refine g_bipush C d15_30 (v := (48 : Int32)) rfl (pc' := 32) rfl ?_
        refine g_icmp_n C d15_32 (Jvm.Free.XT.ii_lt_f hc1) (pc' := 35) rfl ?_
        refine g_iload C d15_35 (v := c) rfl (pc' := 37) rfl ?_
        refine g_bipush C d15_37 (v := (57 : Int32)) rfl (pc' := 39) rfl ?_
        refine g_icmp_y C d15_39 (Jvm.Free.XT.ii_le_t hc2) (pc' := 46) (by decide) (by decide) ?_
        refine g_ldc2_w C (v := (10 : Int64)) (own_w hw 85 rfl) d15_46 (pc' := 49) rfl ?_
        refine g_lload_n C d15_49 (v := acc) rfl (pc' := 50) rfl ?_
        refine g_lmul C (x := (10 : Int64)) (y := acc) d15_50  (pc' := 51) rfl ?_
        refine g_iload C d15_51 (v := c) rfl (pc' := 53) rfl ?_
        refine g_bipush C d15_53 (v := (48 : Int32)) rfl (pc' := 55) rfl ?_
        refine g_isub C (x := c) (y := (48 : Int32)) d15_55  (pc' := 56) rfl ?_
        refine g_i2l C (x := (c - (48 : Int32))) d15_56 (pc' := 57) rfl ?_
        refine g_ladd C (x := ((10 : Int64) * acc)) (y := (Int32.toInt64 (c - (48 : Int32)))) d15_57  (pc' := 58) rfl ?_
        obtain ⟨ac2, eac⟩ : ∃ z : Int64, z = (((10 : Int64) * acc) + (Int32.toInt64 (c - (48 : Int32)))) := ⟨_, rfl⟩
        rw [← eac]
        obtain ⟨hac2, hac3⟩ := own_dstep m0 m2 hac ec eac
        refine g_lstore_n C d15_58 (v := ac2) (L' := #[.val (.ref a1), .val (.int fr), .val (.int to), .val (.long ac2), .second, .val (.int ix), .val (.int c)]) rfl (pc' := 59) rfl ?_
        refine g_lload_n C d15_59 (v := ac2) rfl (pc' := 60) rfl ?_
        refine g_ldc2_w C (v := (2147483648 : Int64)) (own_w hw 86 rfl) d15_60 (pc' := 63) rfl ?_
        refine g_lcmp C (x := ac2) (y := (2147483648 : Int64)) d15_63 (pc' := 64) rfl ?_
        refine g_if_y C d15_64 (Jvm.Free.XT.ll_le_t hac3) (pc' := 71) (by decide) (by decide) ?_
        refine g_iinc C d15_71 (v := ix) (w := (ix + (1 : Int32))) rfl rfl (L' := #[.val (.ref a1), .val (.int fr), .val (.int to), .val (.long ac2), .second, .val (.int (ix + (1 : Int32))), .val (.int c)]) rfl (pc' := 74) rfl ?_
        refine g_goto C d15_74 (pc' := 14) (by decide) (by decide) ?_
        exact ih (j + 1) _ _ _ (Or.inr ⟨_, rfl⟩) (by omega) hac2 hnext
      · show Go B n0 _ h0 0 0 14 #[.val (.ref a1), .val (.int fr), .val (.int to), .val (.long acc), .second, .val (.int ix), .val (.int z)] []
        refine g_iload C d15_14 (v := ix) rfl (pc' := 16) rfl ?_
        refine g_iload_n C d15_16 (v := to) rfl (pc' := 17) rfl ?_
        refine g_icmp_n C d15_17 (Jvm.Free.XT.ii_ge_f hlt) (pc' := 20) rfl ?_
        refine g_aload_n C d15_20 (v := (.ref a1)) rfl rfl (pc' := 21) rfl ?_
        refine g_iload C d15_21 (v := ix) rfl (pc' := 23) rfl ?_
        refine g_virtual C (own_w hw 60 rfl) (own_w hw 61 rfl) (own_w hw 63 rfl) (own_w hw 62 rfl) (own_w hw 26 rfl) (own_w hw 64 rfl) (notFace_of_selects (args := #[]) (mvT C.2.2.2.2.1 (own_w hw 63 rfl))) (by decide) E0 (rm_charAt l Z a0 hw n0 a1 b1 vs ix c h0 Z0 cm O E0 F0 F1 A1 hvl hix0 hnx hv kc) (st := []) [(.int ix)] rfl rfl own_pd_2_charAt rfl rfl (by decide) (W := 0) (Nat.le_of_eq rfl) (by decide) (by decide) (by decide) d15_23 (pc' := 26) rfl ?_
        intro v_6 h_4 q_5
        obtain ⟨rfl, rfl⟩ := q_5
        show Go B n0 _ h0 0 0 26 #[.val (.ref a1), .val (.int fr), .val (.int to), .val (.long acc), .second, .val (.int ix), .val (.int z)] [(.int c)]
        refine g_istore C d15_26 (v := c) (L' := #[.val (.ref a1), .val (.int fr), .val (.int to), .val (.long acc), .second, .val (.int ix), .val (.int c)]) rfl (pc' := 28) rfl ?_
        refine g_iload C d15_28 (v := c) rfl (pc' := 30) rfl ?_
        refine g_bipush C d15_30 (v := (48 : Int32)) rfl (pc' := 32) rfl ?_
        refine g_icmp_n C d15_32 (Jvm.Free.XT.ii_lt_f hc1) (pc' := 35) rfl ?_
        refine g_iload C d15_35 (v := c) rfl (pc' := 37) rfl ?_
        refine g_bipush C d15_37 (v := (57 : Int32)) rfl (pc' := 39) rfl ?_
        refine g_icmp_y C d15_39 (Jvm.Free.XT.ii_le_t hc2) (pc' := 46) (by decide) (by decide) ?_
        refine g_ldc2_w C (v := (10 : Int64)) (own_w hw 85 rfl) d15_46 (pc' := 49) rfl ?_
        refine g_lload_n C d15_49 (v := acc) rfl (pc' := 50) rfl ?_
        refine g_lmul C (x := (10 : Int64)) (y := acc) d15_50  (pc' := 51) rfl ?_
        refine g_iload C d15_51 (v := c) rfl (pc' := 53) rfl ?_
        refine g_bipush C d15_53 (v := (48 : Int32)) rfl (pc' := 55) rfl ?_
        refine g_isub C (x := c) (y := (48 : Int32)) d15_55  (pc' := 56) rfl ?_
        refine g_i2l C (x := (c - (48 : Int32))) d15_56 (pc' := 57) rfl ?_
        refine g_ladd C (x := ((10 : Int64) * acc)) (y := (Int32.toInt64 (c - (48 : Int32)))) d15_57  (pc' := 58) rfl ?_
        obtain ⟨ac2, eac⟩ : ∃ z : Int64, z = (((10 : Int64) * acc) + (Int32.toInt64 (c - (48 : Int32)))) := ⟨_, rfl⟩
        rw [← eac]
        obtain ⟨hac2, hac3⟩ := own_dstep m0 m2 hac ec eac
        refine g_lstore_n C d15_58 (v := ac2) (L' := #[.val (.ref a1), .val (.int fr), .val (.int to), .val (.long ac2), .second, .val (.int ix), .val (.int c)]) rfl (pc' := 59) rfl ?_
        refine g_lload_n C d15_59 (v := ac2) rfl (pc' := 60) rfl ?_
        refine g_ldc2_w C (v := (2147483648 : Int64)) (own_w hw 86 rfl) d15_60 (pc' := 63) rfl ?_
        refine g_lcmp C (x := ac2) (y := (2147483648 : Int64)) d15_63 (pc' := 64) rfl ?_
        refine g_if_y C d15_64 (Jvm.Free.XT.ll_le_t hac3) (pc' := 71) (by decide) (by decide) ?_
        refine g_iinc C d15_71 (v := ix) (w := (ix + (1 : Int32))) rfl rfl (L' := #[.val (.ref a1), .val (.int fr), .val (.int to), .val (.long ac2), .second, .val (.int (ix + (1 : Int32))), .val (.int c)]) rfl (pc' := 74) rfl ?_
        refine g_goto C d15_74 (pc' := 14) (by decide) (by decide) ?_
        exact ih (j + 1) _ _ _ (Or.inr ⟨_, rfl⟩) (by omega) hac2 hnext
  exact lp N 0 (0 : Int64) fr .unset (Or.inl rfl) (Nat.zero_add _) (by rw [Int.ediv_eq_zero_of_lt m0 m1]; rfl) (by omega)
theorem own_pd_8_digits : parseMethodDescriptor "(Ljava/lang/String;II)J" = some ⟨[(.object "java/lang/String"), .int, .int], (some .long)⟩ := by decide +kernel
theorem d9_0 : decode prog_23_method_4_code 0 = .ok (.iload_n 1, 1) := by decide +kernel
theorem d9_1 : decode prog_23_method_4_code 1 = .ok (.iload_n 2, 1) := by decide +kernel
theorem d9_2 : decode prog_23_method_4_code 2 = .ok (.if_icmp .ge 17, 3) := by decide +kernel
theorem d9_5 : decode prog_23_method_4_code 5 = .ok (.aload_n 0, 1) := by decide +kernel
theorem d9_6 : decode prog_23_method_4_code 6 = .ok (.iload_n 1, 1) := by decide +kernel
theorem d9_7 : decode prog_23_method_4_code 7 = .ok (.invokevirtual 45, 3) := by decide +kernel
theorem d9_10 : decode prog_23_method_4_code 10 = .ok (.bipush 45, 2) := by decide +kernel
theorem d9_12 : decode prog_23_method_4_code 12 = .ok (.if_icmp .ne 7, 3) := by decide +kernel
theorem d9_19 : decode prog_23_method_4_code 19 = .ok (.iconst 0, 1) := by decide +kernel
theorem d9_20 : decode prog_23_method_4_code 20 = .ok (.istore 5, 2) := by decide +kernel
theorem d9_22 : decode prog_23_method_4_code 22 = .ok (.aload_n 0, 1) := by decide +kernel
theorem d9_23 : decode prog_23_method_4_code 23 = .ok (.iload 5, 2) := by decide +kernel
theorem d9_25 : decode prog_23_method_4_code 25 = .ok (.ifCond .eq 9, 3) := by decide +kernel
theorem d9_34 : decode prog_23_method_4_code 34 = .ok (.iload_n 1, 1) := by decide +kernel
theorem d9_35 : decode prog_23_method_4_code 35 = .ok (.iload_n 2, 1) := by decide +kernel
theorem d9_36 : decode prog_23_method_4_code 36 = .ok (.invokestatic 29, 3) := by decide +kernel
theorem d9_39 : decode prog_23_method_4_code 39 = .ok (.lstore 6, 2) := by decide +kernel
theorem d9_41 : decode prog_23_method_4_code 41 = .ok (.iload 5, 2) := by decide +kernel
theorem d9_43 : decode prog_23_method_4_code 43 = .ok (.ifCond .eq 9, 3) := by decide +kernel
theorem d9_52 : decode prog_23_method_4_code 52 = .ok (.lload 6, 2) := by decide +kernel
theorem d9_54 : decode prog_23_method_4_code 54 = .ok (.lstore 8, 2) := by decide +kernel
theorem d9_56 : decode prog_23_method_4_code 56 = .ok (.lload 6, 2) := by decide +kernel
theorem d9_58 : decode prog_23_method_4_code 58 = .ok (.lconst 0, 1) := by decide +kernel
theorem d9_59 : decode prog_23_method_4_code 59 = .ok (.lcmp, 1) := by decide +kernel
theorem d9_60 : decode prog_23_method_4_code 60 = .ok (.ifCond .lt 20, 3) := by decide +kernel
theorem d9_63 : decode prog_23_method_4_code 63 = .ok (.lload 8, 2) := by decide +kernel
theorem d9_65 : decode prog_23_method_4_code 65 = .ok (.iload_n 3, 1) := by decide +kernel
theorem d9_66 : decode prog_23_method_4_code 66 = .ok (.i2l, 1) := by decide +kernel
theorem d9_67 : decode prog_23_method_4_code 67 = .ok (.lcmp, 1) := by decide +kernel
theorem d9_68 : decode prog_23_method_4_code 68 = .ok (.ifCond .lt 12, 3) := by decide +kernel
theorem d9_71 : decode prog_23_method_4_code 71 = .ok (.lload 8, 2) := by decide +kernel
theorem d9_73 : decode prog_23_method_4_code 73 = .ok (.ldc2_w 37, 3) := by decide +kernel
theorem d9_76 : decode prog_23_method_4_code 76 = .ok (.lcmp, 1) := by decide +kernel
theorem d9_77 : decode prog_23_method_4_code 77 = .ok (.ifCond .le 18, 3) := by decide +kernel
theorem d9_95 : decode prog_23_method_4_code 95 = .ok (.lload 8, 2) := by decide +kernel
theorem d9_97 : decode prog_23_method_4_code 97 = .ok (.l2i, 1) := by decide +kernel
theorem d9_98 : decode prog_23_method_4_code 98 = .ok (.ireturn, 1) := by decide +kernel
set_option maxRecDepth 65536 in
set_option maxHeartbeats 40000000 in
theorem rm_integer_0 (l : Launch) (Z : State) (a0 : Array Value) (hw : ∀ d ∈ tables_1, d.before a0 Z = true) (n0 : Nat) (a1 b1 a2 : Addr) (vs : List Value) (fr to mn : Int32) (mg : Int64) (N : Nat) (h0 : Heap) (Z0 : n0 ≤ h0.size) (cm : Um Z) (O : Old Z n0 h0) (E0 : Exa Z h0 a1 "java/lang/String") (F0 : Fld Z h0 a1 "java/lang/String" "value" "[B" (.ref b1)) (F1 : Fld Z h0 a1 "java/lang/String" "coder" "B" (.int (0 : Int32))) (A1 : Ary Z h0 b1 .byte vs) (hvl : vs.length = 16) (hN : 1 ≤ N) (hf : 0 ≤ fr.toInt) (hf1 : fr.toInt = fr.toInt + 0) (hto : to.toInt = fr.toInt + N) (hto' : to.toInt ≤ 16) (m0 : 0 ≤ mg.toInt) (m1 : mg.toInt < ((10 ^ N : Nat) : Int)) (m2 : mg.toInt ≤ 2147483647) (Dg : DgP vs fr mg N) (hmn : mn.toInt ≤ mg.toInt) :
    Met1 l Z (⟨"org/linkloom/io/Fields", "integer", "(Ljava/lang/String;IIILjava/lang/String;)I"⟩ : MethodName) prog_23_method_4_code 10 (some .int) ({ frames := 5, cells := 0, slots := 0, locals := 71 } : Room) n0 #[(.ref a1), (.int fr), (.int to), (.int mn), (.ref a2)] h0 (fun v h => ∃ r : Int32, v = some (.int r) ∧ r.toInt = mg.toInt ∧ h0 = h) := by
  refine met_of (plainFor_of_name own_pn_org_linkloom_io_Fields) (L0 := #[.val (.ref a1), .val (.int fr), .val (.int to), .val (.int mn), .val (.ref a2), .unset, .unset, .unset, .unset, .unset]) (by first | (simp [argsToLocals, Value.category]; done) | rfl) ?_
  intro B C
  change Ctx B l _ _ "org/linkloom/io/Fields" "integer" _ _ Z at C
  have cm' := cm
  obtain ⟨⟨cz, Scz, hcz⟩, Sfm⟩ := cm'
  have hft : fr < to := by rw [Int32.lt_iff_toInt_lt]; omega
  have hfx : ¬ fr < (0 : Int32) := by rw [Int32.lt_iff_toInt_lt, show (0 : Int32).toInt = 0 from rfl]; omega
  have hfn : fr < (16 : Int32) := by rw [Int32.lt_iff_toInt_lt, show (16 : Int32).toInt = 16 from rfl]; omega
  have hvt : mg.toInt = mg.toInt := by rfl
  have k1 : ¬ mg < (0 : Int64) := by rw [Int64.lt_iff_toInt_lt, show (0 : Int64).toInt = 0 from rfl]; omega
  have k2 : ¬ mg < (Int32.toInt64 mn) := by rw [Int64.lt_iff_toInt_lt, c_i2l, hvt]; omega
  have k3 : ¬ (2147483647 : Int64) < mg := by rw [Int64.lt_iff_toInt_lt, hvt, show (2147483647 : Int64).toInt = 2147483647 from rfl]; omega
  obtain ⟨c, hv0, kc, ec⟩ := Dg 0 (by omega)
  obtain ⟨-, -, hc3⟩ := own_ch9 ec
  have hv : vs[fr.toNatClampNeg]? = some (.int (Int8.toInt32 (Int32.toInt8 c))) := by rw [show fr.toNatClampNeg = (fr.toInt + ((0 : Nat) : Int)).toNat from by show fr.toInt.toNat = (fr.toInt + 0).toNat; rw [Int.add_zero]]; exact hv0
  refine g_iload_n C d9_0 (v := fr) rfl (pc' := 1) rfl ?_
  refine g_iload_n C d9_1 (v := to) rfl (pc' := 2) rfl ?_
  refine g_icmp_n C d9_2 (Jvm.Free.XT.ii_ge_f hft) (pc' := 5) rfl ?_
  refine g_aload_n C d9_5 (v := (.ref a1)) rfl rfl (pc' := 6) rfl ?_
  refine g_iload_n C d9_6 (v := fr) rfl (pc' := 7) rfl ?_
  refine g_virtual C (own_w hw 60 rfl) (own_w hw 61 rfl) (own_w hw 63 rfl) (own_w hw 62 rfl) (own_w hw 26 rfl) (own_w hw 64 rfl) (notFace_of_selects (args := #[]) (mvT C.2.2.2.2.1 (own_w hw 63 rfl))) (by decide) E0 (rm_charAt l Z a0 hw n0 a1 b1 vs fr c h0 Z0 cm O E0 F0 F1 A1 hvl hfx hfn hv kc) (st := []) [(.int fr)] rfl rfl own_pd_2_charAt rfl rfl (by decide) (W := 0) (Nat.le_of_eq rfl) (by decide) (by decide) (by decide) d9_7 (pc' := 10) rfl ?_
  intro v_3 h_1 q_2
  obtain ⟨rfl, rfl⟩ := q_2
  show Go B n0 _ h0 0 0 10 #[.val (.ref a1), .val (.int fr), .val (.int to), .val (.int mn), .val (.ref a2), .unset, .unset, .unset, .unset, .unset] [(.int c)]
  refine g_bipush C d9_10 (v := (45 : Int32)) rfl (pc' := 12) rfl ?_
  refine g_icmp_y C d9_12 (Jvm.Free.XT.ii_ne_t hc3) (pc' := 19) (by decide) (by decide) ?_
  refine g_iconst C d9_19 (v := (0 : Int32)) rfl (pc' := 20) rfl ?_
  refine g_istore C d9_20 (v := (0 : Int32)) (L' := #[.val (.ref a1), .val (.int fr), .val (.int to), .val (.int mn), .val (.ref a2), .val (.int (0 : Int32)), .unset, .unset, .unset, .unset]) rfl (pc' := 22) rfl ?_
  refine g_aload_n C d9_22 (v := (.ref a1)) rfl rfl (pc' := 23) rfl ?_
  refine g_iload C d9_23 (v := (0 : Int32)) rfl (pc' := 25) rfl ?_
  refine g_if_y C d9_25 (Jvm.Free.XT.i0_eq_t (by decide)) (pc' := 34) (by decide) (by decide) ?_
  refine g_iload_n C d9_34 (v := fr) rfl (pc' := 35) rfl ?_
  refine g_iload_n C d9_35 (v := to) rfl (pc' := 36) rfl ?_
  refine g_static C (own_w hw 82 rfl) (own_w hw 83 rfl) (own_w hw 58 rfl) (own_w hw 84 rfl) (by decide) (rm_digits l Z a0 hw n0 a1 b1 vs fr to mg N h0 Z0 cm O E0 F0 F1 A1 hvl hN (by omega) hto hto' m0 m1 (by omega) Dg) (st := []) [(.ref a1), (.int fr), (.int to)] rfl rfl own_pd_8_digits rfl rfl (by decide) (W := 0) (Nat.le_of_eq rfl) (by decide) (by decide) (by decide) d9_36 (pc' := 39) rfl ?_
  intro v_6 h_4 q_5
  obtain ⟨rfl, rfl⟩ := q_5
  show Go B n0 _ h0 0 0 39 #[.val (.ref a1), .val (.int fr), .val (.int to), .val (.int mn), .val (.ref a2), .val (.int (0 : Int32)), .unset, .unset, .unset, .unset] [(.long mg)]
  refine g_lstore C d9_39 (v := mg) (L' := #[.val (.ref a1), .val (.int fr), .val (.int to), .val (.int mn), .val (.ref a2), .val (.int (0 : Int32)), .val (.long mg), .second, .unset, .unset]) rfl (pc' := 41) rfl ?_
  refine g_iload C d9_41 (v := (0 : Int32)) rfl (pc' := 43) rfl ?_
  refine g_if_y C d9_43 (Jvm.Free.XT.i0_eq_t (by decide)) (pc' := 52) (by decide) (by decide) ?_
  refine g_lload C d9_52 (v := mg) rfl (pc' := 54) rfl ?_
  refine g_lstore C d9_54 (v := mg) (L' := #[.val (.ref a1), .val (.int fr), .val (.int to), .val (.int mn), .val (.ref a2), .val (.int (0 : Int32)), .val (.long mg), .second, .val (.long mg), .second]) rfl (pc' := 56) rfl ?_
  refine g_lload C d9_56 (v := mg) rfl (pc' := 58) rfl ?_
  refine g_lconst C d9_58 (v := (0 : Int64)) rfl (pc' := 59) rfl ?_
  refine g_lcmp C (x := mg) (y := (0 : Int64)) d9_59 (pc' := 60) rfl ?_
  refine g_if_n C d9_60 (Jvm.Free.XT.ll_lt_f k1) (pc' := 63) rfl ?_
  refine g_lload C d9_63 (v := mg) rfl (pc' := 65) rfl ?_
  refine g_iload_n C d9_65 (v := mn) rfl (pc' := 66) rfl ?_
  refine g_i2l C (x := mn) d9_66 (pc' := 67) rfl ?_
  refine g_lcmp C (x := mg) (y := (Int32.toInt64 mn)) d9_67 (pc' := 68) rfl ?_
  refine g_if_n C d9_68 (Jvm.Free.XT.ll_lt_f k2) (pc' := 71) rfl ?_
  refine g_lload C d9_71 (v := mg) rfl (pc' := 73) rfl ?_
  refine g_ldc2_w C (v := (2147483647 : Int64)) (own_w hw 87 rfl) d9_73 (pc' := 76) rfl ?_
  refine g_lcmp C (x := mg) (y := (2147483647 : Int64)) d9_76 (pc' := 77) rfl ?_
  refine g_if_y C d9_77 (Jvm.Free.XT.ll_le_t k3) (pc' := 95) (by decide) (by decide) ?_
  refine g_lload C d9_95 (v := mg) rfl (pc' := 97) rfl ?_
  refine g_l2i C (x := mg) d9_97 (pc' := 98) rfl ?_
  refine g_ret C (v := (.int (Int64.toInt32 mg))) (ty := .int) rfl rfl (Or.inl ⟨rfl, Or.inl rfl, _, rfl⟩) d9_98 (by decide) (by decide) ?_
  exact ⟨_, rfl, (by have e1 := c_l2i mg; have r1 := rng32 (Int64.toInt32 mg); rw [hvt] at e1; omega), rfl⟩
theorem d9_15 : decode prog_23_method_4_code 15 = .ok (.iconst 1, 1) := by decide +kernel
theorem d9_16 : decode prog_23_method_4_code 16 = .ok (.goto 4, 3) := by decide +kernel
theorem d9_28 : decode prog_23_method_4_code 28 = .ok (.iload_n 1, 1) := by decide +kernel
theorem d9_29 : decode prog_23_method_4_code 29 = .ok (.iconst 1, 1) := by decide +kernel
theorem d9_30 : decode prog_23_method_4_code 30 = .ok (.iadd, 1) := by decide +kernel
theorem d9_31 : decode prog_23_method_4_code 31 = .ok (.goto 4, 3) := by decide +kernel
theorem d9_46 : decode prog_23_method_4_code 46 = .ok (.lload 6, 2) := by decide +kernel
theorem d9_48 : decode prog_23_method_4_code 48 = .ok (.lneg, 1) := by decide +kernel
theorem d9_49 : decode prog_23_method_4_code 49 = .ok (.goto 5, 3) := by decide +kernel
set_option maxRecDepth 65536 in
set_option maxHeartbeats 40000000 in
theorem rm_integer_1 (l : Launch) (Z : State) (a0 : Array Value) (hw : ∀ d ∈ tables_1, d.before a0 Z = true) (n0 : Nat) (a1 b1 a2 : Addr) (vs : List Value) (fr to mn : Int32) (mg : Int64) (N : Nat) (h0 : Heap) (Z0 : n0 ≤ h0.size) (cm : Um Z) (O : Old Z n0 h0) (E0 : Exa Z h0 a1 "java/lang/String") (F0 : Fld Z h0 a1 "java/lang/String" "value" "[B" (.ref b1)) (F1 : Fld Z h0 a1 "java/lang/String" "coder" "B" (.int (0 : Int32))) (A1 : Ary Z h0 b1 .byte vs) (hvl : vs.length = 16) (hN : 1 ≤ N) (hf : 0 ≤ fr.toInt) (hf1 : (fr + (1 : Int32)).toInt = fr.toInt + 1) (hto : to.toInt = (fr + (1 : Int32)).toInt + N) (hto' : to.toInt ≤ 16) (m0 : 0 ≤ mg.toInt) (m1 : mg.toInt < ((10 ^ N : Nat) : Int)) (m2 : mg.toInt ≤ 2147483648) (Dg : DgP vs (fr + (1 : Int32)) mg N) (hmn : mn.toInt ≤ -mg.toInt) (hsg : vs[fr.toInt.toNat]? = some (.int (Int8.toInt32 (Int32.toInt8 (45 : Int32))))) :
    Met1 l Z (⟨"org/linkloom/io/Fields", "integer", "(Ljava/lang/String;IIILjava/lang/String;)I"⟩ : MethodName) prog_23_method_4_code 10 (some .int) ({ frames := 5, cells := 0, slots := 0, locals := 71 } : Room) n0 #[(.ref a1), (.int fr), (.int to), (.int mn), (.ref a2)] h0 (fun v h => ∃ r : Int32, v = some (.int r) ∧ r.toInt = -mg.toInt ∧ h0 = h) := by
  refine met_of (plainFor_of_name own_pn_org_linkloom_io_Fields) (L0 := #[.val (.ref a1), .val (.int fr), .val (.int to), .val (.int mn), .val (.ref a2), .unset, .unset, .unset, .unset, .unset]) (by first | (simp [argsToLocals, Value.category]; done) | rfl) ?_
  intro B C
  change Ctx B l _ _ "org/linkloom/io/Fields" "integer" _ _ Z at C
  have cm' := cm
  obtain ⟨⟨cz, Scz, hcz⟩, Sfm⟩ := cm'
  have hft : fr < to := by rw [Int32.lt_iff_toInt_lt]; omega
  have hfx : ¬ fr < (0 : Int32) := by rw [Int32.lt_iff_toInt_lt, show (0 : Int32).toInt = 0 from rfl]; omega
  have hfn : fr < (16 : Int32) := by rw [Int32.lt_iff_toInt_lt, show (16 : Int32).toInt = 16 from rfl]; omega
  have hvt : (-mg).toInt = -mg.toInt := by have e1 := c_lneg mg; have r1 := rng64 (-mg); omega
  have k1 : ¬ mg < (0 : Int64) := by rw [Int64.lt_iff_toInt_lt, show (0 : Int64).toInt = 0 from rfl]; omega
  have k2 : ¬ (-mg) < (Int32.toInt64 mn) := by rw [Int64.lt_iff_toInt_lt, c_i2l, hvt]; omega
  have k3 : ¬ (2147483647 : Int64) < (-mg) := by rw [Int64.lt_iff_toInt_lt, hvt, show (2147483647 : Int64).toInt = 2147483647 from rfl]; omega
  refine g_iload_n C d9_0 (v := fr) rfl (pc' := 1) rfl ?_
  refine g_iload_n C d9_1 (v := to) rfl (pc' := 2) rfl ?_
  refine g_icmp_n C d9_2 (Jvm.Free.XT.ii_ge_f hft) (pc' := 5) rfl ?_
  refine g_aload_n C d9_5 (v := (.ref a1)) rfl rfl (pc' := 6) rfl ?_
  refine g_iload_n C d9_6 (v := fr) rfl (pc' := 7) rfl ?_
  refine g_virtual C (own_w hw 60 rfl) (own_w hw 61 rfl) (own_w hw 63 rfl) (own_w hw 62 rfl) (own_w hw 26 rfl) (own_w hw 64 rfl) (notFace_of_selects (args := #[]) (mvT C.2.2.2.2.1 (own_w hw 63 rfl))) (by decide) E0 (rm_charAt l Z a0 hw n0 a1 b1 vs fr (45 : Int32) h0 Z0 cm O E0 F0 F1 A1 hvl hfx hfn hsg (by refine ⟨?_, ?_, ?_⟩ <;> decide)) (st := []) [(.int fr)] rfl rfl own_pd_2_charAt rfl rfl (by decide) (W := 0) (Nat.le_of_eq rfl) (by decide) (by decide) (by decide) d9_7 (pc' := 10) rfl ?_
  intro v_3 h_1 q_2
  obtain ⟨rfl, rfl⟩ := q_2
  show Go B n0 _ h0 0 0 10 #[.val (.ref a1), .val (.int fr), .val (.int to), .val (.int mn), .val (.ref a2), .unset, .unset, .unset, .unset, .unset] [(.int (45 : Int32))]
  refine g_bipush C d9_10 (v := (45 : Int32)) rfl (pc' := 12) rfl ?_
  refine g_icmp_n C d9_12 (Jvm.Free.XT.ii_ne_f (by decide)) (pc' := 15) rfl ?_
  refine g_iconst C d9_15 (v := (1 : Int32)) rfl (pc' := 16) rfl ?_
  refine g_goto C d9_16 (pc' := 20) (by decide) (by decide) ?_
  refine g_istore C d9_20 (v := (1 : Int32)) (L' := #[.val (.ref a1), .val (.int fr), .val (.int to), .val (.int mn), .val (.ref a2), .val (.int (1 : Int32)), .unset, .unset, .unset, .unset]) rfl (pc' := 22) rfl ?_
  refine g_aload_n C d9_22 (v := (.ref a1)) rfl rfl (pc' := 23) rfl ?_
  refine g_iload C d9_23 (v := (1 : Int32)) rfl (pc' := 25) rfl ?_
  refine g_if_n C d9_25 (Jvm.Free.XT.i0_eq_f (by decide)) (pc' := 28) rfl ?_
  refine g_iload_n C d9_28 (v := fr) rfl (pc' := 29) rfl ?_
  refine g_iconst C d9_29 (v := (1 : Int32)) rfl (pc' := 30) rfl ?_
  refine g_iadd C (x := fr) (y := (1 : Int32)) d9_30  (pc' := 31) rfl ?_
  refine g_goto C d9_31 (pc' := 35) (by decide) (by decide) ?_
  refine g_iload_n C d9_35 (v := to) rfl (pc' := 36) rfl ?_
  refine g_static C (own_w hw 82 rfl) (own_w hw 83 rfl) (own_w hw 58 rfl) (own_w hw 84 rfl) (by decide) (rm_digits l Z a0 hw n0 a1 b1 vs (fr + (1 : Int32)) to mg N h0 Z0 cm O E0 F0 F1 A1 hvl hN (by omega) hto hto' m0 m1 (by omega) Dg) (st := []) [(.ref a1), (.int (fr + (1 : Int32))), (.int to)] rfl rfl own_pd_8_digits rfl rfl (by decide) (W := 0) (Nat.le_of_eq rfl) (by decide) (by decide) (by decide) d9_36 (pc' := 39) rfl ?_
  intro v_6 h_4 q_5
  obtain ⟨rfl, rfl⟩ := q_5
  show Go B n0 _ h0 0 0 39 #[.val (.ref a1), .val (.int fr), .val (.int to), .val (.int mn), .val (.ref a2), .val (.int (1 : Int32)), .unset, .unset, .unset, .unset] [(.long mg)]
  refine g_lstore C d9_39 (v := mg) (L' := #[.val (.ref a1), .val (.int fr), .val (.int to), .val (.int mn), .val (.ref a2), .val (.int (1 : Int32)), .val (.long mg), .second, .unset, .unset]) rfl (pc' := 41) rfl ?_
  refine g_iload C d9_41 (v := (1 : Int32)) rfl (pc' := 43) rfl ?_
  refine g_if_n C d9_43 (Jvm.Free.XT.i0_eq_f (by decide)) (pc' := 46) rfl ?_
  refine g_lload C d9_46 (v := mg) rfl (pc' := 48) rfl ?_
  refine g_lneg C (x := mg) d9_48 (pc' := 49) rfl ?_
  refine g_goto C d9_49 (pc' := 54) (by decide) (by decide) ?_
  refine g_lstore C d9_54 (v := (-mg)) (L' := #[.val (.ref a1), .val (.int fr), .val (.int to), .val (.int mn), .val (.ref a2), .val (.int (1 : Int32)), .val (.long mg), .second, .val (.long (-mg)), .second]) rfl (pc' := 56) rfl ?_
  refine g_lload C d9_56 (v := mg) rfl (pc' := 58) rfl ?_
  refine g_lconst C d9_58 (v := (0 : Int64)) rfl (pc' := 59) rfl ?_
  refine g_lcmp C (x := mg) (y := (0 : Int64)) d9_59 (pc' := 60) rfl ?_
  refine g_if_n C d9_60 (Jvm.Free.XT.ll_lt_f k1) (pc' := 63) rfl ?_
  refine g_lload C d9_63 (v := (-mg)) rfl (pc' := 65) rfl ?_
  refine g_iload_n C d9_65 (v := mn) rfl (pc' := 66) rfl ?_
  refine g_i2l C (x := mn) d9_66 (pc' := 67) rfl ?_
  refine g_lcmp C (x := (-mg)) (y := (Int32.toInt64 mn)) d9_67 (pc' := 68) rfl ?_
  refine g_if_n C d9_68 (Jvm.Free.XT.ll_lt_f k2) (pc' := 71) rfl ?_
  refine g_lload C d9_71 (v := (-mg)) rfl (pc' := 73) rfl ?_
  refine g_ldc2_w C (v := (2147483647 : Int64)) (own_w hw 87 rfl) d9_73 (pc' := 76) rfl ?_
  refine g_lcmp C (x := (-mg)) (y := (2147483647 : Int64)) d9_76 (pc' := 77) rfl ?_
  refine g_if_y C d9_77 (Jvm.Free.XT.ll_le_t k3) (pc' := 95) (by decide) (by decide) ?_
  refine g_lload C d9_95 (v := (-mg)) rfl (pc' := 97) rfl ?_
  refine g_l2i C (x := (-mg)) d9_97 (pc' := 98) rfl ?_
  refine g_ret C (v := (.int (Int64.toInt32 (-mg)))) (ty := .int) rfl rfl (Or.inl ⟨rfl, Or.inl rfl, _, rfl⟩) d9_98 (by decide) (by decide) ?_
  exact ⟨_, rfl, (by have e1 := c_l2i (-mg); have r1 := rng32 (Int64.toInt32 (-mg)); rw [hvt] at e1; omega), rfl⟩
theorem d7_0 : decode jdk_52_method_21_code 0 = .ok (.iconst 0, 1) := by decide +kernel
theorem d7_1 : decode jdk_52_method_21_code 1 = .ok (.istore 5, 2) := by decide +kernel
theorem d7_3 : decode jdk_52_method_21_code 3 = .ok (.iload 5, 2) := by decide +kernel
theorem d7_5 : decode jdk_52_method_21_code 5 = .ok (.iload 4, 2) := by decide +kernel
theorem d7_7 : decode jdk_52_method_21_code 7 = .ok (.if_icmp .ge 37, 3) := by decide +kernel
theorem d7_10 : decode jdk_52_method_21_code 10 = .ok (.aload_n 0, 1) := by decide +kernel
theorem d7_11 : decode jdk_52_method_21_code 11 = .ok (.iload_n 1, 1) := by decide +kernel
theorem d7_12 : decode jdk_52_method_21_code 12 = .ok (.caload, 1) := by decide +kernel
theorem d7_13 : decode jdk_52_method_21_code 13 = .ok (.istore 6, 2) := by decide +kernel
theorem d7_15 : decode jdk_52_method_21_code 15 = .ok (.iload 6, 2) := by decide +kernel
theorem d7_17 : decode jdk_52_method_21_code 17 = .ok (.sipush 255, 3) := by decide +kernel
theorem d7_20 : decode jdk_52_method_21_code 20 = .ok (.if_icmp .le 6, 3) := by decide +kernel
theorem d7_26 : decode jdk_52_method_21_code 26 = .ok (.aload_n 2, 1) := by decide +kernel
theorem d7_27 : decode jdk_52_method_21_code 27 = .ok (.iload_n 3, 1) := by decide +kernel
theorem d7_28 : decode jdk_52_method_21_code 28 = .ok (.iload 6, 2) := by decide +kernel
theorem d7_30 : decode jdk_52_method_21_code 30 = .ok (.i2b, 1) := by decide +kernel
theorem d7_31 : decode jdk_52_method_21_code 31 = .ok (.bastore, 1) := by decide +kernel
theorem d7_32 : decode jdk_52_method_21_code 32 = .ok (.iinc 1 1, 3) := by decide +kernel
theorem d7_35 : decode jdk_52_method_21_code 35 = .ok (.iinc 3 1, 3) := by decide +kernel
theorem d7_38 : decode jdk_52_method_21_code 38 = .ok (.iinc 5 1, 3) := by decide +kernel
theorem d7_41 : decode jdk_52_method_21_code 41 = .ok (.goto (-38), 3) := by decide +kernel
theorem d7_44 : decode jdk_52_method_21_code 44 = .ok (.iload 4, 2) := by decide +kernel
theorem d7_46 : decode jdk_52_method_21_code 46 = .ok (.ireturn, 1) := by decide +kernel
theorem own_pn_java_lang_StringUTF16 : plainName "java/lang/StringUTF16" = true := by first | (simp [plainName, overriddenIn]; done) | decide +kernel
set_option maxRecDepth 65536 in
set_option maxHeartbeats 40000000 in
theorem rm_comp1_16 (l : Launch) (Z : State) (a0 : Array Value) (hw : ∀ d ∈ tables_1, d.before a0 Z = true) (n0 : Nat) (a1 a2 : Addr) (c0 c1 c2 c3 c4 c5 c6 c7 c8 c9 c10 c11 c12 c13 c14 c15 : Int32) (h0 : Heap) (Z0 : n0 ≤ h0.size) (A1 : Ary Z h0 a1 .char [.int c0, .int c1, .int c2, .int c3, .int c4, .int c5, .int c6, .int c7, .int c8, .int c9, .int c10, .int c11, .int c12, .int c13, .int c14, .int c15]) (A2 : Ary Z h0 a2 .byte [.int (0 : Int32), .int (0 : Int32), .int (0 : Int32), .int (0 : Int32), .int (0 : Int32), .int (0 : Int32), .int (0 : Int32), .int (0 : Int32), .int (0 : Int32), .int (0 : Int32), .int (0 : Int32), .int (0 : Int32), .int (0 : Int32), .int (0 : Int32), .int (0 : Int32), .int (0 : Int32)]) (g2 : n0 ≤ a2) (n12 : a1 ≠ a2) (k0 : Ch c0) (k1 : Ch c1) (k2 : Ch c2) (k3 : Ch c3) (k4 : Ch c4) (k5 : Ch c5) (k6 : Ch c6) (k7 : Ch c7) (k8 : Ch c8) (k9 : Ch c9) (k10 : Ch c10) (k11 : Ch c11) (k12 : Ch c12) (k13 : Ch c13) (k14 : Ch c14) (k15 : Ch c15) :
    Met1 l Z (⟨"java/lang/StringUTF16", "compress", "([CI[BII)I"⟩ : MethodName) jdk_52_method_21_code 7 (some .int) ({ frames := 0, cells := 0, slots := 0, locals := 0 } : Room) n0 #[(.ref a1), (.int (0 : Int32)), (.ref a2), (.int (0 : Int32)), (.int (16 : Int32))] h0 (fun v h => v = some (.int (16 : Int32)) ∧ Keep h0 h [a2] ∧ Ary Z h a2 .byte [.int (Int8.toInt32 (Int32.toInt8 c0)), .int (Int8.toInt32 (Int32.toInt8 c1)), .int (Int8.toInt32 (Int32.toInt8 c2)), .int (Int8.toInt32 (Int32.toInt8 c3)), .int (Int8.toInt32 (Int32.toInt8 c4)), .int (Int8.toInt32 (Int32.toInt8 c5)), .int (Int8.toInt32 (Int32.toInt8 c6)), .int (Int8.toInt32 (Int32.toInt8 c7)), .int (Int8.toInt32 (Int32.toInt8 c8)), .int (Int8.toInt32 (Int32.toInt8 c9)), .int (Int8.toInt32 (Int32.toInt8 c10)), .int (Int8.toInt32 (Int32.toInt8 c11)), .int (Int8.toInt32 (Int32.toInt8 c12)), .int (Int8.toInt32 (Int32.toInt8 c13)), .int (Int8.toInt32 (Int32.toInt8 c14)), .int (Int8.toInt32 (Int32.toInt8 c15))]) := by
  refine met_of (plainFor_of_name own_pn_java_lang_StringUTF16) (L0 := #[.val (.ref a1), .val (.int (0 : Int32)), .val (.ref a2), .val (.int (0 : Int32)), .val (.int (16 : Int32)), .unset, .unset]) (by first | (simp [argsToLocals, Value.category]; done) | rfl) ?_
  intro B C
  change Ctx B l _ _ "java/lang/StringUTF16" "compress" _ _ Z at C
  refine g_iconst C d7_0 (v := (0 : Int32)) rfl (pc' := 1) rfl ?_
  refine g_istore C d7_1 (v := (0 : Int32)) (L' := #[.val (.ref a1), .val (.int (0 : Int32)), .val (.ref a2), .val (.int (0 : Int32)), .val (.int (16 : Int32)), .val (.int (0 : Int32)), .unset]) rfl (pc' := 3) rfl ?_
  refine g_iload C d7_3 (v := (0 : Int32)) rfl (pc' := 5) rfl ?_
  refine g_iload C d7_5 (v := (16 : Int32)) rfl (pc' := 7) rfl ?_
  refine g_icmp_n C d7_7 (Jvm.Free.XT.ii_ge_f (by decide)) (pc' := 10) rfl ?_
  refine g_aload_n C d7_10 (v := (.ref a1)) rfl rfl (pc' := 11) rfl ?_
  refine g_iload_n C d7_11 (v := (0 : Int32)) rfl (pc' := 12) rfl ?_
  refine g_caload C A1 (by decide) (i := 0) (by decide) (v := c0) rfl d7_12 (pc' := 13) rfl ?_
  refine g_istore C d7_13 (v := c0) (L' := #[.val (.ref a1), .val (.int (0 : Int32)), .val (.ref a2), .val (.int (0 : Int32)), .val (.int (16 : Int32)), .val (.int (0 : Int32)), .val (.int c0)]) rfl (pc' := 15) rfl ?_
  refine g_iload C d7_15 (v := c0) rfl (pc' := 17) rfl ?_
  refine g_sipush C d7_17 (v := (255 : Int32)) rfl (pc' := 20) rfl ?_
  refine g_icmp_y C d7_20 (Jvm.Free.XT.ii_le_t k0.2.1) (pc' := 26) (by decide) (by decide) ?_
  refine g_aload_n C d7_26 (v := (.ref a2)) rfl rfl (pc' := 27) rfl ?_
  refine g_iload_n C d7_27 (v := (0 : Int32)) rfl (pc' := 28) rfl ?_
  refine g_iload C d7_28 (v := c0) rfl (pc' := 30) rfl ?_
  refine g_i2b C (x := c0) d7_30 (pc' := 31) rfl ?_
  refine g_bastoreB C A2 (by decide) (i := 0) (by decide) (show 0 < 16 by decide) (w := (.int (Int8.toInt32 (Int32.toInt8 c0)))) (congrArg Value.int (own_narb _)) g2 d7_31 (pc' := 32) rfl ?_
  intro h_1 K_2 A_3
  have f_4 : Ary Z h_1 a2 .byte [(.int (Int8.toInt32 (Int32.toInt8 c0))), (.int (0 : Int32)), (.int (0 : Int32)), (.int (0 : Int32)), (.int (0 : Int32)), (.int (0 : Int32)), (.int (0 : Int32)), (.int (0 : Int32)), (.int (0 : Int32)), (.int (0 : Int32)), (.int (0 : Int32)), (.int (0 : Int32)), (.int (0 : Int32)), (.int (0 : Int32)), (.int (0 : Int32)), (.int (0 : Int32))] := A_3
  refine g_iinc C d7_32 (v := (0 : Int32)) (w := (1 : Int32)) rfl rfl (L' := #[.val (.ref a1), .val (.int (1 : Int32)), .val (.ref a2), .val (.int (0 : Int32)), .val (.int (16 : Int32)), .val (.int (0 : Int32)), .val (.int c0)]) rfl (pc' := 35) rfl ?_
  refine g_iinc C d7_35 (v := (0 : Int32)) (w := (1 : Int32)) rfl rfl (L' := #[.val (.ref a1), .val (.int (1 : Int32)), .val (.ref a2), .val (.int (1 : Int32)), .val (.int (16 : Int32)), .val (.int (0 : Int32)), .val (.int c0)]) rfl (pc' := 38) rfl ?_
  refine g_iinc C d7_38 (v := (0 : Int32)) (w := (1 : Int32)) rfl rfl (L' := #[.val (.ref a1), .val (.int (1 : Int32)), .val (.ref a2), .val (.int (1 : Int32)), .val (.int (16 : Int32)), .val (.int (1 : Int32)), .val (.int c0)]) rfl (pc' := 41) rfl ?_
  refine g_goto C d7_41 (pc' := 3) (by decide) (by decide) ?_
  refine g_iload C d7_3 (v := (1 : Int32)) rfl (pc' := 5) rfl ?_
  refine g_iload C d7_5 (v := (16 : Int32)) rfl (pc' := 7) rfl ?_
  refine g_icmp_n C d7_7 (Jvm.Free.XT.ii_ge_f (by decide)) (pc' := 10) rfl ?_
  refine g_aload_n C d7_10 (v := (.ref a1)) rfl rfl (pc' := 11) rfl ?_
  refine g_iload_n C d7_11 (v := (1 : Int32)) rfl (pc' := 12) rfl ?_
  have f_5 := (A1.keep K_2 (ninS n12 nin0))
  refine g_caload C f_5 (by decide) (i := 1) (by decide) (v := c1) rfl d7_12 (pc' := 13) rfl ?_
  refine g_istore C d7_13 (v := c1) (L' := #[.val (.ref a1), .val (.int (1 : Int32)), .val (.ref a2), .val (.int (1 : Int32)), .val (.int (16 : Int32)), .val (.int (1 : Int32)), .val (.int c1)]) rfl (pc' := 15) rfl ?_
  refine g_iload C d7_15 (v := c1) rfl (pc' := 17) rfl ?_
  refine g_sipush C d7_17 (v := (255 : Int32)) rfl (pc' := 20) rfl ?_
  refine g_icmp_y C d7_20 (Jvm.Free.XT.ii_le_t k1.2.1) (pc' := 26) (by decide) (by decide) ?_
  refine g_aload_n C d7_26 (v := (.ref a2)) rfl rfl (pc' := 27) rfl ?_
  refine g_iload_n C d7_27 (v := (1 : Int32)) rfl (pc' := 28) rfl ?_
  refine g_iload C d7_28 (v := c1) rfl (pc' := 30) rfl ?_
  refine g_i2b C (x := c1) d7_30 (pc' := 31) rfl ?_
  refine g_bastoreB C f_4 (by decide) (i := 1) (by decide) (show 1 < 16 by decide) (w := (.int (Int8.toInt32 (Int32.toInt8 c1)))) (congrArg Value.int (own_narb _)) g2 d7_31 (pc' := 32) rfl ?_
  intro h_6 K_7 A_8
  have f_9 : Ary Z h_6 a2 .byte [(.int (Int8.toInt32 (Int32.toInt8 c0))), (.int (Int8.toInt32 (Int32.toInt8 c1))), (.int (0 : Int32)), (.int (0 : Int32)), (.int (0 : Int32)), (.int (0 : Int32)), (.int (0 : Int32)), (.int (0 : Int32)), (.int (0 : Int32)), (.int (0 : Int32)), (.int (0 : Int32)), (.int (0 : Int32)), (.int (0 : Int32)), (.int (0 : Int32)), (.int (0 : Int32)), (.int (0 : Int32))] := A_8
  refine g_iinc C d7_32 (v := (1 : Int32)) (w := (2 : Int32)) rfl rfl (L' := #[.val (.ref a1), .val (.int (2 : Int32)), .val (.ref a2), .val (.int (1 : Int32)), .val (.int (16 : Int32)), .val (.int (1 : Int32)), .val (.int c1)]) rfl (pc' := 35) rfl ?_
  refine g_iinc C d7_35 (v := (1 : Int32)) (w := (2 : Int32)) rfl rfl (L' := #[.val (.ref a1), .val (.int (2 : Int32)), .val (.ref a2), .val (.int (2 : Int32)), .val (.int (16 : Int32)), .val (.int (1 : Int32)), .val (.int c1)]) rfl (pc' := 38) rfl ?_
  refine g_iinc C d7_38 (v := (1 : Int32)) (w := (2 : Int32)) rfl rfl (L' := #[.val (.ref a1), .val (.int (2 : Int32)), .val (.ref a2), .val (.int (2 : Int32)), .val (.int (16 : Int32)), .val (.int (2 : Int32)), .val (.int c1)]) rfl (pc' := 41) rfl ?_
  refine g_goto C d7_41 (pc' := 3) (by decide) (by decide) ?_
  refine g_iload C d7_3 (v := (2 : Int32)) rfl (pc' := 5) rfl ?_
  refine g_iload C d7_5 (v := (16 : Int32)) rfl (pc' := 7) rfl ?_
  refine g_icmp_n C d7_7 (Jvm.Free.XT.ii_ge_f (by decide)) (pc' := 10) rfl ?_
  refine g_aload_n C d7_10 (v := (.ref a1)) rfl rfl (pc' := 11) rfl ?_
  refine g_iload_n C d7_11 (v := (2 : Int32)) rfl (pc' := 12) rfl ?_
  have f_10 := (f_5.keep K_7 (ninS n12 nin0))
  refine g_caload C f_10 (by decide) (i := 2) (by decide) (v := c2) rfl d7_12 (pc' := 13) rfl ?_
  refine g_istore C d7_13 (v := c2) (L' := #[.val (.ref a1), .val (.int (2 : Int32)), .val (.ref a2), .val (.int (2 : Int32)), .val (.int (16 : Int32)), .val (.int (2 : Int32)), .val (.int c2)]) rfl (pc' := 15) rfl ?_
  refine g_iload C d7_15 (v := c2) rfl (pc' := 17) rfl ?_
  refine g_sipush C d7_17 (v := (255 : Int32)) rfl (pc' := 20) rfl ?_
  refine g_icmp_y C d7_20 (Jvm.Free.XT.ii_le_t k2.2.1) (pc' := 26) (by decide) (by decide) ?_
  refine g_aload_n C d7_26 (v := (.ref a2)) rfl rfl (pc' := 27) rfl ?_
  refine g_iload_n C d7_27 (v := (2 : Int32)) rfl (pc' := 28) rfl ?_
  refine g_iload C d7_28 (v := c2) rfl (pc' := 30) rfl ?_
  refine g_i2b C (x := c2) d7_30 (pc' := 31) rfl ?_
  refine g_bastoreB C f_9 (by decide) (i := 2) (by decide) (show 2 < 16 by decide) (w := (.int (Int8.toInt32 (Int32.toInt8 c2)))) (congrArg Value.int (own_narb _)) g2 d7_31 (pc' := 32) rfl ?_
  intro h_11 K_12 A_13
  have f_14 : Ary Z h_11 a2 .byte [(.int (Int8.toInt32 (Int32.toInt8 c0))), (.int (Int8.toInt32 (Int32.toInt8 c1))), (.int (Int8.toInt32 (Int32.toInt8 c2))), (.int (0 : Int32)), (.int (0 : Int32)), (.int (0 : Int32)), (.int (0 : Int32)), (.int (0 : Int32)), (.int (0 : Int32)), (.int (0 : Int32)), (.int (0 : Int32)), (.int (0 : Int32)), (.int (0 : Int32)), (.int (0 : Int32)), (.int (0 : Int32)), (.int (0 : Int32))] := A_13
  refine g_iinc C d7_32 (v := (2 : Int32)) (w := (3 : Int32)) rfl rfl (L' := #[.val (.ref a1), .val (.int (3 : Int32)), .val (.ref a2), .val (.int (2 : Int32)), .val (.int (16 : Int32)), .val (.int (2 : Int32)), .val (.int c2)]) rfl (pc' := 35) rfl ?_
  refine g_iinc C d7_35 (v := (2 : Int32)) (w := (3 : Int32)) rfl rfl (L' := #[.val (.ref a1), .val (.int (3 : Int32)), .val (.ref a2), .val (.int (3 : Int32)), .val (.int (16 : Int32)), .val (.int (2 : Int32)), .val (.int c2)]) rfl (pc' := 38) rfl ?_
  refine g_iinc C d7_38 (v := (2 : Int32)) (w := (3 : Int32)) rfl rfl (L' := #[.val (.ref a1), .val (.int (3 : Int32)), .val (.ref a2), .val (.int (3 : Int32)), .val (.int (16 : Int32)), .val (.int (3 : Int32)), .val (.int c2)]) rfl (pc' := 41) rfl ?_
  refine g_goto C d7_41 (pc' := 3) (by decide) (by decide) ?_
  refine g_iload C d7_3 (v := (3 : Int32)) rfl (pc' := 5) rfl ?_
  refine g_iload C d7_5 (v := (16 : Int32)) rfl (pc' := 7) rfl ?_
  refine g_icmp_n C d7_7 (Jvm.Free.XT.ii_ge_f (by decide)) (pc' := 10) rfl ?_
  refine g_aload_n C d7_10 (v := (.ref a1)) rfl rfl (pc' := 11) rfl ?_
  refine g_iload_n C d7_11 (v := (3 : Int32)) rfl (pc' := 12) rfl ?_
  have f_15 := (f_10.keep K_12 (ninS n12 nin0))
  refine g_caload C f_15 (by decide) (i := 3) (by decide) (v := c3) rfl d7_12 (pc' := 13) rfl ?_
  refine g_istore C d7_13 (v := c3) (L' := #[.val (.ref a1), .val (.int (3 : Int32)), .val (.ref a2), .val (.int (3 : Int32)), .val (.int (16 : Int32)), .val (.int (3 : Int32)), .val (.int c3)]) rfl (pc' := 15) rfl ?_
  refine g_iload C d7_15 (v := c3) rfl (pc' := 17) rfl ?_
  refine g_sipush C d7_17 (v := (255 : Int32)) rfl (pc' := 20) rfl ?_
  refine g_icmp_y C d7_20 (Jvm.Free.XT.ii_le_t k3.2.1) (pc' := 26) (by decide) (by decide) ?_
  refine g_aload_n C d7_26 (v := (.ref a2)) rfl rfl (pc' := 27) rfl ?_
  refine g_iload_n C d7_27 (v := (3 : Int32)) rfl (pc' := 28) rfl ?_
  refine g_iload C d7_28 (v := c3) rfl (pc' := 30) rfl ?_
  refine g_i2b C (x := c3) d7_30 (pc' := 31) rfl ?_
  refine g_bastoreB C f_14 (by decide) (i := 3) (by decide) (show 3 < 16 by decide) (w := (.int (Int8.toInt32 (Int32.toInt8 c3)))) (congrArg Value.int (own_narb _)) g2 d7_31 (pc' := 32) rfl ?_
  intro h_16 K_17 A_18
  have f_19 : Ary Z h_16 a2 .byte [(.int (Int8.toInt32 (Int32.toInt8 c0))), (.int (Int8.toInt32 (Int32.toInt8 c1))), (.int (Int8.toInt32 (Int32.toInt8 c2))), (.int (Int8.toInt32 (Int32.toInt8 c3))), (.int (0 : Int32)), (.int (0 : Int32)), (.int (0 : Int32)), (.int (0 : Int32)), (.int (0 : Int32)), (.int (0 : Int32)), (.int (0 : Int32)), (.int (0 : Int32)), (.int (0 : Int32)), (.int (0 : Int32)), (.int (0 : Int32)), (.int (0 : Int32))] := A_18
  refine g_iinc C d7_32 (v := (3 : Int32)) (w := (4 : Int32)) rfl rfl (L' := #[.val (.ref a1), .val (.int (4 : Int32)), .val (.ref a2), .val (.int (3 : Int32)), .val (.int (16 : Int32)), .val (.int (3 : Int32)), .val (.int c3)]) rfl (pc' := 35) rfl ?_
  refine g_iinc C d7_35 (v := (3 : Int32)) (w := (4 : Int32)) rfl rfl (L' := #[.val (.ref a1), .val (.int (4 : Int32)), .val (.ref a2), .val (.int (4 : Int32)), .val (.int (16 : Int32)), .val (.int (3 : Int32)), .val (.int c3)]) rfl (pc' := 38) rfl ?_
  refine g_iinc C d7_38 (v := (3 : Int32)) (w := (4 : Int32)) rfl rfl (L' := #[.val (.ref a1), .val (.int (4 : Int32)), .val (.ref a2), .val (.int (4 : Int32)), .val (.int (16 : Int32)), .val (.int (4 : Int32)), .val (.int c3)]) rfl (pc' := 41) rfl ?_
  refine g_goto C d7_41 (pc' := 3) (by decide) (by decide) ?_
  refine g_iload C d7_3 (v := (4 : Int32)) rfl (pc' := 5) rfl ?_
  refine g_iload C d7_5 (v := (16 : Int32)) rfl (pc' := 7) rfl ?_
  refine g_icmp_n C d7_7 (Jvm.Free.XT.ii_ge_f (by decide)) (pc' := 10) rfl ?_
  refine g_aload_n C d7_10 (v := (.ref a1)) rfl rfl (pc' := 11) rfl ?_
  refine g_iload_n C d7_11 (v := (4 : Int32)) rfl (pc' := 12) rfl ?_
  have f_20 := (f_15.keep K_17 (ninS n12 nin0))
  refine g_caload C f_20 (by decide) (i := 4) (by decide) (v := c4) rfl d7_12 (pc' := 13) rfl ?_
  refine g_istore C d7_13 (v := c4) (L' := #[.val (.ref a1), .val (.int (4 : Int32)), .val (.ref a2), .val (.int (4 : Int32)), .val (.int (16 : Int32)), .val (.int (4 : Int32)), .val (.int c4)]) rfl (pc' := 15) rfl ?_
  refine g_iload C d7_15 (v := c4) rfl (pc' := 17) rfl ?_
  refine g_sipush C d7_17 (v := (255 : Int32)) rfl (pc' := 20) rfl ?_
  refine g_icmp_y C d7_20 (Jvm.Free.XT.ii_le_t k4.2.1) (pc' := 26) (by decide) (by decide) ?_
  refine g_aload_n C d7_26 (v := (.ref a2)) rfl rfl (pc' := 27) rfl ?_
  refine g_iload_n C d7_27 (v := (4 : Int32)) rfl (pc' := 28) rfl ?_
  refine g_iload C d7_28 (v := c4) rfl (pc' := 30) rfl ?_
  refine g_i2b C (x := c4) d7_30 (pc' := 31) rfl ?_
  refine g_bastoreB C f_19 (by decide) (i := 4) (by decide) (show 4 < 16 by decide) (w := (.int (Int8.toInt32 (Int32.toInt8 c4)))) (congrArg Value.int (own_narb _)) g2 d7_31 (pc' := 32) rfl ?_
  intro h_21 K_22 A_23
  have f_24 : Ary Z h_21 a2 .byte [(.int (Int8.toInt32 (Int32.toInt8 c0))), (.int (Int8.toInt32 (Int32.toInt8 c1))), (.int (Int8.toInt32 (Int32.toInt8 c2))), (.int (Int8.toInt32 (Int32.toInt8 c3))), (.int (Int8.toInt32 (Int32.toInt8 c4))), (.int (0 : Int32)), (.int (0 : Int32)), (.int (0 : Int32)), (.int (0 : Int32)), (.int (0 : Int32)), (.int (0 : Int32)), (.int (0 : Int32)), (.int (0 : Int32)), (.int (0 : Int32)), (.int (0 : Int32)), (.int (0 : Int32))] := A_23
  refine g_iinc C d7_32 (v := (4 : Int32)) (w := (5 : Int32)) rfl rfl (L' := #[.val (.ref a1), .val (.int (5 : Int32)), .val (.ref a2), .val (.int (4 : Int32)), .val (.int (16 : Int32)), .val (.int (4 : Int32)), .val (.int c4)]) rfl (pc' := 35) rfl ?_
  refine g_iinc C d7_35 (v := (4 : Int32)) (w := (5 : Int32)) rfl rfl (L' := #[.val (.ref a1), .val (.int (5 : Int32)), .val (.ref a2), .val (.int (5 : Int32)), .val (.int (16 : Int32)), .val (.int (4 : Int32)), .val (.int c4)]) rfl (pc' := 38) rfl ?_
  refine g_iinc C d7_38 (v := (4 : Int32)) (w := (5 : Int32)) rfl rfl (L' := #[.val (.ref a1), .val (.int (5 : Int32)), .val (.ref a2), .val (.int (5 : Int32)), .val (.int (16 : Int32)), .val (.int (5 : Int32)), .val (.int c4)]) rfl (pc' := 41) rfl ?_
  refine g_goto C d7_41 (pc' := 3) (by decide) (by decide) ?_
  refine g_iload C d7_3 (v := (5 : Int32)) rfl (pc' := 5) rfl ?_
  refine g_iload C d7_5 (v := (16 : Int32)) rfl (pc' := 7) rfl ?_
  refine g_icmp_n C d7_7 (Jvm.Free.XT.ii_ge_f (by decide)) (pc' := 10) rfl ?_
  refine g_aload_n C d7_10 (v := (.ref a1)) rfl rfl (pc' := 11) rfl ?_
  refine g_iload_n C d7_11 (v := (5 : Int32)) rfl (pc' := 12) rfl ?_
  have f_25 := (f_20.keep K_22 (ninS n12 nin0))
  refine g_caload C f_25 (by decide) (i := 5) (by decide) (v := c5) rfl d7_12 (pc' := 13) rfl ?_
  refine g_istore C d7_13 (v := c5) (L' := #[.val (.ref a1), .val (.int (5 : Int32)), .val (.ref a2), .val (.int (5 : Int32)), .val (.int (16 : Int32)), .val (.int (5 : Int32)), .val (.int c5)]) rfl (pc' := 15) rfl ?_
  refine g_iload C d7_15 (v := c5) rfl (pc' := 17) rfl ?_
  refine g_sipush C d7_17 (v := (255 : Int32)) rfl (pc' := 20) rfl ?_
  refine g_icmp_y C d7_20 (Jvm.Free.XT.ii_le_t k5.2.1) (pc' := 26) (by decide) (by decide) ?_
  refine g_aload_n C d7_26 (v := (.ref a2)) rfl rfl (pc' := 27) rfl ?_
  refine g_iload_n C d7_27 (v := (5 : Int32)) rfl (pc' := 28) rfl ?_
  refine g_iload C d7_28 (v := c5) rfl (pc' := 30) rfl ?_
  refine g_i2b C (x := c5) d7_30 (pc' := 31) rfl ?_
  refine g_bastoreB C f_24 (by decide) (i := 5) (by decide) (show 5 < 16 by decide) (w := (.int (Int8.toInt32 (Int32.toInt8 c5)))) (congrArg Value.int (own_narb _)) g2 d7_31 (pc' := 32) rfl ?_
  intro h_26 K_27 A_28
  have f_29 : Ary Z h_26 a2 .byte [(.int (Int8.toInt32 (Int32.toInt8 c0))), (.int (Int8.toInt32 (Int32.toInt8 c1))), (.int (Int8.toInt32 (Int32.toInt8 c2))), (.int (Int8.toInt32 (Int32.toInt8 c3))), (.int (Int8.toInt32 (Int32.toInt8 c4))), (.int (Int8.toInt32 (Int32.toInt8 c5))), (.int (0 : Int32)), (.int (0 : Int32)), (.int (0 : Int32)), (.int (0 : Int32)), (.int (0 : Int32)), (.int (0 : Int32)), (.int (0 : Int32)), (.int (0 : Int32)), (.int (0 : Int32)), (.int (0 : Int32))] := A_28
  refine g_iinc C d7_32 (v := (5 : Int32)) (w := (6 : Int32)) rfl rfl (L' := #[.val (.ref a1), .val (.int (6 : Int32)), .val (.ref a2), .val (.int (5 : Int32)), .val (.int (16 : Int32)), .val (.int (5 : Int32)), .val (.int c5)]) rfl (pc' := 35) rfl ?_
  refine g_iinc C d7_35 (v := (5 : Int32)) (w := (6 : Int32)) rfl rfl (L' := #[.val (.ref a1), .val (.int (6 : Int32)), .val (.ref a2), .val (.int (6 : Int32)), .val (.int (16 : Int32)), .val (.int (5 : Int32)), .val (.int c5)]) rfl (pc' := 38) rfl ?_
  refine g_iinc C d7_38 (v := (5 : Int32)) (w := (6 : Int32)) rfl rfl (L' := #[.val (.ref a1), .val (.int (6 : Int32)), .val (.ref a2), .val (.int (6 : Int32)), .val (.int (16 : Int32)), .val (.int (6 : Int32)), .val (.int c5)]) rfl (pc' := 41) rfl ?_
  refine g_goto C d7_41 (pc' := 3) (by decide) (by decide) ?_
  refine g_iload C d7_3 (v := (6 : Int32)) rfl (pc' := 5) rfl ?_
  refine g_iload C d7_5 (v := (16 : Int32)) rfl (pc' := 7) rfl ?_
  refine g_icmp_n C d7_7 (Jvm.Free.XT.ii_ge_f (by decide)) (pc' := 10) rfl ?_
  refine g_aload_n C d7_10 (v := (.ref a1)) rfl rfl (pc' := 11) rfl ?_
  refine g_iload_n C d7_11 (v := (6 : Int32)) rfl (pc' := 12) rfl ?_
  have f_30 := (f_25.keep K_27 (ninS n12 nin0))
  refine g_caload C f_30 (by decide) (i := 6) (by decide) (v := c6) rfl d7_12 (pc' := 13) rfl ?_
  refine g_istore C d7_13 (v := c6) (L' := #[.val (.ref a1), .val (.int (6 : Int32)), .val (.ref a2), .val (.int (6 : Int32)), .val (.int (16 : Int32)), .val (.int (6 : Int32)), .val (.int c6)]) rfl (pc' := 15) rfl ?_
  refine g_iload C d7_15 (v := c6) rfl (pc' := 17) rfl ?_
  refine g_sipush C d7_17 (v := (255 : Int32)) rfl (pc' := 20) rfl ?_
  refine g_icmp_y C d7_20 (Jvm.Free.XT.ii_le_t k6.2.1) (pc' := 26) (by decide) (by decide) ?_
  refine g_aload_n C d7_26 (v := (.ref a2)) rfl rfl (pc' := 27) rfl ?_
  refine g_iload_n C d7_27 (v := (6 : Int32)) rfl (pc' := 28) rfl ?_
  refine g_iload C d7_28 (v := c6) rfl (pc' := 30) rfl ?_
  refine g_i2b C (x := c6) d7_30 (pc' := 31) rfl ?_
  refine g_bastoreB C f_29 (by decide) (i := 6) (by decide) (show 6 < 16 by decide) (w := (.int (Int8.toInt32 (Int32.toInt8 c6)))) (congrArg Value.int (own_narb _)) g2 d7_31 (pc' := 32) rfl ?_
  intro h_31 K_32 A_33
  have f_34 : Ary Z h_31 a2 .byte [(.int (Int8.toInt32 (Int32.toInt8 c0))), (.int (Int8.toInt32 (Int32.toInt8 c1))), (.int (Int8.toInt32 (Int32.toInt8 c2))), (.int (Int8.toInt32 (Int32.toInt8 c3))), (.int (Int8.toInt32 (Int32.toInt8 c4))), (.int (Int8.toInt32 (Int32.toInt8 c5))), (.int (Int8.toInt32 (Int32.toInt8 c6))), (.int (0 : Int32)), (.int (0 : Int32)), (.int (0 : Int32)), (.int (0 : Int32)), (.int (0 : Int32)), (.int (0 : Int32)), (.int (0 : Int32)), (.int (0 : Int32)), (.int (0 : Int32))] := A_33
  refine g_iinc C d7_32 (v := (6 : Int32)) (w := (7 : Int32)) rfl rfl (L' := #[.val (.ref a1), .val (.int (7 : Int32)), .val (.ref a2), .val (.int (6 : Int32)), .val (.int (16 : Int32)), .val (.int (6 : Int32)), .val (.int c6)]) rfl (pc' := 35) rfl ?_
  refine g_iinc C d7_35 (v := (6 : Int32)) (w := (7 : Int32)) rfl rfl (L' := #[.val (.ref a1), .val (.int (7 : Int32)), .val (.ref a2), .val (.int (7 : Int32)), .val (.int (16 : Int32)), .val (.int (6 : Int32)), .val (.int c6)]) rfl (pc' := 38) rfl ?_
  refine g_iinc C d7_38 (v := (6 : Int32)) (w := (7 : Int32)) rfl rfl (L' := #[.val (.ref a1), .val (.int (7 : Int32)), .val (.ref a2), .val (.int (7 : Int32)), .val (.int (16 : Int32)), .val (.int (7 : Int32)), .val (.int c6)]) rfl (pc' := 41) rfl ?_
  refine g_goto C d7_41 (pc' := 3) (by decide) (by decide) ?_
  refine g_iload C d7_3 (v := (7 : Int32)) rfl (pc' := 5) rfl ?_
  refine g_iload C d7_5 (v := (16 : Int32)) rfl (pc' := 7) rfl ?_
  refine g_icmp_n C d7_7 (Jvm.Free.XT.ii_ge_f (by decide)) (pc' := 10) rfl ?_
  refine g_aload_n C d7_10 (v := (.ref a1)) rfl rfl (pc' := 11) rfl ?_
  refine g_iload_n C d7_11 (v := (7 : Int32)) rfl (pc' := 12) rfl ?_
  have f_35 := (f_30.keep K_32 (ninS n12 nin0))
  refine g_caload C f_35 (by decide) (i := 7) (by decide) (v := c7) rfl d7_12 (pc' := 13) rfl ?_
  refine g_istore C d7_13 (v := c7) (L' := #[.val (.ref a1), .val (.int (7 : Int32)), .val (.ref a2), .val (.int (7 : Int32)), .val (.int (16 : Int32)), .val (.int (7 : Int32)), .val (.int c7)]) rfl (pc' := 15) rfl ?_
  refine g_iload C d7_15 (v := c7) rfl (pc' := 17) rfl ?_
  refine g_sipush C d7_17 (v := (255 : Int32)) rfl (pc' := 20) rfl ?_
  refine g_icmp_y C d7_20 (Jvm.Free.XT.ii_le_t k7.2.1) (pc' := 26) (by decide) (by decide) ?_
  refine g_aload_n C d7_26 (v := (.ref a2)) rfl rfl (pc' := 27) rfl ?_
  refine g_iload_n C d7_27 (v := (7 : Int32)) rfl (pc' := 28) rfl ?_
  refine g_iload C d7_28 (v := c7) rfl (pc' := 30) rfl ?_
  refine g_i2b C (x := c7) d7_30 (pc' := 31) rfl ?_
  refine g_bastoreB C f_34 (by decide) (i := 7) (by decide) (show 7 < 16 by decide) (w := (.int (Int8.toInt32 (Int32.toInt8 c7)))) (congrArg Value.int (own_narb _)) g2 d7_31 (pc' := 32) rfl ?_
  intro h_36 K_37 A_38
  have f_39 : Ary Z h_36 a2 .byte [(.int (Int8.toInt32 (Int32.toInt8 c0))), (.int (Int8.toInt32 (Int32.toInt8 c1))), (.int (Int8.toInt32 (Int32.toInt8 c2))), (.int (Int8.toInt32 (Int32.toInt8 c3))), (.int (Int8.toInt32 (Int32.toInt8 c4))), (.int (Int8.toInt32 (Int32.toInt8 c5))), (.int (Int8.toInt32 (Int32.toInt8 c6))), (.int (Int8.toInt32 (Int32.toInt8 c7))), (.int (0 : Int32)), (.int (0 : Int32)), (.int (0 : Int32)), (.int (0 : Int32)), (.int (0 : Int32)), (.int (0 : Int32)), (.int (0 : Int32)), (.int (0 : Int32))] := A_38
  refine g_iinc C d7_32 (v := (7 : Int32)) (w := (8 : Int32)) rfl rfl (L' := #[.val (.ref a1), .val (.int (8 : Int32)), .val (.ref a2), .val (.int (7 : Int32)), .val (.int (16 : Int32)), .val (.int (7 : Int32)), .val (.int c7)]) rfl (pc' := 35) rfl ?_
  refine g_iinc C d7_35 (v := (7 : Int32)) (w := (8 : Int32)) rfl rfl (L' := #[.val (.ref a1), .val (.int (8 : Int32)), .val (.ref a2), .val (.int (8 : Int32)), .val (.int (16 : Int32)), .val (.int (7 : Int32)), .val (.int c7)]) rfl (pc' := 38) rfl ?_
  refine g_iinc C d7_38 (v := (7 : Int32)) (w := (8 : Int32)) rfl rfl (L' := #[.val (.ref a1), .val (.int (8 : Int32)), .val (.ref a2), .val (.int (8 : Int32)), .val (.int (16 : Int32)), .val (.int (8 : Int32)), .val (.int c7)]) rfl (pc' := 41) rfl ?_
  refine g_goto C d7_41 (pc' := 3) (by decide) (by decide) ?_
  refine g_iload C d7_3 (v := (8 : Int32)) rfl (pc' := 5) rfl ?_
  refine g_iload C d7_5 (v := (16 : Int32)) rfl (pc' := 7) rfl ?_
  refine g_icmp_n C d7_7 (Jvm.Free.XT.ii_ge_f (by decide)) (pc' := 10) rfl ?_
  refine g_aload_n C d7_10 (v := (.ref a1)) rfl rfl (pc' := 11) rfl ?_
  refine g_iload_n C d7_11 (v := (8 : Int32)) rfl (pc' := 12) rfl ?_
  have f_40 := (f_35.keep K_37 (ninS n12 nin0))
  refine g_caload C f_40 (by decide) (i := 8) (by decide) (v := c8) rfl d7_12 (pc' := 13) rfl ?_
  refine g_istore C d7_13 (v := c8) (L' := #[.val (.ref a1), .val (.int (8 : Int32)), .val (.ref a2), .val (.int (8 : Int32)), .val (.int (16 : Int32)), .val (.int (8 : Int32)), .val (.int c8)]) rfl (pc' := 15) rfl ?_
  refine g_iload C d7_15 (v := c8) rfl (pc' := 17) rfl ?_
  refine g_sipush C d7_17 (v := (255 : Int32)) rfl (pc' := 20) rfl ?_
  refine g_icmp_y C d7_20 (Jvm.Free.XT.ii_le_t k8.2.1) (pc' := 26) (by decide) (by decide) ?_
  refine g_aload_n C d7_26 (v := (.ref a2)) rfl rfl (pc' := 27) rfl ?_
  refine g_iload_n C d7_27 (v := (8 : Int32)) rfl (pc' := 28) rfl ?_
  refine g_iload C d7_28 (v := c8) rfl (pc' := 30) rfl ?_
  refine g_i2b C (x := c8) d7_30 (pc' := 31) rfl ?_
  refine g_bastoreB C f_39 (by decide) (i := 8) (by decide) (show 8 < 16 by decide) (w := (.int (Int8.toInt32 (Int32.toInt8 c8)))) (congrArg Value.int (own_narb _)) g2 d7_31 (pc' := 32) rfl ?_
  intro h_41 K_42 A_43
  have f_44 : Ary Z h_41 a2 .byte [(.int (Int8.toInt32 (Int32.toInt8 c0))), (.int (Int8.toInt32 (Int32.toInt8 c1))), (.int (Int8.toInt32 (Int32.toInt8 c2))), (.int (Int8.toInt32 (Int32.toInt8 c3))), (.int (Int8.toInt32 (Int32.toInt8 c4))), (.int (Int8.toInt32 (Int32.toInt8 c5))), (.int (Int8.toInt32 (Int32.toInt8 c6))), (.int (Int8.toInt32 (Int32.toInt8 c7))), (.int (Int8.toInt32 (Int32.toInt8 c8))), (.int (0 : Int32)), (.int (0 : Int32)), (.int (0 : Int32)), (.int (0 : Int32)), (.int (0 : Int32)), (.int (0 : Int32)), (.int (0 : Int32))] := A_43
  refine g_iinc C d7_32 (v := (8 : Int32)) (w := (9 : Int32)) rfl rfl (L' := #[.val (.ref a1), .val (.int (9 : Int32)), .val (.ref a2), .val (.int (8 : Int32)), .val (.int (16 : Int32)), .val (.int (8 : Int32)), .val (.int c8)]) rfl (pc' := 35) rfl ?_
  refine g_iinc C d7_35 (v := (8 : Int32)) (w := (9 : Int32)) rfl rfl (L' := #[.val (.ref a1), .val (.int (9 : Int32)), .val (.ref a2), .val (.int (9 : Int32)), .val (.int (16 : Int32)), .val (.int (8 : Int32)), .val (.int c8)]) rfl (pc' := 38) rfl ?_
  refine g_iinc C d7_38 (v := (8 : Int32)) (w := (9 : Int32)) rfl rfl (L' := #[.val (.ref a1), .val (.int (9 : Int32)), .val (.ref a2), .val (.int (9 : Int32)), .val (.int (16 : Int32)), .val (.int (9 : Int32)), .val (.int c8)]) rfl (pc' := 41) rfl ?_
  refine g_goto C d7_41 (pc' := 3) (by decide) (by decide) ?_
  refine g_iload C d7_3 (v := (9 : Int32)) rfl (pc' := 5) rfl ?_
  refine g_iload C d7_5 (v := (16 : Int32)) rfl (pc' := 7) rfl ?_
  refine g_icmp_n C d7_7 (Jvm.Free.XT.ii_ge_f (by decide)) (pc' := 10) rfl ?_
  refine g_aload_n C d7_10 (v := (.ref a1)) rfl rfl (pc' := 11) rfl ?_
  refine g_iload_n C d7_11 (v := (9 : Int32)) rfl (pc' := 12) rfl ?_
  have f_45 := (f_40.keep K_42 (ninS n12 nin0))
  refine g_caload C f_45 (by decide) (i := 9) (by decide) (v := c9) rfl d7_12 (pc' := 13) rfl ?_
  refine g_istore C d7_13 (v := c9) (L' := #[.val (.ref a1), .val (.int (9 : Int32)), .val (.ref a2), .val (.int (9 : Int32)), .val (.int (16 : Int32)), .val (.int (9 : Int32)), .val (.int c9)]) rfl (pc' := 15) rfl ?_
  refine g_iload C d7_15 (v := c9) rfl (pc' := 17) rfl ?_
  refine g_sipush C d7_17 (v := (255 : Int32)) rfl (pc' := 20) rfl ?_
  refine g_icmp_y C d7_20 (Jvm.Free.XT.ii_le_t k9.2.1) (pc' := 26) (by decide) (by decide) ?_
  refine g_aload_n C d7_26 (v := (.ref a2)) rfl rfl (pc' := 27) rfl ?_
  refine g_iload_n C d7_27 (v := (9 : Int32)) rfl (pc' := 28) rfl ?_
  refine g_iload C d7_28 (v := c9) rfl (pc' := 30) rfl ?_
  refine g_i2b C (x := c9) d7_30 (pc' := 31) rfl ?_
  refine g_bastoreB C f_44 (by decide) (i := 9) (by decide) (show 9 < 16 by decide) (w := (.int (Int8.toInt32 (Int32.toInt8 c9)))) (congrArg Value.int (own_narb _)) g2 d7_31 (pc' := 32) rfl ?_
  intro h_46 K_47 A_48
  have f_49 : Ary Z h_46 a2 .byte [(.int (Int8.toInt32 (Int32.toInt8 c0))), (.int (Int8.toInt32 (Int32.toInt8 c1))), (.int (Int8.toInt32 (Int32.toInt8 c2))), (.int (Int8.toInt32 (Int32.toInt8 c3))), (.int (Int8.toInt32 (Int32.toInt8 c4))), (.int (Int8.toInt32 (Int32.toInt8 c5))), (.int (Int8.toInt32 (Int32.toInt8 c6))), (.int (Int8.toInt32 (Int32.toInt8 c7))), (.int (Int8.toInt32 (Int32.toInt8 c8))), (.int (Int8.toInt32 (Int32.toInt8 c9))), (.int (0 : Int32)), (.int (0 : Int32)), (.int (0 : Int32)), (.int (0 : Int32)), (.int (0 : Int32)), (.int (0 : Int32))] := A_48
  refine g_iinc C d7_32 (v := (9 : Int32)) (w := (10 : Int32)) rfl rfl (L' := #[.val (.ref a1), .val (.int (10 : Int32)), .val (.ref a2), .val (.int (9 : Int32)), .val (.int (16 : Int32)), .val (.int (9 : Int32)), .val (.int c9)]) rfl (pc' := 35) rfl ?_
  refine g_iinc C d7_35 (v := (9 : Int32)) (w := (10 : Int32)) rfl rfl (L' := #[.val (.ref a1), .val (.int (10 : Int32)), .val (.ref a2), .val (.int (10 : Int32)), .val (.int (16 : Int32)), .val (.int (9 : Int32)), .val (.int c9)]) rfl (pc' := 38) rfl ?_
  refine g_iinc C d7_38 (v := (9 : Int32)) (w := (10 : Int32)) rfl rfl (L' := #[.val (.ref a1), .val (.int (10 : Int32)), .val (.ref a2), .val (.int (10 : Int32)), .val (.int (16 : Int32)), .val (.int (10 : Int32)), .val (.int c9)]) rfl (pc' := 41) rfl ?_
  refine g_goto C d7_41 (pc' := 3) (by decide) (by decide) ?_
  refine g_iload C d7_3 (v := (10 : Int32)) rfl (pc' := 5) rfl ?_
  refine g_iload C d7_5 (v := (16 : Int32)) rfl (pc' := 7) rfl ?_
  refine g_icmp_n C d7_7 (Jvm.Free.XT.ii_ge_f (by decide)) (pc' := 10) rfl ?_
  refine g_aload_n C d7_10 (v := (.ref a1)) rfl rfl (pc' := 11) rfl ?_
  refine g_iload_n C d7_11 (v := (10 : Int32)) rfl (pc' := 12) rfl ?_
  have f_50 := (f_45.keep K_47 (ninS n12 nin0))
  refine g_caload C f_50 (by decide) (i := 10) (by decide) (v := c10) rfl d7_12 (pc' := 13) rfl ?_
  refine g_istore C d7_13 (v := c10) (L' := #[.val (.ref a1), .val (.int (10 : Int32)), .val (.ref a2), .val (.int (10 : Int32)), .val (.int (16 : Int32)), .val (.int (10 : Int32)), .val (.int c10)]) rfl (pc' := 15) rfl ?_
  refine g_iload C d7_15 (v := c10) rfl (pc' := 17) rfl ?_
  refine g_sipush C d7_17 (v := (255 : Int32)) rfl (pc' := 20) rfl ?_
  refine g_icmp_y C d7_20 (Jvm.Free.XT.ii_le_t k10.2.1) (pc' := 26) (by decide) (by decide) ?_
  refine g_aload_n C d7_26 (v := (.ref a2)) rfl rfl (pc' := 27) rfl ?_
  refine g_iload_n C d7_27 (v := (10 : Int32)) rfl (pc' := 28) rfl ?_
  refine g_iload C d7_28 (v := c10) rfl (pc' := 30) rfl ?_
  refine g_i2b C (x := c10) d7_30 (pc' := 31) rfl ?_
  refine g_bastoreB C f_49 (by decide) (i := 10) (by decide) (show 10 < 16 by decide) (w := (.int (Int8.toInt32 (Int32.toInt8 c10)))) (congrArg Value.int (own_narb _)) g2 d7_31 (pc' := 32) rfl ?_
  intro h_51 K_52 A_53
  have f_54 : Ary Z h_51 a2 .byte [(.int (Int8.toInt32 (Int32.toInt8 c0))), (.int (Int8.toInt32 (Int32.toInt8 c1))), (.int (Int8.toInt32 (Int32.toInt8 c2))), (.int (Int8.toInt32 (Int32.toInt8 c3))), (.int (Int8.toInt32 (Int32.toInt8 c4))), (.int (Int8.toInt32 (Int32.toInt8 c5))), (.int (Int8.toInt32 (Int32.toInt8 c6))), (.int (Int8.toInt32 (Int32.toInt8 c7))), (.int (Int8.toInt32 (Int32.toInt8 c8))), (.int (Int8.toInt32 (Int32.toInt8 c9))), (.int (Int8.toInt32 (Int32.toInt8 c10))), (.int (0 : Int32)), (.int (0 : Int32)), (.int (0 : Int32)), (.int (0 : Int32)), (.int (0 : Int32))] := A_53
  refine g_iinc C d7_32 (v := (10 : Int32)) (w := (11 : Int32)) rfl rfl (L' := #[.val (.ref a1), .val (.int (11 : Int32)), .val (.ref a2), .val (.int (10 : Int32)), .val (.int (16 : Int32)), .val (.int (10 : Int32)), .val (.int c10)]) rfl (pc' := 35) rfl ?_
  refine g_iinc C d7_35 (v := (10 : Int32)) (w := (11 : Int32)) rfl rfl (L' := #[.val (.ref a1), .val (.int (11 : Int32)), .val (.ref a2), .val (.int (11 : Int32)), .val (.int (16 : Int32)), .val (.int (10 : Int32)), .val (.int c10)]) rfl (pc' := 38) rfl ?_
  refine g_iinc C d7_38 (v := (10 : Int32)) (w := (11 : Int32)) rfl rfl (L' := #[.val (.ref a1), .val (.int (11 : Int32)), .val (.ref a2), .val (.int (11 : Int32)), .val (.int (16 : Int32)), .val (.int (11 : Int32)), .val (.int c10)]) rfl (pc' := 41) rfl ?_
  refine g_goto C d7_41 (pc' := 3) (by decide) (by decide) ?_
  refine g_iload C d7_3 (v := (11 : Int32)) rfl (pc' := 5) rfl ?_
  refine g_iload C d7_5 (v := (16 : Int32)) rfl (pc' := 7) rfl ?_
  refine g_icmp_n C d7_7 (Jvm.Free.XT.ii_ge_f (by decide)) (pc' := 10) rfl ?_
  refine g_aload_n C d7_10 (v := (.ref a1)) rfl rfl (pc' := 11) rfl ?_
  refine g_iload_n C d7_11 (v := (11 : Int32)) rfl (pc' := 12) rfl ?_
  have f_55 := (f_50.keep K_52 (ninS n12 nin0))
  refine g_caload C f_55 (by decide) (i := 11) (by decide) (v := c11) rfl d7_12 (pc' := 13) rfl ?_
  refine g_istore C d7_13 (v := c11) (L' := #[.val (.ref a1), .val (.int (11 : Int32)), .val (.ref a2), .val (.int (11 : Int32)), .val (.int (16 : Int32)), .val (.int (11 : Int32)), .val (.int c11)]) rfl (pc' := 15) rfl ?_
  refine g_iload C d7_15 (v := c11) rfl (pc' := 17) rfl ?_
  refine g_sipush C d7_17 (v := (255 : Int32)) rfl (pc' := 20) rfl ?_
  refine g_icmp_y C d7_20 (Jvm.Free.XT.ii_le_t k11.2.1) (pc' := 26) (by decide) (by decide) ?_
  refine g_aload_n C d7_26 (v := (.ref a2)) rfl rfl (pc' := 27) rfl ?_
  refine g_iload_n C d7_27 (v := (11 : Int32)) rfl (pc' := 28) rfl ?_
  refine g_iload C d7_28 (v := c11) rfl (pc' := 30) rfl ?_
  refine g_i2b C (x := c11) d7_30 (pc' := 31) rfl ?_
  refine g_bastoreB C f_54 (by decide) (i := 11) (by decide) (show 11 < 16 by decide) (w := (.int (Int8.toInt32 (Int32.toInt8 c11)))) (congrArg Value.int (own_narb _)) g2 d7_31 (pc' := 32) rfl ?_
  intro h_56 K_57 A_58
  have f_59 : Ary Z h_56 a2 .byte [(.int (Int8.toInt32 (Int32.toInt8 c0))), (.int (Int8.toInt32 (Int32.toInt8 c1))), (.int (Int8.toInt32 (Int32.toInt8 c2))), (.int (Int8.toInt32 (Int32.toInt8 c3))), (.int (Int8.toInt32 (Int32.toInt8 c4))), (.int (Int8.toInt32 (Int32.toInt8 c5))), (.int (Int8.toInt32 (Int32.toInt8 c6))), (.int (Int8.toInt32 (Int32.toInt8 c7))), (.int (Int8.toInt32 (Int32.toInt8 c8))), (.int (Int8.toInt32 (Int32.toInt8 c9))), (.int (Int8.toInt32 (Int32.toInt8 c10))), (.int (Int8.toInt32 (Int32.toInt8 c11))), (.int (0 : Int32)), (.int (0 : Int32)), (.int (0 : Int32)), (.int (0 : Int32))] := A_58
  refine g_iinc C d7_32 (v := (11 : Int32)) (w := (12 : Int32)) rfl rfl (L' := #[.val (.ref a1), .val (.int (12 : Int32)), .val (.ref a2), .val (.int (11 : Int32)), .val (.int (16 : Int32)), .val (.int (11 : Int32)), .val (.int c11)]) rfl (pc' := 35) rfl ?_
  refine g_iinc C d7_35 (v := (11 : Int32)) (w := (12 : Int32)) rfl rfl (L' := #[.val (.ref a1), .val (.int (12 : Int32)), .val (.ref a2), .val (.int (12 : Int32)), .val (.int (16 : Int32)), .val (.int (11 : Int32)), .val (.int c11)]) rfl (pc' := 38) rfl ?_
  refine g_iinc C d7_38 (v := (11 : Int32)) (w := (12 : Int32)) rfl rfl (L' := #[.val (.ref a1), .val (.int (12 : Int32)), .val (.ref a2), .val (.int (12 : Int32)), .val (.int (16 : Int32)), .val (.int (12 : Int32)), .val (.int c11)]) rfl (pc' := 41) rfl ?_
  refine g_goto C d7_41 (pc' := 3) (by decide) (by decide) ?_
  refine g_iload C d7_3 (v := (12 : Int32)) rfl (pc' := 5) rfl ?_
  refine g_iload C d7_5 (v := (16 : Int32)) rfl (pc' := 7) rfl ?_
  refine g_icmp_n C d7_7 (Jvm.Free.XT.ii_ge_f (by decide)) (pc' := 10) rfl ?_
  refine g_aload_n C d7_10 (v := (.ref a1)) rfl rfl (pc' := 11) rfl ?_
  refine g_iload_n C d7_11 (v := (12 : Int32)) rfl (pc' := 12) rfl ?_
  have f_60 := (f_55.keep K_57 (ninS n12 nin0))
  refine g_caload C f_60 (by decide) (i := 12) (by decide) (v := c12) rfl d7_12 (pc' := 13) rfl ?_
  refine g_istore C d7_13 (v := c12) (L' := #[.val (.ref a1), .val (.int (12 : Int32)), .val (.ref a2), .val (.int (12 : Int32)), .val (.int (16 : Int32)), .val (.int (12 : Int32)), .val (.int c12)]) rfl (pc' := 15) rfl ?_
  refine g_iload C d7_15 (v := c12) rfl (pc' := 17) rfl ?_
  refine g_sipush C d7_17 (v := (255 : Int32)) rfl (pc' := 20) rfl ?_
  refine g_icmp_y C d7_20 (Jvm.Free.XT.ii_le_t k12.2.1) (pc' := 26) (by decide) (by decide) ?_
  refine g_aload_n C d7_26 (v := (.ref a2)) rfl rfl (pc' := 27) rfl ?_
  refine g_iload_n C d7_27 (v := (12 : Int32)) rfl (pc' := 28) rfl ?_
  refine g_iload C d7_28 (v := c12) rfl (pc' := 30) rfl ?_
  refine g_i2b C (x := c12) d7_30 (pc' := 31) rfl ?_
  refine g_bastoreB C f_59 (by decide) (i := 12) (by decide) (show 12 < 16 by decide) (w := (.int (Int8.toInt32 (Int32.toInt8 c12)))) (congrArg Value.int (own_narb _)) g2 d7_31 (pc' := 32) rfl ?_
  intro h_61 K_62 A_63
  have f_64 : Ary Z h_61 a2 .byte [(.int (Int8.toInt32 (Int32.toInt8 c0))), (.int (Int8.toInt32 (Int32.toInt8 c1))), (.int (Int8.toInt32 (Int32.toInt8 c2))), (.int (Int8.toInt32 (Int32.toInt8 c3))), (.int (Int8.toInt32 (Int32.toInt8 c4))), (.int (Int8.toInt32 (Int32.toInt8 c5))), (.int (Int8.toInt32 (Int32.toInt8 c6))), (.int (Int8.toInt32 (Int32.toInt8 c7))), (.int (Int8.toInt32 (Int32.toInt8 c8))), (.int (Int8.toInt32 (Int32.toInt8 c9))), (.int (Int8.toInt32 (Int32.toInt8 c10))), (.int (Int8.toInt32 (Int32.toInt8 c11))), (.int (Int8.toInt32 (Int32.toInt8 c12))), (.int (0 : Int32)), (.int (0 : Int32)), (.int (0 : Int32))] := A_63
  refine g_iinc C d7_32 (v := (12 : Int32)) (w := (13 : Int32)) rfl rfl (L' := #[.val (.ref a1), .val (.int (13 : Int32)), .val (.ref a2), .val (.int (12 : Int32)), .val (.int (16 : Int32)), .val (.int (12 : Int32)), .val (.int c12)]) rfl (pc' := 35) rfl ?_
  refine g_iinc C d7_35 (v := (12 : Int32)) (w := (13 : Int32)) rfl rfl (L' := #[.val (.ref a1), .val (.int (13 : Int32)), .val (.ref a2), .val (.int (13 : Int32)), .val (.int (16 : Int32)), .val (.int (12 : Int32)), .val (.int c12)]) rfl (pc' := 38) rfl ?_
  refine g_iinc C d7_38 (v := (12 : Int32)) (w := (13 : Int32)) rfl rfl (L' := #[.val (.ref a1), .val (.int (13 : Int32)), .val (.ref a2), .val (.int (13 : Int32)), .val (.int (16 : Int32)), .val (.int (13 : Int32)), .val (.int c12)]) rfl (pc' := 41) rfl ?_
  refine g_goto C d7_41 (pc' := 3) (by decide) (by decide) ?_
  refine g_iload C d7_3 (v := (13 : Int32)) rfl (pc' := 5) rfl ?_
  refine g_iload C d7_5 (v := (16 : Int32)) rfl (pc' := 7) rfl ?_
  refine g_icmp_n C d7_7 (Jvm.Free.XT.ii_ge_f (by decide)) (pc' := 10) rfl ?_
  refine g_aload_n C d7_10 (v := (.ref a1)) rfl rfl (pc' := 11) rfl ?_
  refine g_iload_n C d7_11 (v := (13 : Int32)) rfl (pc' := 12) rfl ?_
  have f_65 := (f_60.keep K_62 (ninS n12 nin0))
  refine g_caload C f_65 (by decide) (i := 13) (by decide) (v := c13) rfl d7_12 (pc' := 13) rfl ?_
  refine g_istore C d7_13 (v := c13) (L' := #[.val (.ref a1), .val (.int (13 : Int32)), .val (.ref a2), .val (.int (13 : Int32)), .val (.int (16 : Int32)), .val (.int (13 : Int32)), .val (.int c13)]) rfl (pc' := 15) rfl ?_
  refine g_iload C d7_15 (v := c13) rfl (pc' := 17) rfl ?_
  refine g_sipush C d7_17 (v := (255 : Int32)) rfl (pc' := 20) rfl ?_
  refine g_icmp_y C d7_20 (Jvm.Free.XT.ii_le_t k13.2.1) (pc' := 26) (by decide) (by decide) ?_
  refine g_aload_n C d7_26 (v := (.ref a2)) rfl rfl (pc' := 27) rfl ?_
  refine g_iload_n C d7_27 (v := (13 : Int32)) rfl (pc' := 28) rfl ?_
  refine g_iload C d7_28 (v := c13) rfl (pc' := 30) rfl ?_
  refine g_i2b C (x := c13) d7_30 (pc' := 31) rfl ?_
  refine g_bastoreB C f_64 (by decide) (i := 13) (by decide) (show 13 < 16 by decide) (w := (.int (Int8.toInt32 (Int32.toInt8 c13)))) (congrArg Value.int (own_narb _)) g2 d7_31 (pc' := 32) rfl ?_
  intro h_66 K_67 A_68
  have f_69 : Ary Z h_66 a2 .byte [(.int (Int8.toInt32 (Int32.toInt8 c0))), (.int (Int8.toInt32 (Int32.toInt8 c1))), (.int (Int8.toInt32 (Int32.toInt8 c2))), (.int (Int8.toInt32 (Int32.toInt8 c3))), (.int (Int8.toInt32 (Int32.toInt8 c4))), (.int (Int8.toInt32 (Int32.toInt8 c5))), (.int (Int8.toInt32 (Int32.toInt8 c6))), (.int (Int8.toInt32 (Int32.toInt8 c7))), (.int (Int8.toInt32 (Int32.toInt8 c8))), (.int (Int8.toInt32 (Int32.toInt8 c9))), (.int (Int8.toInt32 (Int32.toInt8 c10))), (.int (Int8.toInt32 (Int32.toInt8 c11))), (.int (Int8.toInt32 (Int32.toInt8 c12))), (.int (Int8.toInt32 (Int32.toInt8 c13))), (.int (0 : Int32)), (.int (0 : Int32))] := A_68
  refine g_iinc C d7_32 (v := (13 : Int32)) (w := (14 : Int32)) rfl rfl (L' := #[.val (.ref a1), .val (.int (14 : Int32)), .val (.ref a2), .val (.int (13 : Int32)), .val (.int (16 : Int32)), .val (.int (13 : Int32)), .val (.int c13)]) rfl (pc' := 35) rfl ?_
  refine g_iinc C d7_35 (v := (13 : Int32)) (w := (14 : Int32)) rfl rfl (L' := #[.val (.ref a1), .val (.int (14 : Int32)), .val (.ref a2), .val (.int (14 : Int32)), .val (.int (16 : Int32)), .val (.int (13 : Int32)), .val (.int c13)]) rfl (pc' := 38) rfl ?_
  refine g_iinc C d7_38 (v := (13 : Int32)) (w := (14 : Int32)) rfl rfl (L' := #[.val (.ref a1), .val (.int (14 : Int32)), .val (.ref a2), .val (.int (14 : Int32)), .val (.int (16 : Int32)), .val (.int (14 : Int32)), .val (.int c13)]) rfl (pc' := 41) rfl ?_
  refine g_goto C d7_41 (pc' := 3) (by decide) (by decide) ?_
  refine g_iload C d7_3 (v := (14 : Int32)) rfl (pc' := 5) rfl ?_
  refine g_iload C d7_5 (v := (16 : Int32)) rfl (pc' := 7) rfl ?_
  refine g_icmp_n C d7_7 (Jvm.Free.XT.ii_ge_f (by decide)) (pc' := 10) rfl ?_
  refine g_aload_n C d7_10 (v := (.ref a1)) rfl rfl (pc' := 11) rfl ?_
  refine g_iload_n C d7_11 (v := (14 : Int32)) rfl (pc' := 12) rfl ?_
  have f_70 := (f_65.keep K_67 (ninS n12 nin0))
  refine g_caload C f_70 (by decide) (i := 14) (by decide) (v := c14) rfl d7_12 (pc' := 13) rfl ?_
  refine g_istore C d7_13 (v := c14) (L' := #[.val (.ref a1), .val (.int (14 : Int32)), .val (.ref a2), .val (.int (14 : Int32)), .val (.int (16 : Int32)), .val (.int (14 : Int32)), .val (.int c14)]) rfl (pc' := 15) rfl ?_
  refine g_iload C d7_15 (v := c14) rfl (pc' := 17) rfl ?_
  refine g_sipush C d7_17 (v := (255 : Int32)) rfl (pc' := 20) rfl ?_
  refine g_icmp_y C d7_20 (Jvm.Free.XT.ii_le_t k14.2.1) (pc' := 26) (by decide) (by decide) ?_
  refine g_aload_n C d7_26 (v := (.ref a2)) rfl rfl (pc' := 27) rfl ?_
  refine g_iload_n C d7_27 (v := (14 : Int32)) rfl (pc' := 28) rfl ?_
  refine g_iload C d7_28 (v := c14) rfl (pc' := 30) rfl ?_
  refine g_i2b C (x := c14) d7_30 (pc' := 31) rfl ?_
  refine g_bastoreB C f_69 (by decide) (i := 14) (by decide) (show 14 < 16 by decide) (w := (.int (Int8.toInt32 (Int32.toInt8 c14)))) (congrArg Value.int (own_narb _)) g2 d7_31 (pc' := 32) rfl ?_
  intro h_71 K_72 A_73
  have f_74 : Ary Z h_71 a2 .byte [(.int (Int8.toInt32 (Int32.toInt8 c0))), (.int (Int8.toInt32 (Int32.toInt8 c1))), (.int (Int8.toInt32 (Int32.toInt8 c2))), (.int (Int8.toInt32 (Int32.toInt8 c3))), (.int (Int8.toInt32 (Int32.toInt8 c4))), (.int (Int8.toInt32 (Int32.toInt8 c5))), (.int (Int8.toInt32 (Int32.toInt8 c6))), (.int (Int8.toInt32 (Int32.toInt8 c7))), (.int (Int8.toInt32 (Int32.toInt8 c8))), (.int (Int8.toInt32 (Int32.toInt8 c9))), (.int (Int8.toInt32 (Int32.toInt8 c10))), (.int (Int8.toInt32 (Int32.toInt8 c11))), (.int (Int8.toInt32 (Int32.toInt8 c12))), (.int (Int8.toInt32 (Int32.toInt8 c13))), (.int (Int8.toInt32 (Int32.toInt8 c14))), (.int (0 : Int32))] := A_73
  refine g_iinc C d7_32 (v := (14 : Int32)) (w := (15 : Int32)) rfl rfl (L' := #[.val (.ref a1), .val (.int (15 : Int32)), .val (.ref a2), .val (.int (14 : Int32)), .val (.int (16 : Int32)), .val (.int (14 : Int32)), .val (.int c14)]) rfl (pc' := 35) rfl ?_
  refine g_iinc C d7_35 (v := (14 : Int32)) (w := (15 : Int32)) rfl rfl (L' := #[.val (.ref a1), .val (.int (15 : Int32)), .val (.ref a2), .val (.int (15 : Int32)), .val (.int (16 : Int32)), .val (.int (14 : Int32)), .val (.int c14)]) rfl (pc' := 38) rfl ?_
  refine g_iinc C d7_38 (v := (14 : Int32)) (w := (15 : Int32)) rfl rfl (L' := #[.val (.ref a1), .val (.int (15 : Int32)), .val (.ref a2), .val (.int (15 : Int32)), .val (.int (16 : Int32)), .val (.int (15 : Int32)), .val (.int c14)]) rfl (pc' := 41) rfl ?_
  refine g_goto C d7_41 (pc' := 3) (by decide) (by decide) ?_
  refine g_iload C d7_3 (v := (15 : Int32)) rfl (pc' := 5) rfl ?_
  refine g_iload C d7_5 (v := (16 : Int32)) rfl (pc' := 7) rfl ?_
  refine g_icmp_n C d7_7 (Jvm.Free.XT.ii_ge_f (by decide)) (pc' := 10) rfl ?_
  refine g_aload_n C d7_10 (v := (.ref a1)) rfl rfl (pc' := 11) rfl ?_
  refine g_iload_n C d7_11 (v := (15 : Int32)) rfl (pc' := 12) rfl ?_
  have f_75 := (f_70.keep K_72 (ninS n12 nin0))
  refine g_caload C f_75 (by decide) (i := 15) (by decide) (v := c15) rfl d7_12 (pc' := 13) rfl ?_
  refine g_istore C d7_13 (v := c15) (L' := #[.val (.ref a1), .val (.int (15 : Int32)), .val (.ref a2), .val (.int (15 : Int32)), .val (.int (16 : Int32)), .val (.int (15 : Int32)), .val (.int c15)]) rfl (pc' := 15) rfl ?_
  refine g_iload C d7_15 (v := c15) rfl (pc' := 17) rfl ?_
  refine g_sipush C d7_17 (v := (255 : Int32)) rfl (pc' := 20) rfl ?_
  refine g_icmp_y C d7_20 (Jvm.Free.XT.ii_le_t k15.2.1) (pc' := 26) (by decide) (by decide) ?_
  refine g_aload_n C d7_26 (v := (.ref a2)) rfl rfl (pc' := 27) rfl ?_
  refine g_iload_n C d7_27 (v := (15 : Int32)) rfl (pc' := 28) rfl ?_
  refine g_iload C d7_28 (v := c15) rfl (pc' := 30) rfl ?_
  refine g_i2b C (x := c15) d7_30 (pc' := 31) rfl ?_
  refine g_bastoreB C f_74 (by decide) (i := 15) (by decide) (show 15 < 16 by decide) (w := (.int (Int8.toInt32 (Int32.toInt8 c15)))) (congrArg Value.int (own_narb _)) g2 d7_31 (pc' := 32) rfl ?_
  intro h_76 K_77 A_78
  have f_79 : Ary Z h_76 a2 .byte [(.int (Int8.toInt32 (Int32.toInt8 c0))), (.int (Int8.toInt32 (Int32.toInt8 c1))), (.int (Int8.toInt32 (Int32.toInt8 c2))), (.int (Int8.toInt32 (Int32.toInt8 c3))), (.int (Int8.toInt32 (Int32.toInt8 c4))), (.int (Int8.toInt32 (Int32.toInt8 c5))), (.int (Int8.toInt32 (Int32.toInt8 c6))), (.int (Int8.toInt32 (Int32.toInt8 c7))), (.int (Int8.toInt32 (Int32.toInt8 c8))), (.int (Int8.toInt32 (Int32.toInt8 c9))), (.int (Int8.toInt32 (Int32.toInt8 c10))), (.int (Int8.toInt32 (Int32.toInt8 c11))), (.int (Int8.toInt32 (Int32.toInt8 c12))), (.int (Int8.toInt32 (Int32.toInt8 c13))), (.int (Int8.toInt32 (Int32.toInt8 c14))), (.int (Int8.toInt32 (Int32.toInt8 c15)))] := A_78
  refine g_iinc C d7_32 (v := (15 : Int32)) (w := (16 : Int32)) rfl rfl (L' := #[.val (.ref a1), .val (.int (16 : Int32)), .val (.ref a2), .val (.int (15 : Int32)), .val (.int (16 : Int32)), .val (.int (15 : Int32)), .val (.int c15)]) rfl (pc' := 35) rfl ?_
  refine g_iinc C d7_35 (v := (15 : Int32)) (w := (16 : Int32)) rfl rfl (L' := #[.val (.ref a1), .val (.int (16 : Int32)), .val (.ref a2), .val (.int (16 : Int32)), .val (.int (16 : Int32)), .val (.int (15 : Int32)), .val (.int c15)]) rfl (pc' := 38) rfl ?_
  refine g_iinc C d7_38 (v := (15 : Int32)) (w := (16 : Int32)) rfl rfl (L' := #[.val (.ref a1), .val (.int (16 : Int32)), .val (.ref a2), .val (.int (16 : Int32)), .val (.int (16 : Int32)), .val (.int (16 : Int32)), .val (.int c15)]) rfl (pc' := 41) rfl ?_
  refine g_goto C d7_41 (pc' := 3) (by decide) (by decide) ?_
  refine g_iload C d7_3 (v := (16 : Int32)) rfl (pc' := 5) rfl ?_
  refine g_iload C d7_5 (v := (16 : Int32)) rfl (pc' := 7) rfl ?_
  refine g_icmp_y C d7_7 (Jvm.Free.XT.ii_ge_t (by decide)) (pc' := 44) (by decide) (by decide) ?_
  refine g_iload C d7_44 (v := (16 : Int32)) rfl (pc' := 46) rfl ?_
  refine g_ret C (v := (.int (16 : Int32))) (ty := .int) rfl rfl (Or.inl ⟨rfl, Or.inl rfl, _, rfl⟩) d7_46 (by decide) (by decide) ?_
  exact ⟨rfl, (((((((((((((((((Keep.refl h0 [a2]).trans K_2 (allS (Or.inl (List.mem_of_getElem? (i := 0) rfl)) all0)).trans K_7 (allS (Or.inl (List.mem_of_getElem? (i := 0) rfl)) all0)).trans K_12 (allS (Or.inl (List.mem_of_getElem? (i := 0) rfl)) all0)).trans K_17 (allS (Or.inl (List.mem_of_getElem? (i := 0) rfl)) all0)).trans K_22 (allS (Or.inl (List.mem_of_getElem? (i := 0) rfl)) all0)).trans K_27 (allS (Or.inl (List.mem_of_getElem? (i := 0) rfl)) all0)).trans K_32 (allS (Or.inl (List.mem_of_getElem? (i := 0) rfl)) all0)).trans K_37 (allS (Or.inl (List.mem_of_getElem? (i := 0) rfl)) all0)).trans K_42 (allS (Or.inl (List.mem_of_getElem? (i := 0) rfl)) all0)).trans K_47 (allS (Or.inl (List.mem_of_getElem? (i := 0) rfl)) all0)).trans K_52 (allS (Or.inl (List.mem_of_getElem? (i := 0) rfl)) all0)).trans K_57 (allS (Or.inl (List.mem_of_getElem? (i := 0) rfl)) all0)).trans K_62 (allS (Or.inl (List.mem_of_getElem? (i := 0) rfl)) all0)).trans K_67 (allS (Or.inl (List.mem_of_getElem? (i := 0) rfl)) all0)).trans K_72 (allS (Or.inl (List.mem_of_getElem? (i := 0) rfl)) all0)).trans K_77 (allS (Or.inl (List.mem_of_getElem? (i := 0) rfl)) all0)), f_79⟩
theorem own_pd_15_compress : parseMethodDescriptor "([CI[BII)I" = some ⟨[(.array .char), .int, (.array .byte), .int, .int], (some .int)⟩ := by decide +kernel
theorem d6_0 : decode jdk_52_method_16_code 0 = .ok (.iload_n 2, 1) := by decide +kernel
theorem d6_1 : decode jdk_52_method_16_code 1 = .ok (.newarray .byte, 2) := by decide +kernel
theorem d6_3 : decode jdk_52_method_16_code 3 = .ok (.astore_n 3, 1) := by decide +kernel
theorem d6_4 : decode jdk_52_method_16_code 4 = .ok (.aload_n 0, 1) := by decide +kernel
theorem d6_5 : decode jdk_52_method_16_code 5 = .ok (.iload_n 1, 1) := by decide +kernel
theorem d6_6 : decode jdk_52_method_16_code 6 = .ok (.aload_n 3, 1) := by decide +kernel
theorem d6_7 : decode jdk_52_method_16_code 7 = .ok (.iconst 0, 1) := by decide +kernel
theorem d6_8 : decode jdk_52_method_16_code 8 = .ok (.iload_n 2, 1) := by decide +kernel
theorem d6_9 : decode jdk_52_method_16_code 9 = .ok (.invokestatic 115, 3) := by decide +kernel
theorem d6_12 : decode jdk_52_method_16_code 12 = .ok (.istore 4, 2) := by decide +kernel
theorem d6_14 : decode jdk_52_method_16_code 14 = .ok (.iload 4, 2) := by decide +kernel
theorem d6_16 : decode jdk_52_method_16_code 16 = .ok (.iload_n 2, 1) := by decide +kernel
theorem d6_17 : decode jdk_52_method_16_code 17 = .ok (.if_icmp .eq 40, 3) := by decide +kernel
theorem d6_57 : decode jdk_52_method_16_code 57 = .ok (.aload_n 3, 1) := by decide +kernel
theorem d6_58 : decode jdk_52_method_16_code 58 = .ok (.areturn, 1) := by decide +kernel
set_option maxRecDepth 65536 in
set_option maxHeartbeats 40000000 in
theorem rm_comp2_16 (l : Launch) (Z : State) (a0 : Array Value) (hw : ∀ d ∈ tables_1, d.before a0 Z = true) (n0 : Nat) (a1 : Addr) (c0 c1 c2 c3 c4 c5 c6 c7 c8 c9 c10 c11 c12 c13 c14 c15 : Int32) (h0 : Heap) (Z0 : n0 ≤ h0.size) (A1 : Ary Z h0 a1 .char [.int c0, .int c1, .int c2, .int c3, .int c4, .int c5, .int c6, .int c7, .int c8, .int c9, .int c10, .int c11, .int c12, .int c13, .int c14, .int c15]) (k0 : Ch c0) (k1 : Ch c1) (k2 : Ch c2) (k3 : Ch c3) (k4 : Ch c4) (k5 : Ch c5) (k6 : Ch c6) (k7 : Ch c7) (k8 : Ch c8) (k9 : Ch c9) (k10 : Ch c10) (k11 : Ch c11) (k12 : Ch c12) (k13 : Ch c13) (k14 : Ch c14) (k15 : Ch c15) :
    Met1 l Z (⟨"java/lang/StringUTF16", "compress", "([CII)[B"⟩ : MethodName) jdk_52_method_16_code 6 (some (.array .byte)) ({ frames := 1, cells := 1, slots := 16, locals := 18 } : Room) n0 #[(.ref a1), (.int (0 : Int32)), (.int (16 : Int32))] h0 (fun v h => ∃ b : Addr, v = some (.ref b) ∧ h0.size ≤ b ∧ Keep h0 h [] ∧ Ary Z h b .byte [.int (Int8.toInt32 (Int32.toInt8 c0)), .int (Int8.toInt32 (Int32.toInt8 c1)), .int (Int8.toInt32 (Int32.toInt8 c2)), .int (Int8.toInt32 (Int32.toInt8 c3)), .int (Int8.toInt32 (Int32.toInt8 c4)), .int (Int8.toInt32 (Int32.toInt8 c5)), .int (Int8.toInt32 (Int32.toInt8 c6)), .int (Int8.toInt32 (Int32.toInt8 c7)), .int (Int8.toInt32 (Int32.toInt8 c8)), .int (Int8.toInt32 (Int32.toInt8 c9)), .int (Int8.toInt32 (Int32.toInt8 c10)), .int (Int8.toInt32 (Int32.toInt8 c11)), .int (Int8.toInt32 (Int32.toInt8 c12)), .int (Int8.toInt32 (Int32.toInt8 c13)), .int (Int8.toInt32 (Int32.toInt8 c14)), .int (Int8.toInt32 (Int32.toInt8 c15))]) := by
  refine met_of (plainFor_of_name own_pn_java_lang_StringUTF16) (L0 := #[.val (.ref a1), .val (.int (0 : Int32)), .val (.int (16 : Int32)), .unset, .unset, .unset]) (by first | (simp [argsToLocals, Value.category]; done) | rfl) ?_
  intro B C
  change Ctx B l _ _ "java/lang/StringUTF16" "compress" _ _ Z at C
  refine g_iload_n C d6_0 (v := (16 : Int32)) rfl (pc' := 1) rfl ?_
  refine g_newarray C (own_w hw 42 rfl) (ty := .byte) rfl (by decide) (cap := 16) (by decide) (by decide) (by decide) (by decide) d6_1 (pc' := 3) rfl ?_
  intro h_1 a_2 g_3 E_4 A_5
  have ne_6 : a1 ≠ a_2 := ne_new A1.lt g_3
  have ge_a_2 : n0 ≤ a_2 := Nat.le_trans Z0 (Nat.le_of_eq g_3.symm)
  have gs_a_2 : h0.size ≤ a_2 := Nat.le_trans (Nat.le_refl h0.size) (Nat.le_of_eq g_3.symm)
  have f_7 : Ary Z h_1 a_2 .byte [(.int (0 : Int32)), (.int (0 : Int32)), (.int (0 : Int32)), (.int (0 : Int32)), (.int (0 : Int32)), (.int (0 : Int32)), (.int (0 : Int32)), (.int (0 : Int32)), (.int (0 : Int32)), (.int (0 : Int32)), (.int (0 : Int32)), (.int (0 : Int32)), (.int (0 : Int32)), (.int (0 : Int32)), (.int (0 : Int32)), (.int (0 : Int32))] := A_5
  show Go B n0 _ h_1 1 16 3 #[.val (.ref a1), .val (.int (0 : Int32)), .val (.int (16 : Int32)), .unset, .unset, .unset] [(.ref a_2)]
  refine g_astore_n C d6_3 (v := (.ref a_2)) (L' := #[.val (.ref a1), .val (.int (0 : Int32)), .val (.int (16 : Int32)), .val (.ref a_2), .unset, .unset]) rfl rfl (pc' := 4) rfl ?_
  refine g_aload_n C d6_4 (v := (.ref a1)) rfl rfl (pc' := 5) rfl ?_
  refine g_iload_n C d6_5 (v := (0 : Int32)) rfl (pc' := 6) rfl ?_
  refine g_aload_n C d6_6 (v := (.ref a_2)) rfl rfl (pc' := 7) rfl ?_
  refine g_iconst C d6_7 (v := (0 : Int32)) rfl (pc' := 8) rfl ?_
  refine g_iload_n C d6_8 (v := (16 : Int32)) rfl (pc' := 9) rfl ?_
  have f_8 := (A1.ext E_4)
  have f_9 := (Nat.le_trans Z0 E_4.1)
  refine g_static C (own_w hw 43 rfl) (own_w hw 44 rfl) (own_w hw 40 rfl) (own_w hw 45 rfl) (by decide) (rm_comp1_16 l Z a0 hw n0 a1 a_2 c0 c1 c2 c3 c4 c5 c6 c7 c8 c9 c10 c11 c12 c13 c14 c15 h_1 f_9 f_8 f_7 ge_a_2 ne_6 k0 k1 k2 k3 k4 k5 k6 k7 k8 k9 k10 k11 k12 k13 k14 k15) (st := []) [(.ref a1), (.int (0 : Int32)), (.ref a_2), (.int (0 : Int32)), (.int (16 : Int32))] rfl rfl own_pd_15_compress rfl rfl (by decide) (W := 0) (Nat.le_of_eq rfl) (by decide) (by decide) (by decide) d6_9 (pc' := 12) rfl ?_
  intro v_12 h_10 q_11
  obtain ⟨rfl, K_13, f_14⟩ := q_11
  show Go B n0 _ h_10 1 16 12 #[.val (.ref a1), .val (.int (0 : Int32)), .val (.int (16 : Int32)), .val (.ref a_2), .unset, .unset] [(.int (16 : Int32))]
  refine g_istore C d6_12 (v := (16 : Int32)) (L' := #[.val (.ref a1), .val (.int (0 : Int32)), .val (.int (16 : Int32)), .val (.ref a_2), .val (.int (16 : Int32)), .unset]) rfl (pc' := 14) rfl ?_
  refine g_iload C d6_14 (v := (16 : Int32)) rfl (pc' := 16) rfl ?_
  refine g_iload_n C d6_16 (v := (16 : Int32)) rfl (pc' := 17) rfl ?_
  refine g_icmp_y C d6_17 (Jvm.Free.XT.ii_eq_t (by decide)) (pc' := 57) (by decide) (by decide) ?_
  refine g_aload_n C d6_57 (v := (.ref a_2)) rfl rfl (pc' := 58) rfl ?_
  refine g_ret C (v := (.ref a_2)) (ty := (.array .byte)) rfl rfl (Or.inr (Or.inr (Or.inr (Or.inr ⟨rfl, rfl, rfl⟩)))) d6_58 (by decide) (by decide) ?_
  exact ⟨a_2, rfl, gs_a_2, (((Keep.refl h0 []).ext E_4).trans K_13 (allS (Or.inr gs_a_2) all0)), f_14⟩
theorem d8_0 : decode jdk_52_method_15_code 0 = .ok (.iload_n 1, 1) := by decide +kernel
theorem d8_1 : decode jdk_52_method_15_code 1 = .ok (.aload_n 0, 1) := by decide +kernel
theorem d8_2 : decode jdk_52_method_15_code 2 = .ok (.arraylength, 1) := by decide +kernel
theorem d8_3 : decode jdk_52_method_15_code 3 = .ok (.isub, 1) := by decide +kernel
theorem d8_4 : decode jdk_52_method_15_code 4 = .ok (.bipush 31, 2) := by decide +kernel
theorem d8_6 : decode jdk_52_method_15_code 6 = .ok (.iushr, 1) := by decide +kernel
theorem d8_7 : decode jdk_52_method_15_code 7 = .ok (.i2b, 1) := by decide +kernel
theorem d8_8 : decode jdk_52_method_15_code 8 = .ok (.ireturn, 1) := by decide +kernel
set_option maxRecDepth 65536 in
set_option maxHeartbeats 40000000 in
theorem rm_coderF_16 (l : Launch) (Z : State) (a0 : Array Value) (hw : ∀ d ∈ tables_1, d.before a0 Z = true) (n0 : Nat) (a1 : Addr) (x0 x1 x2 x3 x4 x5 x6 x7 x8 x9 x10 x11 x12 x13 x14 x15 : Int32) (h0 : Heap) (Z0 : n0 ≤ h0.size) (A1 : Ary Z h0 a1 .byte [.int x0, .int x1, .int x2, .int x3, .int x4, .int x5, .int x6, .int x7, .int x8, .int x9, .int x10, .int x11, .int x12, .int x13, .int x14, .int x15]) :
    Met1 l Z (⟨"java/lang/StringUTF16", "coderFromArrayLen", "([BI)B"⟩ : MethodName) jdk_52_method_15_code 2 (some .byte) ({ frames := 0, cells := 0, slots := 0, locals := 0 } : Room) n0 #[(.ref a1), (.int (16 : Int32))] h0 (fun v h => v = some (.int (0 : Int32)) ∧ h0 = h) := by
  refine met_of (plainFor_of_name own_pn_java_lang_StringUTF16) (L0 := #[.val (.ref a1), .val (.int (16 : Int32))]) (by first | (simp [argsToLocals, Value.category]; done) | rfl) ?_
  intro B C
  change Ctx B l _ _ "java/lang/StringUTF16" "coderFromArrayLen" _ _ Z at C
  refine g_iload_n C d8_0 (v := (16 : Int32)) rfl (pc' := 1) rfl ?_
  refine g_aload_n C d8_1 (v := (.ref a1)) rfl rfl (pc' := 2) rfl ?_
  refine g_arraylength C A1 (z := (16 : Int32)) rfl d8_2 (pc' := 3) rfl ?_
  refine g_isub C (x := (16 : Int32)) (y := (16 : Int32)) d8_3  (pc' := 4) rfl ?_
  refine Go.eqs (st2 := [(.int (0 : Int32))]) ?_ (by rfl)
  refine g_bipush C d8_4 (v := (31 : Int32)) rfl (pc' := 6) rfl ?_
  refine g_iushr C (x := (0 : Int32)) (y := (31 : Int32)) d8_6  (pc' := 7) rfl ?_
  refine Go.eqs (st2 := [(.int (0 : Int32))]) ?_ (by rfl)
  refine g_i2b C (x := (0 : Int32)) d8_7 (pc' := 8) rfl ?_
  refine Go.eqs (st2 := [(.int (0 : Int32))]) ?_ (by rfl)
  refine g_ret C (v := (.int (0 : Int32))) (ty := .byte) rfl rfl (Or.inl ⟨rfl, Or.inr (Or.inr (Or.inl rfl)), _, rfl⟩) d8_8 (by decide) (by decide) ?_
  exact ⟨rfl, rfl⟩
theorem own_pd_13_compress : parseMethodDescriptor "([CII)[B" = some ⟨[(.array .char), .int, .int], (some (.array .byte))⟩ := by decide +kernel
theorem own_pd_10_coderFromArrayLen : parseMethodDescriptor "([BI)B" = some ⟨[(.array .byte), .int], (some .byte)⟩ := by decide +kernel
theorem d4_0 : decode jdk_42_method_149_code 0 = .ok (.aload_n 0, 1) := by decide +kernel
theorem d4_1 : decode jdk_42_method_149_code 1 = .ok (.invokespecial 1, 3) := by decide +kernel
theorem d4_4 : decode jdk_42_method_149_code 4 = .ok (.iload_n 3, 1) := by decide +kernel
theorem d4_5 : decode jdk_42_method_149_code 5 = .ok (.ifCond .ne 22, 3) := by decide +kernel
theorem d4_27 : decode jdk_42_method_149_code 27 = .ok (.getstatic 38, 3) := by decide +kernel
theorem d4_30 : decode jdk_42_method_149_code 30 = .ok (.ifCond .eq 28, 3) := by decide +kernel
theorem d4_33 : decode jdk_42_method_149_code 33 = .ok (.aload_n 1, 1) := by decide +kernel
theorem d4_34 : decode jdk_42_method_149_code 34 = .ok (.iload_n 2, 1) := by decide +kernel
theorem d4_35 : decode jdk_42_method_149_code 35 = .ok (.iload_n 3, 1) := by decide +kernel
theorem d4_36 : decode jdk_42_method_149_code 36 = .ok (.invokestatic 177, 3) := by decide +kernel
theorem d4_39 : decode jdk_42_method_149_code 39 = .ok (.astore 5, 2) := by decide +kernel
theorem d4_41 : decode jdk_42_method_149_code 41 = .ok (.aload_n 0, 1) := by decide +kernel
theorem d4_42 : decode jdk_42_method_149_code 42 = .ok (.aload 5, 2) := by decide +kernel
theorem d4_44 : decode jdk_42_method_149_code 44 = .ok (.iload_n 3, 1) := by decide +kernel
theorem d4_45 : decode jdk_42_method_149_code 45 = .ok (.invokestatic 47, 3) := by decide +kernel
theorem d4_48 : decode jdk_42_method_149_code 48 = .ok (.putfield 15, 3) := by decide +kernel
theorem d4_51 : decode jdk_42_method_149_code 51 = .ok (.aload_n 0, 1) := by decide +kernel
theorem d4_52 : decode jdk_42_method_149_code 52 = .ok (.aload 5, 2) := by decide +kernel
theorem d4_54 : decode jdk_42_method_149_code 54 = .ok (.putfield 9, 3) := by decide +kernel
theorem d4_57 : decode jdk_42_method_149_code 57 = .ok (.return_, 1) := by decide +kernel
set_option maxRecDepth 65536 in
set_option maxHeartbeats 40000000 in
theorem rm_init4_16 (l : Launch) (Z : State) (a0 : Array Value) (hw : ∀ d ∈ tables_1, d.before a0 Z = true) (n0 : Nat) (a1 a2 : Addr) (c0 c1 c2 c3 c4 c5 c6 c7 c8 c9 c10 c11 c12 c13 c14 c15 : Int32) (h0 : Heap) (Z0 : n0 ≤ h0.size) (cm : Um Z) (O : Old Z n0 h0) (E0 : Exa Z h0 a1 "java/lang/String") (F0 : Fld Z h0 a1 "java/lang/String" "value" "[B" .null) (F1 : Fld Z h0 a1 "java/lang/String" "coder" "B" (.int (0 : Int32))) (g1 : n0 ≤ a1) (A2 : Ary Z h0 a2 .char [.int c0, .int c1, .int c2, .int c3, .int c4, .int c5, .int c6, .int c7, .int c8, .int c9, .int c10, .int c11, .int c12, .int c13, .int c14, .int c15]) (n12 : a1 ≠ a2) (k0 : Ch c0) (k1 : Ch c1) (k2 : Ch c2) (k3 : Ch c3) (k4 : Ch c4) (k5 : Ch c5) (k6 : Ch c6) (k7 : Ch c7) (k8 : Ch c8) (k9 : Ch c9) (k10 : Ch c10) (k11 : Ch c11) (k12 : Ch c12) (k13 : Ch c13) (k14 : Ch c14) (k15 : Ch c15) :
    Met1 l Z (⟨"java/lang/String", "<init>", "([CIILjava/lang/Void;)V"⟩ : MethodName) jdk_42_method_149_code 6 none ({ frames := 2, cells := 1, slots := 16, locals := 35 } : Room) n0 #[(.ref a1), (.ref a2), (.int (0 : Int32)), (.int (16 : Int32)), .null] h0 (fun v h => v = none ∧ Keep h0 h [a1] ∧ ∃ b : Addr, h0.size ≤ b ∧ Fld Z h a1 "java/lang/String" "value" "[B" (.ref b) ∧ Fld Z h a1 "java/lang/String" "coder" "B" (.int (0 : Int32)) ∧ Ary Z h b .byte [.int (Int8.toInt32 (Int32.toInt8 c0)), .int (Int8.toInt32 (Int32.toInt8 c1)), .int (Int8.toInt32 (Int32.toInt8 c2)), .int (Int8.toInt32 (Int32.toInt8 c3)), .int (Int8.toInt32 (Int32.toInt8 c4)), .int (Int8.toInt32 (Int32.toInt8 c5)), .int (Int8.toInt32 (Int32.toInt8 c6)), .int (Int8.toInt32 (Int32.toInt8 c7)), .int (Int8.toInt32 (Int32.toInt8 c8)), .int (Int8.toInt32 (Int32.toInt8 c9)), .int (Int8.toInt32 (Int32.toInt8 c10)), .int (Int8.toInt32 (Int32.toInt8 c11)), .int (Int8.toInt32 (Int32.toInt8 c12)), .int (Int8.toInt32 (Int32.toInt8 c13)), .int (Int8.toInt32 (Int32.toInt8 c14)), .int (Int8.toInt32 (Int32.toInt8 c15))]) := by
  refine met_of (plainFor_of_name own_pn_java_lang_String) (L0 := #[.val (.ref a1), .val (.ref a2), .val (.int (0 : Int32)), .val (.int (16 : Int32)), .val .null, .unset]) (by first | (simp [argsToLocals, Value.category]; done) | rfl) ?_
  intro B C
  change Ctx B l _ _ "java/lang/String" "<init>" _ _ Z at C
  have cm' := cm
  obtain ⟨⟨cz, Scz, hcz⟩, Sfm⟩ := cm'
  refine g_aload_n C d4_0 (v := (.ref a1)) rfl rfl (pc' := 1) rfl ?_
  refine g_initObj C (own_w hw 34 rfl) (own_w hw 35 rfl) (own_w hw 36 rfl) rfl (by decide) (W := 0) (Nat.le_of_eq rfl) (by decide) d4_1 (pc' := 4) rfl ?_
  refine g_iload_n C d4_4 (v := (16 : Int32)) rfl (pc' := 5) rfl ?_
  refine g_if_y C d4_5 (Jvm.Free.XT.i0_ne_t (by decide)) (pc' := 27) (by decide) (by decide) ?_
  refine g_getstatic C (host := "") (v := (.int cz)) (Or.inl (own_w hw 37 rfl)) Via.refl (Scz.ext O.2) d4_27 (pc' := 30) rfl ?_
  refine g_if_n C d4_30 (Jvm.Free.XT.i0_eq_f hcz) (pc' := 33) rfl ?_
  refine g_aload_n C d4_33 (v := (.ref a2)) rfl rfl (pc' := 34) rfl ?_
  refine g_iload_n C d4_34 (v := (0 : Int32)) rfl (pc' := 35) rfl ?_
  refine g_iload_n C d4_35 (v := (16 : Int32)) rfl (pc' := 36) rfl ?_
  refine g_static C (own_w hw 38 rfl) (own_w hw 39 rfl) (own_w hw 40 rfl) (own_w hw 41 rfl) (by decide) (rm_comp2_16 l Z a0 hw n0 a2 c0 c1 c2 c3 c4 c5 c6 c7 c8 c9 c10 c11 c12 c13 c14 c15 h0 Z0 A2 k0 k1 k2 k3 k4 k5 k6 k7 k8 k9 k10 k11 k12 k13 k14 k15) (st := []) [(.ref a2), (.int (0 : Int32)), (.int (16 : Int32))] rfl rfl own_pd_13_compress rfl rfl (by decide) (W := 0) (Nat.le_of_eq rfl) (by decide) (by decide) (by decide) d4_36 (pc' := 39) rfl ?_
  intro v_3 h_1 q_2
  obtain ⟨b_4, rfl, le_5, K_6, f_7⟩ := q_2
  have ne_8 : a1 ≠ b_4 := ne_ge E0.lt le_5
  have ne_9 : a2 ≠ b_4 := ne_ge A2.lt le_5
  have ge_b_4 : n0 ≤ b_4 := Nat.le_trans Z0 le_5
  have gs_b_4 : h0.size ≤ b_4 := Nat.le_trans (Nat.le_refl h0.size) le_5
  show Go B n0 _ h_1 1 16 39 #[.val (.ref a1), .val (.ref a2), .val (.int (0 : Int32)), .val (.int (16 : Int32)), .val .null, .unset] [(.ref b_4)]
  refine g_astore C d4_39 (v := (.ref b_4)) (L' := #[.val (.ref a1), .val (.ref a2), .val (.int (0 : Int32)), .val (.int (16 : Int32)), .val .null, .val (.ref b_4)]) rfl rfl (pc' := 41) rfl ?_
  refine g_aload_n C d4_41 (v := (.ref a1)) rfl rfl (pc' := 42) rfl ?_
  refine g_aload C d4_42 (v := (.ref b_4)) rfl rfl (pc' := 44) rfl ?_
  refine g_iload_n C d4_44 (v := (16 : Int32)) rfl (pc' := 45) rfl ?_
  have f_10 := (Nat.le_trans Z0 K_6.1)
  refine g_static C (own_w hw 46 rfl) (own_w hw 47 rfl) (own_w hw 40 rfl) (own_w hw 48 rfl) (by decide) (rm_coderF_16 l Z a0 hw n0 b_4 (Int8.toInt32 (Int32.toInt8 c0)) (Int8.toInt32 (Int32.toInt8 c1)) (Int8.toInt32 (Int32.toInt8 c2)) (Int8.toInt32 (Int32.toInt8 c3)) (Int8.toInt32 (Int32.toInt8 c4)) (Int8.toInt32 (Int32.toInt8 c5)) (Int8.toInt32 (Int32.toInt8 c6)) (Int8.toInt32 (Int32.toInt8 c7)) (Int8.toInt32 (Int32.toInt8 c8)) (Int8.toInt32 (Int32.toInt8 c9)) (Int8.toInt32 (Int32.toInt8 c10)) (Int8.toInt32 (Int32.toInt8 c11)) (Int8.toInt32 (Int32.toInt8 c12)) (Int8.toInt32 (Int32.toInt8 c13)) (Int8.toInt32 (Int32.toInt8 c14)) (Int8.toInt32 (Int32.toInt8 c15)) h_1 f_10 f_7) (st := [(.ref a1)]) [(.ref b_4), (.int (16 : Int32))] rfl rfl own_pd_10_coderFromArrayLen rfl rfl (by decide) (W := 1) (Nat.le_of_eq rfl) (by decide) (by decide) (by decide) d4_45 (pc' := 48) rfl ?_
  intro v_13 h_11 q_12
  obtain ⟨rfl, rfl⟩ := q_12
  show Go B n0 _ h_1 1 16 48 #[.val (.ref a1), .val (.ref a2), .val (.int (0 : Int32)), .val (.int (16 : Int32)), .val .null, .val (.ref b_4)] [(.int (0 : Int32)), (.ref a1)]
  have f_14 := (F1.keep K_6 nin0)
  have f_15 := (E0.keep K_6)
  refine g_putfield C (host := "") (v := (.int (0 : Int32))) (Or.inl (own_w hw 49 rfl)) Via.refl f_14 f_15 (Or.inr ⟨(own_w hw 50 rfl), rfl, rfl⟩) (own_w hw 25 rfl) (ty := .byte) (by decide) rfl rfl g1 d4_48 (pc' := 51) rfl ?_
  intro h_16 W_17
  have f_18 := f_14.same W_17
  refine g_aload_n C d4_51 (v := (.ref a1)) rfl rfl (pc' := 52) rfl ?_
  refine g_aload C d4_52 (v := (.ref b_4)) rfl rfl (pc' := 54) rfl ?_
  have f_19 := ((F0.keep K_6 nin0).other W_17 (Or.inr (slot_ne (Or.inr (own_w hw 52 rfl)) (Or.inr (own_w hw 50 rfl)) (by decide) (t := (.array .byte)) (t' := .byte) (by decide) (by decide))))
  have f_20 := (f_15.wr W_17)
  refine g_putfield C (host := "") (v := (.ref b_4)) (Or.inl (own_w hw 51 rfl)) Via.refl f_19 f_20 (Or.inr ⟨(own_w hw 52 rfl), rfl, rfl⟩) (own_w hw 25 rfl) (ty := (.array .byte)) (by decide) rfl rfl g1 d4_54 (pc' := 57) rfl ?_
  intro h_21 W_22
  have f_23 := f_19.same W_22
  refine g_return C rfl d4_57 (by decide) (by decide) ?_
  have f_24 := (f_18.other W_22 (Or.inr (slot_ne (Or.inr (own_w hw 50 rfl)) (Or.inr (own_w hw 52 rfl)) (by decide) (t := .byte) (t' := (.array .byte)) (by decide) (by decide))))
  have f_25 := ((f_7.keep (Keep.of_wr W_17) (nin1 (Ne.symm ne_8))).keep (Keep.of_wr W_22) (nin1 (Ne.symm ne_8)))
  exact ⟨rfl, ((((Keep.refl h0 [a1]).trans K_6 all0).wr W_17 (Or.inl (List.mem_of_getElem? (i := 0) rfl))).wr W_22 (Or.inl (List.mem_of_getElem? (i := 0) rfl))), b_4, gs_b_4, f_23, f_24, f_25⟩
theorem own_pd_14_init : parseMethodDescriptor "([CIILjava/lang/Void;)V" = some ⟨[(.array .char), .int, .int, (.object "java/lang/Void")], none⟩ := by decide +kernel
theorem d3_0 : decode jdk_42_method_3_code 0 = .ok (.aload_n 0, 1) := by decide +kernel
theorem d3_1 : decode jdk_42_method_3_code 1 = .ok (.aload_n 1, 1) := by decide +kernel
theorem d3_2 : decode jdk_42_method_3_code 2 = .ok (.iconst 0, 1) := by decide +kernel
theorem d3_3 : decode jdk_42_method_3_code 3 = .ok (.aload_n 1, 1) := by decide +kernel
theorem d3_4 : decode jdk_42_method_3_code 4 = .ok (.arraylength, 1) := by decide +kernel
theorem d3_5 : decode jdk_42_method_3_code 5 = .ok (.aconst_null, 1) := by decide +kernel
theorem d3_6 : decode jdk_42_method_3_code 6 = .ok (.invokespecial 27, 3) := by decide +kernel
theorem d3_9 : decode jdk_42_method_3_code 9 = .ok (.return_, 1) := by decide +kernel
set_option maxRecDepth 65536 in
set_option maxHeartbeats 40000000 in
theorem rm_init1_16 (l : Launch) (Z : State) (a0 : Array Value) (hw : ∀ d ∈ tables_1, d.before a0 Z = true) (n0 : Nat) (a1 a2 : Addr) (c0 c1 c2 c3 c4 c5 c6 c7 c8 c9 c10 c11 c12 c13 c14 c15 : Int32) (h0 : Heap) (Z0 : n0 ≤ h0.size) (cm : Um Z) (O : Old Z n0 h0) (E0 : Exa Z h0 a1 "java/lang/String") (F0 : Fld Z h0 a1 "java/lang/String" "value" "[B" .null) (F1 : Fld Z h0 a1 "java/lang/String" "coder" "B" (.int (0 : Int32))) (g1 : n0 ≤ a1) (A2 : Ary Z h0 a2 .char [.int c0, .int c1, .int c2, .int c3, .int c4, .int c5, .int c6, .int c7, .int c8, .int c9, .int c10, .int c11, .int c12, .int c13, .int c14, .int c15]) (n12 : a1 ≠ a2) (k0 : Ch c0) (k1 : Ch c1) (k2 : Ch c2) (k3 : Ch c3) (k4 : Ch c4) (k5 : Ch c5) (k6 : Ch c6) (k7 : Ch c7) (k8 : Ch c8) (k9 : Ch c9) (k10 : Ch c10) (k11 : Ch c11) (k12 : Ch c12) (k13 : Ch c13) (k14 : Ch c14) (k15 : Ch c15) :
    Met1 l Z (⟨"java/lang/String", "<init>", "([C)V"⟩ : MethodName) jdk_42_method_3_code 2 none ({ frames := 3, cells := 1, slots := 16, locals := 52 } : Room) n0 #[(.ref a1), (.ref a2)] h0 (fun v h => v = none ∧ Keep h0 h [a1] ∧ ∃ b : Addr, h0.size ≤ b ∧ Fld Z h a1 "java/lang/String" "value" "[B" (.ref b) ∧ Fld Z h a1 "java/lang/String" "coder" "B" (.int (0 : Int32)) ∧ Ary Z h b .byte [.int (Int8.toInt32 (Int32.toInt8 c0)), .int (Int8.toInt32 (Int32.toInt8 c1)), .int (Int8.toInt32 (Int32.toInt8 c2)), .int (Int8.toInt32 (Int32.toInt8 c3)), .int (Int8.toInt32 (Int32.toInt8 c4)), .int (Int8.toInt32 (Int32.toInt8 c5)), .int (Int8.toInt32 (Int32.toInt8 c6)), .int (Int8.toInt32 (Int32.toInt8 c7)), .int (Int8.toInt32 (Int32.toInt8 c8)), .int (Int8.toInt32 (Int32.toInt8 c9)), .int (Int8.toInt32 (Int32.toInt8 c10)), .int (Int8.toInt32 (Int32.toInt8 c11)), .int (Int8.toInt32 (Int32.toInt8 c12)), .int (Int8.toInt32 (Int32.toInt8 c13)), .int (Int8.toInt32 (Int32.toInt8 c14)), .int (Int8.toInt32 (Int32.toInt8 c15))]) := by
  refine met_of (plainFor_of_name own_pn_java_lang_String) (L0 := #[.val (.ref a1), .val (.ref a2)]) (by first | (simp [argsToLocals, Value.category]; done) | rfl) ?_
  intro B C
  change Ctx B l _ _ "java/lang/String" "<init>" _ _ Z at C
  have cm' := cm
  obtain ⟨⟨cz, Scz, hcz⟩, Sfm⟩ := cm'
  refine g_aload_n C d3_0 (v := (.ref a1)) rfl rfl (pc' := 1) rfl ?_
  refine g_aload_n C d3_1 (v := (.ref a2)) rfl rfl (pc' := 2) rfl ?_
  refine g_iconst C d3_2 (v := (0 : Int32)) rfl (pc' := 3) rfl ?_
  refine g_aload_n C d3_3 (v := (.ref a2)) rfl rfl (pc' := 4) rfl ?_
  refine g_arraylength C A2 (z := (16 : Int32)) rfl d3_4 (pc' := 5) rfl ?_
  refine g_aconst_null C d3_5 (pc' := 6) rfl ?_
  refine g_special C (a := a1) rfl (own_w hw 30 rfl) (own_w hw 31 rfl) (own_w hw 26 rfl) (own_w hw 33 rfl) (by decide) (rm_init4_16 l Z a0 hw n0 a1 a2 c0 c1 c2 c3 c4 c5 c6 c7 c8 c9 c10 c11 c12 c13 c14 c15 h0 Z0 cm O E0 F0 F1 g1 A2 n12 k0 k1 k2 k3 k4 k5 k6 k7 k8 k9 k10 k11 k12 k13 k14 k15) (st := []) [(.ref a2), (.int (0 : Int32)), (.int (16 : Int32)), .null] rfl rfl own_pd_14_init rfl rfl (by decide) (W := 0) (Nat.le_of_eq rfl) (by decide) (by decide) (by decide) d3_6 (pc' := 9) rfl ?_
  intro v_3 h_1 q_2
  obtain ⟨rfl, K_4, b_5, le_6, f_7, f_8, f_9⟩ := q_2
  have ne_10 : a1 ≠ b_5 := ne_ge E0.lt le_6
  have ne_11 : a2 ≠ b_5 := ne_ge A2.lt le_6
  have ge_b_5 : n0 ≤ b_5 := Nat.le_trans Z0 le_6
  have gs_b_5 : h0.size ≤ b_5 := Nat.le_trans (Nat.le_refl h0.size) le_6
  show Go B n0 _ h_1 1 16 9 #[.val (.ref a1), .val (.ref a2)] []
  refine g_return C rfl d3_9 (by decide) (by decide) ?_
  exact ⟨rfl, ((Keep.refl h0 [a1]).trans K_4 (allS (Or.inl (List.mem_of_getElem? (i := 0) rfl)) all0)), b_5, gs_b_5, f_7, f_8, f_9⟩
theorem own_pd_7_max : parseMethodDescriptor "(JJ)J" = some ⟨[.long, .long], (some .long)⟩ := by decide +kernel
theorem own_pd_4_at : parseMethodDescriptor "(IIIIJCC[J)C" = some ⟨[.int, .int, .int, .int, .long, .char, .char, (.array .long)], (some .char)⟩ := by decide +kernel
theorem own_pd_12_init : parseMethodDescriptor "([C)V" = some ⟨[(.array .char)], none⟩ := by decide +kernel
theorem own_satoms {a0 : Array Value} {Z : State} (hw : ∀ d ∈ tables_1, d.before a0 Z = true) : ∀ a ∈ Bundle.stringAtoms, a.before a0 Z = true := by
  intro d hd
  simp only [Bundle.stringAtoms, List.mem_cons, List.not_mem_nil, or_false] at hd
  rcases hd with rfl | rfl | rfl | rfl | rfl | rfl | rfl
  · exact (own_w hw 26 rfl)
  · exact (own_w hw 25 rfl)
  · exact (own_w hw 42 rfl)
  · exact (own_w hw 52 rfl)
  · exact (own_w hw 50 rfl)
  · exact (own_w hw 54 rfl)
  · exact (own_w hw 55 rfl)
theorem own_pd_9_integer : parseMethodDescriptor "(Ljava/lang/String;IIILjava/lang/String;)I" = some ⟨[(.object "java/lang/String"), .int, .int, .int, (.object "java/lang/String")], (some .int)⟩ := by decide +kernel
set_option maxRecDepth 65536 in
set_option maxHeartbeats 40000000 in
theorem rm_law (l : Launch) (Z : State) (a0 : Array Value) (hw : ∀ d ∈ tables_1, d.before a0 Z = true) (n0 : Nat) (p0 : Int64) (p1 p2 p3 : Int32) (h0 : Heap) (Z0 : n0 ≤ h0.size) (cm : Um Z) (O : Old Z n0 h0) :
    Met1W l Z x code maxLocals ret room_1 n0 #[(.long p0), (.int p1), (.int p2), (.int p3)] h0 (fun v h => v = some (.int 1)) := by
  refine met_ofW (plainFor_of_name own_pn_org_linkloom_io_FieldsIntegerPinLaw) (L0 := #[.val (.long p0), .second, .val (.int p1), .val (.int p2), .val (.int p3), .unset, .unset, .unset, .unset, .unset, .unset, .unset, .unset, .unset, .unset, .unset, .unset, .unset, .unset, .unset, .unset, .unset, .unset]) (by first | (simp [argsToLocals, Value.category, maxLocals]; done) | rfl) ?_
  intro B C hW
  change Ctx B l room_1 code "org/linkloom/io/FieldsIntegerPinLaw" "law" 23 (some .boolean) Z at C
  have cm' := cm
  obtain ⟨⟨cz, Scz, hcz⟩, Sfm⟩ := cm'
  refine g_bipush C at_0 (v := (11 : Int32)) rfl (pc' := 2) rfl ?_
  refine g_newarray C (own_w hw 0 rfl) (ty := .long) rfl (by decide) (cap := 11) (by decide) (by decide) (by decide) (by decide) at_2 (pc' := 4) rfl ?_
  intro h_1 a_2 g_3 E_4 A_5
  have ge_a_2 : n0 ≤ a_2 := Nat.le_trans Z0 (Nat.le_of_eq g_3.symm)
  have gs_a_2 : h0.size ≤ a_2 := Nat.le_trans (Nat.le_refl h0.size) (Nat.le_of_eq g_3.symm)
  have f_6 : Ary Z h_1 a_2 .long [(.long (0 : Int64)), (.long (0 : Int64)), (.long (0 : Int64)), (.long (0 : Int64)), (.long (0 : Int64)), (.long (0 : Int64)), (.long (0 : Int64)), (.long (0 : Int64)), (.long (0 : Int64)), (.long (0 : Int64)), (.long (0 : Int64))] := A_5
  show Go B n0 _ h_1 1 11 4 #[.val (.long p0), .second, .val (.int p1), .val (.int p2), .val (.int p3), .unset, .unset, .unset, .unset, .unset, .unset, .unset, .unset, .unset, .unset, .unset, .unset, .unset, .unset, .unset, .unset, .unset, .unset] [(.ref a_2)]
  refine g_dup C at_4 rfl (pc' := 5) rfl ?_
  refine g_iconst C at_5 (v := (0 : Int32)) rfl (pc' := 6) rfl ?_
  refine g_lconst C at_6 (v := (1 : Int64)) rfl (pc' := 7) rfl ?_
  refine g_lastore C f_6 (by decide) (i := 0) (by decide) (show 0 < 11 by decide) (w := (.long (1 : Int64))) rfl ge_a_2 at_7 (pc' := 8) rfl ?_
  intro h_7 K_8 A_9
  have f_10 : Ary Z h_7 a_2 .long [(.long (1 : Int64)), (.long (0 : Int64)), (.long (0 : Int64)), (.long (0 : Int64)), (.long (0 : Int64)), (.long (0 : Int64)), (.long (0 : Int64)), (.long (0 : Int64)), (.long (0 : Int64)), (.long (0 : Int64)), (.long (0 : Int64))] := A_9
  refine g_dup C at_8 rfl (pc' := 9) rfl ?_
  refine g_iconst C at_9 (v := (1 : Int32)) rfl (pc' := 10) rfl ?_
  refine g_ldc2_w C (v := (10 : Int64)) (own_w hw 1 rfl) at_10 (pc' := 13) rfl ?_
  refine g_lastore C f_10 (by decide) (i := 1) (by decide) (show 1 < 11 by decide) (w := (.long (10 : Int64))) rfl ge_a_2 at_13 (pc' := 14) rfl ?_
  intro h_11 K_12 A_13
  have f_14 : Ary Z h_11 a_2 .long [(.long (1 : Int64)), (.long (10 : Int64)), (.long (0 : Int64)), (.long (0 : Int64)), (.long (0 : Int64)), (.long (0 : Int64)), (.long (0 : Int64)), (.long (0 : Int64)), (.long (0 : Int64)), (.long (0 : Int64)), (.long (0 : Int64))] := A_13
  refine g_dup C at_14 rfl (pc' := 15) rfl ?_
  refine g_iconst C at_15 (v := (2 : Int32)) rfl (pc' := 16) rfl ?_
  refine g_ldc2_w C (v := (100 : Int64)) (own_w hw 2 rfl) at_16 (pc' := 19) rfl ?_
  refine g_lastore C f_14 (by decide) (i := 2) (by decide) (show 2 < 11 by decide) (w := (.long (100 : Int64))) rfl ge_a_2 at_19 (pc' := 20) rfl ?_
  intro h_15 K_16 A_17
  have f_18 : Ary Z h_15 a_2 .long [(.long (1 : Int64)), (.long (10 : Int64)), (.long (100 : Int64)), (.long (0 : Int64)), (.long (0 : Int64)), (.long (0 : Int64)), (.long (0 : Int64)), (.long (0 : Int64)), (.long (0 : Int64)), (.long (0 : Int64)), (.long (0 : Int64))] := A_17
  refine g_dup C at_20 rfl (pc' := 21) rfl ?_
  refine g_iconst C at_21 (v := (3 : Int32)) rfl (pc' := 22) rfl ?_
  refine g_ldc2_w C (v := (1000 : Int64)) (own_w hw 3 rfl) at_22 (pc' := 25) rfl ?_
  refine g_lastore C f_18 (by decide) (i := 3) (by decide) (show 3 < 11 by decide) (w := (.long (1000 : Int64))) rfl ge_a_2 at_25 (pc' := 26) rfl ?_
  intro h_19 K_20 A_21
  have f_22 : Ary Z h_19 a_2 .long [(.long (1 : Int64)), (.long (10 : Int64)), (.long (100 : Int64)), (.long (1000 : Int64)), (.long (0 : Int64)), (.long (0 : Int64)), (.long (0 : Int64)), (.long (0 : Int64)), (.long (0 : Int64)), (.long (0 : Int64)), (.long (0 : Int64))] := A_21
  refine g_dup C at_26 rfl (pc' := 27) rfl ?_
  refine g_iconst C at_27 (v := (4 : Int32)) rfl (pc' := 28) rfl ?_
  refine g_ldc2_w C (v := (10000 : Int64)) (own_w hw 4 rfl) at_28 (pc' := 31) rfl ?_
  refine g_lastore C f_22 (by decide) (i := 4) (by decide) (show 4 < 11 by decide) (w := (.long (10000 : Int64))) rfl ge_a_2 at_31 (pc' := 32) rfl ?_
  intro h_23 K_24 A_25
  have f_26 : Ary Z h_23 a_2 .long [(.long (1 : Int64)), (.long (10 : Int64)), (.long (100 : Int64)), (.long (1000 : Int64)), (.long (10000 : Int64)), (.long (0 : Int64)), (.long (0 : Int64)), (.long (0 : Int64)), (.long (0 : Int64)), (.long (0 : Int64)), (.long (0 : Int64))] := A_25
  refine g_dup C at_32 rfl (pc' := 33) rfl ?_
  refine g_iconst C at_33 (v := (5 : Int32)) rfl (pc' := 34) rfl ?_
  refine g_ldc2_w C (v := (100000 : Int64)) (own_w hw 5 rfl) at_34 (pc' := 37) rfl ?_
  refine g_lastore C f_26 (by decide) (i := 5) (by decide) (show 5 < 11 by decide) (w := (.long (100000 : Int64))) rfl ge_a_2 at_37 (pc' := 38) rfl ?_
  intro h_27 K_28 A_29
  have f_30 : Ary Z h_27 a_2 .long [(.long (1 : Int64)), (.long (10 : Int64)), (.long (100 : Int64)), (.long (1000 : Int64)), (.long (10000 : Int64)), (.long (100000 : Int64)), (.long (0 : Int64)), (.long (0 : Int64)), (.long (0 : Int64)), (.long (0 : Int64)), (.long (0 : Int64))] := A_29
  refine g_dup C at_38 rfl (pc' := 39) rfl ?_
  refine g_bipush C at_39 (v := (6 : Int32)) rfl (pc' := 41) rfl ?_
  refine g_ldc2_w C (v := (1000000 : Int64)) (own_w hw 6 rfl) at_41 (pc' := 44) rfl ?_
  refine g_lastore C f_30 (by decide) (i := 6) (by decide) (show 6 < 11 by decide) (w := (.long (1000000 : Int64))) rfl ge_a_2 at_44 (pc' := 45) rfl ?_
  intro h_31 K_32 A_33
  have f_34 : Ary Z h_31 a_2 .long [(.long (1 : Int64)), (.long (10 : Int64)), (.long (100 : Int64)), (.long (1000 : Int64)), (.long (10000 : Int64)), (.long (100000 : Int64)), (.long (1000000 : Int64)), (.long (0 : Int64)), (.long (0 : Int64)), (.long (0 : Int64)), (.long (0 : Int64))] := A_33
  refine g_dup C at_45 rfl (pc' := 46) rfl ?_
  refine g_bipush C at_46 (v := (7 : Int32)) rfl (pc' := 48) rfl ?_
  refine g_ldc2_w C (v := (10000000 : Int64)) (own_w hw 7 rfl) at_48 (pc' := 51) rfl ?_
  refine g_lastore C f_34 (by decide) (i := 7) (by decide) (show 7 < 11 by decide) (w := (.long (10000000 : Int64))) rfl ge_a_2 at_51 (pc' := 52) rfl ?_
  intro h_35 K_36 A_37
  have f_38 : Ary Z h_35 a_2 .long [(.long (1 : Int64)), (.long (10 : Int64)), (.long (100 : Int64)), (.long (1000 : Int64)), (.long (10000 : Int64)), (.long (100000 : Int64)), (.long (1000000 : Int64)), (.long (10000000 : Int64)), (.long (0 : Int64)), (.long (0 : Int64)), (.long (0 : Int64))] := A_37
  refine g_dup C at_52 rfl (pc' := 53) rfl ?_
  refine g_bipush C at_53 (v := (8 : Int32)) rfl (pc' := 55) rfl ?_
  refine g_ldc2_w C (v := (100000000 : Int64)) (own_w hw 8 rfl) at_55 (pc' := 58) rfl ?_
  refine g_lastore C f_38 (by decide) (i := 8) (by decide) (show 8 < 11 by decide) (w := (.long (100000000 : Int64))) rfl ge_a_2 at_58 (pc' := 59) rfl ?_
  intro h_39 K_40 A_41
  have f_42 : Ary Z h_39 a_2 .long [(.long (1 : Int64)), (.long (10 : Int64)), (.long (100 : Int64)), (.long (1000 : Int64)), (.long (10000 : Int64)), (.long (100000 : Int64)), (.long (1000000 : Int64)), (.long (10000000 : Int64)), (.long (100000000 : Int64)), (.long (0 : Int64)), (.long (0 : Int64))] := A_41
  refine g_dup C at_59 rfl (pc' := 60) rfl ?_
  refine g_bipush C at_60 (v := (9 : Int32)) rfl (pc' := 62) rfl ?_
  refine g_ldc2_w C (v := (1000000000 : Int64)) (own_w hw 9 rfl) at_62 (pc' := 65) rfl ?_
  refine g_lastore C f_42 (by decide) (i := 9) (by decide) (show 9 < 11 by decide) (w := (.long (1000000000 : Int64))) rfl ge_a_2 at_65 (pc' := 66) rfl ?_
  intro h_43 K_44 A_45
  have f_46 : Ary Z h_43 a_2 .long [(.long (1 : Int64)), (.long (10 : Int64)), (.long (100 : Int64)), (.long (1000 : Int64)), (.long (10000 : Int64)), (.long (100000 : Int64)), (.long (1000000 : Int64)), (.long (10000000 : Int64)), (.long (100000000 : Int64)), (.long (1000000000 : Int64)), (.long (0 : Int64))] := A_45
  refine g_dup C at_66 rfl (pc' := 67) rfl ?_
  refine g_bipush C at_67 (v := (10 : Int32)) rfl (pc' := 69) rfl ?_
  refine g_ldc2_w C (v := (10000000000 : Int64)) (own_w hw 10 rfl) at_69 (pc' := 72) rfl ?_
  refine g_lastore C f_46 (by decide) (i := 10) (by decide) (show 10 < 11 by decide) (w := (.long (10000000000 : Int64))) rfl ge_a_2 at_72 (pc' := 73) rfl ?_
  intro h_47 K_48 A_49
  have f_50 : Ary Z h_47 a_2 .long [(.long (1 : Int64)), (.long (10 : Int64)), (.long (100 : Int64)), (.long (1000 : Int64)), (.long (10000 : Int64)), (.long (100000 : Int64)), (.long (1000000 : Int64)), (.long (10000000 : Int64)), (.long (100000000 : Int64)), (.long (1000000000 : Int64)), (.long (10000000000 : Int64))] := A_49
  refine g_astore C at_73 (v := (.ref a_2)) (L' := #[.val (.long p0), .second, .val (.int p1), .val (.int p2), .val (.int p3), .val (.ref a_2), .unset, .unset, .unset, .unset, .unset, .unset, .unset, .unset, .unset, .unset, .unset, .unset, .unset, .unset, .unset, .unset, .unset]) rfl rfl (pc' := 75) rfl ?_
  refine g_iload_n C at_75 (v := p2) rfl (pc' := 76) rfl ?_
  refine g_iconst C at_76 (v := (1 : Int32)) rfl (pc' := 77) rfl ?_
  refine g_iand C (x := p2) (y := (1 : Int32)) at_77  (pc' := 78) rfl ?_
  by_cases hb_51 : (p2 &&& (1 : Int32)) = (0 : Int32)
  · refine g_if_y C at_78 (Jvm.Free.XT.i0_eq_t hb_51) (pc' := 85) (by decide) (by decide) ?_
    refine g_iconst C at_85 (v := (0 : Int32)) rfl (pc' := 86) rfl ?_
    refine g_istore C at_86 (v := (0 : Int32)) (L' := #[.val (.long p0), .second, .val (.int p1), .val (.int p2), .val (.int p3), .val (.ref a_2), .val (.int (0 : Int32)), .unset, .unset, .unset, .unset, .unset, .unset, .unset, .unset, .unset, .unset, .unset, .unset, .unset, .unset, .unset, .unset]) rfl (pc' := 88) rfl ?_
    refine g_iload C at_88 (v := (0 : Int32)) rfl (pc' := 90) rfl ?_
    refine g_if_y C at_90 (Jvm.Free.XT.i0_eq_t (by decide)) (pc' := 97) (by decide) (by decide) ?_
    refine g_iconst C at_97 (v := (0 : Int32)) rfl (pc' := 98) rfl ?_
    refine g_istore C at_98 (v := (0 : Int32)) (L' := #[.val (.long p0), .second, .val (.int p1), .val (.int p2), .val (.int p3), .val (.ref a_2), .val (.int (0 : Int32)), .val (.int (0 : Int32)), .unset, .unset, .unset, .unset, .unset, .unset, .unset, .unset, .unset, .unset, .unset, .unset, .unset, .unset, .unset]) rfl (pc' := 100) rfl ?_
    refine g_iconst C at_100 (v := (1 : Int32)) rfl (pc' := 101) rfl ?_
    refine g_iload_n C at_101 (v := p2) rfl (pc' := 102) rfl ?_
    refine g_iconst C at_102 (v := (1 : Int32)) rfl (pc' := 103) rfl ?_
    refine g_iushr C (x := p2) (y := (1 : Int32)) at_103  (pc' := 104) rfl ?_
    refine g_bipush C at_104 (v := (10 : Int32)) rfl (pc' := 106) rfl ?_
    refine g_irem C (x := (Jvm.Free.XT.ushr p2 (1 : Int32))) (y := (10 : Int32)) at_106 (by decide) (pc' := 107) rfl ?_
    refine g_iadd C (x := (1 : Int32)) (y := ((Jvm.Free.XT.ushr p2 (1 : Int32)) - ((Jvm.Free.XT.ushr p2 (1 : Int32)) / (10 : Int32)) * (10 : Int32))) at_107  (pc' := 108) rfl ?_
    obtain ⟨dg, edg⟩ : ∃ z : Int32, z = ((1 : Int32) + ((Jvm.Free.XT.ushr p2 (1 : Int32)) - ((Jvm.Free.XT.ushr p2 (1 : Int32)) / (10 : Int32)) * (10 : Int32))) := ⟨_, rfl⟩
    rw [← edg]
    have hdg := own_dd (own_ush1 p2) edg
    refine g_istore C at_108 (v := dg) (L' := #[.val (.long p0), .second, .val (.int p1), .val (.int p2), .val (.int p3), .val (.ref a_2), .val (.int (0 : Int32)), .val (.int (0 : Int32)), .val (.int dg), .unset, .unset, .unset, .unset, .unset, .unset, .unset, .unset, .unset, .unset, .unset, .unset, .unset, .unset]) rfl (pc' := 110) rfl ?_
    refine g_iload C at_110 (v := p3) rfl (pc' := 112) rfl ?_
    refine g_bipush C at_112 (v := (16 : Int32)) rfl (pc' := 114) rfl ?_
    refine g_iushr C (x := p3) (y := (16 : Int32)) at_114  (pc' := 115) rfl ?_
    refine g_iconst C at_115 (v := (3 : Int32)) rfl (pc' := 116) rfl ?_
    refine g_iand C (x := (Jvm.Free.XT.ushr p3 (16 : Int32))) (y := (3 : Int32)) at_116  (pc' := 117) rfl ?_
    obtain ⟨pr, epr⟩ : ∃ z : Int32, z = ((Jvm.Free.XT.ushr p3 (16 : Int32)) &&& (3 : Int32)) := ⟨_, rfl⟩
    rw [← epr]
    have hpr : 0 ≤ pr.toInt ∧ pr.toInt < 4 := by rw [epr]; exact own_m3 _
    refine g_istore C at_117 (v := pr) (L' := #[.val (.long p0), .second, .val (.int p1), .val (.int p2), .val (.int p3), .val (.ref a_2), .val (.int (0 : Int32)), .val (.int (0 : Int32)), .val (.int dg), .val (.int pr), .unset, .unset, .unset, .unset, .unset, .unset, .unset, .unset, .unset, .unset, .unset, .unset, .unset]) rfl (pc' := 119) rfl ?_
    refine g_iload C at_119 (v := p3) rfl (pc' := 121) rfl ?_
    refine g_sipush C at_121 (v := (255 : Int32)) rfl (pc' := 124) rfl ?_
    refine g_iand C (x := p3) (y := (255 : Int32)) at_124  (pc' := 125) rfl ?_
    refine g_i2c C (x := (p3 &&& (255 : Int32))) at_125 (pc' := 126) rfl ?_
    rw [i2c_mask p3]
    obtain ⟨ca, eca⟩ : ∃ z : Int32, z = (p3 &&& (255 : Int32)) := ⟨_, rfl⟩
    have kca : Ch ca := by rw [eca]; exact own_chM p3
    rw [← eca]
    refine g_istore C at_126 (v := ca) (L' := #[.val (.long p0), .second, .val (.int p1), .val (.int p2), .val (.int p3), .val (.ref a_2), .val (.int (0 : Int32)), .val (.int (0 : Int32)), .val (.int dg), .val (.int pr), .val (.int ca), .unset, .unset, .unset, .unset, .unset, .unset, .unset, .unset, .unset, .unset, .unset, .unset]) rfl (pc' := 128) rfl ?_
    refine g_iload C at_128 (v := p3) rfl (pc' := 130) rfl ?_
    refine g_bipush C at_130 (v := (8 : Int32)) rfl (pc' := 132) rfl ?_
    refine g_iushr C (x := p3) (y := (8 : Int32)) at_132  (pc' := 133) rfl ?_
    refine g_sipush C at_133 (v := (255 : Int32)) rfl (pc' := 136) rfl ?_
    refine g_iand C (x := (Jvm.Free.XT.ushr p3 (8 : Int32))) (y := (255 : Int32)) at_136  (pc' := 137) rfl ?_
    refine g_i2c C (x := ((Jvm.Free.XT.ushr p3 (8 : Int32)) &&& (255 : Int32))) at_137 (pc' := 138) rfl ?_
    rw [i2c_mask (Jvm.Free.XT.ushr p3 (8 : Int32))]
    obtain ⟨cb, ecb⟩ : ∃ z : Int32, z = ((Jvm.Free.XT.ushr p3 (8 : Int32)) &&& (255 : Int32)) := ⟨_, rfl⟩
    have kcb : Ch cb := by rw [ecb]; exact own_chM (Jvm.Free.XT.ushr p3 (8 : Int32))
    rw [← ecb]
    refine g_istore C at_138 (v := cb) (L' := #[.val (.long p0), .second, .val (.int p1), .val (.int p2), .val (.int p3), .val (.ref a_2), .val (.int (0 : Int32)), .val (.int (0 : Int32)), .val (.int dg), .val (.int pr), .val (.int ca), .val (.int cb), .unset, .unset, .unset, .unset, .unset, .unset, .unset, .unset, .unset, .unset, .unset]) rfl (pc' := 140) rfl ?_
    refine g_iload C at_140 (v := (0 : Int32)) rfl (pc' := 142) rfl ?_
    refine g_if_y C at_142 (Jvm.Free.XT.i0_eq_t (by decide)) (pc' := 157) (by decide) (by decide) ?_
    refine g_lload_n C at_157 (v := p0) rfl (pc' := 158) rfl ?_
    refine g_ldc2_w C (v := (2147483647 : Int64)) (own_w hw 14 rfl) at_158 (pc' := 161) rfl ?_
    refine g_land C (x := p0) (y := (2147483647 : Int64)) at_161  (pc' := 162) rfl ?_
    obtain ⟨wv, ewv⟩ : ∃ z : Int64, z = (p0 &&& (2147483647 : Int64)) := ⟨_, rfl⟩
    rw [← ewv]
    obtain ⟨hw0, hw1⟩ := own_w0 p0 ewv
    refine g_lstore C at_162 (v := wv) (L' := #[.val (.long p0), .second, .val (.int p1), .val (.int p2), .val (.int p3), .val (.ref a_2), .val (.int (0 : Int32)), .val (.int (0 : Int32)), .val (.int dg), .val (.int pr), .val (.int ca), .val (.int cb), .val (.long wv), .second, .unset, .unset, .unset, .unset, .unset, .unset, .unset, .unset, .unset]) rfl (pc' := 164) rfl ?_
    refine g_lload C at_164 (v := wv) rfl (pc' := 166) rfl ?_
    refine g_aload C at_166 (v := (.ref a_2)) rfl rfl (pc' := 168) rfl ?_
    refine g_iload C at_168 (v := dg) rfl (pc' := 170) rfl ?_
    obtain ⟨pw, g1, g3, g4, g5, g6⟩ := own_powd hdg
    refine g_laload C f_50 g1 (i := dg.toNatClampNeg) rfl (v := pw) g3 at_170 (pc' := 171) rfl ?_
    refine g_lrem C (x := wv) (y := pw) at_171 g5 (pc' := 172) rfl ?_
    obtain ⟨mg, emg⟩ : ∃ z : Int64, z = (wv - (wv / pw) * pw) := ⟨_, rfl⟩
    rw [← emg]
    obtain ⟨m0, m1, m2⟩ := own_mag hw0 hw1 g4 emg
    have ra : Rg pr (0 : Int32) dg := ⟨hpr.1, by omega, by decide, by decide, hdg.1, hdg.2⟩
    have hvt : mg.toInt = mg.toInt := by rfl
    refine g_lstore C at_172 (v := mg) (L' := #[.val (.long p0), .second, .val (.int p1), .val (.int p2), .val (.int p3), .val (.ref a_2), .val (.int (0 : Int32)), .val (.int (0 : Int32)), .val (.int dg), .val (.int pr), .val (.int ca), .val (.int cb), .val (.long wv), .second, .val (.long mg), .second, .unset, .unset, .unset, .unset, .unset, .unset, .unset]) rfl (pc' := 174) rfl ?_
    refine g_iload C at_174 (v := (0 : Int32)) rfl (pc' := 176) rfl ?_
    refine g_if_y C at_176 (Jvm.Free.XT.i0_eq_t (by decide)) (pc' := 185) (by decide) (by decide) ?_
    refine g_lload C at_185 (v := mg) rfl (pc' := 187) rfl ?_
    refine g_lstore C at_187 (v := mg) (L' := #[.val (.long p0), .second, .val (.int p1), .val (.int p2), .val (.int p3), .val (.ref a_2), .val (.int (0 : Int32)), .val (.int (0 : Int32)), .val (.int dg), .val (.int pr), .val (.int ca), .val (.int cb), .val (.long wv), .second, .val (.long mg), .second, .val (.long mg), .second, .unset, .unset, .unset, .unset, .unset]) rfl (pc' := 189) rfl ?_
    refine g_ldc2_w C (v := (-2147483648 : Int64)) (own_w hw 13 rfl) at_189 (pc' := 192) rfl ?_
    refine g_lload C at_192 (v := mg) rfl (pc' := 194) rfl ?_
    refine g_iload_n C at_194 (v := p1) rfl (pc' := 195) rfl ?_
    refine g_i2l C (x := p1) at_195 (pc' := 196) rfl ?_
    refine g_ldc2_w C (v := (2147483647 : Int64)) (own_w hw 14 rfl) at_196 (pc' := 199) rfl ?_
    refine g_land C (x := (Int32.toInt64 p1)) (y := (2147483647 : Int64)) at_199  (pc' := 200) rfl ?_
    refine g_lsub C (x := mg) (y := ((Int32.toInt64 p1) &&& (2147483647 : Int64))) at_200  (pc' := 201) rfl ?_
    have f_52 := (Nat.le_trans (Nat.le_trans (Nat.le_trans (Nat.le_trans (Nat.le_trans (Nat.le_trans (Nat.le_trans (Nat.le_trans (Nat.le_trans (Nat.le_trans (Nat.le_trans (Nat.le_trans Z0 E_4.1) K_8.1) K_12.1) K_16.1) K_20.1) K_24.1) K_28.1) K_32.1) K_36.1) K_40.1) K_44.1) K_48.1)
    refine g_static C (own_w hw 15 rfl) (own_w hw 16 rfl) (own_w hw 17 rfl) (own_w hw 18 rfl) (by decide) (rm_max l Z a0 hw n0 (-2147483648 : Int64) (mg - ((Int32.toInt64 p1) &&& (2147483647 : Int64))) h_47 f_52 ) (st := []) [(.long (-2147483648 : Int64)), (.long (mg - ((Int32.toInt64 p1) &&& (2147483647 : Int64))))] rfl rfl own_pd_7_max rfl rfl (by decide) (W := 0) (Nat.le_of_eq rfl) (by decide) (by decide) (by decide) at_201 (pc' := 204) rfl ?_
    intro v_55 h_53 q_54
    obtain ⟨mx, rfl, mxo, mxl, rfl⟩ := q_54
    show Go B n0 _ h_47 1 11 204 #[.val (.long p0), .second, .val (.int p1), .val (.int p2), .val (.int p3), .val (.ref a_2), .val (.int (0 : Int32)), .val (.int (0 : Int32)), .val (.int dg), .val (.int pr), .val (.int ca), .val (.int cb), .val (.long wv), .second, .val (.long mg), .second, .val (.long mg), .second, .unset, .unset, .unset, .unset, .unset] [(.long mx)]
    refine g_l2i C (x := mx) at_204 (pc' := 205) rfl ?_
    obtain ⟨mn, emn⟩ : ∃ z : Int32, z = (Int64.toInt32 mx) := ⟨_, rfl⟩
    rw [← emn]
    have hmn := own_min (vl := mg) (by rw [hvt]; omega) (by rw [hvt]; omega) mxo mxl emn
    refine g_istore C at_205 (v := mn) (L' := #[.val (.long p0), .second, .val (.int p1), .val (.int p2), .val (.int p3), .val (.ref a_2), .val (.int (0 : Int32)), .val (.int (0 : Int32)), .val (.int dg), .val (.int pr), .val (.int ca), .val (.int cb), .val (.long wv), .second, .val (.long mg), .second, .val (.long mg), .second, .val (.int mn), .unset, .unset, .unset, .unset]) rfl (pc' := 207) rfl ?_
    refine g_bipush C at_207 (v := (16 : Int32)) rfl (pc' := 209) rfl ?_
    refine g_newarray C (own_w hw 19 rfl) (ty := .char) rfl (by decide) (cap := 16) (by decide) (by decide) (by decide) (by decide) at_209 (pc' := 211) rfl ?_
    intro h_56 a_57 g_58 E_59 A_60
    have ne_61 : a_2 ≠ a_57 := ne_new f_50.lt g_58
    have ge_a_57 : n0 ≤ a_57 := Nat.le_trans f_52 (Nat.le_of_eq g_58.symm)
    have f_62 := (Nat.le_trans (Nat.le_trans (Nat.le_trans (Nat.le_trans (Nat.le_trans (Nat.le_trans (Nat.le_trans (Nat.le_trans (Nat.le_trans (Nat.le_trans (Nat.le_trans (Nat.le_trans (Nat.le_refl h0.size) E_4.1) K_8.1) K_12.1) K_16.1) K_20.1) K_24.1) K_28.1) K_32.1) K_36.1) K_40.1) K_44.1) K_48.1)
    have gs_a_57 : h0.size ≤ a_57 := Nat.le_trans f_62 (Nat.le_of_eq g_58.symm)
    have f_63 : Ary Z h_56 a_57 .char [(.int (0 : Int32)), (.int (0 : Int32)), (.int (0 : Int32)), (.int (0 : Int32)), (.int (0 : Int32)), (.int (0 : Int32)), (.int (0 : Int32)), (.int (0 : Int32)), (.int (0 : Int32)), (.int (0 : Int32)), (.int (0 : Int32)), (.int (0 : Int32)), (.int (0 : Int32)), (.int (0 : Int32)), (.int (0 : Int32)), (.int (0 : Int32))] := A_60
    show Go B n0 _ h_56 2 27 211 #[.val (.long p0), .second, .val (.int p1), .val (.int p2), .val (.int p3), .val (.ref a_2), .val (.int (0 : Int32)), .val (.int (0 : Int32)), .val (.int dg), .val (.int pr), .val (.int ca), .val (.int cb), .val (.long wv), .second, .val (.long mg), .second, .val (.long mg), .second, .val (.int mn), .unset, .unset, .unset, .unset] [(.ref a_57)]
    refine g_astore C at_211 (v := (.ref a_57)) (L' := #[.val (.long p0), .second, .val (.int p1), .val (.int p2), .val (.int p3), .val (.ref a_2), .val (.int (0 : Int32)), .val (.int (0 : Int32)), .val (.int dg), .val (.int pr), .val (.int ca), .val (.int cb), .val (.long wv), .second, .val (.long mg), .second, .val (.long mg), .second, .val (.int mn), .val (.ref a_57), .unset, .unset, .unset]) rfl rfl (pc' := 213) rfl ?_
    refine g_aload C at_213 (v := (.ref a_57)) rfl rfl (pc' := 215) rfl ?_
    refine g_iconst C at_215 (v := (0 : Int32)) rfl (pc' := 216) rfl ?_
    refine g_iconst C at_216 (v := (0 : Int32)) rfl (pc' := 217) rfl ?_
    refine g_iload C at_217 (v := pr) rfl (pc' := 219) rfl ?_
    refine g_iload C at_219 (v := (0 : Int32)) rfl (pc' := 221) rfl ?_
    refine g_iload C at_221 (v := dg) rfl (pc' := 223) rfl ?_
    refine g_lload C at_223 (v := mg) rfl (pc' := 225) rfl ?_
    refine g_iload C at_225 (v := ca) rfl (pc' := 227) rfl ?_
    refine g_iload C at_227 (v := cb) rfl (pc' := 229) rfl ?_
    refine g_aload C at_229 (v := (.ref a_2)) rfl rfl (pc' := 231) rfl ?_
    have f_64 := (f_50.ext E_59)
    have f_65 := (Nat.le_trans f_52 E_59.1)
    refine g_static C (own_w hw 20 rfl) (own_w hw 21 rfl) (own_w hw 22 rfl) (own_w hw 23 rfl) (by decide) (rm_at l Z a0 hw n0 (0 : Int32) pr (0 : Int32) dg mg ca cb a_2 h_56 f_65 f_64 ra (by decide) kca kcb m0) (st := [(.int (0 : Int32)), (.ref a_57)]) [(.int (0 : Int32)), (.int pr), (.int (0 : Int32)), (.int dg), (.long mg), (.int ca), (.int cb), (.ref a_2)] rfl rfl own_pd_4_at rfl rfl (by decide) (W := 2) (Nat.le_of_eq rfl) (by decide) (by decide) (by decide) at_231 (pc' := 234) rfl ?_
    intro v_68 h_66 q_67
    obtain ⟨q0, rfl, kq0, aq0, rfl⟩ := q_67
    show Go B n0 _ h_56 2 27 234 #[.val (.long p0), .second, .val (.int p1), .val (.int p2), .val (.int p3), .val (.ref a_2), .val (.int (0 : Int32)), .val (.int (0 : Int32)), .val (.int dg), .val (.int pr), .val (.int ca), .val (.int cb), .val (.long wv), .second, .val (.long mg), .second, .val (.long mg), .second, .val (.int mn), .val (.ref a_57), .unset, .unset, .unset] [(.int q0), (.int (0 : Int32)), (.ref a_57)]
    refine g_castore C f_63 (by decide) (i := 0) (by decide) (show 0 < 16 by decide) (w := (.int q0)) (congrArg Value.int kq0.1) ge_a_57 at_234 (pc' := 235) rfl ?_
    intro h_69 K_70 A_71
    have f_72 : Ary Z h_69 a_57 .char [(.int q0), (.int (0 : Int32)), (.int (0 : Int32)), (.int (0 : Int32)), (.int (0 : Int32)), (.int (0 : Int32)), (.int (0 : Int32)), (.int (0 : Int32)), (.int (0 : Int32)), (.int (0 : Int32)), (.int (0 : Int32)), (.int (0 : Int32)), (.int (0 : Int32)), (.int (0 : Int32)), (.int (0 : Int32)), (.int (0 : Int32))] := A_71
    refine g_aload C at_235 (v := (.ref a_57)) rfl rfl (pc' := 237) rfl ?_
    refine g_iconst C at_237 (v := (1 : Int32)) rfl (pc' := 238) rfl ?_
    refine g_iconst C at_238 (v := (1 : Int32)) rfl (pc' := 239) rfl ?_
    refine g_iload C at_239 (v := pr) rfl (pc' := 241) rfl ?_
    refine g_iload C at_241 (v := (0 : Int32)) rfl (pc' := 243) rfl ?_
    refine g_iload C at_243 (v := dg) rfl (pc' := 245) rfl ?_
    refine g_lload C at_245 (v := mg) rfl (pc' := 247) rfl ?_
    refine g_iload C at_247 (v := ca) rfl (pc' := 249) rfl ?_
    refine g_iload C at_249 (v := cb) rfl (pc' := 251) rfl ?_
    refine g_aload C at_251 (v := (.ref a_2)) rfl rfl (pc' := 253) rfl ?_
    have f_73 := (f_64.keep K_70 (ninS ne_61 nin0))
    have f_74 := (Nat.le_trans f_65 K_70.1)
    refine g_static C (own_w hw 20 rfl) (own_w hw 21 rfl) (own_w hw 22 rfl) (own_w hw 23 rfl) (by decide) (rm_at l Z a0 hw n0 (1 : Int32) pr (0 : Int32) dg mg ca cb a_2 h_69 f_74 f_73 ra (by decide) kca kcb m0) (st := [(.int (1 : Int32)), (.ref a_57)]) [(.int (1 : Int32)), (.int pr), (.int (0 : Int32)), (.int dg), (.long mg), (.int ca), (.int cb), (.ref a_2)] rfl rfl own_pd_4_at rfl rfl (by decide) (W := 2) (Nat.le_of_eq rfl) (by decide) (by decide) (by decide) at_253 (pc' := 256) rfl ?_
    intro v_77 h_75 q_76
    obtain ⟨q1, rfl, kq1, aq1, rfl⟩ := q_76
    show Go B n0 _ h_69 2 27 256 #[.val (.long p0), .second, .val (.int p1), .val (.int p2), .val (.int p3), .val (.ref a_2), .val (.int (0 : Int32)), .val (.int (0 : Int32)), .val (.int dg), .val (.int pr), .val (.int ca), .val (.int cb), .val (.long wv), .second, .val (.long mg), .second, .val (.long mg), .second, .val (.int mn), .val (.ref a_57), .unset, .unset, .unset] [(.int q1), (.int (1 : Int32)), (.ref a_57)]
    refine g_castore C f_72 (by decide) (i := 1) (by decide) (show 1 < 16 by decide) (w := (.int q1)) (congrArg Value.int kq1.1) ge_a_57 at_256 (pc' := 257) rfl ?_
    intro h_78 K_79 A_80
    have f_81 : Ary Z h_78 a_57 .char [(.int q0), (.int q1), (.int (0 : Int32)), (.int (0 : Int32)), (.int (0 : Int32)), (.int (0 : Int32)), (.int (0 : Int32)), (.int (0 : Int32)), (.int (0 : Int32)), (.int (0 : Int32)), (.int (0 : Int32)), (.int (0 : Int32)), (.int (0 : Int32)), (.int (0 : Int32)), (.int (0 : Int32)), (.int (0 : Int32))] := A_80
    refine g_aload C at_257 (v := (.ref a_57)) rfl rfl (pc' := 259) rfl ?_
    refine g_iconst C at_259 (v := (2 : Int32)) rfl (pc' := 260) rfl ?_
    refine g_iconst C at_260 (v := (2 : Int32)) rfl (pc' := 261) rfl ?_
    refine g_iload C at_261 (v := pr) rfl (pc' := 263) rfl ?_
    refine g_iload C at_263 (v := (0 : Int32)) rfl (pc' := 265) rfl ?_
    refine g_iload C at_265 (v := dg) rfl (pc' := 267) rfl ?_
    refine g_lload C at_267 (v := mg) rfl (pc' := 269) rfl ?_
    refine g_iload C at_269 (v := ca) rfl (pc' := 271) rfl ?_
    refine g_iload C at_271 (v := cb) rfl (pc' := 273) rfl ?_
    refine g_aload C at_273 (v := (.ref a_2)) rfl rfl (pc' := 275) rfl ?_
    have f_82 := (f_73.keep K_79 (ninS ne_61 nin0))
    have f_83 := (Nat.le_trans f_74 K_79.1)
    refine g_static C (own_w hw 20 rfl) (own_w hw 21 rfl) (own_w hw 22 rfl) (own_w hw 23 rfl) (by decide) (rm_at l Z a0 hw n0 (2 : Int32) pr (0 : Int32) dg mg ca cb a_2 h_78 f_83 f_82 ra (by decide) kca kcb m0) (st := [(.int (2 : Int32)), (.ref a_57)]) [(.int (2 : Int32)), (.int pr), (.int (0 : Int32)), (.int dg), (.long mg), (.int ca), (.int cb), (.ref a_2)] rfl rfl own_pd_4_at rfl rfl (by decide) (W := 2) (Nat.le_of_eq rfl) (by decide) (by decide) (by decide) at_275 (pc' := 278) rfl ?_
    intro v_86 h_84 q_85
    obtain ⟨q2, rfl, kq2, aq2, rfl⟩ := q_85
    show Go B n0 _ h_78 2 27 278 #[.val (.long p0), .second, .val (.int p1), .val (.int p2), .val (.int p3), .val (.ref a_2), .val (.int (0 : Int32)), .val (.int (0 : Int32)), .val (.int dg), .val (.int pr), .val (.int ca), .val (.int cb), .val (.long wv), .second, .val (.long mg), .second, .val (.long mg), .second, .val (.int mn), .val (.ref a_57), .unset, .unset, .unset] [(.int q2), (.int (2 : Int32)), (.ref a_57)]
    refine g_castore C f_81 (by decide) (i := 2) (by decide) (show 2 < 16 by decide) (w := (.int q2)) (congrArg Value.int kq2.1) ge_a_57 at_278 (pc' := 279) rfl ?_
    intro h_87 K_88 A_89
    have f_90 : Ary Z h_87 a_57 .char [(.int q0), (.int q1), (.int q2), (.int (0 : Int32)), (.int (0 : Int32)), (.int (0 : Int32)), (.int (0 : Int32)), (.int (0 : Int32)), (.int (0 : Int32)), (.int (0 : Int32)), (.int (0 : Int32)), (.int (0 : Int32)), (.int (0 : Int32)), (.int (0 : Int32)), (.int (0 : Int32)), (.int (0 : Int32))] := A_89
    refine g_aload C at_279 (v := (.ref a_57)) rfl rfl (pc' := 281) rfl ?_
    refine g_iconst C at_281 (v := (3 : Int32)) rfl (pc' := 282) rfl ?_
    refine g_iconst C at_282 (v := (3 : Int32)) rfl (pc' := 283) rfl ?_
    refine g_iload C at_283 (v := pr) rfl (pc' := 285) rfl ?_
    refine g_iload C at_285 (v := (0 : Int32)) rfl (pc' := 287) rfl ?_
    refine g_iload C at_287 (v := dg) rfl (pc' := 289) rfl ?_
    refine g_lload C at_289 (v := mg) rfl (pc' := 291) rfl ?_
    refine g_iload C at_291 (v := ca) rfl (pc' := 293) rfl ?_
    refine g_iload C at_293 (v := cb) rfl (pc' := 295) rfl ?_
    refine g_aload C at_295 (v := (.ref a_2)) rfl rfl (pc' := 297) rfl ?_
    have f_91 := (f_82.keep K_88 (ninS ne_61 nin0))
    have f_92 := (Nat.le_trans f_83 K_88.1)
    refine g_static C (own_w hw 20 rfl) (own_w hw 21 rfl) (own_w hw 22 rfl) (own_w hw 23 rfl) (by decide) (rm_at l Z a0 hw n0 (3 : Int32) pr (0 : Int32) dg mg ca cb a_2 h_87 f_92 f_91 ra (by decide) kca kcb m0) (st := [(.int (3 : Int32)), (.ref a_57)]) [(.int (3 : Int32)), (.int pr), (.int (0 : Int32)), (.int dg), (.long mg), (.int ca), (.int cb), (.ref a_2)] rfl rfl own_pd_4_at rfl rfl (by decide) (W := 2) (Nat.le_of_eq rfl) (by decide) (by decide) (by decide) at_297 (pc' := 300) rfl ?_
    intro v_95 h_93 q_94
    obtain ⟨q3, rfl, kq3, aq3, rfl⟩ := q_94
    show Go B n0 _ h_87 2 27 300 #[.val (.long p0), .second, .val (.int p1), .val (.int p2), .val (.int p3), .val (.ref a_2), .val (.int (0 : Int32)), .val (.int (0 : Int32)), .val (.int dg), .val (.int pr), .val (.int ca), .val (.int cb), .val (.long wv), .second, .val (.long mg), .second, .val (.long mg), .second, .val (.int mn), .val (.ref a_57), .unset, .unset, .unset] [(.int q3), (.int (3 : Int32)), (.ref a_57)]
    refine g_castore C f_90 (by decide) (i := 3) (by decide) (show 3 < 16 by decide) (w := (.int q3)) (congrArg Value.int kq3.1) ge_a_57 at_300 (pc' := 301) rfl ?_
    intro h_96 K_97 A_98
    have f_99 : Ary Z h_96 a_57 .char [(.int q0), (.int q1), (.int q2), (.int q3), (.int (0 : Int32)), (.int (0 : Int32)), (.int (0 : Int32)), (.int (0 : Int32)), (.int (0 : Int32)), (.int (0 : Int32)), (.int (0 : Int32)), (.int (0 : Int32)), (.int (0 : Int32)), (.int (0 : Int32)), (.int (0 : Int32)), (.int (0 : Int32))] := A_98
    refine g_aload C at_301 (v := (.ref a_57)) rfl rfl (pc' := 303) rfl ?_
    refine g_iconst C at_303 (v := (4 : Int32)) rfl (pc' := 304) rfl ?_
    refine g_iconst C at_304 (v := (4 : Int32)) rfl (pc' := 305) rfl ?_
    refine g_iload C at_305 (v := pr) rfl (pc' := 307) rfl ?_
    refine g_iload C at_307 (v := (0 : Int32)) rfl (pc' := 309) rfl ?_
    refine g_iload C at_309 (v := dg) rfl (pc' := 311) rfl ?_
    refine g_lload C at_311 (v := mg) rfl (pc' := 313) rfl ?_
    refine g_iload C at_313 (v := ca) rfl (pc' := 315) rfl ?_
    refine g_iload C at_315 (v := cb) rfl (pc' := 317) rfl ?_
    refine g_aload C at_317 (v := (.ref a_2)) rfl rfl (pc' := 319) rfl ?_
    have f_100 := (f_91.keep K_97 (ninS ne_61 nin0))
    have f_101 := (Nat.le_trans f_92 K_97.1)
    refine g_static C (own_w hw 20 rfl) (own_w hw 21 rfl) (own_w hw 22 rfl) (own_w hw 23 rfl) (by decide) (rm_at l Z a0 hw n0 (4 : Int32) pr (0 : Int32) dg mg ca cb a_2 h_96 f_101 f_100 ra (by decide) kca kcb m0) (st := [(.int (4 : Int32)), (.ref a_57)]) [(.int (4 : Int32)), (.int pr), (.int (0 : Int32)), (.int dg), (.long mg), (.int ca), (.int cb), (.ref a_2)] rfl rfl own_pd_4_at rfl rfl (by decide) (W := 2) (Nat.le_of_eq rfl) (by decide) (by decide) (by decide) at_319 (pc' := 322) rfl ?_
    intro v_104 h_102 q_103
    obtain ⟨q4, rfl, kq4, aq4, rfl⟩ := q_103
    show Go B n0 _ h_96 2 27 322 #[.val (.long p0), .second, .val (.int p1), .val (.int p2), .val (.int p3), .val (.ref a_2), .val (.int (0 : Int32)), .val (.int (0 : Int32)), .val (.int dg), .val (.int pr), .val (.int ca), .val (.int cb), .val (.long wv), .second, .val (.long mg), .second, .val (.long mg), .second, .val (.int mn), .val (.ref a_57), .unset, .unset, .unset] [(.int q4), (.int (4 : Int32)), (.ref a_57)]
    refine g_castore C f_99 (by decide) (i := 4) (by decide) (show 4 < 16 by decide) (w := (.int q4)) (congrArg Value.int kq4.1) ge_a_57 at_322 (pc' := 323) rfl ?_
    intro h_105 K_106 A_107
    have f_108 : Ary Z h_105 a_57 .char [(.int q0), (.int q1), (.int q2), (.int q3), (.int q4), (.int (0 : Int32)), (.int (0 : Int32)), (.int (0 : Int32)), (.int (0 : Int32)), (.int (0 : Int32)), (.int (0 : Int32)), (.int (0 : Int32)), (.int (0 : Int32)), (.int (0 : Int32)), (.int (0 : Int32)), (.int (0 : Int32))] := A_107
    refine g_aload C at_323 (v := (.ref a_57)) rfl rfl (pc' := 325) rfl ?_
    refine g_iconst C at_325 (v := (5 : Int32)) rfl (pc' := 326) rfl ?_
    refine g_iconst C at_326 (v := (5 : Int32)) rfl (pc' := 327) rfl ?_
    refine g_iload C at_327 (v := pr) rfl (pc' := 329) rfl ?_
    refine g_iload C at_329 (v := (0 : Int32)) rfl (pc' := 331) rfl ?_
    refine g_iload C at_331 (v := dg) rfl (pc' := 333) rfl ?_
    refine g_lload C at_333 (v := mg) rfl (pc' := 335) rfl ?_
    refine g_iload C at_335 (v := ca) rfl (pc' := 337) rfl ?_
    refine g_iload C at_337 (v := cb) rfl (pc' := 339) rfl ?_
    refine g_aload C at_339 (v := (.ref a_2)) rfl rfl (pc' := 341) rfl ?_
    have f_109 := (f_100.keep K_106 (ninS ne_61 nin0))
    have f_110 := (Nat.le_trans f_101 K_106.1)
    refine g_static C (own_w hw 20 rfl) (own_w hw 21 rfl) (own_w hw 22 rfl) (own_w hw 23 rfl) (by decide) (rm_at l Z a0 hw n0 (5 : Int32) pr (0 : Int32) dg mg ca cb a_2 h_105 f_110 f_109 ra (by decide) kca kcb m0) (st := [(.int (5 : Int32)), (.ref a_57)]) [(.int (5 : Int32)), (.int pr), (.int (0 : Int32)), (.int dg), (.long mg), (.int ca), (.int cb), (.ref a_2)] rfl rfl own_pd_4_at rfl rfl (by decide) (W := 2) (Nat.le_of_eq rfl) (by decide) (by decide) (by decide) at_341 (pc' := 344) rfl ?_
    intro v_113 h_111 q_112
    obtain ⟨q5, rfl, kq5, aq5, rfl⟩ := q_112
    show Go B n0 _ h_105 2 27 344 #[.val (.long p0), .second, .val (.int p1), .val (.int p2), .val (.int p3), .val (.ref a_2), .val (.int (0 : Int32)), .val (.int (0 : Int32)), .val (.int dg), .val (.int pr), .val (.int ca), .val (.int cb), .val (.long wv), .second, .val (.long mg), .second, .val (.long mg), .second, .val (.int mn), .val (.ref a_57), .unset, .unset, .unset] [(.int q5), (.int (5 : Int32)), (.ref a_57)]
    refine g_castore C f_108 (by decide) (i := 5) (by decide) (show 5 < 16 by decide) (w := (.int q5)) (congrArg Value.int kq5.1) ge_a_57 at_344 (pc' := 345) rfl ?_
    intro h_114 K_115 A_116
    have f_117 : Ary Z h_114 a_57 .char [(.int q0), (.int q1), (.int q2), (.int q3), (.int q4), (.int q5), (.int (0 : Int32)), (.int (0 : Int32)), (.int (0 : Int32)), (.int (0 : Int32)), (.int (0 : Int32)), (.int (0 : Int32)), (.int (0 : Int32)), (.int (0 : Int32)), (.int (0 : Int32)), (.int (0 : Int32))] := A_116
    refine g_aload C at_345 (v := (.ref a_57)) rfl rfl (pc' := 347) rfl ?_
    refine g_bipush C at_347 (v := (6 : Int32)) rfl (pc' := 349) rfl ?_
    refine g_bipush C at_349 (v := (6 : Int32)) rfl (pc' := 351) rfl ?_
    refine g_iload C at_351 (v := pr) rfl (pc' := 353) rfl ?_
    refine g_iload C at_353 (v := (0 : Int32)) rfl (pc' := 355) rfl ?_
    refine g_iload C at_355 (v := dg) rfl (pc' := 357) rfl ?_
    refine g_lload C at_357 (v := mg) rfl (pc' := 359) rfl ?_
    refine g_iload C at_359 (v := ca) rfl (pc' := 361) rfl ?_
    refine g_iload C at_361 (v := cb) rfl (pc' := 363) rfl ?_
    refine g_aload C at_363 (v := (.ref a_2)) rfl rfl (pc' := 365) rfl ?_
    have f_118 := (f_109.keep K_115 (ninS ne_61 nin0))
    have f_119 := (Nat.le_trans f_110 K_115.1)
    refine g_static C (own_w hw 20 rfl) (own_w hw 21 rfl) (own_w hw 22 rfl) (own_w hw 23 rfl) (by decide) (rm_at l Z a0 hw n0 (6 : Int32) pr (0 : Int32) dg mg ca cb a_2 h_114 f_119 f_118 ra (by decide) kca kcb m0) (st := [(.int (6 : Int32)), (.ref a_57)]) [(.int (6 : Int32)), (.int pr), (.int (0 : Int32)), (.int dg), (.long mg), (.int ca), (.int cb), (.ref a_2)] rfl rfl own_pd_4_at rfl rfl (by decide) (W := 2) (Nat.le_of_eq rfl) (by decide) (by decide) (by decide) at_365 (pc' := 368) rfl ?_
    intro v_122 h_120 q_121
    obtain ⟨q6, rfl, kq6, aq6, rfl⟩ := q_121
    show Go B n0 _ h_114 2 27 368 #[.val (.long p0), .second, .val (.int p1), .val (.int p2), .val (.int p3), .val (.ref a_2), .val (.int (0 : Int32)), .val (.int (0 : Int32)), .val (.int dg), .val (.int pr), .val (.int ca), .val (.int cb), .val (.long wv), .second, .val (.long mg), .second, .val (.long mg), .second, .val (.int mn), .val (.ref a_57), .unset, .unset, .unset] [(.int q6), (.int (6 : Int32)), (.ref a_57)]
    refine g_castore C f_117 (by decide) (i := 6) (by decide) (show 6 < 16 by decide) (w := (.int q6)) (congrArg Value.int kq6.1) ge_a_57 at_368 (pc' := 369) rfl ?_
    intro h_123 K_124 A_125
    have f_126 : Ary Z h_123 a_57 .char [(.int q0), (.int q1), (.int q2), (.int q3), (.int q4), (.int q5), (.int q6), (.int (0 : Int32)), (.int (0 : Int32)), (.int (0 : Int32)), (.int (0 : Int32)), (.int (0 : Int32)), (.int (0 : Int32)), (.int (0 : Int32)), (.int (0 : Int32)), (.int (0 : Int32))] := A_125
    refine g_aload C at_369 (v := (.ref a_57)) rfl rfl (pc' := 371) rfl ?_
    refine g_bipush C at_371 (v := (7 : Int32)) rfl (pc' := 373) rfl ?_
    refine g_bipush C at_373 (v := (7 : Int32)) rfl (pc' := 375) rfl ?_
    refine g_iload C at_375 (v := pr) rfl (pc' := 377) rfl ?_
    refine g_iload C at_377 (v := (0 : Int32)) rfl (pc' := 379) rfl ?_
    refine g_iload C at_379 (v := dg) rfl (pc' := 381) rfl ?_
    refine g_lload C at_381 (v := mg) rfl (pc' := 383) rfl ?_
    refine g_iload C at_383 (v := ca) rfl (pc' := 385) rfl ?_
    refine g_iload C at_385 (v := cb) rfl (pc' := 387) rfl ?_
    refine g_aload C at_387 (v := (.ref a_2)) rfl rfl (pc' := 389) rfl ?_
    have f_127 := (f_118.keep K_124 (ninS ne_61 nin0))
    have f_128 := (Nat.le_trans f_119 K_124.1)
    refine g_static C (own_w hw 20 rfl) (own_w hw 21 rfl) (own_w hw 22 rfl) (own_w hw 23 rfl) (by decide) (rm_at l Z a0 hw n0 (7 : Int32) pr (0 : Int32) dg mg ca cb a_2 h_123 f_128 f_127 ra (by decide) kca kcb m0) (st := [(.int (7 : Int32)), (.ref a_57)]) [(.int (7 : Int32)), (.int pr), (.int (0 : Int32)), (.int dg), (.long mg), (.int ca), (.int cb), (.ref a_2)] rfl rfl own_pd_4_at rfl rfl (by decide) (W := 2) (Nat.le_of_eq rfl) (by decide) (by decide) (by decide) at_389 (pc' := 392) rfl ?_
    intro v_131 h_129 q_130
    obtain ⟨q7, rfl, kq7, aq7, rfl⟩ := q_130
    show Go B n0 _ h_123 2 27 392 #[.val (.long p0), .second, .val (.int p1), .val (.int p2), .val (.int p3), .val (.ref a_2), .val (.int (0 : Int32)), .val (.int (0 : Int32)), .val (.int dg), .val (.int pr), .val (.int ca), .val (.int cb), .val (.long wv), .second, .val (.long mg), .second, .val (.long mg), .second, .val (.int mn), .val (.ref a_57), .unset, .unset, .unset] [(.int q7), (.int (7 : Int32)), (.ref a_57)]
    refine g_castore C f_126 (by decide) (i := 7) (by decide) (show 7 < 16 by decide) (w := (.int q7)) (congrArg Value.int kq7.1) ge_a_57 at_392 (pc' := 393) rfl ?_
    intro h_132 K_133 A_134
    have f_135 : Ary Z h_132 a_57 .char [(.int q0), (.int q1), (.int q2), (.int q3), (.int q4), (.int q5), (.int q6), (.int q7), (.int (0 : Int32)), (.int (0 : Int32)), (.int (0 : Int32)), (.int (0 : Int32)), (.int (0 : Int32)), (.int (0 : Int32)), (.int (0 : Int32)), (.int (0 : Int32))] := A_134
    refine g_aload C at_393 (v := (.ref a_57)) rfl rfl (pc' := 395) rfl ?_
    refine g_bipush C at_395 (v := (8 : Int32)) rfl (pc' := 397) rfl ?_
    refine g_bipush C at_397 (v := (8 : Int32)) rfl (pc' := 399) rfl ?_
    refine g_iload C at_399 (v := pr) rfl (pc' := 401) rfl ?_
    refine g_iload C at_401 (v := (0 : Int32)) rfl (pc' := 403) rfl ?_
    refine g_iload C at_403 (v := dg) rfl (pc' := 405) rfl ?_
    refine g_lload C at_405 (v := mg) rfl (pc' := 407) rfl ?_
    refine g_iload C at_407 (v := ca) rfl (pc' := 409) rfl ?_
    refine g_iload C at_409 (v := cb) rfl (pc' := 411) rfl ?_
    refine g_aload C at_411 (v := (.ref a_2)) rfl rfl (pc' := 413) rfl ?_
    have f_136 := (f_127.keep K_133 (ninS ne_61 nin0))
    have f_137 := (Nat.le_trans f_128 K_133.1)
    refine g_static C (own_w hw 20 rfl) (own_w hw 21 rfl) (own_w hw 22 rfl) (own_w hw 23 rfl) (by decide) (rm_at l Z a0 hw n0 (8 : Int32) pr (0 : Int32) dg mg ca cb a_2 h_132 f_137 f_136 ra (by decide) kca kcb m0) (st := [(.int (8 : Int32)), (.ref a_57)]) [(.int (8 : Int32)), (.int pr), (.int (0 : Int32)), (.int dg), (.long mg), (.int ca), (.int cb), (.ref a_2)] rfl rfl own_pd_4_at rfl rfl (by decide) (W := 2) (Nat.le_of_eq rfl) (by decide) (by decide) (by decide) at_413 (pc' := 416) rfl ?_
    intro v_140 h_138 q_139
    obtain ⟨q8, rfl, kq8, aq8, rfl⟩ := q_139
    show Go B n0 _ h_132 2 27 416 #[.val (.long p0), .second, .val (.int p1), .val (.int p2), .val (.int p3), .val (.ref a_2), .val (.int (0 : Int32)), .val (.int (0 : Int32)), .val (.int dg), .val (.int pr), .val (.int ca), .val (.int cb), .val (.long wv), .second, .val (.long mg), .second, .val (.long mg), .second, .val (.int mn), .val (.ref a_57), .unset, .unset, .unset] [(.int q8), (.int (8 : Int32)), (.ref a_57)]
    refine g_castore C f_135 (by decide) (i := 8) (by decide) (show 8 < 16 by decide) (w := (.int q8)) (congrArg Value.int kq8.1) ge_a_57 at_416 (pc' := 417) rfl ?_
    intro h_141 K_142 A_143
    have f_144 : Ary Z h_141 a_57 .char [(.int q0), (.int q1), (.int q2), (.int q3), (.int q4), (.int q5), (.int q6), (.int q7), (.int q8), (.int (0 : Int32)), (.int (0 : Int32)), (.int (0 : Int32)), (.int (0 : Int32)), (.int (0 : Int32)), (.int (0 : Int32)), (.int (0 : Int32))] := A_143
    refine g_aload C at_417 (v := (.ref a_57)) rfl rfl (pc' := 419) rfl ?_
    refine g_bipush C at_419 (v := (9 : Int32)) rfl (pc' := 421) rfl ?_
    refine g_bipush C at_421 (v := (9 : Int32)) rfl (pc' := 423) rfl ?_
    refine g_iload C at_423 (v := pr) rfl (pc' := 425) rfl ?_
    refine g_iload C at_425 (v := (0 : Int32)) rfl (pc' := 427) rfl ?_
    refine g_iload C at_427 (v := dg) rfl (pc' := 429) rfl ?_
    refine g_lload C at_429 (v := mg) rfl (pc' := 431) rfl ?_
    refine g_iload C at_431 (v := ca) rfl (pc' := 433) rfl ?_
    refine g_iload C at_433 (v := cb) rfl (pc' := 435) rfl ?_
    refine g_aload C at_435 (v := (.ref a_2)) rfl rfl (pc' := 437) rfl ?_
    have f_145 := (f_136.keep K_142 (ninS ne_61 nin0))
    have f_146 := (Nat.le_trans f_137 K_142.1)
    refine g_static C (own_w hw 20 rfl) (own_w hw 21 rfl) (own_w hw 22 rfl) (own_w hw 23 rfl) (by decide) (rm_at l Z a0 hw n0 (9 : Int32) pr (0 : Int32) dg mg ca cb a_2 h_141 f_146 f_145 ra (by decide) kca kcb m0) (st := [(.int (9 : Int32)), (.ref a_57)]) [(.int (9 : Int32)), (.int pr), (.int (0 : Int32)), (.int dg), (.long mg), (.int ca), (.int cb), (.ref a_2)] rfl rfl own_pd_4_at rfl rfl (by decide) (W := 2) (Nat.le_of_eq rfl) (by decide) (by decide) (by decide) at_437 (pc' := 440) rfl ?_
    intro v_149 h_147 q_148
    obtain ⟨q9, rfl, kq9, aq9, rfl⟩ := q_148
    show Go B n0 _ h_141 2 27 440 #[.val (.long p0), .second, .val (.int p1), .val (.int p2), .val (.int p3), .val (.ref a_2), .val (.int (0 : Int32)), .val (.int (0 : Int32)), .val (.int dg), .val (.int pr), .val (.int ca), .val (.int cb), .val (.long wv), .second, .val (.long mg), .second, .val (.long mg), .second, .val (.int mn), .val (.ref a_57), .unset, .unset, .unset] [(.int q9), (.int (9 : Int32)), (.ref a_57)]
    refine g_castore C f_144 (by decide) (i := 9) (by decide) (show 9 < 16 by decide) (w := (.int q9)) (congrArg Value.int kq9.1) ge_a_57 at_440 (pc' := 441) rfl ?_
    intro h_150 K_151 A_152
    have f_153 : Ary Z h_150 a_57 .char [(.int q0), (.int q1), (.int q2), (.int q3), (.int q4), (.int q5), (.int q6), (.int q7), (.int q8), (.int q9), (.int (0 : Int32)), (.int (0 : Int32)), (.int (0 : Int32)), (.int (0 : Int32)), (.int (0 : Int32)), (.int (0 : Int32))] := A_152
    refine g_aload C at_441 (v := (.ref a_57)) rfl rfl (pc' := 443) rfl ?_
    refine g_bipush C at_443 (v := (10 : Int32)) rfl (pc' := 445) rfl ?_
    refine g_bipush C at_445 (v := (10 : Int32)) rfl (pc' := 447) rfl ?_
    refine g_iload C at_447 (v := pr) rfl (pc' := 449) rfl ?_
    refine g_iload C at_449 (v := (0 : Int32)) rfl (pc' := 451) rfl ?_
    refine g_iload C at_451 (v := dg) rfl (pc' := 453) rfl ?_
    refine g_lload C at_453 (v := mg) rfl (pc' := 455) rfl ?_
    refine g_iload C at_455 (v := ca) rfl (pc' := 457) rfl ?_
    refine g_iload C at_457 (v := cb) rfl (pc' := 459) rfl ?_
    refine g_aload C at_459 (v := (.ref a_2)) rfl rfl (pc' := 461) rfl ?_
    have f_154 := (f_145.keep K_151 (ninS ne_61 nin0))
    have f_155 := (Nat.le_trans f_146 K_151.1)
    refine g_static C (own_w hw 20 rfl) (own_w hw 21 rfl) (own_w hw 22 rfl) (own_w hw 23 rfl) (by decide) (rm_at l Z a0 hw n0 (10 : Int32) pr (0 : Int32) dg mg ca cb a_2 h_150 f_155 f_154 ra (by decide) kca kcb m0) (st := [(.int (10 : Int32)), (.ref a_57)]) [(.int (10 : Int32)), (.int pr), (.int (0 : Int32)), (.int dg), (.long mg), (.int ca), (.int cb), (.ref a_2)] rfl rfl own_pd_4_at rfl rfl (by decide) (W := 2) (Nat.le_of_eq rfl) (by decide) (by decide) (by decide) at_461 (pc' := 464) rfl ?_
    intro v_158 h_156 q_157
    obtain ⟨q10, rfl, kq10, aq10, rfl⟩ := q_157
    show Go B n0 _ h_150 2 27 464 #[.val (.long p0), .second, .val (.int p1), .val (.int p2), .val (.int p3), .val (.ref a_2), .val (.int (0 : Int32)), .val (.int (0 : Int32)), .val (.int dg), .val (.int pr), .val (.int ca), .val (.int cb), .val (.long wv), .second, .val (.long mg), .second, .val (.long mg), .second, .val (.int mn), .val (.ref a_57), .unset, .unset, .unset] [(.int q10), (.int (10 : Int32)), (.ref a_57)]
    refine g_castore C f_153 (by decide) (i := 10) (by decide) (show 10 < 16 by decide) (w := (.int q10)) (congrArg Value.int kq10.1) ge_a_57 at_464 (pc' := 465) rfl ?_
    intro h_159 K_160 A_161
    have f_162 : Ary Z h_159 a_57 .char [(.int q0), (.int q1), (.int q2), (.int q3), (.int q4), (.int q5), (.int q6), (.int q7), (.int q8), (.int q9), (.int q10), (.int (0 : Int32)), (.int (0 : Int32)), (.int (0 : Int32)), (.int (0 : Int32)), (.int (0 : Int32))] := A_161
    refine g_aload C at_465 (v := (.ref a_57)) rfl rfl (pc' := 467) rfl ?_
    refine g_bipush C at_467 (v := (11 : Int32)) rfl (pc' := 469) rfl ?_
    refine g_bipush C at_469 (v := (11 : Int32)) rfl (pc' := 471) rfl ?_
    refine g_iload C at_471 (v := pr) rfl (pc' := 473) rfl ?_
    refine g_iload C at_473 (v := (0 : Int32)) rfl (pc' := 475) rfl ?_
    refine g_iload C at_475 (v := dg) rfl (pc' := 477) rfl ?_
    refine g_lload C at_477 (v := mg) rfl (pc' := 479) rfl ?_
    refine g_iload C at_479 (v := ca) rfl (pc' := 481) rfl ?_
    refine g_iload C at_481 (v := cb) rfl (pc' := 483) rfl ?_
    refine g_aload C at_483 (v := (.ref a_2)) rfl rfl (pc' := 485) rfl ?_
    have f_163 := (f_154.keep K_160 (ninS ne_61 nin0))
    have f_164 := (Nat.le_trans f_155 K_160.1)
    refine g_static C (own_w hw 20 rfl) (own_w hw 21 rfl) (own_w hw 22 rfl) (own_w hw 23 rfl) (by decide) (rm_at l Z a0 hw n0 (11 : Int32) pr (0 : Int32) dg mg ca cb a_2 h_159 f_164 f_163 ra (by decide) kca kcb m0) (st := [(.int (11 : Int32)), (.ref a_57)]) [(.int (11 : Int32)), (.int pr), (.int (0 : Int32)), (.int dg), (.long mg), (.int ca), (.int cb), (.ref a_2)] rfl rfl own_pd_4_at rfl rfl (by decide) (W := 2) (Nat.le_of_eq rfl) (by decide) (by decide) (by decide) at_485 (pc' := 488) rfl ?_
    intro v_167 h_165 q_166
    obtain ⟨q11, rfl, kq11, aq11, rfl⟩ := q_166
    show Go B n0 _ h_159 2 27 488 #[.val (.long p0), .second, .val (.int p1), .val (.int p2), .val (.int p3), .val (.ref a_2), .val (.int (0 : Int32)), .val (.int (0 : Int32)), .val (.int dg), .val (.int pr), .val (.int ca), .val (.int cb), .val (.long wv), .second, .val (.long mg), .second, .val (.long mg), .second, .val (.int mn), .val (.ref a_57), .unset, .unset, .unset] [(.int q11), (.int (11 : Int32)), (.ref a_57)]
    refine g_castore C f_162 (by decide) (i := 11) (by decide) (show 11 < 16 by decide) (w := (.int q11)) (congrArg Value.int kq11.1) ge_a_57 at_488 (pc' := 489) rfl ?_
    intro h_168 K_169 A_170
    have f_171 : Ary Z h_168 a_57 .char [(.int q0), (.int q1), (.int q2), (.int q3), (.int q4), (.int q5), (.int q6), (.int q7), (.int q8), (.int q9), (.int q10), (.int q11), (.int (0 : Int32)), (.int (0 : Int32)), (.int (0 : Int32)), (.int (0 : Int32))] := A_170
    refine g_aload C at_489 (v := (.ref a_57)) rfl rfl (pc' := 491) rfl ?_
    refine g_bipush C at_491 (v := (12 : Int32)) rfl (pc' := 493) rfl ?_
    refine g_bipush C at_493 (v := (12 : Int32)) rfl (pc' := 495) rfl ?_
    refine g_iload C at_495 (v := pr) rfl (pc' := 497) rfl ?_
    refine g_iload C at_497 (v := (0 : Int32)) rfl (pc' := 499) rfl ?_
    refine g_iload C at_499 (v := dg) rfl (pc' := 501) rfl ?_
    refine g_lload C at_501 (v := mg) rfl (pc' := 503) rfl ?_
    refine g_iload C at_503 (v := ca) rfl (pc' := 505) rfl ?_
    refine g_iload C at_505 (v := cb) rfl (pc' := 507) rfl ?_
    refine g_aload C at_507 (v := (.ref a_2)) rfl rfl (pc' := 509) rfl ?_
    have f_172 := (f_163.keep K_169 (ninS ne_61 nin0))
    have f_173 := (Nat.le_trans f_164 K_169.1)
    refine g_static C (own_w hw 20 rfl) (own_w hw 21 rfl) (own_w hw 22 rfl) (own_w hw 23 rfl) (by decide) (rm_at l Z a0 hw n0 (12 : Int32) pr (0 : Int32) dg mg ca cb a_2 h_168 f_173 f_172 ra (by decide) kca kcb m0) (st := [(.int (12 : Int32)), (.ref a_57)]) [(.int (12 : Int32)), (.int pr), (.int (0 : Int32)), (.int dg), (.long mg), (.int ca), (.int cb), (.ref a_2)] rfl rfl own_pd_4_at rfl rfl (by decide) (W := 2) (Nat.le_of_eq rfl) (by decide) (by decide) (by decide) at_509 (pc' := 512) rfl ?_
    intro v_176 h_174 q_175
    obtain ⟨q12, rfl, kq12, aq12, rfl⟩ := q_175
    show Go B n0 _ h_168 2 27 512 #[.val (.long p0), .second, .val (.int p1), .val (.int p2), .val (.int p3), .val (.ref a_2), .val (.int (0 : Int32)), .val (.int (0 : Int32)), .val (.int dg), .val (.int pr), .val (.int ca), .val (.int cb), .val (.long wv), .second, .val (.long mg), .second, .val (.long mg), .second, .val (.int mn), .val (.ref a_57), .unset, .unset, .unset] [(.int q12), (.int (12 : Int32)), (.ref a_57)]
    refine g_castore C f_171 (by decide) (i := 12) (by decide) (show 12 < 16 by decide) (w := (.int q12)) (congrArg Value.int kq12.1) ge_a_57 at_512 (pc' := 513) rfl ?_
    intro h_177 K_178 A_179
    have f_180 : Ary Z h_177 a_57 .char [(.int q0), (.int q1), (.int q2), (.int q3), (.int q4), (.int q5), (.int q6), (.int q7), (.int q8), (.int q9), (.int q10), (.int q11), (.int q12), (.int (0 : Int32)), (.int (0 : Int32)), (.int (0 : Int32))] := A_179
    refine g_aload C at_513 (v := (.ref a_57)) rfl rfl (pc' := 515) rfl ?_
    refine g_bipush C at_515 (v := (13 : Int32)) rfl (pc' := 517) rfl ?_
    refine g_bipush C at_517 (v := (13 : Int32)) rfl (pc' := 519) rfl ?_
    refine g_iload C at_519 (v := pr) rfl (pc' := 521) rfl ?_
    refine g_iload C at_521 (v := (0 : Int32)) rfl (pc' := 523) rfl ?_
    refine g_iload C at_523 (v := dg) rfl (pc' := 525) rfl ?_
    refine g_lload C at_525 (v := mg) rfl (pc' := 527) rfl ?_
    refine g_iload C at_527 (v := ca) rfl (pc' := 529) rfl ?_
    refine g_iload C at_529 (v := cb) rfl (pc' := 531) rfl ?_
    refine g_aload C at_531 (v := (.ref a_2)) rfl rfl (pc' := 533) rfl ?_
    have f_181 := (f_172.keep K_178 (ninS ne_61 nin0))
    have f_182 := (Nat.le_trans f_173 K_178.1)
    refine g_static C (own_w hw 20 rfl) (own_w hw 21 rfl) (own_w hw 22 rfl) (own_w hw 23 rfl) (by decide) (rm_at l Z a0 hw n0 (13 : Int32) pr (0 : Int32) dg mg ca cb a_2 h_177 f_182 f_181 ra (by decide) kca kcb m0) (st := [(.int (13 : Int32)), (.ref a_57)]) [(.int (13 : Int32)), (.int pr), (.int (0 : Int32)), (.int dg), (.long mg), (.int ca), (.int cb), (.ref a_2)] rfl rfl own_pd_4_at rfl rfl (by decide) (W := 2) (Nat.le_of_eq rfl) (by decide) (by decide) (by decide) at_533 (pc' := 536) rfl ?_
    intro v_185 h_183 q_184
    obtain ⟨q13, rfl, kq13, aq13, rfl⟩ := q_184
    show Go B n0 _ h_177 2 27 536 #[.val (.long p0), .second, .val (.int p1), .val (.int p2), .val (.int p3), .val (.ref a_2), .val (.int (0 : Int32)), .val (.int (0 : Int32)), .val (.int dg), .val (.int pr), .val (.int ca), .val (.int cb), .val (.long wv), .second, .val (.long mg), .second, .val (.long mg), .second, .val (.int mn), .val (.ref a_57), .unset, .unset, .unset] [(.int q13), (.int (13 : Int32)), (.ref a_57)]
    refine g_castore C f_180 (by decide) (i := 13) (by decide) (show 13 < 16 by decide) (w := (.int q13)) (congrArg Value.int kq13.1) ge_a_57 at_536 (pc' := 537) rfl ?_
    intro h_186 K_187 A_188
    have f_189 : Ary Z h_186 a_57 .char [(.int q0), (.int q1), (.int q2), (.int q3), (.int q4), (.int q5), (.int q6), (.int q7), (.int q8), (.int q9), (.int q10), (.int q11), (.int q12), (.int q13), (.int (0 : Int32)), (.int (0 : Int32))] := A_188
    refine g_aload C at_537 (v := (.ref a_57)) rfl rfl (pc' := 539) rfl ?_
    refine g_bipush C at_539 (v := (14 : Int32)) rfl (pc' := 541) rfl ?_
    refine g_bipush C at_541 (v := (14 : Int32)) rfl (pc' := 543) rfl ?_
    refine g_iload C at_543 (v := pr) rfl (pc' := 545) rfl ?_
    refine g_iload C at_545 (v := (0 : Int32)) rfl (pc' := 547) rfl ?_
    refine g_iload C at_547 (v := dg) rfl (pc' := 549) rfl ?_
    refine g_lload C at_549 (v := mg) rfl (pc' := 551) rfl ?_
    refine g_iload C at_551 (v := ca) rfl (pc' := 553) rfl ?_
    refine g_iload C at_553 (v := cb) rfl (pc' := 555) rfl ?_
    refine g_aload C at_555 (v := (.ref a_2)) rfl rfl (pc' := 557) rfl ?_
    have f_190 := (f_181.keep K_187 (ninS ne_61 nin0))
    have f_191 := (Nat.le_trans f_182 K_187.1)
    refine g_static C (own_w hw 20 rfl) (own_w hw 21 rfl) (own_w hw 22 rfl) (own_w hw 23 rfl) (by decide) (rm_at l Z a0 hw n0 (14 : Int32) pr (0 : Int32) dg mg ca cb a_2 h_186 f_191 f_190 ra (by decide) kca kcb m0) (st := [(.int (14 : Int32)), (.ref a_57)]) [(.int (14 : Int32)), (.int pr), (.int (0 : Int32)), (.int dg), (.long mg), (.int ca), (.int cb), (.ref a_2)] rfl rfl own_pd_4_at rfl rfl (by decide) (W := 2) (Nat.le_of_eq rfl) (by decide) (by decide) (by decide) at_557 (pc' := 560) rfl ?_
    intro v_194 h_192 q_193
    obtain ⟨q14, rfl, kq14, aq14, rfl⟩ := q_193
    show Go B n0 _ h_186 2 27 560 #[.val (.long p0), .second, .val (.int p1), .val (.int p2), .val (.int p3), .val (.ref a_2), .val (.int (0 : Int32)), .val (.int (0 : Int32)), .val (.int dg), .val (.int pr), .val (.int ca), .val (.int cb), .val (.long wv), .second, .val (.long mg), .second, .val (.long mg), .second, .val (.int mn), .val (.ref a_57), .unset, .unset, .unset] [(.int q14), (.int (14 : Int32)), (.ref a_57)]
    refine g_castore C f_189 (by decide) (i := 14) (by decide) (show 14 < 16 by decide) (w := (.int q14)) (congrArg Value.int kq14.1) ge_a_57 at_560 (pc' := 561) rfl ?_
    intro h_195 K_196 A_197
    have f_198 : Ary Z h_195 a_57 .char [(.int q0), (.int q1), (.int q2), (.int q3), (.int q4), (.int q5), (.int q6), (.int q7), (.int q8), (.int q9), (.int q10), (.int q11), (.int q12), (.int q13), (.int q14), (.int (0 : Int32))] := A_197
    refine g_aload C at_561 (v := (.ref a_57)) rfl rfl (pc' := 563) rfl ?_
    refine g_bipush C at_563 (v := (15 : Int32)) rfl (pc' := 565) rfl ?_
    refine g_bipush C at_565 (v := (15 : Int32)) rfl (pc' := 567) rfl ?_
    refine g_iload C at_567 (v := pr) rfl (pc' := 569) rfl ?_
    refine g_iload C at_569 (v := (0 : Int32)) rfl (pc' := 571) rfl ?_
    refine g_iload C at_571 (v := dg) rfl (pc' := 573) rfl ?_
    refine g_lload C at_573 (v := mg) rfl (pc' := 575) rfl ?_
    refine g_iload C at_575 (v := ca) rfl (pc' := 577) rfl ?_
    refine g_iload C at_577 (v := cb) rfl (pc' := 579) rfl ?_
    refine g_aload C at_579 (v := (.ref a_2)) rfl rfl (pc' := 581) rfl ?_
    have f_199 := (f_190.keep K_196 (ninS ne_61 nin0))
    have f_200 := (Nat.le_trans f_191 K_196.1)
    refine g_static C (own_w hw 20 rfl) (own_w hw 21 rfl) (own_w hw 22 rfl) (own_w hw 23 rfl) (by decide) (rm_at l Z a0 hw n0 (15 : Int32) pr (0 : Int32) dg mg ca cb a_2 h_195 f_200 f_199 ra (by decide) kca kcb m0) (st := [(.int (15 : Int32)), (.ref a_57)]) [(.int (15 : Int32)), (.int pr), (.int (0 : Int32)), (.int dg), (.long mg), (.int ca), (.int cb), (.ref a_2)] rfl rfl own_pd_4_at rfl rfl (by decide) (W := 2) (Nat.le_of_eq rfl) (by decide) (by decide) (by decide) at_581 (pc' := 584) rfl ?_
    intro v_203 h_201 q_202
    obtain ⟨q15, rfl, kq15, aq15, rfl⟩ := q_202
    show Go B n0 _ h_195 2 27 584 #[.val (.long p0), .second, .val (.int p1), .val (.int p2), .val (.int p3), .val (.ref a_2), .val (.int (0 : Int32)), .val (.int (0 : Int32)), .val (.int dg), .val (.int pr), .val (.int ca), .val (.int cb), .val (.long wv), .second, .val (.long mg), .second, .val (.long mg), .second, .val (.int mn), .val (.ref a_57), .unset, .unset, .unset] [(.int q15), (.int (15 : Int32)), (.ref a_57)]
    refine g_castore C f_198 (by decide) (i := 15) (by decide) (show 15 < 16 by decide) (w := (.int q15)) (congrArg Value.int kq15.1) ge_a_57 at_584 (pc' := 585) rfl ?_
    intro h_204 K_205 A_206
    have f_207 : Ary Z h_204 a_57 .char [(.int q0), (.int q1), (.int q2), (.int q3), (.int q4), (.int q5), (.int q6), (.int q7), (.int q8), (.int q9), (.int q10), (.int q11), (.int q12), (.int q13), (.int q14), (.int q15)] := A_206
    have f_208 := (f_199.keep K_205 (ninS ne_61 nin0))
    refine g_new C (own_w hw 24 rfl) (own_w hw 25 rfl) (own_w hw 26 rfl) (by decide) (by decide) at_585 (pc' := 588) rfl ?_
    intro h_209 a_210 g_211 E_212 A_213 D_214
    have ne_215 : a_2 ≠ a_210 := ne_new f_208.lt g_211
    have ne_216 : a_57 ≠ a_210 := ne_new f_207.lt g_211
    have f_217 := (Nat.le_trans f_200 K_205.1)
    have ge_a_210 : n0 ≤ a_210 := Nat.le_trans f_217 (Nat.le_of_eq g_211.symm)
    have f_218 := (Nat.le_trans (Nat.le_trans (Nat.le_trans (Nat.le_trans (Nat.le_trans (Nat.le_trans (Nat.le_trans (Nat.le_trans (Nat.le_trans (Nat.le_trans (Nat.le_trans (Nat.le_trans (Nat.le_trans (Nat.le_trans (Nat.le_trans (Nat.le_trans (Nat.le_trans f_62 E_59.1) K_70.1) K_79.1) K_88.1) K_97.1) K_106.1) K_115.1) K_124.1) K_133.1) K_142.1) K_151.1) K_160.1) K_169.1) K_178.1) K_187.1) K_196.1) K_205.1)
    have gs_a_210 : h0.size ≤ a_210 := Nat.le_trans f_218 (Nat.le_of_eq g_211.symm)
    have f_219 : Fld Z h_209 a_210 "java/lang/String" "coder" "B" (.int (0 : Int32)) := D_214 (Or.inr (own_w hw 50 rfl)) (ty := .byte) (by decide)
    have f_220 : Fld Z h_209 a_210 "java/lang/String" "value" "[B" .null := D_214 (Or.inr (own_w hw 52 rfl)) (ty := (.array .byte)) (by decide)
    show Go B n0 _ h_209 3 31 588 #[.val (.long p0), .second, .val (.int p1), .val (.int p2), .val (.int p3), .val (.ref a_2), .val (.int (0 : Int32)), .val (.int (0 : Int32)), .val (.int dg), .val (.int pr), .val (.int ca), .val (.int cb), .val (.long wv), .second, .val (.long mg), .second, .val (.long mg), .second, .val (.int mn), .val (.ref a_57), .unset, .unset, .unset] [(.ref a_210)]
    refine g_dup C at_588 rfl (pc' := 589) rfl ?_
    refine g_aload C at_589 (v := (.ref a_57)) rfl rfl (pc' := 591) rfl ?_
    have f_221 := ((((((((((((((((((((((((((((((O.ext E_4).keep K_8 (allS ge_a_2 all0)).keep K_12 (allS ge_a_2 all0)).keep K_16 (allS ge_a_2 all0)).keep K_20 (allS ge_a_2 all0)).keep K_24 (allS ge_a_2 all0)).keep K_28 (allS ge_a_2 all0)).keep K_32 (allS ge_a_2 all0)).keep K_36 (allS ge_a_2 all0)).keep K_40 (allS ge_a_2 all0)).keep K_44 (allS ge_a_2 all0)).keep K_48 (allS ge_a_2 all0)).ext E_59).keep K_70 (allS ge_a_57 all0)).keep K_79 (allS ge_a_57 all0)).keep K_88 (allS ge_a_57 all0)).keep K_97 (allS ge_a_57 all0)).keep K_106 (allS ge_a_57 all0)).keep K_115 (allS ge_a_57 all0)).keep K_124 (allS ge_a_57 all0)).keep K_133 (allS ge_a_57 all0)).keep K_142 (allS ge_a_57 all0)).keep K_151 (allS ge_a_57 all0)).keep K_160 (allS ge_a_57 all0)).keep K_169 (allS ge_a_57 all0)).keep K_178 (allS ge_a_57 all0)).keep K_187 (allS ge_a_57 all0)).keep K_196 (allS ge_a_57 all0)).keep K_205 (allS ge_a_57 all0)).ext E_212)
    have f_222 := (f_207.ext E_212)
    have f_223 := (Nat.le_trans f_217 E_212.1)
    have f_224 := (f_208.ext E_212)
    have f_225 := (Nat.le_trans f_218 E_212.1)
    refine g_special C (a := a_210) rfl (own_w hw 27 rfl) (own_w hw 28 rfl) (own_w hw 26 rfl) (own_w hw 29 rfl) (by decide) (rm_init1_16 l Z a0 hw n0 a_210 a_57 q0 q1 q2 q3 q4 q5 q6 q7 q8 q9 q10 q11 q12 q13 q14 q15 h_209 f_223 cm f_221 A_213 f_220 f_219 ge_a_210 f_222 (Ne.symm ne_216) kq0 kq1 kq2 kq3 kq4 kq5 kq6 kq7 kq8 kq9 kq10 kq11 kq12 kq13 kq14 kq15) (st := [(.ref a_210)]) [(.ref a_57)] rfl rfl own_pd_12_init rfl rfl (by decide) (W := 1) (Nat.le_of_eq rfl) (by decide) (by decide) (by decide) at_591 (pc' := 594) rfl ?_
    intro v_228 h_226 q_227
    obtain ⟨rfl, K_229, b_230, le_231, f_232, f_233, f_234⟩ := q_227
    have ne_235 : a_2 ≠ b_230 := ne_ge f_224.lt le_231
    have ne_236 : a_210 ≠ b_230 := ne_ge A_213.lt le_231
    have ne_237 : a_57 ≠ b_230 := ne_ge f_222.lt le_231
    have ge_b_230 : n0 ≤ b_230 := Nat.le_trans f_223 le_231
    have gs_b_230 : h0.size ≤ b_230 := Nat.le_trans f_225 le_231
    show Go B n0 _ h_226 4 47 594 #[.val (.long p0), .second, .val (.int p1), .val (.int p2), .val (.int p3), .val (.ref a_2), .val (.int (0 : Int32)), .val (.int (0 : Int32)), .val (.int dg), .val (.int pr), .val (.int ca), .val (.int cb), .val (.long wv), .second, .val (.long mg), .second, .val (.long mg), .second, .val (.int mn), .val (.ref a_57), .unset, .unset, .unset] [(.ref a_210)]
    refine g_astore C at_594 (v := (.ref a_210)) (L' := #[.val (.long p0), .second, .val (.int p1), .val (.int p2), .val (.int p3), .val (.ref a_2), .val (.int (0 : Int32)), .val (.int (0 : Int32)), .val (.int dg), .val (.int pr), .val (.int ca), .val (.int cb), .val (.long wv), .second, .val (.long mg), .second, .val (.long mg), .second, .val (.int mn), .val (.ref a_57), .val (.ref a_210), .unset, .unset]) rfl rfl (pc' := 596) rfl ?_
    refine g_iload C at_596 (v := pr) rfl (pc' := 598) rfl ?_
    refine g_iload C at_598 (v := (0 : Int32)) rfl (pc' := 600) rfl ?_
    refine g_iadd C (x := pr) (y := (0 : Int32)) at_600  (pc' := 601) rfl ?_
    refine g_iload C at_601 (v := dg) rfl (pc' := 603) rfl ?_
    refine g_iadd C (x := (pr + (0 : Int32))) (y := dg) at_603  (pc' := 604) rfl ?_
    refine g_istore C at_604 (v := ((pr + (0 : Int32)) + dg)) (L' := #[.val (.long p0), .second, .val (.int p1), .val (.int p2), .val (.int p3), .val (.ref a_2), .val (.int (0 : Int32)), .val (.int (0 : Int32)), .val (.int dg), .val (.int pr), .val (.int ca), .val (.int cb), .val (.long wv), .second, .val (.long mg), .second, .val (.long mg), .second, .val (.int mn), .val (.ref a_57), .val (.ref a_210), .val (.int ((pr + (0 : Int32)) + dg)), .unset]) rfl (pc' := 606) rfl ?_
    refine g_aload C at_606 (v := (.ref a_210)) rfl rfl (pc' := 608) rfl ?_
    refine g_iload C at_608 (v := pr) rfl (pc' := 610) rfl ?_
    refine g_iload C at_610 (v := ((pr + (0 : Int32)) + dg)) rfl (pc' := 612) rfl ?_
    refine g_iload C at_612 (v := mn) rfl (pc' := 614) rfl ?_
    have f_238 := (f_224.keep K_229 (ninS ne_215 nin0))
    have f_239 := (A_213.keep K_229)
    have f_240 := (f_222.keep K_229 (ninS ne_216 nin0))
    refine g_ldcS C hW (own_w hw 53 rfl) (own_satoms hw) (nn := 20) (by decide) (by decide) (by decide) (by decide) at_614 (pc' := 616) rfl ?_
    intro B C hW h_241 a_242 E_243
    show Go B n0 _ h_241 6 71 616 #[.val (.long p0), .second, .val (.int p1), .val (.int p2), .val (.int p3), .val (.ref a_2), .val (.int (0 : Int32)), .val (.int (0 : Int32)), .val (.int dg), .val (.int pr), .val (.int ca), .val (.int cb), .val (.long wv), .second, .val (.long mg), .second, .val (.long mg), .second, .val (.int mn), .val (.ref a_57), .val (.ref a_210), .val (.int ((pr + (0 : Int32)) + dg)), .unset] [(.ref a_242), (.int mn), (.int ((pr + (0 : Int32)) + dg)), (.int pr), (.ref a_210)]
    have f_244 := (f_239.ext E_243)
    have f_245 := (f_232.ext E_243)
    have f_246 := (f_233.ext E_243)
    have f_247 := (f_234.ext E_243)
    have hf1 : pr.toInt = pr.toInt + 0 := by omega
    obtain ⟨hDg, hSg⟩ := own_ofAt (f := pr) (mg := mg) (vs := [.int (Int8.toInt32 (Int32.toInt8 q0)), .int (Int8.toInt32 (Int32.toInt8 q1)), .int (Int8.toInt32 (Int32.toInt8 q2)), .int (Int8.toInt32 (Int32.toInt8 q3)), .int (Int8.toInt32 (Int32.toInt8 q4)), .int (Int8.toInt32 (Int32.toInt8 q5)), .int (Int8.toInt32 (Int32.toInt8 q6)), .int (Int8.toInt32 (Int32.toInt8 q7)), .int (Int8.toInt32 (Int32.toInt8 q8)), .int (Int8.toInt32 (Int32.toInt8 q9)), .int (Int8.toInt32 (Int32.toInt8 q10)), .int (Int8.toInt32 (Int32.toInt8 q11)), .int (Int8.toInt32 (Int32.toInt8 q12)), .int (Int8.toInt32 (Int32.toInt8 q13)), .int (Int8.toInt32 (Int32.toInt8 q14)), .int (Int8.toInt32 (Int32.toInt8 q15))]) [q0, q1, q2, q3, q4, q5, q6, q7, q8, q9, q10, q11, q12, q13, q14, q15] rfl ra (fun k hk => match k, hk with | 0, _ => ⟨kq0, aq0⟩ | 1, _ => ⟨kq1, aq1⟩ | 2, _ => ⟨kq2, aq2⟩ | 3, _ => ⟨kq3, aq3⟩ | 4, _ => ⟨kq4, aq4⟩ | 5, _ => ⟨kq5, aq5⟩ | 6, _ => ⟨kq6, aq6⟩ | 7, _ => ⟨kq7, aq7⟩ | 8, _ => ⟨kq8, aq8⟩ | 9, _ => ⟨kq9, aq9⟩ | 10, _ => ⟨kq10, aq10⟩ | 11, _ => ⟨kq11, aq11⟩ | 12, _ => ⟨kq12, aq12⟩ | 13, _ => ⟨kq13, aq13⟩ | 14, _ => ⟨kq14, aq14⟩ | 15, _ => ⟨kq15, aq15⟩ | k + 16, hk => absurd hk (by omega)) hf1 rfl
    have hto : ((pr + (0 : Int32)) + dg).toInt = pr.toInt + (dg.toInt.toNat : Int) := by have e1 := c_iadd pr (0 : Int32); have r1 := rng32 (pr + (0 : Int32)); have e2 := c_iadd (pr + (0 : Int32)) dg; have r2 := rng32 ((pr + (0 : Int32)) + dg); have o1 : (0 : Int32).toInt = 0 := rfl; omega
    have f_248 := ((f_221.keep K_229 (allS ge_a_210 all0)).ext E_243)
    have f_249 := (Nat.le_trans (Nat.le_trans f_223 K_229.1) E_243.1)
    refine g_static C (own_w hw 56 rfl) (own_w hw 57 rfl) (own_w hw 58 rfl) (own_w hw 59 rfl) (by decide) (rm_integer_0 l Z a0 hw n0 a_210 b_230 a_242 [.int (Int8.toInt32 (Int32.toInt8 q0)), .int (Int8.toInt32 (Int32.toInt8 q1)), .int (Int8.toInt32 (Int32.toInt8 q2)), .int (Int8.toInt32 (Int32.toInt8 q3)), .int (Int8.toInt32 (Int32.toInt8 q4)), .int (Int8.toInt32 (Int32.toInt8 q5)), .int (Int8.toInt32 (Int32.toInt8 q6)), .int (Int8.toInt32 (Int32.toInt8 q7)), .int (Int8.toInt32 (Int32.toInt8 q8)), .int (Int8.toInt32 (Int32.toInt8 q9)), .int (Int8.toInt32 (Int32.toInt8 q10)), .int (Int8.toInt32 (Int32.toInt8 q11)), .int (Int8.toInt32 (Int32.toInt8 q12)), .int (Int8.toInt32 (Int32.toInt8 q13)), .int (Int8.toInt32 (Int32.toInt8 q14)), .int (Int8.toInt32 (Int32.toInt8 q15))] pr ((pr + (0 : Int32)) + dg) mn mg dg.toInt.toNat h_241 f_249 cm f_248 f_244 f_245 f_246 f_247 rfl (by omega) (by omega) hf1 hto (by omega) m0 m1 m2 hDg (by rw [← hvt]; exact hmn)) (st := []) [(.ref a_210), (.int pr), (.int ((pr + (0 : Int32)) + dg)), (.int mn), (.ref a_242)] rfl rfl own_pd_9_integer rfl rfl (by decide) (W := 0) (Nat.le_of_eq rfl) (by decide) (by decide) (by decide) at_616 (pc' := 619) rfl ?_
    intro v_252 h_250 q_251
    obtain ⟨rr, rfl, hrr, rfl⟩ := q_251
    have hfin : (Int32.toInt64 rr) = mg := Int64.toInt_inj.mp (by rw [c_i2l, hrr, hvt])
    show Go B n0 _ h_241 6 71 619 #[.val (.long p0), .second, .val (.int p1), .val (.int p2), .val (.int p3), .val (.ref a_2), .val (.int (0 : Int32)), .val (.int (0 : Int32)), .val (.int dg), .val (.int pr), .val (.int ca), .val (.int cb), .val (.long wv), .second, .val (.long mg), .second, .val (.long mg), .second, .val (.int mn), .val (.ref a_57), .val (.ref a_210), .val (.int ((pr + (0 : Int32)) + dg)), .unset] [(.int rr)]
    refine g_istore C at_619 (v := rr) (L' := #[.val (.long p0), .second, .val (.int p1), .val (.int p2), .val (.int p3), .val (.ref a_2), .val (.int (0 : Int32)), .val (.int (0 : Int32)), .val (.int dg), .val (.int pr), .val (.int ca), .val (.int cb), .val (.long wv), .second, .val (.long mg), .second, .val (.long mg), .second, .val (.int mn), .val (.ref a_57), .val (.ref a_210), .val (.int ((pr + (0 : Int32)) + dg)), .val (.int rr)]) rfl (pc' := 621) rfl ?_
    refine g_iload C at_621 (v := rr) rfl (pc' := 623) rfl ?_
    refine g_i2l C (x := rr) at_623 (pc' := 624) rfl ?_
    refine g_lload C at_624 (v := mg) rfl (pc' := 626) rfl ?_
    refine g_lcmp C (x := (Int32.toInt64 rr)) (y := mg) at_626 (pc' := 627) rfl ?_
    refine g_if_n C at_627 (Jvm.Free.XT.ll_ne_f hfin) (pc' := 630) rfl ?_
    refine g_iconst C at_630 (v := (1 : Int32)) rfl (pc' := 631) rfl ?_
    refine g_goto C at_631 (pc' := 635) (by decide) (by decide) ?_
    refine g_ret C (v := (.int (1 : Int32))) (ty := .boolean) rfl rfl (Or.inl ⟨rfl, Or.inr (Or.inl rfl), _, rfl⟩) at_635 (by decide) (by decide) ?_
    rfl
  · refine g_if_n C at_78 (Jvm.Free.XT.i0_eq_f hb_51) (pc' := 81) rfl ?_
    refine g_iconst C at_81 (v := (1 : Int32)) rfl (pc' := 82) rfl ?_
    refine g_goto C at_82 (pc' := 86) (by decide) (by decide) ?_
    refine g_istore C at_86 (v := (1 : Int32)) (L' := #[.val (.long p0), .second, .val (.int p1), .val (.int p2), .val (.int p3), .val (.ref a_2), .val (.int (1 : Int32)), .unset, .unset, .unset, .unset, .unset, .unset, .unset, .unset, .unset, .unset, .unset, .unset, .unset, .unset, .unset, .unset]) rfl (pc' := 88) rfl ?_
    refine g_iload C at_88 (v := (1 : Int32)) rfl (pc' := 90) rfl ?_
    refine g_if_n C at_90 (Jvm.Free.XT.i0_eq_f (by decide)) (pc' := 93) rfl ?_
    refine g_iconst C at_93 (v := (1 : Int32)) rfl (pc' := 94) rfl ?_
    refine g_goto C at_94 (pc' := 98) (by decide) (by decide) ?_
    refine g_istore C at_98 (v := (1 : Int32)) (L' := #[.val (.long p0), .second, .val (.int p1), .val (.int p2), .val (.int p3), .val (.ref a_2), .val (.int (1 : Int32)), .val (.int (1 : Int32)), .unset, .unset, .unset, .unset, .unset, .unset, .unset, .unset, .unset, .unset, .unset, .unset, .unset, .unset, .unset]) rfl (pc' := 100) rfl ?_
    refine g_iconst C at_100 (v := (1 : Int32)) rfl (pc' := 101) rfl ?_
    refine g_iload_n C at_101 (v := p2) rfl (pc' := 102) rfl ?_
    refine g_iconst C at_102 (v := (1 : Int32)) rfl (pc' := 103) rfl ?_
    refine g_iushr C (x := p2) (y := (1 : Int32)) at_103  (pc' := 104) rfl ?_
    refine g_bipush C at_104 (v := (10 : Int32)) rfl (pc' := 106) rfl ?_
    refine g_irem C (x := (Jvm.Free.XT.ushr p2 (1 : Int32))) (y := (10 : Int32)) at_106 (by decide) (pc' := 107) rfl ?_
    refine g_iadd C (x := (1 : Int32)) (y := ((Jvm.Free.XT.ushr p2 (1 : Int32)) - ((Jvm.Free.XT.ushr p2 (1 : Int32)) / (10 : Int32)) * (10 : Int32))) at_107  (pc' := 108) rfl ?_
    obtain ⟨dg, edg⟩ : ∃ z : Int32, z = ((1 : Int32) + ((Jvm.Free.XT.ushr p2 (1 : Int32)) - ((Jvm.Free.XT.ushr p2 (1 : Int32)) / (10 : Int32)) * (10 : Int32))) := ⟨_, rfl⟩
    rw [← edg]
    have hdg := own_dd (own_ush1 p2) edg
    refine g_istore C at_108 (v := dg) (L' := #[.val (.long p0), .second, .val (.int p1), .val (.int p2), .val (.int p3), .val (.ref a_2), .val (.int (1 : Int32)), .val (.int (1 : Int32)), .val (.int dg), .unset, .unset, .unset, .unset, .unset, .unset, .unset, .unset, .unset, .unset, .unset, .unset, .unset, .unset]) rfl (pc' := 110) rfl ?_
    refine g_iload C at_110 (v := p3) rfl (pc' := 112) rfl ?_
    refine g_bipush C at_112 (v := (16 : Int32)) rfl (pc' := 114) rfl ?_
    refine g_iushr C (x := p3) (y := (16 : Int32)) at_114  (pc' := 115) rfl ?_
    refine g_iconst C at_115 (v := (3 : Int32)) rfl (pc' := 116) rfl ?_
    refine g_iand C (x := (Jvm.Free.XT.ushr p3 (16 : Int32))) (y := (3 : Int32)) at_116  (pc' := 117) rfl ?_
    obtain ⟨pr, epr⟩ : ∃ z : Int32, z = ((Jvm.Free.XT.ushr p3 (16 : Int32)) &&& (3 : Int32)) := ⟨_, rfl⟩
    rw [← epr]
    have hpr : 0 ≤ pr.toInt ∧ pr.toInt < 4 := by rw [epr]; exact own_m3 _
    refine g_istore C at_117 (v := pr) (L' := #[.val (.long p0), .second, .val (.int p1), .val (.int p2), .val (.int p3), .val (.ref a_2), .val (.int (1 : Int32)), .val (.int (1 : Int32)), .val (.int dg), .val (.int pr), .unset, .unset, .unset, .unset, .unset, .unset, .unset, .unset, .unset, .unset, .unset, .unset, .unset]) rfl (pc' := 119) rfl ?_
    refine g_iload C at_119 (v := p3) rfl (pc' := 121) rfl ?_
    refine g_sipush C at_121 (v := (255 : Int32)) rfl (pc' := 124) rfl ?_
    refine g_iand C (x := p3) (y := (255 : Int32)) at_124  (pc' := 125) rfl ?_
    refine g_i2c C (x := (p3 &&& (255 : Int32))) at_125 (pc' := 126) rfl ?_
    rw [i2c_mask p3]
    obtain ⟨ca, eca⟩ : ∃ z : Int32, z = (p3 &&& (255 : Int32)) := ⟨_, rfl⟩
    have kca : Ch ca := by rw [eca]; exact own_chM p3
    rw [← eca]
    refine g_istore C at_126 (v := ca) (L' := #[.val (.long p0), .second, .val (.int p1), .val (.int p2), .val (.int p3), .val (.ref a_2), .val (.int (1 : Int32)), .val (.int (1 : Int32)), .val (.int dg), .val (.int pr), .val (.int ca), .unset, .unset, .unset, .unset, .unset, .unset, .unset, .unset, .unset, .unset, .unset, .unset]) rfl (pc' := 128) rfl ?_
    refine g_iload C at_128 (v := p3) rfl (pc' := 130) rfl ?_
    refine g_bipush C at_130 (v := (8 : Int32)) rfl (pc' := 132) rfl ?_
    refine g_iushr C (x := p3) (y := (8 : Int32)) at_132  (pc' := 133) rfl ?_
    refine g_sipush C at_133 (v := (255 : Int32)) rfl (pc' := 136) rfl ?_
    refine g_iand C (x := (Jvm.Free.XT.ushr p3 (8 : Int32))) (y := (255 : Int32)) at_136  (pc' := 137) rfl ?_
    refine g_i2c C (x := ((Jvm.Free.XT.ushr p3 (8 : Int32)) &&& (255 : Int32))) at_137 (pc' := 138) rfl ?_
    rw [i2c_mask (Jvm.Free.XT.ushr p3 (8 : Int32))]
    obtain ⟨cb, ecb⟩ : ∃ z : Int32, z = ((Jvm.Free.XT.ushr p3 (8 : Int32)) &&& (255 : Int32)) := ⟨_, rfl⟩
    have kcb : Ch cb := by rw [ecb]; exact own_chM (Jvm.Free.XT.ushr p3 (8 : Int32))
    rw [← ecb]
    refine g_istore C at_138 (v := cb) (L' := #[.val (.long p0), .second, .val (.int p1), .val (.int p2), .val (.int p3), .val (.ref a_2), .val (.int (1 : Int32)), .val (.int (1 : Int32)), .val (.int dg), .val (.int pr), .val (.int ca), .val (.int cb), .unset, .unset, .unset, .unset, .unset, .unset, .unset, .unset, .unset, .unset, .unset]) rfl (pc' := 140) rfl ?_
    refine g_iload C at_140 (v := (1 : Int32)) rfl (pc' := 142) rfl ?_
    refine g_if_n C at_142 (Jvm.Free.XT.i0_eq_f (by decide)) (pc' := 145) rfl ?_
    refine g_lload_n C at_145 (v := p0) rfl (pc' := 146) rfl ?_
    refine g_ldc2_w C (v := (4294967295 : Int64)) (own_w hw 11 rfl) at_146 (pc' := 149) rfl ?_
    refine g_land C (x := p0) (y := (4294967295 : Int64)) at_149  (pc' := 150) rfl ?_
    refine g_ldc2_w C (v := (2147483649 : Int64)) (own_w hw 12 rfl) at_150 (pc' := 153) rfl ?_
    refine g_lrem C (x := (p0 &&& (4294967295 : Int64))) (y := (2147483649 : Int64)) at_153 (by decide) (pc' := 154) rfl ?_
    obtain ⟨wv, ewv⟩ : ∃ z : Int64, z = ((p0 &&& (4294967295 : Int64)) - ((p0 &&& (4294967295 : Int64)) / (2147483649 : Int64)) * (2147483649 : Int64)) := ⟨_, rfl⟩
    rw [← ewv]
    obtain ⟨hw0, hw1⟩ := own_w1 p0 ewv
    refine g_goto C at_154 (pc' := 162) (by decide) (by decide) ?_
    refine g_lstore C at_162 (v := wv) (L' := #[.val (.long p0), .second, .val (.int p1), .val (.int p2), .val (.int p3), .val (.ref a_2), .val (.int (1 : Int32)), .val (.int (1 : Int32)), .val (.int dg), .val (.int pr), .val (.int ca), .val (.int cb), .val (.long wv), .second, .unset, .unset, .unset, .unset, .unset, .unset, .unset, .unset, .unset]) rfl (pc' := 164) rfl ?_
    refine g_lload C at_164 (v := wv) rfl (pc' := 166) rfl ?_
    refine g_aload C at_166 (v := (.ref a_2)) rfl rfl (pc' := 168) rfl ?_
    refine g_iload C at_168 (v := dg) rfl (pc' := 170) rfl ?_
    obtain ⟨pw, g1, g3, g4, g5, g6⟩ := own_powd hdg
    refine g_laload C f_50 g1 (i := dg.toNatClampNeg) rfl (v := pw) g3 at_170 (pc' := 171) rfl ?_
    refine g_lrem C (x := wv) (y := pw) at_171 g5 (pc' := 172) rfl ?_
    obtain ⟨mg, emg⟩ : ∃ z : Int64, z = (wv - (wv / pw) * pw) := ⟨_, rfl⟩
    rw [← emg]
    obtain ⟨m0, m1, m2⟩ := own_mag hw0 hw1 g4 emg
    have ra : Rg pr (1 : Int32) dg := ⟨hpr.1, by omega, by decide, by decide, hdg.1, hdg.2⟩
    have hvt : (-mg).toInt = -mg.toInt := by have e1 := c_lneg mg; have r1 := rng64 (-mg); omega
    refine g_lstore C at_172 (v := mg) (L' := #[.val (.long p0), .second, .val (.int p1), .val (.int p2), .val (.int p3), .val (.ref a_2), .val (.int (1 : Int32)), .val (.int (1 : Int32)), .val (.int dg), .val (.int pr), .val (.int ca), .val (.int cb), .val (.long wv), .second, .val (.long mg), .second, .unset, .unset, .unset, .unset, .unset, .unset, .unset]) rfl (pc' := 174) rfl ?_
    refine g_iload C at_174 (v := (1 : Int32)) rfl (pc' := 176) rfl ?_
    refine g_if_n C at_176 (Jvm.Free.XT.i0_eq_f (by decide)) (pc' := 179) rfl ?_
    refine g_lload C at_179 (v := mg) rfl (pc' := 181) rfl ?_
    refine g_lneg C (x := mg) at_181 (pc' := 182) rfl ?_
    refine g_goto C at_182 (pc' := 187) (by decide) (by decide) ?_
    refine g_lstore C at_187 (v := (-mg)) (L' := #[.val (.long p0), .second, .val (.int p1), .val (.int p2), .val (.int p3), .val (.ref a_2), .val (.int (1 : Int32)), .val (.int (1 : Int32)), .val (.int dg), .val (.int pr), .val (.int ca), .val (.int cb), .val (.long wv), .second, .val (.long mg), .second, .val (.long (-mg)), .second, .unset, .unset, .unset, .unset, .unset]) rfl (pc' := 189) rfl ?_
    refine g_ldc2_w C (v := (-2147483648 : Int64)) (own_w hw 13 rfl) at_189 (pc' := 192) rfl ?_
    refine g_lload C at_192 (v := (-mg)) rfl (pc' := 194) rfl ?_
    refine g_iload_n C at_194 (v := p1) rfl (pc' := 195) rfl ?_
    refine g_i2l C (x := p1) at_195 (pc' := 196) rfl ?_
    refine g_ldc2_w C (v := (2147483647 : Int64)) (own_w hw 14 rfl) at_196 (pc' := 199) rfl ?_
    refine g_land C (x := (Int32.toInt64 p1)) (y := (2147483647 : Int64)) at_199  (pc' := 200) rfl ?_
    refine g_lsub C (x := (-mg)) (y := ((Int32.toInt64 p1) &&& (2147483647 : Int64))) at_200  (pc' := 201) rfl ?_
    have f_253 := (Nat.le_trans (Nat.le_trans (Nat.le_trans (Nat.le_trans (Nat.le_trans (Nat.le_trans (Nat.le_trans (Nat.le_trans (Nat.le_trans (Nat.le_trans (Nat.le_trans (Nat.le_trans Z0 E_4.1) K_8.1) K_12.1) K_16.1) K_20.1) K_24.1) K_28.1) K_32.1) K_36.1) K_40.1) K_44.1) K_48.1)
    refine g_static C (own_w hw 15 rfl) (own_w hw 16 rfl) (own_w hw 17 rfl) (own_w hw 18 rfl) (by decide) (rm_max l Z a0 hw n0 (-2147483648 : Int64) ((-mg) - ((Int32.toInt64 p1) &&& (2147483647 : Int64))) h_47 f_253 ) (st := []) [(.long (-2147483648 : Int64)), (.long ((-mg) - ((Int32.toInt64 p1) &&& (2147483647 : Int64))))] rfl rfl own_pd_7_max rfl rfl (by decide) (W := 0) (Nat.le_of_eq rfl) (by decide) (by decide) (by decide) at_201 (pc' := 204) rfl ?_
    intro v_256 h_254 q_255
    obtain ⟨mx, rfl, mxo, mxl, rfl⟩ := q_255
    show Go B n0 _ h_47 1 11 204 #[.val (.long p0), .second, .val (.int p1), .val (.int p2), .val (.int p3), .val (.ref a_2), .val (.int (1 : Int32)), .val (.int (1 : Int32)), .val (.int dg), .val (.int pr), .val (.int ca), .val (.int cb), .val (.long wv), .second, .val (.long mg), .second, .val (.long (-mg)), .second, .unset, .unset, .unset, .unset, .unset] [(.long mx)]
    refine g_l2i C (x := mx) at_204 (pc' := 205) rfl ?_
    obtain ⟨mn, emn⟩ : ∃ z : Int32, z = (Int64.toInt32 mx) := ⟨_, rfl⟩
    rw [← emn]
    have hmn := own_min (vl := (-mg)) (by rw [hvt]; omega) (by rw [hvt]; omega) mxo mxl emn
    refine g_istore C at_205 (v := mn) (L' := #[.val (.long p0), .second, .val (.int p1), .val (.int p2), .val (.int p3), .val (.ref a_2), .val (.int (1 : Int32)), .val (.int (1 : Int32)), .val (.int dg), .val (.int pr), .val (.int ca), .val (.int cb), .val (.long wv), .second, .val (.long mg), .second, .val (.long (-mg)), .second, .val (.int mn), .unset, .unset, .unset, .unset]) rfl (pc' := 207) rfl ?_
    refine g_bipush C at_207 (v := (16 : Int32)) rfl (pc' := 209) rfl ?_
    refine g_newarray C (own_w hw 19 rfl) (ty := .char) rfl (by decide) (cap := 16) (by decide) (by decide) (by decide) (by decide) at_209 (pc' := 211) rfl ?_
    intro h_257 a_258 g_259 E_260 A_261
    have ne_262 : a_2 ≠ a_258 := ne_new f_50.lt g_259
    have ge_a_258 : n0 ≤ a_258 := Nat.le_trans f_253 (Nat.le_of_eq g_259.symm)
    have f_263 := (Nat.le_trans (Nat.le_trans (Nat.le_trans (Nat.le_trans (Nat.le_trans (Nat.le_trans (Nat.le_trans (Nat.le_trans (Nat.le_trans (Nat.le_trans (Nat.le_trans (Nat.le_trans (Nat.le_refl h0.size) E_4.1) K_8.1) K_12.1) K_16.1) K_20.1) K_24.1) K_28.1) K_32.1) K_36.1) K_40.1) K_44.1) K_48.1)
    have gs_a_258 : h0.size ≤ a_258 := Nat.le_trans f_263 (Nat.le_of_eq g_259.symm)
    have f_264 : Ary Z h_257 a_258 .char [(.int (0 : Int32)), (.int (0 : Int32)), (.int (0 : Int32)), (.int (0 : Int32)), (.int (0 : Int32)), (.int (0 : Int32)), (.int (0 : Int32)), (.int (0 : Int32)), (.int (0 : Int32)), (.int (0 : Int32)), (.int (0 : Int32)), (.int (0 : Int32)), (.int (0 : Int32)), (.int (0 : Int32)), (.int (0 : Int32)), (.int (0 : Int32))] := A_261
    show Go B n0 _ h_257 2 27 211 #[.val (.long p0), .second, .val (.int p1), .val (.int p2), .val (.int p3), .val (.ref a_2), .val (.int (1 : Int32)), .val (.int (1 : Int32)), .val (.int dg), .val (.int pr), .val (.int ca), .val (.int cb), .val (.long wv), .second, .val (.long mg), .second, .val (.long (-mg)), .second, .val (.int mn), .unset, .unset, .unset, .unset] [(.ref a_258)]
    refine g_astore C at_211 (v := (.ref a_258)) (L' := #[.val (.long p0), .second, .val (.int p1), .val (.int p2), .val (.int p3), .val (.ref a_2), .val (.int (1 : Int32)), .val (.int (1 : Int32)), .val (.int dg), .val (.int pr), .val (.int ca), .val (.int cb), .val (.long wv), .second, .val (.long mg), .second, .val (.long (-mg)), .second, .val (.int mn), .val (.ref a_258), .unset, .unset, .unset]) rfl rfl (pc' := 213) rfl ?_
    refine g_aload C at_213 (v := (.ref a_258)) rfl rfl (pc' := 215) rfl ?_
    refine g_iconst C at_215 (v := (0 : Int32)) rfl (pc' := 216) rfl ?_
    refine g_iconst C at_216 (v := (0 : Int32)) rfl (pc' := 217) rfl ?_
    refine g_iload C at_217 (v := pr) rfl (pc' := 219) rfl ?_
    refine g_iload C at_219 (v := (1 : Int32)) rfl (pc' := 221) rfl ?_
    refine g_iload C at_221 (v := dg) rfl (pc' := 223) rfl ?_
    refine g_lload C at_223 (v := mg) rfl (pc' := 225) rfl ?_
    refine g_iload C at_225 (v := ca) rfl (pc' := 227) rfl ?_
    refine g_iload C at_227 (v := cb) rfl (pc' := 229) rfl ?_
    refine g_aload C at_229 (v := (.ref a_2)) rfl rfl (pc' := 231) rfl ?_
    have f_265 := (f_50.ext E_260)
    have f_266 := (Nat.le_trans f_253 E_260.1)
    refine g_static C (own_w hw 20 rfl) (own_w hw 21 rfl) (own_w hw 22 rfl) (own_w hw 23 rfl) (by decide) (rm_at l Z a0 hw n0 (0 : Int32) pr (1 : Int32) dg mg ca cb a_2 h_257 f_266 f_265 ra (by decide) kca kcb m0) (st := [(.int (0 : Int32)), (.ref a_258)]) [(.int (0 : Int32)), (.int pr), (.int (1 : Int32)), (.int dg), (.long mg), (.int ca), (.int cb), (.ref a_2)] rfl rfl own_pd_4_at rfl rfl (by decide) (W := 2) (Nat.le_of_eq rfl) (by decide) (by decide) (by decide) at_231 (pc' := 234) rfl ?_
    intro v_269 h_267 q_268
    obtain ⟨q0, rfl, kq0, aq0, rfl⟩ := q_268
    show Go B n0 _ h_257 2 27 234 #[.val (.long p0), .second, .val (.int p1), .val (.int p2), .val (.int p3), .val (.ref a_2), .val (.int (1 : Int32)), .val (.int (1 : Int32)), .val (.int dg), .val (.int pr), .val (.int ca), .val (.int cb), .val (.long wv), .second, .val (.long mg), .second, .val (.long (-mg)), .second, .val (.int mn), .val (.ref a_258), .unset, .unset, .unset] [(.int q0), (.int (0 : Int32)), (.ref a_258)]
    refine g_castore C f_264 (by decide) (i := 0) (by decide) (show 0 < 16 by decide) (w := (.int q0)) (congrArg Value.int kq0.1) ge_a_258 at_234 (pc' := 235) rfl ?_
    intro h_270 K_271 A_272
    have f_273 : Ary Z h_270 a_258 .char [(.int q0), (.int (0 : Int32)), (.int (0 : Int32)), (.int (0 : Int32)), (.int (0 : Int32)), (.int (0 : Int32)), (.int (0 : Int32)), (.int (0 : Int32)), (.int (0 : Int32)), (.int (0 : Int32)), (.int (0 : Int32)), (.int (0 : Int32)), (.int (0 : Int32)), (.int (0 : Int32)), (.int (0 : Int32)), (.int (0 : Int32))] := A_272
    refine g_aload C at_235 (v := (.ref a_258)) rfl rfl (pc' := 237) rfl ?_
    refine g_iconst C at_237 (v := (1 : Int32)) rfl (pc' := 238) rfl ?_
    refine g_iconst C at_238 (v := (1 : Int32)) rfl (pc' := 239) rfl ?_
    refine g_iload C at_239 (v := pr) rfl (pc' := 241) rfl ?_
    refine g_iload C at_241 (v := (1 : Int32)) rfl (pc' := 243) rfl ?_
    refine g_iload C at_243 (v := dg) rfl (pc' := 245) rfl ?_
    refine g_lload C at_245 (v := mg) rfl (pc' := 247) rfl ?_
    refine g_iload C at_247 (v := ca) rfl (pc' := 249) rfl ?_
    refine g_iload C at_249 (v := cb) rfl (pc' := 251) rfl ?_
    refine g_aload C at_251 (v := (.ref a_2)) rfl rfl (pc' := 253) rfl ?_
    have f_274 := (f_265.keep K_271 (ninS ne_262 nin0))
    have f_275 := (Nat.le_trans f_266 K_271.1)
    refine g_static C (own_w hw 20 rfl) (own_w hw 21 rfl) (own_w hw 22 rfl) (own_w hw 23 rfl) (by decide) (rm_at l Z a0 hw n0 (1 : Int32) pr (1 : Int32) dg mg ca cb a_2 h_270 f_275 f_274 ra (by decide) kca kcb m0) (st := [(.int (1 : Int32)), (.ref a_258)]) [(.int (1 : Int32)), (.int pr), (.int (1 : Int32)), (.int dg), (.long mg), (.int ca), (.int cb), (.ref a_2)] rfl rfl own_pd_4_at rfl rfl (by decide) (W := 2) (Nat.le_of_eq rfl) (by decide) (by decide) (by decide) at_253 (pc' := 256) rfl ?_
    intro v_278 h_276 q_277
    obtain ⟨q1, rfl, kq1, aq1, rfl⟩ := q_277
    show Go B n0 _ h_270 2 27 256 #[.val (.long p0), .second, .val (.int p1), .val (.int p2), .val (.int p3), .val (.ref a_2), .val (.int (1 : Int32)), .val (.int (1 : Int32)), .val (.int dg), .val (.int pr), .val (.int ca), .val (.int cb), .val (.long wv), .second, .val (.long mg), .second, .val (.long (-mg)), .second, .val (.int mn), .val (.ref a_258), .unset, .unset, .unset] [(.int q1), (.int (1 : Int32)), (.ref a_258)]
    refine g_castore C f_273 (by decide) (i := 1) (by decide) (show 1 < 16 by decide) (w := (.int q1)) (congrArg Value.int kq1.1) ge_a_258 at_256 (pc' := 257) rfl ?_
    intro h_279 K_280 A_281
    have f_282 : Ary Z h_279 a_258 .char [(.int q0), (.int q1), (.int (0 : Int32)), (.int (0 : Int32)), (.int (0 : Int32)), (.int (0 : Int32)), (.int (0 : Int32)), (.int (0 : Int32)), (.int (0 : Int32)), (.int (0 : Int32)), (.int (0 : Int32)), (.int (0 : Int32)), (.int (0 : Int32)), (.int (0 : Int32)), (.int (0 : Int32)), (.int (0 : Int32))] := A_281
    refine g_aload C at_257 (v := (.ref a_258)) rfl rfl (pc' := 259) rfl ?_
    refine g_iconst C at_259 (v := (2 : Int32)) rfl (pc' := 260) rfl ?_
    refine g_iconst C at_260 (v := (2 : Int32)) rfl (pc' := 261) rfl ?_
    refine g_iload C at_261 (v := pr) rfl (pc' := 263) rfl ?_
    refine g_iload C at_263 (v := (1 : Int32)) rfl (pc' := 265) rfl ?_
    refine g_iload C at_265 (v := dg) rfl (pc' := 267) rfl ?_
    refine g_lload C at_267 (v := mg) rfl (pc' := 269) rfl ?_
    refine g_iload C at_269 (v := ca) rfl (pc' := 271) rfl ?_
    refine g_iload C at_271 (v := cb) rfl (pc' := 273) rfl ?_
    refine g_aload C at_273 (v := (.ref a_2)) rfl rfl (pc' := 275) rfl ?_
    have f_283 := (f_274.keep K_280 (ninS ne_262 nin0))
    have f_284 := (Nat.le_trans f_275 K_280.1)
    refine g_static C (own_w hw 20 rfl) (own_w hw 21 rfl) (own_w hw 22 rfl) (own_w hw 23 rfl) (by decide) (rm_at l Z a0 hw n0 (2 : Int32) pr (1 : Int32) dg mg ca cb a_2 h_279 f_284 f_283 ra (by decide) kca kcb m0) (st := [(.int (2 : Int32)), (.ref a_258)]) [(.int (2 : Int32)), (.int pr), (.int (1 : Int32)), (.int dg), (.long mg), (.int ca), (.int cb), (.ref a_2)] rfl rfl own_pd_4_at rfl rfl (by decide) (W := 2) (Nat.le_of_eq rfl) (by decide) (by decide) (by decide) at_275 (pc' := 278) rfl ?_
    intro v_287 h_285 q_286
    obtain ⟨q2, rfl, kq2, aq2, rfl⟩ := q_286
    show Go B n0 _ h_279 2 27 278 #[.val (.long p0), .second, .val (.int p1), .val (.int p2), .val (.int p3), .val (.ref a_2), .val (.int (1 : Int32)), .val (.int (1 : Int32)), .val (.int dg), .val (.int pr), .val (.int ca), .val (.int cb), .val (.long wv), .second, .val (.long mg), .second, .val (.long (-mg)), .second, .val (.int mn), .val (.ref a_258), .unset, .unset, .unset] [(.int q2), (.int (2 : Int32)), (.ref a_258)]
    refine g_castore C f_282 (by decide) (i := 2) (by decide) (show 2 < 16 by decide) (w := (.int q2)) (congrArg Value.int kq2.1) ge_a_258 at_278 (pc' := 279) rfl ?_
    intro h_288 K_289 A_290
    have f_291 : Ary Z h_288 a_258 .char [(.int q0), (.int q1), (.int q2), (.int (0 : Int32)), (.int (0 : Int32)), (.int (0 : Int32)), (.int (0 : Int32)), (.int (0 : Int32)), (.int (0 : Int32)), (.int (0 : Int32)), (.int (0 : Int32)), (.int (0 : Int32)), (.int (0 : Int32)), (.int (0 : Int32)), (.int (0 : Int32)), (.int (0 : Int32))] := A_290
    refine g_aload C at_279 (v := (.ref a_258)) rfl rfl (pc' := 281) rfl ?_
    refine g_iconst C at_281 (v := (3 : Int32)) rfl (pc' := 282) rfl ?_
    refine g_iconst C at_282 (v := (3 : Int32)) rfl (pc' := 283) rfl ?_
    refine g_iload C at_283 (v := pr) rfl (pc' := 285) rfl ?_
    refine g_iload C at_285 (v := (1 : Int32)) rfl (pc' := 287) rfl ?_
    refine g_iload C at_287 (v := dg) rfl (pc' := 289) rfl ?_
    refine g_lload C at_289 (v := mg) rfl (pc' := 291) rfl ?_
    refine g_iload C at_291 (v := ca) rfl (pc' := 293) rfl ?_
    refine g_iload C at_293 (v := cb) rfl (pc' := 295) rfl ?_
    refine g_aload C at_295 (v := (.ref a_2)) rfl rfl (pc' := 297) rfl ?_
    have f_292 := (f_283.keep K_289 (ninS ne_262 nin0))
    have f_293 := (Nat.le_trans f_284 K_289.1)
    refine g_static C (own_w hw 20 rfl) (own_w hw 21 rfl) (own_w hw 22 rfl) (own_w hw 23 rfl) (by decide) (rm_at l Z a0 hw n0 (3 : Int32) pr (1 : Int32) dg mg ca cb a_2 h_288 f_293 f_292 ra (by decide) kca kcb m0) (st := [(.int (3 : Int32)), (.ref a_258)]) [(.int (3 : Int32)), (.int pr), (.int (1 : Int32)), (.int dg), (.long mg), (.int ca), (.int cb), (.ref a_2)] rfl rfl own_pd_4_at rfl rfl (by decide) (W := 2) (Nat.le_of_eq rfl) (by decide) (by decide) (by decide) at_297 (pc' := 300) rfl ?_
    intro v_296 h_294 q_295
    obtain ⟨q3, rfl, kq3, aq3, rfl⟩ := q_295
    show Go B n0 _ h_288 2 27 300 #[.val (.long p0), .second, .val (.int p1), .val (.int p2), .val (.int p3), .val (.ref a_2), .val (.int (1 : Int32)), .val (.int (1 : Int32)), .val (.int dg), .val (.int pr), .val (.int ca), .val (.int cb), .val (.long wv), .second, .val (.long mg), .second, .val (.long (-mg)), .second, .val (.int mn), .val (.ref a_258), .unset, .unset, .unset] [(.int q3), (.int (3 : Int32)), (.ref a_258)]
    refine g_castore C f_291 (by decide) (i := 3) (by decide) (show 3 < 16 by decide) (w := (.int q3)) (congrArg Value.int kq3.1) ge_a_258 at_300 (pc' := 301) rfl ?_
    intro h_297 K_298 A_299
    have f_300 : Ary Z h_297 a_258 .char [(.int q0), (.int q1), (.int q2), (.int q3), (.int (0 : Int32)), (.int (0 : Int32)), (.int (0 : Int32)), (.int (0 : Int32)), (.int (0 : Int32)), (.int (0 : Int32)), (.int (0 : Int32)), (.int (0 : Int32)), (.int (0 : Int32)), (.int (0 : Int32)), (.int (0 : Int32)), (.int (0 : Int32))] := A_299
    refine g_aload C at_301 (v := (.ref a_258)) rfl rfl (pc' := 303) rfl ?_
    refine g_iconst C at_303 (v := (4 : Int32)) rfl (pc' := 304) rfl ?_
    refine g_iconst C at_304 (v := (4 : Int32)) rfl (pc' := 305) rfl ?_
    refine g_iload C at_305 (v := pr) rfl (pc' := 307) rfl ?_
    refine g_iload C at_307 (v := (1 : Int32)) rfl (pc' := 309) rfl ?_
    refine g_iload C at_309 (v := dg) rfl (pc' := 311) rfl ?_
    refine g_lload C at_311 (v := mg) rfl (pc' := 313) rfl ?_
    refine g_iload C at_313 (v := ca) rfl (pc' := 315) rfl ?_
    refine g_iload C at_315 (v := cb) rfl (pc' := 317) rfl ?_
    refine g_aload C at_317 (v := (.ref a_2)) rfl rfl (pc' := 319) rfl ?_
    have f_301 := (f_292.keep K_298 (ninS ne_262 nin0))
    have f_302 := (Nat.le_trans f_293 K_298.1)
    refine g_static C (own_w hw 20 rfl) (own_w hw 21 rfl) (own_w hw 22 rfl) (own_w hw 23 rfl) (by decide) (rm_at l Z a0 hw n0 (4 : Int32) pr (1 : Int32) dg mg ca cb a_2 h_297 f_302 f_301 ra (by decide) kca kcb m0) (st := [(.int (4 : Int32)), (.ref a_258)]) [(.int (4 : Int32)), (.int pr), (.int (1 : Int32)), (.int dg), (.long mg), (.int ca), (.int cb), (.ref a_2)] rfl rfl own_pd_4_at rfl rfl (by decide) (W := 2) (Nat.le_of_eq rfl) (by decide) (by decide) (by decide) at_319 (pc' := 322) rfl ?_
    intro v_305 h_303 q_304
    obtain ⟨q4, rfl, kq4, aq4, rfl⟩ := q_304
    show Go B n0 _ h_297 2 27 322 #[.val (.long p0), .second, .val (.int p1), .val (.int p2), .val (.int p3), .val (.ref a_2), .val (.int (1 : Int32)), .val (.int (1 : Int32)), .val (.int dg), .val (.int pr), .val (.int ca), .val (.int cb), .val (.long wv), .second, .val (.long mg), .second, .val (.long (-mg)), .second, .val (.int mn), .val (.ref a_258), .unset, .unset, .unset] [(.int q4), (.int (4 : Int32)), (.ref a_258)]
    refine g_castore C f_300 (by decide) (i := 4) (by decide) (show 4 < 16 by decide) (w := (.int q4)) (congrArg Value.int kq4.1) ge_a_258 at_322 (pc' := 323) rfl ?_
    intro h_306 K_307 A_308
    have f_309 : Ary Z h_306 a_258 .char [(.int q0), (.int q1), (.int q2), (.int q3), (.int q4), (.int (0 : Int32)), (.int (0 : Int32)), (.int (0 : Int32)), (.int (0 : Int32)), (.int (0 : Int32)), (.int (0 : Int32)), (.int (0 : Int32)), (.int (0 : Int32)), (.int (0 : Int32)), (.int (0 : Int32)), (.int (0 : Int32))] := A_308
    refine g_aload C at_323 (v := (.ref a_258)) rfl rfl (pc' := 325) rfl ?_
    refine g_iconst C at_325 (v := (5 : Int32)) rfl (pc' := 326) rfl ?_
    refine g_iconst C at_326 (v := (5 : Int32)) rfl (pc' := 327) rfl ?_
    refine g_iload C at_327 (v := pr) rfl (pc' := 329) rfl ?_
    refine g_iload C at_329 (v := (1 : Int32)) rfl (pc' := 331) rfl ?_
    refine g_iload C at_331 (v := dg) rfl (pc' := 333) rfl ?_
    refine g_lload C at_333 (v := mg) rfl (pc' := 335) rfl ?_
    refine g_iload C at_335 (v := ca) rfl (pc' := 337) rfl ?_
    refine g_iload C at_337 (v := cb) rfl (pc' := 339) rfl ?_
    refine g_aload C at_339 (v := (.ref a_2)) rfl rfl (pc' := 341) rfl ?_
    have f_310 := (f_301.keep K_307 (ninS ne_262 nin0))
    have f_311 := (Nat.le_trans f_302 K_307.1)
    refine g_static C (own_w hw 20 rfl) (own_w hw 21 rfl) (own_w hw 22 rfl) (own_w hw 23 rfl) (by decide) (rm_at l Z a0 hw n0 (5 : Int32) pr (1 : Int32) dg mg ca cb a_2 h_306 f_311 f_310 ra (by decide) kca kcb m0) (st := [(.int (5 : Int32)), (.ref a_258)]) [(.int (5 : Int32)), (.int pr), (.int (1 : Int32)), (.int dg), (.long mg), (.int ca), (.int cb), (.ref a_2)] rfl rfl own_pd_4_at rfl rfl (by decide) (W := 2) (Nat.le_of_eq rfl) (by decide) (by decide) (by decide) at_341 (pc' := 344) rfl ?_
    intro v_314 h_312 q_313
    obtain ⟨q5, rfl, kq5, aq5, rfl⟩ := q_313
    show Go B n0 _ h_306 2 27 344 #[.val (.long p0), .second, .val (.int p1), .val (.int p2), .val (.int p3), .val (.ref a_2), .val (.int (1 : Int32)), .val (.int (1 : Int32)), .val (.int dg), .val (.int pr), .val (.int ca), .val (.int cb), .val (.long wv), .second, .val (.long mg), .second, .val (.long (-mg)), .second, .val (.int mn), .val (.ref a_258), .unset, .unset, .unset] [(.int q5), (.int (5 : Int32)), (.ref a_258)]
    refine g_castore C f_309 (by decide) (i := 5) (by decide) (show 5 < 16 by decide) (w := (.int q5)) (congrArg Value.int kq5.1) ge_a_258 at_344 (pc' := 345) rfl ?_
    intro h_315 K_316 A_317
    have f_318 : Ary Z h_315 a_258 .char [(.int q0), (.int q1), (.int q2), (.int q3), (.int q4), (.int q5), (.int (0 : Int32)), (.int (0 : Int32)), (.int (0 : Int32)), (.int (0 : Int32)), (.int (0 : Int32)), (.int (0 : Int32)), (.int (0 : Int32)), (.int (0 : Int32)), (.int (0 : Int32)), (.int (0 : Int32))] := A_317
    refine g_aload C at_345 (v := (.ref a_258)) rfl rfl (pc' := 347) rfl ?_
    refine g_bipush C at_347 (v := (6 : Int32)) rfl (pc' := 349) rfl ?_
    refine g_bipush C at_349 (v := (6 : Int32)) rfl (pc' := 351) rfl ?_
    refine g_iload C at_351 (v := pr) rfl (pc' := 353) rfl ?_
    refine g_iload C at_353 (v := (1 : Int32)) rfl (pc' := 355) rfl ?_
    refine g_iload C at_355 (v := dg) rfl (pc' := 357) rfl ?_
    refine g_lload C at_357 (v := mg) rfl (pc' := 359) rfl ?_
    refine g_iload C at_359 (v := ca) rfl (pc' := 361) rfl ?_
    refine g_iload C at_361 (v := cb) rfl (pc' := 363) rfl ?_
    refine g_aload C at_363 (v := (.ref a_2)) rfl rfl (pc' := 365) rfl ?_
    have f_319 := (f_310.keep K_316 (ninS ne_262 nin0))
    have f_320 := (Nat.le_trans f_311 K_316.1)
    refine g_static C (own_w hw 20 rfl) (own_w hw 21 rfl) (own_w hw 22 rfl) (own_w hw 23 rfl) (by decide) (rm_at l Z a0 hw n0 (6 : Int32) pr (1 : Int32) dg mg ca cb a_2 h_315 f_320 f_319 ra (by decide) kca kcb m0) (st := [(.int (6 : Int32)), (.ref a_258)]) [(.int (6 : Int32)), (.int pr), (.int (1 : Int32)), (.int dg), (.long mg), (.int ca), (.int cb), (.ref a_2)] rfl rfl own_pd_4_at rfl rfl (by decide) (W := 2) (Nat.le_of_eq rfl) (by decide) (by decide) (by decide) at_365 (pc' := 368) rfl ?_
    intro v_323 h_321 q_322
    obtain ⟨q6, rfl, kq6, aq6, rfl⟩ := q_322
    show Go B n0 _ h_315 2 27 368 #[.val (.long p0), .second, .val (.int p1), .val (.int p2), .val (.int p3), .val (.ref a_2), .val (.int (1 : Int32)), .val (.int (1 : Int32)), .val (.int dg), .val (.int pr), .val (.int ca), .val (.int cb), .val (.long wv), .second, .val (.long mg), .second, .val (.long (-mg)), .second, .val (.int mn), .val (.ref a_258), .unset, .unset, .unset] [(.int q6), (.int (6 : Int32)), (.ref a_258)]
    refine g_castore C f_318 (by decide) (i := 6) (by decide) (show 6 < 16 by decide) (w := (.int q6)) (congrArg Value.int kq6.1) ge_a_258 at_368 (pc' := 369) rfl ?_
    intro h_324 K_325 A_326
    have f_327 : Ary Z h_324 a_258 .char [(.int q0), (.int q1), (.int q2), (.int q3), (.int q4), (.int q5), (.int q6), (.int (0 : Int32)), (.int (0 : Int32)), (.int (0 : Int32)), (.int (0 : Int32)), (.int (0 : Int32)), (.int (0 : Int32)), (.int (0 : Int32)), (.int (0 : Int32)), (.int (0 : Int32))] := A_326
    refine g_aload C at_369 (v := (.ref a_258)) rfl rfl (pc' := 371) rfl ?_
    refine g_bipush C at_371 (v := (7 : Int32)) rfl (pc' := 373) rfl ?_
    refine g_bipush C at_373 (v := (7 : Int32)) rfl (pc' := 375) rfl ?_
    refine g_iload C at_375 (v := pr) rfl (pc' := 377) rfl ?_
    refine g_iload C at_377 (v := (1 : Int32)) rfl (pc' := 379) rfl ?_
    refine g_iload C at_379 (v := dg) rfl (pc' := 381) rfl ?_
    refine g_lload C at_381 (v := mg) rfl (pc' := 383) rfl ?_
    refine g_iload C at_383 (v := ca) rfl (pc' := 385) rfl ?_
    refine g_iload C at_385 (v := cb) rfl (pc' := 387) rfl ?_
    refine g_aload C at_387 (v := (.ref a_2)) rfl rfl (pc' := 389) rfl ?_
    have f_328 := (f_319.keep K_325 (ninS ne_262 nin0))
    have f_329 := (Nat.le_trans f_320 K_325.1)
    refine g_static C (own_w hw 20 rfl) (own_w hw 21 rfl) (own_w hw 22 rfl) (own_w hw 23 rfl) (by decide) (rm_at l Z a0 hw n0 (7 : Int32) pr (1 : Int32) dg mg ca cb a_2 h_324 f_329 f_328 ra (by decide) kca kcb m0) (st := [(.int (7 : Int32)), (.ref a_258)]) [(.int (7 : Int32)), (.int pr), (.int (1 : Int32)), (.int dg), (.long mg), (.int ca), (.int cb), (.ref a_2)] rfl rfl own_pd_4_at rfl rfl (by decide) (W := 2) (Nat.le_of_eq rfl) (by decide) (by decide) (by decide) at_389 (pc' := 392) rfl ?_
    intro v_332 h_330 q_331
    obtain ⟨q7, rfl, kq7, aq7, rfl⟩ := q_331
    show Go B n0 _ h_324 2 27 392 #[.val (.long p0), .second, .val (.int p1), .val (.int p2), .val (.int p3), .val (.ref a_2), .val (.int (1 : Int32)), .val (.int (1 : Int32)), .val (.int dg), .val (.int pr), .val (.int ca), .val (.int cb), .val (.long wv), .second, .val (.long mg), .second, .val (.long (-mg)), .second, .val (.int mn), .val (.ref a_258), .unset, .unset, .unset] [(.int q7), (.int (7 : Int32)), (.ref a_258)]
    refine g_castore C f_327 (by decide) (i := 7) (by decide) (show 7 < 16 by decide) (w := (.int q7)) (congrArg Value.int kq7.1) ge_a_258 at_392 (pc' := 393) rfl ?_
    intro h_333 K_334 A_335
    have f_336 : Ary Z h_333 a_258 .char [(.int q0), (.int q1), (.int q2), (.int q3), (.int q4), (.int q5), (.int q6), (.int q7), (.int (0 : Int32)), (.int (0 : Int32)), (.int (0 : Int32)), (.int (0 : Int32)), (.int (0 : Int32)), (.int (0 : Int32)), (.int (0 : Int32)), (.int (0 : Int32))] := A_335
    refine g_aload C at_393 (v := (.ref a_258)) rfl rfl (pc' := 395) rfl ?_
    refine g_bipush C at_395 (v := (8 : Int32)) rfl (pc' := 397) rfl ?_
    refine g_bipush C at_397 (v := (8 : Int32)) rfl (pc' := 399) rfl ?_
    refine g_iload C at_399 (v := pr) rfl (pc' := 401) rfl ?_
    refine g_iload C at_401 (v := (1 : Int32)) rfl (pc' := 403) rfl ?_
    refine g_iload C at_403 (v := dg) rfl (pc' := 405) rfl ?_
    refine g_lload C at_405 (v := mg) rfl (pc' := 407) rfl ?_
    refine g_iload C at_407 (v := ca) rfl (pc' := 409) rfl ?_
    refine g_iload C at_409 (v := cb) rfl (pc' := 411) rfl ?_
    refine g_aload C at_411 (v := (.ref a_2)) rfl rfl (pc' := 413) rfl ?_
    have f_337 := (f_328.keep K_334 (ninS ne_262 nin0))
    have f_338 := (Nat.le_trans f_329 K_334.1)
    refine g_static C (own_w hw 20 rfl) (own_w hw 21 rfl) (own_w hw 22 rfl) (own_w hw 23 rfl) (by decide) (rm_at l Z a0 hw n0 (8 : Int32) pr (1 : Int32) dg mg ca cb a_2 h_333 f_338 f_337 ra (by decide) kca kcb m0) (st := [(.int (8 : Int32)), (.ref a_258)]) [(.int (8 : Int32)), (.int pr), (.int (1 : Int32)), (.int dg), (.long mg), (.int ca), (.int cb), (.ref a_2)] rfl rfl own_pd_4_at rfl rfl (by decide) (W := 2) (Nat.le_of_eq rfl) (by decide) (by decide) (by decide) at_413 (pc' := 416) rfl ?_
    intro v_341 h_339 q_340
    obtain ⟨q8, rfl, kq8, aq8, rfl⟩ := q_340
    show Go B n0 _ h_333 2 27 416 #[.val (.long p0), .second, .val (.int p1), .val (.int p2), .val (.int p3), .val (.ref a_2), .val (.int (1 : Int32)), .val (.int (1 : Int32)), .val (.int dg), .val (.int pr), .val (.int ca), .val (.int cb), .val (.long wv), .second, .val (.long mg), .second, .val (.long (-mg)), .second, .val (.int mn), .val (.ref a_258), .unset, .unset, .unset] [(.int q8), (.int (8 : Int32)), (.ref a_258)]
    refine g_castore C f_336 (by decide) (i := 8) (by decide) (show 8 < 16 by decide) (w := (.int q8)) (congrArg Value.int kq8.1) ge_a_258 at_416 (pc' := 417) rfl ?_
    intro h_342 K_343 A_344
    have f_345 : Ary Z h_342 a_258 .char [(.int q0), (.int q1), (.int q2), (.int q3), (.int q4), (.int q5), (.int q6), (.int q7), (.int q8), (.int (0 : Int32)), (.int (0 : Int32)), (.int (0 : Int32)), (.int (0 : Int32)), (.int (0 : Int32)), (.int (0 : Int32)), (.int (0 : Int32))] := A_344
    refine g_aload C at_417 (v := (.ref a_258)) rfl rfl (pc' := 419) rfl ?_
    refine g_bipush C at_419 (v := (9 : Int32)) rfl (pc' := 421) rfl ?_
    refine g_bipush C at_421 (v := (9 : Int32)) rfl (pc' := 423) rfl ?_
    refine g_iload C at_423 (v := pr) rfl (pc' := 425) rfl ?_
    refine g_iload C at_425 (v := (1 : Int32)) rfl (pc' := 427) rfl ?_
    refine g_iload C at_427 (v := dg) rfl (pc' := 429) rfl ?_
    refine g_lload C at_429 (v := mg) rfl (pc' := 431) rfl ?_
    refine g_iload C at_431 (v := ca) rfl (pc' := 433) rfl ?_
    refine g_iload C at_433 (v := cb) rfl (pc' := 435) rfl ?_
    refine g_aload C at_435 (v := (.ref a_2)) rfl rfl (pc' := 437) rfl ?_
    have f_346 := (f_337.keep K_343 (ninS ne_262 nin0))
    have f_347 := (Nat.le_trans f_338 K_343.1)
    refine g_static C (own_w hw 20 rfl) (own_w hw 21 rfl) (own_w hw 22 rfl) (own_w hw 23 rfl) (by decide) (rm_at l Z a0 hw n0 (9 : Int32) pr (1 : Int32) dg mg ca cb a_2 h_342 f_347 f_346 ra (by decide) kca kcb m0) (st := [(.int (9 : Int32)), (.ref a_258)]) [(.int (9 : Int32)), (.int pr), (.int (1 : Int32)), (.int dg), (.long mg), (.int ca), (.int cb), (.ref a_2)] rfl rfl own_pd_4_at rfl rfl (by decide) (W := 2) (Nat.le_of_eq rfl) (by decide) (by decide) (by decide) at_437 (pc' := 440) rfl ?_
    intro v_350 h_348 q_349
    obtain ⟨q9, rfl, kq9, aq9, rfl⟩ := q_349
    show Go B n0 _ h_342 2 27 440 #[.val (.long p0), .second, .val (.int p1), .val (.int p2), .val (.int p3), .val (.ref a_2), .val (.int (1 : Int32)), .val (.int (1 : Int32)), .val (.int dg), .val (.int pr), .val (.int ca), .val (.int cb), .val (.long wv), .second, .val (.long mg), .second, .val (.long (-mg)), .second, .val (.int mn), .val (.ref a_258), .unset, .unset, .unset] [(.int q9), (.int (9 : Int32)), (.ref a_258)]
    refine g_castore C f_345 (by decide) (i := 9) (by decide) (show 9 < 16 by decide) (w := (.int q9)) (congrArg Value.int kq9.1) ge_a_258 at_440 (pc' := 441) rfl ?_
    intro h_351 K_352 A_353
    have f_354 : Ary Z h_351 a_258 .char [(.int q0), (.int q1), (.int q2), (.int q3), (.int q4), (.int q5), (.int q6), (.int q7), (.int q8), (.int q9), (.int (0 : Int32)), (.int (0 : Int32)), (.int (0 : Int32)), (.int (0 : Int32)), (.int (0 : Int32)), (.int (0 : Int32))] := A_353
    refine g_aload C at_441 (v := (.ref a_258)) rfl rfl (pc' := 443) rfl ?_
    refine g_bipush C at_443 (v := (10 : Int32)) rfl (pc' := 445) rfl ?_
    refine g_bipush C at_445 (v := (10 : Int32)) rfl (pc' := 447) rfl ?_
    refine g_iload C at_447 (v := pr) rfl (pc' := 449) rfl ?_
    refine g_iload C at_449 (v := (1 : Int32)) rfl (pc' := 451) rfl ?_
    refine g_iload C at_451 (v := dg) rfl (pc' := 453) rfl ?_
    refine g_lload C at_453 (v := mg) rfl (pc' := 455) rfl ?_
    refine g_iload C at_455 (v := ca) rfl (pc' := 457) rfl ?_
    refine g_iload C at_457 (v := cb) rfl (pc' := 459) rfl ?_
    refine g_aload C at_459 (v := (.ref a_2)) rfl rfl (pc' := 461) rfl ?_
    have f_355 := (f_346.keep K_352 (ninS ne_262 nin0))
    have f_356 := (Nat.le_trans f_347 K_352.1)
    refine g_static C (own_w hw 20 rfl) (own_w hw 21 rfl) (own_w hw 22 rfl) (own_w hw 23 rfl) (by decide) (rm_at l Z a0 hw n0 (10 : Int32) pr (1 : Int32) dg mg ca cb a_2 h_351 f_356 f_355 ra (by decide) kca kcb m0) (st := [(.int (10 : Int32)), (.ref a_258)]) [(.int (10 : Int32)), (.int pr), (.int (1 : Int32)), (.int dg), (.long mg), (.int ca), (.int cb), (.ref a_2)] rfl rfl own_pd_4_at rfl rfl (by decide) (W := 2) (Nat.le_of_eq rfl) (by decide) (by decide) (by decide) at_461 (pc' := 464) rfl ?_
    intro v_359 h_357 q_358
    obtain ⟨q10, rfl, kq10, aq10, rfl⟩ := q_358
    show Go B n0 _ h_351 2 27 464 #[.val (.long p0), .second, .val (.int p1), .val (.int p2), .val (.int p3), .val (.ref a_2), .val (.int (1 : Int32)), .val (.int (1 : Int32)), .val (.int dg), .val (.int pr), .val (.int ca), .val (.int cb), .val (.long wv), .second, .val (.long mg), .second, .val (.long (-mg)), .second, .val (.int mn), .val (.ref a_258), .unset, .unset, .unset] [(.int q10), (.int (10 : Int32)), (.ref a_258)]
    refine g_castore C f_354 (by decide) (i := 10) (by decide) (show 10 < 16 by decide) (w := (.int q10)) (congrArg Value.int kq10.1) ge_a_258 at_464 (pc' := 465) rfl ?_
    intro h_360 K_361 A_362
    have f_363 : Ary Z h_360 a_258 .char [(.int q0), (.int q1), (.int q2), (.int q3), (.int q4), (.int q5), (.int q6), (.int q7), (.int q8), (.int q9), (.int q10), (.int (0 : Int32)), (.int (0 : Int32)), (.int (0 : Int32)), (.int (0 : Int32)), (.int (0 : Int32))] := A_362
    refine g_aload C at_465 (v := (.ref a_258)) rfl rfl (pc' := 467) rfl ?_
    refine g_bipush C at_467 (v := (11 : Int32)) rfl (pc' := 469) rfl ?_
    refine g_bipush C at_469 (v := (11 : Int32)) rfl (pc' := 471) rfl ?_
    refine g_iload C at_471 (v := pr) rfl (pc' := 473) rfl ?_
    refine g_iload C at_473 (v := (1 : Int32)) rfl (pc' := 475) rfl ?_
    refine g_iload C at_475 (v := dg) rfl (pc' := 477) rfl ?_
    refine g_lload C at_477 (v := mg) rfl (pc' := 479) rfl ?_
    refine g_iload C at_479 (v := ca) rfl (pc' := 481) rfl ?_
    refine g_iload C at_481 (v := cb) rfl (pc' := 483) rfl ?_
    refine g_aload C at_483 (v := (.ref a_2)) rfl rfl (pc' := 485) rfl ?_
    have f_364 := (f_355.keep K_361 (ninS ne_262 nin0))
    have f_365 := (Nat.le_trans f_356 K_361.1)
    refine g_static C (own_w hw 20 rfl) (own_w hw 21 rfl) (own_w hw 22 rfl) (own_w hw 23 rfl) (by decide) (rm_at l Z a0 hw n0 (11 : Int32) pr (1 : Int32) dg mg ca cb a_2 h_360 f_365 f_364 ra (by decide) kca kcb m0) (st := [(.int (11 : Int32)), (.ref a_258)]) [(.int (11 : Int32)), (.int pr), (.int (1 : Int32)), (.int dg), (.long mg), (.int ca), (.int cb), (.ref a_2)] rfl rfl own_pd_4_at rfl rfl (by decide) (W := 2) (Nat.le_of_eq rfl) (by decide) (by decide) (by decide) at_485 (pc' := 488) rfl ?_
    intro v_368 h_366 q_367
    obtain ⟨q11, rfl, kq11, aq11, rfl⟩ := q_367
    show Go B n0 _ h_360 2 27 488 #[.val (.long p0), .second, .val (.int p1), .val (.int p2), .val (.int p3), .val (.ref a_2), .val (.int (1 : Int32)), .val (.int (1 : Int32)), .val (.int dg), .val (.int pr), .val (.int ca), .val (.int cb), .val (.long wv), .second, .val (.long mg), .second, .val (.long (-mg)), .second, .val (.int mn), .val (.ref a_258), .unset, .unset, .unset] [(.int q11), (.int (11 : Int32)), (.ref a_258)]
    refine g_castore C f_363 (by decide) (i := 11) (by decide) (show 11 < 16 by decide) (w := (.int q11)) (congrArg Value.int kq11.1) ge_a_258 at_488 (pc' := 489) rfl ?_
    intro h_369 K_370 A_371
    have f_372 : Ary Z h_369 a_258 .char [(.int q0), (.int q1), (.int q2), (.int q3), (.int q4), (.int q5), (.int q6), (.int q7), (.int q8), (.int q9), (.int q10), (.int q11), (.int (0 : Int32)), (.int (0 : Int32)), (.int (0 : Int32)), (.int (0 : Int32))] := A_371
    refine g_aload C at_489 (v := (.ref a_258)) rfl rfl (pc' := 491) rfl ?_
    refine g_bipush C at_491 (v := (12 : Int32)) rfl (pc' := 493) rfl ?_
    refine g_bipush C at_493 (v := (12 : Int32)) rfl (pc' := 495) rfl ?_
    refine g_iload C at_495 (v := pr) rfl (pc' := 497) rfl ?_
    refine g_iload C at_497 (v := (1 : Int32)) rfl (pc' := 499) rfl ?_
    refine g_iload C at_499 (v := dg) rfl (pc' := 501) rfl ?_
    refine g_lload C at_501 (v := mg) rfl (pc' := 503) rfl ?_
    refine g_iload C at_503 (v := ca) rfl (pc' := 505) rfl ?_
    refine g_iload C at_505 (v := cb) rfl (pc' := 507) rfl ?_
    refine g_aload C at_507 (v := (.ref a_2)) rfl rfl (pc' := 509) rfl ?_
    have f_373 := (f_364.keep K_370 (ninS ne_262 nin0))
    have f_374 := (Nat.le_trans f_365 K_370.1)
    refine g_static C (own_w hw 20 rfl) (own_w hw 21 rfl) (own_w hw 22 rfl) (own_w hw 23 rfl) (by decide) (rm_at l Z a0 hw n0 (12 : Int32) pr (1 : Int32) dg mg ca cb a_2 h_369 f_374 f_373 ra (by decide) kca kcb m0) (st := [(.int (12 : Int32)), (.ref a_258)]) [(.int (12 : Int32)), (.int pr), (.int (1 : Int32)), (.int dg), (.long mg), (.int ca), (.int cb), (.ref a_2)] rfl rfl own_pd_4_at rfl rfl (by decide) (W := 2) (Nat.le_of_eq rfl) (by decide) (by decide) (by decide) at_509 (pc' := 512) rfl ?_
    intro v_377 h_375 q_376
    obtain ⟨q12, rfl, kq12, aq12, rfl⟩ := q_376
    show Go B n0 _ h_369 2 27 512 #[.val (.long p0), .second, .val (.int p1), .val (.int p2), .val (.int p3), .val (.ref a_2), .val (.int (1 : Int32)), .val (.int (1 : Int32)), .val (.int dg), .val (.int pr), .val (.int ca), .val (.int cb), .val (.long wv), .second, .val (.long mg), .second, .val (.long (-mg)), .second, .val (.int mn), .val (.ref a_258), .unset, .unset, .unset] [(.int q12), (.int (12 : Int32)), (.ref a_258)]
    refine g_castore C f_372 (by decide) (i := 12) (by decide) (show 12 < 16 by decide) (w := (.int q12)) (congrArg Value.int kq12.1) ge_a_258 at_512 (pc' := 513) rfl ?_
    intro h_378 K_379 A_380
    have f_381 : Ary Z h_378 a_258 .char [(.int q0), (.int q1), (.int q2), (.int q3), (.int q4), (.int q5), (.int q6), (.int q7), (.int q8), (.int q9), (.int q10), (.int q11), (.int q12), (.int (0 : Int32)), (.int (0 : Int32)), (.int (0 : Int32))] := A_380
    refine g_aload C at_513 (v := (.ref a_258)) rfl rfl (pc' := 515) rfl ?_
    refine g_bipush C at_515 (v := (13 : Int32)) rfl (pc' := 517) rfl ?_
    refine g_bipush C at_517 (v := (13 : Int32)) rfl (pc' := 519) rfl ?_
    refine g_iload C at_519 (v := pr) rfl (pc' := 521) rfl ?_
    refine g_iload C at_521 (v := (1 : Int32)) rfl (pc' := 523) rfl ?_
    refine g_iload C at_523 (v := dg) rfl (pc' := 525) rfl ?_
    refine g_lload C at_525 (v := mg) rfl (pc' := 527) rfl ?_
    refine g_iload C at_527 (v := ca) rfl (pc' := 529) rfl ?_
    refine g_iload C at_529 (v := cb) rfl (pc' := 531) rfl ?_
    refine g_aload C at_531 (v := (.ref a_2)) rfl rfl (pc' := 533) rfl ?_
    have f_382 := (f_373.keep K_379 (ninS ne_262 nin0))
    have f_383 := (Nat.le_trans f_374 K_379.1)
    refine g_static C (own_w hw 20 rfl) (own_w hw 21 rfl) (own_w hw 22 rfl) (own_w hw 23 rfl) (by decide) (rm_at l Z a0 hw n0 (13 : Int32) pr (1 : Int32) dg mg ca cb a_2 h_378 f_383 f_382 ra (by decide) kca kcb m0) (st := [(.int (13 : Int32)), (.ref a_258)]) [(.int (13 : Int32)), (.int pr), (.int (1 : Int32)), (.int dg), (.long mg), (.int ca), (.int cb), (.ref a_2)] rfl rfl own_pd_4_at rfl rfl (by decide) (W := 2) (Nat.le_of_eq rfl) (by decide) (by decide) (by decide) at_533 (pc' := 536) rfl ?_
    intro v_386 h_384 q_385
    obtain ⟨q13, rfl, kq13, aq13, rfl⟩ := q_385
    show Go B n0 _ h_378 2 27 536 #[.val (.long p0), .second, .val (.int p1), .val (.int p2), .val (.int p3), .val (.ref a_2), .val (.int (1 : Int32)), .val (.int (1 : Int32)), .val (.int dg), .val (.int pr), .val (.int ca), .val (.int cb), .val (.long wv), .second, .val (.long mg), .second, .val (.long (-mg)), .second, .val (.int mn), .val (.ref a_258), .unset, .unset, .unset] [(.int q13), (.int (13 : Int32)), (.ref a_258)]
    refine g_castore C f_381 (by decide) (i := 13) (by decide) (show 13 < 16 by decide) (w := (.int q13)) (congrArg Value.int kq13.1) ge_a_258 at_536 (pc' := 537) rfl ?_
    intro h_387 K_388 A_389
    have f_390 : Ary Z h_387 a_258 .char [(.int q0), (.int q1), (.int q2), (.int q3), (.int q4), (.int q5), (.int q6), (.int q7), (.int q8), (.int q9), (.int q10), (.int q11), (.int q12), (.int q13), (.int (0 : Int32)), (.int (0 : Int32))] := A_389
    refine g_aload C at_537 (v := (.ref a_258)) rfl rfl (pc' := 539) rfl ?_
    refine g_bipush C at_539 (v := (14 : Int32)) rfl (pc' := 541) rfl ?_
    refine g_bipush C at_541 (v := (14 : Int32)) rfl (pc' := 543) rfl ?_
    refine g_iload C at_543 (v := pr) rfl (pc' := 545) rfl ?_
    refine g_iload C at_545 (v := (1 : Int32)) rfl (pc' := 547) rfl ?_
    refine g_iload C at_547 (v := dg) rfl (pc' := 549) rfl ?_
    refine g_lload C at_549 (v := mg) rfl (pc' := 551) rfl ?_
    refine g_iload C at_551 (v := ca) rfl (pc' := 553) rfl ?_
    refine g_iload C at_553 (v := cb) rfl (pc' := 555) rfl ?_
    refine g_aload C at_555 (v := (.ref a_2)) rfl rfl (pc' := 557) rfl ?_
    have f_391 := (f_382.keep K_388 (ninS ne_262 nin0))
    have f_392 := (Nat.le_trans f_383 K_388.1)
    refine g_static C (own_w hw 20 rfl) (own_w hw 21 rfl) (own_w hw 22 rfl) (own_w hw 23 rfl) (by decide) (rm_at l Z a0 hw n0 (14 : Int32) pr (1 : Int32) dg mg ca cb a_2 h_387 f_392 f_391 ra (by decide) kca kcb m0) (st := [(.int (14 : Int32)), (.ref a_258)]) [(.int (14 : Int32)), (.int pr), (.int (1 : Int32)), (.int dg), (.long mg), (.int ca), (.int cb), (.ref a_2)] rfl rfl own_pd_4_at rfl rfl (by decide) (W := 2) (Nat.le_of_eq rfl) (by decide) (by decide) (by decide) at_557 (pc' := 560) rfl ?_
    intro v_395 h_393 q_394
    obtain ⟨q14, rfl, kq14, aq14, rfl⟩ := q_394
    show Go B n0 _ h_387 2 27 560 #[.val (.long p0), .second, .val (.int p1), .val (.int p2), .val (.int p3), .val (.ref a_2), .val (.int (1 : Int32)), .val (.int (1 : Int32)), .val (.int dg), .val (.int pr), .val (.int ca), .val (.int cb), .val (.long wv), .second, .val (.long mg), .second, .val (.long (-mg)), .second, .val (.int mn), .val (.ref a_258), .unset, .unset, .unset] [(.int q14), (.int (14 : Int32)), (.ref a_258)]
    refine g_castore C f_390 (by decide) (i := 14) (by decide) (show 14 < 16 by decide) (w := (.int q14)) (congrArg Value.int kq14.1) ge_a_258 at_560 (pc' := 561) rfl ?_
    intro h_396 K_397 A_398
    have f_399 : Ary Z h_396 a_258 .char [(.int q0), (.int q1), (.int q2), (.int q3), (.int q4), (.int q5), (.int q6), (.int q7), (.int q8), (.int q9), (.int q10), (.int q11), (.int q12), (.int q13), (.int q14), (.int (0 : Int32))] := A_398
    refine g_aload C at_561 (v := (.ref a_258)) rfl rfl (pc' := 563) rfl ?_
    refine g_bipush C at_563 (v := (15 : Int32)) rfl (pc' := 565) rfl ?_
    refine g_bipush C at_565 (v := (15 : Int32)) rfl (pc' := 567) rfl ?_
    refine g_iload C at_567 (v := pr) rfl (pc' := 569) rfl ?_
    refine g_iload C at_569 (v := (1 : Int32)) rfl (pc' := 571) rfl ?_
    refine g_iload C at_571 (v := dg) rfl (pc' := 573) rfl ?_
    refine g_lload C at_573 (v := mg) rfl (pc' := 575) rfl ?_
    refine g_iload C at_575 (v := ca) rfl (pc' := 577) rfl ?_
    refine g_iload C at_577 (v := cb) rfl (pc' := 579) rfl ?_
    refine g_aload C at_579 (v := (.ref a_2)) rfl rfl (pc' := 581) rfl ?_
    have f_400 := (f_391.keep K_397 (ninS ne_262 nin0))
    have f_401 := (Nat.le_trans f_392 K_397.1)
    refine g_static C (own_w hw 20 rfl) (own_w hw 21 rfl) (own_w hw 22 rfl) (own_w hw 23 rfl) (by decide) (rm_at l Z a0 hw n0 (15 : Int32) pr (1 : Int32) dg mg ca cb a_2 h_396 f_401 f_400 ra (by decide) kca kcb m0) (st := [(.int (15 : Int32)), (.ref a_258)]) [(.int (15 : Int32)), (.int pr), (.int (1 : Int32)), (.int dg), (.long mg), (.int ca), (.int cb), (.ref a_2)] rfl rfl own_pd_4_at rfl rfl (by decide) (W := 2) (Nat.le_of_eq rfl) (by decide) (by decide) (by decide) at_581 (pc' := 584) rfl ?_
    intro v_404 h_402 q_403
    obtain ⟨q15, rfl, kq15, aq15, rfl⟩ := q_403
    show Go B n0 _ h_396 2 27 584 #[.val (.long p0), .second, .val (.int p1), .val (.int p2), .val (.int p3), .val (.ref a_2), .val (.int (1 : Int32)), .val (.int (1 : Int32)), .val (.int dg), .val (.int pr), .val (.int ca), .val (.int cb), .val (.long wv), .second, .val (.long mg), .second, .val (.long (-mg)), .second, .val (.int mn), .val (.ref a_258), .unset, .unset, .unset] [(.int q15), (.int (15 : Int32)), (.ref a_258)]
    refine g_castore C f_399 (by decide) (i := 15) (by decide) (show 15 < 16 by decide) (w := (.int q15)) (congrArg Value.int kq15.1) ge_a_258 at_584 (pc' := 585) rfl ?_
    intro h_405 K_406 A_407
    have f_408 : Ary Z h_405 a_258 .char [(.int q0), (.int q1), (.int q2), (.int q3), (.int q4), (.int q5), (.int q6), (.int q7), (.int q8), (.int q9), (.int q10), (.int q11), (.int q12), (.int q13), (.int q14), (.int q15)] := A_407
    have f_409 := (f_400.keep K_406 (ninS ne_262 nin0))
    refine g_new C (own_w hw 24 rfl) (own_w hw 25 rfl) (own_w hw 26 rfl) (by decide) (by decide) at_585 (pc' := 588) rfl ?_
    intro h_410 a_411 g_412 E_413 A_414 D_415
    have ne_416 : a_2 ≠ a_411 := ne_new f_409.lt g_412
    have ne_417 : a_258 ≠ a_411 := ne_new f_408.lt g_412
    have f_418 := (Nat.le_trans f_401 K_406.1)
    have ge_a_411 : n0 ≤ a_411 := Nat.le_trans f_418 (Nat.le_of_eq g_412.symm)
    have f_419 := (Nat.le_trans (Nat.le_trans (Nat.le_trans (Nat.le_trans (Nat.le_trans (Nat.le_trans (Nat.le_trans (Nat.le_trans (Nat.le_trans (Nat.le_trans (Nat.le_trans (Nat.le_trans (Nat.le_trans (Nat.le_trans (Nat.le_trans (Nat.le_trans (Nat.le_trans f_263 E_260.1) K_271.1) K_280.1) K_289.1) K_298.1) K_307.1) K_316.1) K_325.1) K_334.1) K_343.1) K_352.1) K_361.1) K_370.1) K_379.1) K_388.1) K_397.1) K_406.1)
    have gs_a_411 : h0.size ≤ a_411 := Nat.le_trans f_419 (Nat.le_of_eq g_412.symm)
    have f_420 : Fld Z h_410 a_411 "java/lang/String" "coder" "B" (.int (0 : Int32)) := D_415 (Or.inr (own_w hw 50 rfl)) (ty := .byte) (by decide)
    have f_421 : Fld Z h_410 a_411 "java/lang/String" "value" "[B" .null := D_415 (Or.inr (own_w hw 52 rfl)) (ty := (.array .byte)) (by decide)
    show Go B n0 _ h_410 3 31 588 #[.val (.long p0), .second, .val (.int p1), .val (.int p2), .val (.int p3), .val (.ref a_2), .val (.int (1 : Int32)), .val (.int (1 : Int32)), .val (.int dg), .val (.int pr), .val (.int ca), .val (.int cb), .val (.long wv), .second, .val (.long mg), .second, .val (.long (-mg)), .second, .val (.int mn), .val (.ref a_258), .unset, .unset, .unset] [(.ref a_411)]
    refine g_dup C at_588 rfl (pc' := 589) rfl ?_
    refine g_aload C at_589 (v := (.ref a_258)) rfl rfl (pc' := 591) rfl ?_
    have f_422 := ((((((((((((((((((((((((((((((O.ext E_4).keep K_8 (allS ge_a_2 all0)).keep K_12 (allS ge_a_2 all0)).keep K_16 (allS ge_a_2 all0)).keep K_20 (allS ge_a_2 all0)).keep K_24 (allS ge_a_2 all0)).keep K_28 (allS ge_a_2 all0)).keep K_32 (allS ge_a_2 all0)).keep K_36 (allS ge_a_2 all0)).keep K_40 (allS ge_a_2 all0)).keep K_44 (allS ge_a_2 all0)).keep K_48 (allS ge_a_2 all0)).ext E_260).keep K_271 (allS ge_a_258 all0)).keep K_280 (allS ge_a_258 all0)).keep K_289 (allS ge_a_258 all0)).keep K_298 (allS ge_a_258 all0)).keep K_307 (allS ge_a_258 all0)).keep K_316 (allS ge_a_258 all0)).keep K_325 (allS ge_a_258 all0)).keep K_334 (allS ge_a_258 all0)).keep K_343 (allS ge_a_258 all0)).keep K_352 (allS ge_a_258 all0)).keep K_361 (allS ge_a_258 all0)).keep K_370 (allS ge_a_258 all0)).keep K_379 (allS ge_a_258 all0)).keep K_388 (allS ge_a_258 all0)).keep K_397 (allS ge_a_258 all0)).keep K_406 (allS ge_a_258 all0)).ext E_413)
    have f_423 := (f_408.ext E_413)
    have f_424 := (Nat.le_trans f_418 E_413.1)
    have f_425 := (f_409.ext E_413)
    have f_426 := (Nat.le_trans f_419 E_413.1)
    refine g_special C (a := a_411) rfl (own_w hw 27 rfl) (own_w hw 28 rfl) (own_w hw 26 rfl) (own_w hw 29 rfl) (by decide) (rm_init1_16 l Z a0 hw n0 a_411 a_258 q0 q1 q2 q3 q4 q5 q6 q7 q8 q9 q10 q11 q12 q13 q14 q15 h_410 f_424 cm f_422 A_414 f_421 f_420 ge_a_411 f_423 (Ne.symm ne_417) kq0 kq1 kq2 kq3 kq4 kq5 kq6 kq7 kq8 kq9 kq10 kq11 kq12 kq13 kq14 kq15) (st := [(.ref a_411)]) [(.ref a_258)] rfl rfl own_pd_12_init rfl rfl (by decide) (W := 1) (Nat.le_of_eq rfl) (by decide) (by decide) (by decide) at_591 (pc' := 594) rfl ?_
    intro v_429 h_427 q_428
    obtain ⟨rfl, K_430, b_431, le_432, f_433, f_434, f_435⟩ := q_428
    have ne_436 : a_2 ≠ b_431 := ne_ge f_425.lt le_432
    have ne_437 : a_258 ≠ b_431 := ne_ge f_423.lt le_432
    have ne_438 : a_411 ≠ b_431 := ne_ge A_414.lt le_432
    have ge_b_431 : n0 ≤ b_431 := Nat.le_trans f_424 le_432
    have gs_b_431 : h0.size ≤ b_431 := Nat.le_trans f_426 le_432
    show Go B n0 _ h_427 4 47 594 #[.val (.long p0), .second, .val (.int p1), .val (.int p2), .val (.int p3), .val (.ref a_2), .val (.int (1 : Int32)), .val (.int (1 : Int32)), .val (.int dg), .val (.int pr), .val (.int ca), .val (.int cb), .val (.long wv), .second, .val (.long mg), .second, .val (.long (-mg)), .second, .val (.int mn), .val (.ref a_258), .unset, .unset, .unset] [(.ref a_411)]
    refine g_astore C at_594 (v := (.ref a_411)) (L' := #[.val (.long p0), .second, .val (.int p1), .val (.int p2), .val (.int p3), .val (.ref a_2), .val (.int (1 : Int32)), .val (.int (1 : Int32)), .val (.int dg), .val (.int pr), .val (.int ca), .val (.int cb), .val (.long wv), .second, .val (.long mg), .second, .val (.long (-mg)), .second, .val (.int mn), .val (.ref a_258), .val (.ref a_411), .unset, .unset]) rfl rfl (pc' := 596) rfl ?_
    refine g_iload C at_596 (v := pr) rfl (pc' := 598) rfl ?_
    refine g_iload C at_598 (v := (1 : Int32)) rfl (pc' := 600) rfl ?_
    refine g_iadd C (x := pr) (y := (1 : Int32)) at_600  (pc' := 601) rfl ?_
    refine g_iload C at_601 (v := dg) rfl (pc' := 603) rfl ?_
    refine g_iadd C (x := (pr + (1 : Int32))) (y := dg) at_603  (pc' := 604) rfl ?_
    refine g_istore C at_604 (v := ((pr + (1 : Int32)) + dg)) (L' := #[.val (.long p0), .second, .val (.int p1), .val (.int p2), .val (.int p3), .val (.ref a_2), .val (.int (1 : Int32)), .val (.int (1 : Int32)), .val (.int dg), .val (.int pr), .val (.int ca), .val (.int cb), .val (.long wv), .second, .val (.long mg), .second, .val (.long (-mg)), .second, .val (.int mn), .val (.ref a_258), .val (.ref a_411), .val (.int ((pr + (1 : Int32)) + dg)), .unset]) rfl (pc' := 606) rfl ?_
    refine g_aload C at_606 (v := (.ref a_411)) rfl rfl (pc' := 608) rfl ?_
    refine g_iload C at_608 (v := pr) rfl (pc' := 610) rfl ?_
    refine g_iload C at_610 (v := ((pr + (1 : Int32)) + dg)) rfl (pc' := 612) rfl ?_
    refine g_iload C at_612 (v := mn) rfl (pc' := 614) rfl ?_
    have f_439 := (f_425.keep K_430 (ninS ne_416 nin0))
    have f_440 := (f_423.keep K_430 (ninS ne_417 nin0))
    have f_441 := (A_414.keep K_430)
    refine g_ldcS C hW (own_w hw 53 rfl) (own_satoms hw) (nn := 20) (by decide) (by decide) (by decide) (by decide) at_614 (pc' := 616) rfl ?_
    intro B C hW h_442 a_443 E_444
    show Go B n0 _ h_442 6 71 616 #[.val (.long p0), .second, .val (.int p1), .val (.int p2), .val (.int p3), .val (.ref a_2), .val (.int (1 : Int32)), .val (.int (1 : Int32)), .val (.int dg), .val (.int pr), .val (.int ca), .val (.int cb), .val (.long wv), .second, .val (.long mg), .second, .val (.long (-mg)), .second, .val (.int mn), .val (.ref a_258), .val (.ref a_411), .val (.int ((pr + (1 : Int32)) + dg)), .unset] [(.ref a_443), (.int mn), (.int ((pr + (1 : Int32)) + dg)), (.int pr), (.ref a_411)]
    have f_445 := (f_441.ext E_444)
    have f_446 := (f_433.ext E_444)
    have f_447 := (f_434.ext E_444)
    have f_448 := (f_435.ext E_444)
    have hf1 : (pr + (1 : Int32)).toInt = pr.toInt + 1 := by have e1 := c_iadd pr (1 : Int32); have r1 := rng32 (pr + (1 : Int32)); have o1 : (1 : Int32).toInt = 1 := rfl; omega
    obtain ⟨hDg, hSg⟩ := own_ofAt (f := (pr + (1 : Int32))) (mg := mg) (vs := [.int (Int8.toInt32 (Int32.toInt8 q0)), .int (Int8.toInt32 (Int32.toInt8 q1)), .int (Int8.toInt32 (Int32.toInt8 q2)), .int (Int8.toInt32 (Int32.toInt8 q3)), .int (Int8.toInt32 (Int32.toInt8 q4)), .int (Int8.toInt32 (Int32.toInt8 q5)), .int (Int8.toInt32 (Int32.toInt8 q6)), .int (Int8.toInt32 (Int32.toInt8 q7)), .int (Int8.toInt32 (Int32.toInt8 q8)), .int (Int8.toInt32 (Int32.toInt8 q9)), .int (Int8.toInt32 (Int32.toInt8 q10)), .int (Int8.toInt32 (Int32.toInt8 q11)), .int (Int8.toInt32 (Int32.toInt8 q12)), .int (Int8.toInt32 (Int32.toInt8 q13)), .int (Int8.toInt32 (Int32.toInt8 q14)), .int (Int8.toInt32 (Int32.toInt8 q15))]) [q0, q1, q2, q3, q4, q5, q6, q7, q8, q9, q10, q11, q12, q13, q14, q15] rfl ra (fun k hk => match k, hk with | 0, _ => ⟨kq0, aq0⟩ | 1, _ => ⟨kq1, aq1⟩ | 2, _ => ⟨kq2, aq2⟩ | 3, _ => ⟨kq3, aq3⟩ | 4, _ => ⟨kq4, aq4⟩ | 5, _ => ⟨kq5, aq5⟩ | 6, _ => ⟨kq6, aq6⟩ | 7, _ => ⟨kq7, aq7⟩ | 8, _ => ⟨kq8, aq8⟩ | 9, _ => ⟨kq9, aq9⟩ | 10, _ => ⟨kq10, aq10⟩ | 11, _ => ⟨kq11, aq11⟩ | 12, _ => ⟨kq12, aq12⟩ | 13, _ => ⟨kq13, aq13⟩ | 14, _ => ⟨kq14, aq14⟩ | 15, _ => ⟨kq15, aq15⟩ | k + 16, hk => absurd hk (by omega)) hf1 rfl
    have hto : ((pr + (1 : Int32)) + dg).toInt = (pr + (1 : Int32)).toInt + (dg.toInt.toNat : Int) := by have e1 := c_iadd pr (1 : Int32); have r1 := rng32 (pr + (1 : Int32)); have e2 := c_iadd (pr + (1 : Int32)) dg; have r2 := rng32 ((pr + (1 : Int32)) + dg); have o1 : (1 : Int32).toInt = 1 := rfl; omega
    have f_449 := ((f_422.keep K_430 (allS ge_a_411 all0)).ext E_444)
    have f_450 := (Nat.le_trans (Nat.le_trans f_424 K_430.1) E_444.1)
    refine g_static C (own_w hw 56 rfl) (own_w hw 57 rfl) (own_w hw 58 rfl) (own_w hw 59 rfl) (by decide) (rm_integer_1 l Z a0 hw n0 a_411 b_431 a_443 [.int (Int8.toInt32 (Int32.toInt8 q0)), .int (Int8.toInt32 (Int32.toInt8 q1)), .int (Int8.toInt32 (Int32.toInt8 q2)), .int (Int8.toInt32 (Int32.toInt8 q3)), .int (Int8.toInt32 (Int32.toInt8 q4)), .int (Int8.toInt32 (Int32.toInt8 q5)), .int (Int8.toInt32 (Int32.toInt8 q6)), .int (Int8.toInt32 (Int32.toInt8 q7)), .int (Int8.toInt32 (Int32.toInt8 q8)), .int (Int8.toInt32 (Int32.toInt8 q9)), .int (Int8.toInt32 (Int32.toInt8 q10)), .int (Int8.toInt32 (Int32.toInt8 q11)), .int (Int8.toInt32 (Int32.toInt8 q12)), .int (Int8.toInt32 (Int32.toInt8 q13)), .int (Int8.toInt32 (Int32.toInt8 q14)), .int (Int8.toInt32 (Int32.toInt8 q15))] pr ((pr + (1 : Int32)) + dg) mn mg dg.toInt.toNat h_442 f_450 cm f_449 f_445 f_446 f_447 f_448 rfl (by omega) (by omega) hf1 hto (by omega) m0 m1 m2 hDg (by rw [← hvt]; exact hmn) (hSg rfl)) (st := []) [(.ref a_411), (.int pr), (.int ((pr + (1 : Int32)) + dg)), (.int mn), (.ref a_443)] rfl rfl own_pd_9_integer rfl rfl (by decide) (W := 0) (Nat.le_of_eq rfl) (by decide) (by decide) (by decide) at_616 (pc' := 619) rfl ?_
    intro v_453 h_451 q_452
    obtain ⟨rr, rfl, hrr, rfl⟩ := q_452
    have hfin : (Int32.toInt64 rr) = (-mg) := Int64.toInt_inj.mp (by rw [c_i2l, hrr, hvt])
    show Go B n0 _ h_442 6 71 619 #[.val (.long p0), .second, .val (.int p1), .val (.int p2), .val (.int p3), .val (.ref a_2), .val (.int (1 : Int32)), .val (.int (1 : Int32)), .val (.int dg), .val (.int pr), .val (.int ca), .val (.int cb), .val (.long wv), .second, .val (.long mg), .second, .val (.long (-mg)), .second, .val (.int mn), .val (.ref a_258), .val (.ref a_411), .val (.int ((pr + (1 : Int32)) + dg)), .unset] [(.int rr)]
    refine g_istore C at_619 (v := rr) (L' := #[.val (.long p0), .second, .val (.int p1), .val (.int p2), .val (.int p3), .val (.ref a_2), .val (.int (1 : Int32)), .val (.int (1 : Int32)), .val (.int dg), .val (.int pr), .val (.int ca), .val (.int cb), .val (.long wv), .second, .val (.long mg), .second, .val (.long (-mg)), .second, .val (.int mn), .val (.ref a_258), .val (.ref a_411), .val (.int ((pr + (1 : Int32)) + dg)), .val (.int rr)]) rfl (pc' := 621) rfl ?_
    refine g_iload C at_621 (v := rr) rfl (pc' := 623) rfl ?_
    refine g_i2l C (x := rr) at_623 (pc' := 624) rfl ?_
    refine g_lload C at_624 (v := (-mg)) rfl (pc' := 626) rfl ?_
    refine g_lcmp C (x := (Int32.toInt64 rr)) (y := (-mg)) at_626 (pc' := 627) rfl ?_
    refine g_if_n C at_627 (Jvm.Free.XT.ll_ne_f hfin) (pc' := 630) rfl ?_
    refine g_iconst C at_630 (v := (1 : Int32)) rfl (pc' := 631) rfl ?_
    refine g_goto C at_631 (pc' := 635) (by decide) (by decide) ?_
    refine g_ret C (v := (.int (1 : Int32))) (ty := .boolean) rfl rfl (Or.inl ⟨rfl, Or.inr (Or.inl rfl), _, rfl⟩) at_635 (by decide) (by decide) ?_
    rfl
set_option maxRecDepth 65536 in
set_option maxHeartbeats 40000000 in
theorem comes_1 {Post : Tables → Env → Array Value → State → Outcome → State → Prop} (hpost : ∀ tb e args s v u, (limb_1_1.after args s (.returned v) u = true ∧ limb_1_2.after args s (.returned v) u = true ∧ True) → ReturnedEndW s (.returned v) u (Jvm.fieldLocs frame_1_writes args s ++ Jvm.arrayLocs frame_1_arrays args s ++ Jvm.staticLocs frame_1_statics s) 24 1216 → Post tb e args s (.returned v) u) :
    ArmFor flags0 classFile x code maxLocals ret World_1 tables_1 room_1 Calls_1 rest_1 Pre_1 Post := by
  intro l hfl _ _ p e ha hc hk s m args below hf hA hF happ hP
  obtain ⟨hcalls, hrest, hpre⟩ := hP
  obtain ⟨-, -, -, hnamed, -, -, -, hat⟩ := (Spec.applies_iff hf).mp happ
  obtain ⟨hg, hn⟩ := and_e (Cond.before_iff.mp (show (Jvm.Cond.and given_1 narrow_1).before args s = true from hpre))
  obtain ⟨gc, gr0⟩ := and_e hg
  obtain ⟨ga0, gr1⟩ := and_e gr0
  obtain ⟨ga1, gr2⟩ := and_e gr1
  obtain ⟨ga2, gr3⟩ := and_e gr2
  obtain ⟨w0, w1, w2, w3, rfl⟩ : ∃ w0 w1 w2 w3 : Value, args = #[w0, w1, w2, w3] := by
    have hs : args.size = 4 := by simpa [Cond.value, given_1] using gc
    obtain ⟨L⟩ := args
    match L, hs with
    | [w0, w1, w2, w3], _ => exact ⟨w0, w1, w2, w3, rfl⟩
  have hw := fun d (hd : d ∈ tables_1) => atoms_spec (ws := Jvm.Cond.code x code maxLocals ret :: tables_1) hat d (List.mem_cons_of_mem _ hd)
  have hfit : Fit s := fun {y c} hc i hi => by
    obtain ⟨ha, rfl⟩ := Array.getElem?_eq_some_iff.mp hc
    have q := List.all_eq_true.mp ((Array.all_eq_true_iff_forall_mem.mp hF) _ (Array.getElem_mem ha)) i (List.mem_range.mpr hi)
    simpa [Array.getElem?_eq_getElem hi] using q
  obtain ⟨i0, ei0⟩ := isL_v ga0
  obtain rfl : w0 = (.long i0) := Option.some.inj ei0
  obtain ⟨i1, ei1⟩ := is_v ga1
  obtain rfl : w1 = (.int i1) := Option.some.inj ei1
  obtain ⟨i2, ei2⟩ := is_v ga2
  obtain rfl : w2 = (.int i2) := Option.some.inj ei2
  obtain ⟨i3, ei3⟩ := is_v gr3
  obtain rfl : w3 = (.int i3) := Option.some.inj ei3
  have hr0 : rest_1_c.before _ s = true := hrest
  rw [rest_1_c_eq] at hr0
  obtain ⟨hjs, -⟩ := atoms_of jdkStatics_1 hr0
  have hj := fun (k : Nat) {d : Jvm.Cond} (e : jdkStatics_1[k]? = some d) => hjs d (List.mem_of_getElem? e)
  have cm : Um s := ⟨own_cmp (hj 0 rfl) (hj 1 rfl) (hj 2 rfl), own_stref (hj 7 rfl) (hj 8 rfl)⟩
  obtain ⟨n, o, h1, h2, h3, _, L, rfl, ⟨N, rfl⟩, hq⟩ := rm_law l s _ hw s.heap.size i0 i1 i2 i3  s.heap (Nat.le_refl _) cm (Old.start s) tables_1 p e ha hc hk s m _ below hf ((Spec.applies_iff_loose hf).mp happ).1 ⟨rfl, State.Warmed39.refl s, rfl⟩ trivial
  refine ⟨n, _, h1, h2, h3, hpost _ _ _ _ _ _ ⟨Cond.after_iff.mpr rfl, Cond.after_iff.mpr (eq_i res_at (Term.int_eval (1)) rfl), trivial⟩ ⟨hq.1, hq.2.1, hq.2.2.1, (hq.2.2.2.sift fun y hy => Or.inr (N y hy)).mono (by decide) (by decide)⟩⟩
theorem main_1_1 : Claimed_1_1 := comes_1 fun _ _ _ _ _ _ h hF => ⟨h.1, hF⟩
theorem main_1_2 : Claimed_1_2 := comes_1 fun _ _ _ _ _ _ h hF => ⟨h.2.1, hF⟩
end Jvm.Pilot.@@N@@
namespace Jvm.Pilot.@@N@@
open Jvm Jvm.ClassFile Sem Op Lib Jvm.Free Jvm.Stand Jvm.Pilot.@@N@@.Jvm.D
/-! MADE BY PROGRAM (witnessworld.py) out of the Statement's table words and the real class files: 23 classes; the members and pool entries that the words name. The judged class is class 1, her method 2. -/
namespace start1
open Jvm.ClassFile
def u (s : String) : CpInfo := .utf8 (stringToUtf16 s)
/-- a pool by its gaps: so many unusable entries, then the entry; so many at the end -/
def gap : Nat → List CpInfo → List CpInfo
  | 0, r => r
  | n + 1, r => .unusable :: gap n r
def poolList (es : List (Nat × CpInfo)) (last : Nat) : List CpInfo := es.foldr (fun e r => gap e.1 (e.2 :: r)) (gap last [])
def pool (es : List (Nat × CpInfo)) (last : Nat) : Array CpInfo := ⟨poolList es last⟩
def fileOf (pool : Array CpInfo) (this : Nat) (attrs : Array Attribute := #[]) (ms : Array MethodInfo := #[]) (fl : Nat := 33) (sup : Nat := 0) (ifs : Array Nat := #[]) (fds : Array FieldInfo := #[]) : ClassFile where
  minorVersion := 0
  majorVersion := 65
  constantPool := pool
  accessFlags := fl
  thisClass := this
  superClass := sup
  interfaces := ifs
  fields := fds
  methods := ms
  attributes := attrs
def plain (name : String) (sup : Option ClassId) : Class where
  name := name
  kind := .ordinary
  loader := none
  accessFlags := 33
  super := sup
  interfaces := #[]
  cf := none
  fields := #[]
  methods := #[]
  instanceTypes := #[]
  staticTypes := #[]
  resolved := #[]
  callSites := []
  init := .initialized
  statics := none
  mirror := none

def pool0 : Array CpInfo := pool [(5, u "<init>"), (0, u "()V"), (1, .class_ 10), (1, u "java/lang/Object")] 113

def k0c0 : Code := { maxStack := 0, maxLocals := 1, code := object_method_1_code, exceptionTable := #[], attributes := #[] }
def k0m0 : Method := { name := "<init>", desc := "()V", sig := { parameters := [], returnType := none }, accessFlags := 1, code := some k0c0 }
/-- java/lang/Object -/
def k0 : Class := { plain "java/lang/Object" none with
  accessFlags := 33
  interfaces := #[]
  cf := some (fileOf pool0 8 #[] #[{ accessFlags := 1, nameIndex := 5, descriptorIndex := 6, attributes := #[] }] 33 0 #[] #[])
  fields := #[]
  methods := #[k0m0]
  instanceTypes := #[]
  staticTypes := #[]
  resolved := Array.replicate 124 none
  statics := none }

def pool1 : Array CpInfo := pool [(2, .class_ 4), (1, u "java/lang/Object"), (0, u "<init>"), (0, u "()V"), (0, .long 10), (1, .long 100), (1, .long 1000), (1, .long 10000), (1, .long 100000), (1, .long 1000000), (1, .long 10000000), (1, .long 100000000), (1, .long 1000000000), (1, .long 10000000000), (1, .long 4294967295), (1, .long 2147483649), (1, .long 2147483647), (3, .long 18446744071562067968), (1, .methodref 38 39), (0, .class_ 40), (0, .nameAndType 41 42), (0, u "java/lang/Math"), (0, u "max"), (0, u "(JJ)J"), (0, .methodref 44 45), (0, .class_ 46), (0, .nameAndType 47 48), (0, u "org/linkloom/io/FieldsIntegerPinLaw"), (0, u "at"), (0, u "(IIIIJCC[J)C"), (0, .class_ 50), (0, u "java/lang/String"), (0, .methodref 49 52), (0, .nameAndType 5 53), (0, u "([C)V"), (0, .string 55), (0, u "field"), (0, .methodref 57 58), (0, .class_ 59), (0, .nameAndType 60 61), (0, u "org/linkloom/io/Fields"), (0, u "integer"), (0, u "(Ljava/lang/String;IIILjava/lang/String;)I"), (3, u "law"), (0, u "(JIII)Z")] 9

def k1m0 : Method := { name := "<init>", desc := "()V", sig := { parameters := [], returnType := none }, accessFlags := 2, code := none }
def k1c1 : Code := { maxStack := 6, maxLocals := 10, code := method_2_code, exceptionTable := #[], attributes := #[] }
def k1m1 : Method := { name := "at", desc := "(IIIIJCC[J)C", sig := { parameters := [.int, .int, .int, .int, .long, .char, .char, (.array .long)], returnType := some .char }, accessFlags := 10, code := some k1c1 }
def k1c2 : Code := { maxStack := 11, maxLocals := 23, code := code, exceptionTable := #[], attributes := #[] }
def k1m2 : Method := { name := "law", desc := "(JIII)Z", sig := { parameters := [.long, .int, .int, .int], returnType := some .boolean }, accessFlags := 9, code := some k1c2 }
/-- org/linkloom/io/FieldsIntegerPinLaw -/
def k1 : Class := { plain "org/linkloom/io/FieldsIntegerPinLaw" (some 0) with
  accessFlags := 49
  interfaces := #[]
  cf := some (fileOf pool1 44 #[] #[{ accessFlags := 2, nameIndex := 5, descriptorIndex := 6, attributes := #[] }, { accessFlags := 10, nameIndex := 47, descriptorIndex := 48, attributes := #[] }, { accessFlags := 9, nameIndex := 65, descriptorIndex := 66, attributes := #[] }] 49 2 #[] #[])
  fields := #[]
  methods := #[k1m0, k1m1, k1m2]
  instanceTypes := #[]
  staticTypes := #[]
  resolved := Array.replicate 76 none
  statics := none }

def pool2 : Array CpInfo := pool [(1, .class_ 2), (0, u "java/lang/Math"), (1, .class_ 6), (1, u "java/lang/Object"), (0, u "<init>"), (0, u "()V"), (89, .class_ 100), (1, u "java/lang/Math$RandomNumberGeneratorHolder"), (20, u "(JJ)J"), (50, u "negativeZeroFloatBits"), (0, u "J"), (2, u "negativeZeroDoubleBits"), (21, u "max"), (46, u "$assertionsDisabled"), (0, u "Z"), (91, u "twoToTheDoubleScaleDown"), (0, u "D"), (4, u "twoToTheDoubleScaleUp"), (9, u "E"), (3, u "PI"), (2, u "TAU"), (2, u "DEGREES_TO_RADIANS"), (0, u "RADIANS_TO_DEGREES")] 94

def k2m0 : Method := { name := "<init>", desc := "()V", sig := { parameters := [], returnType := none }, accessFlags := 2, code := none }
def k2c1 : Code := { maxStack := 4, maxLocals := 4, code := jdk_29_method_66_code, exceptionTable := #[], attributes := #[] }
def k2m1 : Method := { name := "max", desc := "(JJ)J", sig := { parameters := [.long, .long], returnType := some .long }, accessFlags := 9, code := some k2c1 }
/-- java/lang/Math -/
def k2 : Class := { plain "java/lang/Math" (some 0) with
  accessFlags := 49
  interfaces := #[]
  cf := some (fileOf pool2 1 #[.nestMembers #[98]] #[{ accessFlags := 2, nameIndex := 7, descriptorIndex := 8, attributes := #[] }, { accessFlags := 9, nameIndex := 198, descriptorIndex := 121, attributes := #[] }] 49 4 #[] #[{ accessFlags := 25, nameIndex := 354, descriptorIndex := 339, attributes := #[] }, { accessFlags := 25, nameIndex := 358, descriptorIndex := 339, attributes := #[] }, { accessFlags := 25, nameIndex := 361, descriptorIndex := 339, attributes := #[] }, { accessFlags := 26, nameIndex := 364, descriptorIndex := 339, attributes := #[] }, { accessFlags := 26, nameIndex := 365, descriptorIndex := 339, attributes := #[] }, { accessFlags := 26, nameIndex := 172, descriptorIndex := 173, attributes := #[] }, { accessFlags := 26, nameIndex := 176, descriptorIndex := 173, attributes := #[] }, { accessFlags := 8, nameIndex := 344, descriptorIndex := 339, attributes := #[] }, { accessFlags := 8, nameIndex := 338, descriptorIndex := 339, attributes := #[] }, { accessFlags := 4120, nameIndex := 245, descriptorIndex := 246, attributes := #[] }])
  fields := #[{ name := "E", type := .double, accessFlags := 25, slot := 0, constantValue := 0 }, { name := "PI", type := .double, accessFlags := 25, slot := 1, constantValue := 0 }, { name := "TAU", type := .double, accessFlags := 25, slot := 2, constantValue := 0 }, { name := "DEGREES_TO_RADIANS", type := .double, accessFlags := 26, slot := 3, constantValue := 0 }, { name := "RADIANS_TO_DEGREES", type := .double, accessFlags := 26, slot := 4, constantValue := 0 }, { name := "negativeZeroFloatBits", type := .long, accessFlags := 26, slot := 5, constantValue := 0 }, { name := "negativeZeroDoubleBits", type := .long, accessFlags := 26, slot := 6, constantValue := 0 }, { name := "twoToTheDoubleScaleUp", type := .double, accessFlags := 8, slot := 7, constantValue := 0 }, { name := "twoToTheDoubleScaleDown", type := .double, accessFlags := 8, slot := 8, constantValue := 0 }, { name := "$assertionsDisabled", type := .boolean, accessFlags := 4120, slot := 9, constantValue := 0 }]
  methods := #[k2m0, k2m1]
  instanceTypes := #[]
  staticTypes := #[.double, .double, .double, .double, .double, .long, .long, .double, .double, .boolean]
  resolved := Array.replicate 460 none
  statics := none }

def pool3 : Array CpInfo := pool [(1, .class_ 2), (0, u "java/io/Serializable"), (0, .class_ 4), (0, u "java/lang/Object")] 2

/-- java/io/Serializable -/
def k3 : Class := { plain "java/io/Serializable" (some 0) with
  accessFlags := 1537
  interfaces := #[]
  cf := some (fileOf pool3 1 #[] #[] 1537 3 #[] #[])
  fields := #[]
  methods := #[]
  instanceTypes := #[]
  staticTypes := #[]
  resolved := Array.replicate 7 none
  statics := none }

def pool4 : Array CpInfo := pool [(1, .class_ 2), (0, u "java/lang/Comparable"), (0, .class_ 4), (0, u "java/lang/Object")] 7

/-- java/lang/Comparable -/
def k4 : Class := { plain "java/lang/Comparable" (some 0) with
  accessFlags := 1537
  interfaces := #[]
  cf := some (fileOf pool4 1 #[] #[] 1537 3 #[] #[])
  fields := #[]
  methods := #[]
  instanceTypes := #[]
  staticTypes := #[]
  resolved := Array.replicate 12 none
  statics := none }

def pool5 : Array CpInfo := pool [(2, .class_ 4), (1, u "java/lang/CharSequence"), (42, .class_ 48), (0, u "java/lang/CharSequence$1CodePointIterator"), (10, .class_ 60), (0, u "java/lang/CharSequence$1CharIterator"), (5, .class_ 67), (0, u "java/lang/Object")] 63

/-- java/lang/CharSequence -/
def k5 : Class := { plain "java/lang/CharSequence" (some 0) with
  accessFlags := 1537
  interfaces := #[]
  cf := some (fileOf pool5 2 #[.nestMembers #[47, 59]] #[] 1537 66 #[] #[])
  fields := #[]
  methods := #[]
  instanceTypes := #[]
  staticTypes := #[]
  resolved := Array.replicate 131 none
  statics := none }

def pool6 : Array CpInfo := pool [(1, .class_ 2), (0, u "java/lang/constant/Constable"), (0, .class_ 4), (0, u "java/lang/Object")] 6

/-- java/lang/constant/Constable -/
def k6 : Class := { plain "java/lang/constant/Constable" (some 0) with
  accessFlags := 1537
  interfaces := #[]
  cf := some (fileOf pool6 1 #[] #[] 1537 3 #[] #[])
  fields := #[]
  methods := #[]
  instanceTypes := #[]
  staticTypes := #[]
  resolved := Array.replicate 11 none
  statics := none }

def pool7 : Array CpInfo := pool [(1, .class_ 2), (0, u "java/lang/constant/ConstantDesc"), (0, .class_ 4), (0, u "java/lang/Object")] 32

/-- java/lang/constant/ConstantDesc -/
def k7 : Class := { plain "java/lang/constant/ConstantDesc" (some 0) with
  accessFlags := 1537
  interfaces := #[]
  cf := some (fileOf pool7 1 #[] #[] 1537 3 #[] #[])
  fields := #[]
  methods := #[]
  instanceTypes := #[]
  staticTypes := #[]
  resolved := Array.replicate 37 none
  statics := none }

def pool8 : Array CpInfo := pool [(1, .methodref 2 3), (0, .class_ 4), (0, .nameAndType 5 6), (0, u "java/lang/Object"), (0, u "<init>"), (0, u "()V"), (2, .fieldref 10 11), (0, .class_ 12), (0, .nameAndType 13 14), (0, u "java/lang/String"), (0, u "value"), (0, u "[B"), (0, .fieldref 10 16), (0, .nameAndType 17 18), (0, u "coder"), (0, u "B"), (2, u "hash"), (0, u "I"), (2, u "hashIsZero"), (0, u "Z"), (0, .methodref 10 28), (0, .nameAndType 5 29), (0, u "([CIILjava/lang/Void;)V"), (8, .fieldref 10 39), (0, .nameAndType 40 26), (0, u "COMPACT_STRINGS"), (1, .class_ 44), (1, u "java/lang/StringUTF16"), (0, u "compress"), (1, .methodref 42 48), (0, .nameAndType 49 50), (0, u "coderFromArrayLen"), (0, u "([BI)B"), (56, .class_ 109), (1, u "java/lang/StringLatin1"), (32, u "()Z"), (34, .methodref 42 178), (0, .nameAndType 45 179), (0, u "([CII)[B"), (183, u "([BI)C"), (27, u "(II)V"), (35, u "(I)C"), (64, .methodref 10 493), (0, .nameAndType 494 142), (0, u "isLatin1"), (0, .methodref 107 496), (0, .nameAndType 497 363), (0, u "charAt"), (3, u "checkIndex"), (73, .class_ 576), (0, u "java/lang/CharSequence"), (22, u "CASE_INSENSITIVE_ORDER"), (0, u "Ljava/util/Comparator;"), (409, u "([C)V"), (42, .fieldref 1054 1055), (0, .class_ 1056), (0, .nameAndType 1057 1058), (0, u "jdk/internal/util/Preconditions"), (0, u "SIOOBE_FORMATTER"), (0, u "Ljava/util/function/BiFunction;"), (0, .methodref 1054 1060), (0, .nameAndType 501 1061), (0, u "(IILjava/util/function/BiFunction;)I"), (39, u "serialPersistentFields"), (0, u "[Ljava/io/ObjectStreamField;"), (0, .class_ 1104), (0, u "java/lang/String$CaseInsensitiveComparator"), (1, .class_ 1107), (0, u "java/io/Serializable"), (0, .class_ 1109), (0, u "java/lang/Comparable"), (0, .class_ 1111), (0, u "java/lang/constant/Constable"), (0, .class_ 1113), (0, u "java/lang/constant/ConstantDesc"), (2, u "serialVersionUID"), (0, u "J"), (3, u "REPL"), (0, u "C"), (2, u "LATIN1"), (1, u "UTF16")] 323

def k8m0 : Method := { name := "<init>", desc := "()V", sig := { parameters := [], returnType := none }, accessFlags := 1, code := none }
def k8c1 : Code := { maxStack := 5, maxLocals := 2, code := jdk_42_method_3_code, exceptionTable := #[], attributes := #[] }
def k8m1 : Method := { name := "<init>", desc := "([C)V", sig := { parameters := [(.array .char)], returnType := none }, accessFlags := 1, code := some k8c1 }
def k8c2 : Code := { maxStack := 2, maxLocals := 2, code := jdk_42_method_56_code, exceptionTable := #[], attributes := #[] }
def k8m2 : Method := { name := "charAt", desc := "(I)C", sig := { parameters := [.int], returnType := some .char }, accessFlags := 1, code := some k8c2 }
def k8c3 : Code := { maxStack := 4, maxLocals := 6, code := jdk_42_method_149_code, exceptionTable := #[], attributes := #[] }
def k8m3 : Method := { name := "<init>", desc := "([CIILjava/lang/Void;)V", sig := { parameters := [(.array .char), .int, .int, (.object "java/lang/Void")], returnType := none }, accessFlags := 2, code := some k8c3 }
def k8c4 : Code := { maxStack := 1, maxLocals := 1, code := jdk_42_method_154_code, exceptionTable := #[], attributes := #[] }
def k8m4 : Method := { name := "isLatin1", desc := "()Z", sig := { parameters := [], returnType := some .boolean }, accessFlags := 0, code := some k8c4 }
def k8c5 : Code := { maxStack := 3, maxLocals := 2, code := jdk_42_method_155_code, exceptionTable := #[], attributes := #[] }
def k8m5 : Method := { name := "checkIndex", desc := "(II)V", sig := { parameters := [.int, .int], returnType := none }, accessFlags := 8, code := some k8c5 }
/-- java/lang/String -/
def k8 : Class := { plain "java/lang/String" (some 0) with
  accessFlags := 49
  interfaces := #[3, 4, 5, 6, 7]
  cf := some (fileOf pool8 10 #[.nestMembers #[1103]] #[{ accessFlags := 1, nameIndex := 5, descriptorIndex := 6, attributes := #[] }, { accessFlags := 1, nameIndex := 5, descriptorIndex := 1010, attributes := #[] }, { accessFlags := 1, nameIndex := 497, descriptorIndex := 427, attributes := #[] }, { accessFlags := 2, nameIndex := 5, descriptorIndex := 29, attributes := #[] }, { accessFlags := 0, nameIndex := 494, descriptorIndex := 142, attributes := #[] }, { accessFlags := 8, nameIndex := 501, descriptorIndex := 391, attributes := #[] }] 49 2 #[1106, 1108, 575, 1110, 1112] #[{ accessFlags := 18, nameIndex := 13, descriptorIndex := 14, attributes := #[] }, { accessFlags := 18, nameIndex := 17, descriptorIndex := 18, attributes := #[] }, { accessFlags := 2, nameIndex := 21, descriptorIndex := 22, attributes := #[] }, { accessFlags := 2, nameIndex := 25, descriptorIndex := 26, attributes := #[] }, { accessFlags := 26, nameIndex := 1116, descriptorIndex := 1117, attributes := #[] }, { accessFlags := 24, nameIndex := 40, descriptorIndex := 26, attributes := #[] }, { accessFlags := 26, nameIndex := 1101, descriptorIndex := 1102, attributes := #[] }, { accessFlags := 26, nameIndex := 1121, descriptorIndex := 1122, attributes := #[] }, { accessFlags := 25, nameIndex := 599, descriptorIndex := 600, attributes := #[] }, { accessFlags := 24, nameIndex := 1125, descriptorIndex := 18, attributes := #[] }, { accessFlags := 24, nameIndex := 1127, descriptorIndex := 18, attributes := #[] }])
  fields := #[{ name := "value", type := (.array .byte), accessFlags := 18, slot := 0, constantValue := 0 }, { name := "coder", type := .byte, accessFlags := 18, slot := 1, constantValue := 0 }, { name := "hash", type := .int, accessFlags := 2, slot := 2, constantValue := 0 }, { name := "hashIsZero", type := .boolean, accessFlags := 2, slot := 3, constantValue := 0 }, { name := "serialVersionUID", type := .long, accessFlags := 26, slot := 0, constantValue := 0 }, { name := "COMPACT_STRINGS", type := .boolean, accessFlags := 24, slot := 1, constantValue := 0 }, { name := "serialPersistentFields", type := (.array (.object "java/io/ObjectStreamField")), accessFlags := 26, slot := 2, constantValue := 0 }, { name := "REPL", type := .char, accessFlags := 26, slot := 3, constantValue := 0 }, { name := "CASE_INSENSITIVE_ORDER", type := (.object "java/util/Comparator"), accessFlags := 25, slot := 4, constantValue := 0 }, { name := "LATIN1", type := .byte, accessFlags := 24, slot := 5, constantValue := 0 }, { name := "UTF16", type := .byte, accessFlags := 24, slot := 6, constantValue := 0 }]
  methods := #[k8m0, k8m1, k8m2, k8m3, k8m4, k8m5]
  instanceTypes := #[(.array .byte), .byte, .int, .boolean]
  staticTypes := #[.long, .boolean, (.array (.object "java/io/ObjectStreamField")), .char, (.object "java/util/Comparator"), .byte, .byte]
  resolved := Array.replicate 1451 none
  statics := some 0 }

def pool9 : Array CpInfo := pool [(6, .class_ 8), (1, u "java/lang/Object"), (0, u "<init>"), (0, u "()V"), (1, .class_ 14), (1, u "java/lang/StringUTF16"), (31, u "$assertionsDisabled"), (0, u "Z"), (13, u "HI_BYTE_SHIFT"), (0, u "I"), (2, u "LO_BYTE_SHIFT"), (49, .methodref 12 116), (0, .nameAndType 117 118), (0, u "compress"), (0, u "([CI[BII)I"), (3, u "([CII)[B"), (138, u "coderFromArrayLen"), (0, u "([BI)B"), (106, .class_ 371), (1, u "java/lang/StringUTF16$LinesSpliterator"), (58, u "MAX_LENGTH"), (196, .class_ 628), (0, u "java/lang/StringUTF16$CodePointsSpliterator"), (0, .class_ 630), (0, u "java/lang/StringUTF16$CharsSpliterator")] 4

def k9m0 : Method := { name := "<init>", desc := "()V", sig := { parameters := [], returnType := none }, accessFlags := 0, code := none }
def k9c1 : Code := { maxStack := 2, maxLocals := 2, code := jdk_52_method_15_code, exceptionTable := #[], attributes := #[] }
def k9m1 : Method := { name := "coderFromArrayLen", desc := "([BI)B", sig := { parameters := [(.array .byte), .int], returnType := some .byte }, accessFlags := 8, code := some k9c1 }
def k9c2 : Code := { maxStack := 5, maxLocals := 6, code := jdk_52_method_16_code, exceptionTable := #[], attributes := #[] }
def k9m2 : Method := { name := "compress", desc := "([CII)[B", sig := { parameters := [(.array .char), .int, .int], returnType := some (.array .byte) }, accessFlags := 9, code := some k9c2 }
def k9c3 : Code := { maxStack := 3, maxLocals := 7, code := jdk_52_method_21_code, exceptionTable := #[], attributes := #[] }
def k9m3 : Method := { name := "compress", desc := "([CI[BII)I", sig := { parameters := [(.array .char), .int, (.array .byte), .int, .int], returnType := some .int }, accessFlags := 9, code := some k9c3 }
/-- java/lang/StringUTF16 -/
def k9 : Class := { plain "java/lang/StringUTF16" (some 0) with
  accessFlags := 48
  interfaces := #[]
  cf := some (fileOf pool9 12 #[.nestMembers #[627, 629, 369]] #[{ accessFlags := 0, nameIndex := 9, descriptorIndex := 10, attributes := #[] }, { accessFlags := 8, nameIndex := 261, descriptorIndex := 262, attributes := #[] }, { accessFlags := 9, nameIndex := 117, descriptorIndex := 122, attributes := #[] }, { accessFlags := 9, nameIndex := 117, descriptorIndex := 118, attributes := #[] }] 48 6 #[] #[{ accessFlags := 26, nameIndex := 61, descriptorIndex := 62, attributes := #[] }, { accessFlags := 26, nameIndex := 65, descriptorIndex := 62, attributes := #[] }, { accessFlags := 24, nameIndex := 430, descriptorIndex := 62, attributes := #[] }, { accessFlags := 4120, nameIndex := 46, descriptorIndex := 47, attributes := #[] }])
  fields := #[{ name := "HI_BYTE_SHIFT", type := .int, accessFlags := 26, slot := 0, constantValue := 0 }, { name := "LO_BYTE_SHIFT", type := .int, accessFlags := 26, slot := 1, constantValue := 0 }, { name := "MAX_LENGTH", type := .int, accessFlags := 24, slot := 2, constantValue := 0 }, { name := "$assertionsDisabled", type := .boolean, accessFlags := 4120, slot := 3, constantValue := 0 }]
  methods := #[k9m0, k9m1, k9m2, k9m3]
  instanceTypes := #[]
  staticTypes := #[.int, .int, .int, .boolean]
  resolved := Array.replicate 635 none
  statics := none }

def pool10 : Array CpInfo := pool [(2, .class_ 4), (1, u "java/lang/Object"), (0, u "<init>"), (0, u "()V"), (1, .class_ 10), (1, u "java/lang/String"), (18, .methodref 30 31), (0, .class_ 32), (0, .nameAndType 33 34), (0, u "org/linkloom/io/Fields"), (0, u "digits"), (0, u "(Ljava/lang/String;II)J"), (2, .long 2147483647), (7, .methodref 8 46), (0, .nameAndType 47 48), (0, u "charAt"), (0, u "(I)C"), (3, .long 18446744073709551615), (1, .long 10), (1, .long 2147483648), (16, u "QUOTED_CHARS"), (0, u "I"), (12, u "integer"), (0, u "(Ljava/lang/String;IIILjava/lang/String;)I")] 21

def k10m0 : Method := { name := "<init>", desc := "()V", sig := { parameters := [], returnType := none }, accessFlags := 2, code := none }
def k10c1 : Code := { maxStack := 5, maxLocals := 10, code := prog_23_method_4_code, exceptionTable := #[], attributes := #[] }
def k10m1 : Method := { name := "integer", desc := "(Ljava/lang/String;IIILjava/lang/String;)I", sig := { parameters := [(.object "java/lang/String"), .int, .int, .int, (.object "java/lang/String")], returnType := some .int }, accessFlags := 8, code := some k10c1 }
def k10c2 : Code := { maxStack := 4, maxLocals := 7, code := prog_23_method_5_code, exceptionTable := #[], attributes := #[] }
def k10m2 : Method := { name := "digits", desc := "(Ljava/lang/String;II)J", sig := { parameters := [(.object "java/lang/String"), .int, .int], returnType := some .long }, accessFlags := 10, code := some k10c2 }
/-- org/linkloom/io/Fields -/
def k10 : Class := { plain "org/linkloom/io/Fields" (some 0) with
  accessFlags := 48
  interfaces := #[]
  cf := some (fileOf pool10 30 #[] #[{ accessFlags := 2, nameIndex := 5, descriptorIndex := 6, attributes := #[] }, { accessFlags := 8, nameIndex := 87, descriptorIndex := 88, attributes := #[] }, { accessFlags := 10, nameIndex := 33, descriptorIndex := 34, attributes := #[] }] 48 2 #[] #[{ accessFlags := 26, nameIndex := 73, descriptorIndex := 74, attributes := #[] }])
  fields := #[{ name := "QUOTED_CHARS", type := .int, accessFlags := 26, slot := 0, constantValue := 0 }]
  methods := #[k10m0, k10m1, k10m2]
  instanceTypes := #[]
  staticTypes := #[.int]
  resolved := Array.replicate 110 none
  statics := none }

def pool11 : Array CpInfo := pool [(1, .class_ 2), (0, u "java/lang/String"), (1, .class_ 6), (1, u "java/lang/Object"), (0, u "<init>"), (0, u "()V"), (0, .methodref 1 10), (0, .nameAndType 11 12), (0, u "checkIndex"), (0, u "(II)V"), (1, .class_ 16), (1, u "java/lang/StringLatin1"), (36, u "([BI)C"), (67, u "$assertionsDisabled"), (0, u "Z"), (98, .class_ 223), (1, u "java/lang/StringLatin1$LinesSpliterator"), (28, u "charAt"), (137, .class_ 391), (0, u "java/lang/StringLatin1$CharsSpliterator")] 3

def k11m0 : Method := { name := "<init>", desc := "()V", sig := { parameters := [], returnType := none }, accessFlags := 0, code := none }
def k11c1 : Code := { maxStack := 2, maxLocals := 2, code := jdk_43_method_2_code, exceptionTable := #[], attributes := #[] }
def k11m1 : Method := { name := "charAt", desc := "([BI)C", sig := { parameters := [(.array .byte), .int], returnType := some .char }, accessFlags := 9, code := some k11c1 }
/-- java/lang/StringLatin1 -/
def k11 : Class := { plain "java/lang/StringLatin1" (some 0) with
  accessFlags := 48
  interfaces := #[]
  cf := some (fileOf pool11 14 #[.nestMembers #[390, 221]] #[{ accessFlags := 0, nameIndex := 7, descriptorIndex := 8, attributes := #[] }, { accessFlags := 9, nameIndex := 252, descriptorIndex := 53, attributes := #[] }] 48 4 #[] #[{ accessFlags := 4120, nameIndex := 121, descriptorIndex := 122, attributes := #[] }])
  fields := #[{ name := "$assertionsDisabled", type := .boolean, accessFlags := 4120, slot := 0, constantValue := 0 }]
  methods := #[k11m0, k11m1]
  instanceTypes := #[]
  staticTypes := #[.boolean]
  resolved := Array.replicate 395 none
  statics := none }

def pool12 : Array CpInfo := pool [(2, .class_ 4), (1, u "java/lang/Object"), (0, u "<init>"), (0, u "()V"), (17, .class_ 26), (1, u "jdk/internal/util/Preconditions"), (6, u "checkIndex"), (21, .class_ 56), (0, u "jdk/internal/util/Preconditions$4"), (57, .class_ 115), (0, u "jdk/internal/util/Preconditions$1"), (7, u "SIOOBE_FORMATTER"), (0, u "Ljava/util/function/BiFunction;"), (0, .class_ 126), (0, u "jdk/internal/util/Preconditions$2"), (3, u "AIOOBE_FORMATTER"), (0, .class_ 132), (0, u "jdk/internal/util/Preconditions$3"), (3, u "IOOBE_FORMATTER"), (41, u "(IILjava/util/function/BiFunction;)I")] 15

def k12m0 : Method := { name := "<init>", desc := "()V", sig := { parameters := [], returnType := none }, accessFlags := 1, code := none }
def k12c1 : Code := { maxStack := 3, maxLocals := 3, code := jdk_41_method_11_code, exceptionTable := #[], attributes := #[] }
def k12m1 : Method := { name := "checkIndex", desc := "(IILjava/util/function/BiFunction;)I", sig := { parameters := [.int, .int, (.object "java/util/function/BiFunction")], returnType := some .int }, accessFlags := 9, code := some k12c1 }
/-- jdk/internal/util/Preconditions -/
def k12 : Class := { plain "jdk/internal/util/Preconditions" (some 0) with
  accessFlags := 33
  interfaces := #[]
  cf := some (fileOf pool12 24 #[.nestMembers #[55, 131, 125, 114]] #[{ accessFlags := 1, nameIndex := 5, descriptorIndex := 6, attributes := #[] }, { accessFlags := 9, nameIndex := 33, descriptorIndex := 178, attributes := #[] }] 33 2 #[] #[{ accessFlags := 25, nameIndex := 123, descriptorIndex := 124, attributes := #[] }, { accessFlags := 25, nameIndex := 130, descriptorIndex := 124, attributes := #[] }, { accessFlags := 25, nameIndex := 136, descriptorIndex := 124, attributes := #[] }])
  fields := #[{ name := "SIOOBE_FORMATTER", type := (.object "java/util/function/BiFunction"), accessFlags := 25, slot := 0, constantValue := 0 }, { name := "AIOOBE_FORMATTER", type := (.object "java/util/function/BiFunction"), accessFlags := 25, slot := 1, constantValue := 0 }, { name := "IOOBE_FORMATTER", type := (.object "java/util/function/BiFunction"), accessFlags := 25, slot := 2, constantValue := 0 }]
  methods := #[k12m0, k12m1]
  instanceTypes := #[]
  staticTypes := #[(.object "java/util/function/BiFunction"), (.object "java/util/function/BiFunction"), (.object "java/util/function/BiFunction")]
  resolved := Array.replicate 194 none
  statics := some 1 }

def pool13 : Array CpInfo := pool [(9, u "<init>"), (6, .class_ 18), (1, u "java/lang/Object"), (0, u "()V"), (1, .class_ 23), (1, u "jdk/internal/util/ArraysSupport"), (0, u "LOG2_ARRAY_LONG_INDEX_SCALE"), (0, u "I"), (2, u "U"), (0, u "Ljdk/internal/misc/Unsafe;"), (8, u "BIG_ENDIAN"), (0, u "Z"), (8, u "LOG2_BYTE_BIT_SIZE"), (4, u "LOG2_ARRAY_INT_INDEX_SCALE"), (54, u "JLA"), (0, u "Ljdk/internal/access/JavaLangAccess;"), (11, u "LOG2_ARRAY_BOOLEAN_INDEX_SCALE"), (9, u "LOG2_ARRAY_BYTE_INDEX_SCALE"), (5, u "LOG2_ARRAY_CHAR_INDEX_SCALE"), (5, u "LOG2_ARRAY_SHORT_INDEX_SCALE"), (18, u "LOG2_ARRAY_FLOAT_INDEX_SCALE"), (24, u "LOG2_ARRAY_DOUBLE_INDEX_SCALE"), (89, u "T_BOOLEAN"), (2, u "T_CHAR"), (1, u "T_FLOAT"), (1, u "T_DOUBLE"), (1, u "T_BYTE"), (1, u "T_SHORT"), (1, u "T_INT"), (1, u "T_LONG"), (1, u "SOFT_MAX_ARRAY_LENGTH")] 83

def k13m0 : Method := { name := "<init>", desc := "()V", sig := { parameters := [], returnType := none }, accessFlags := 2, code := none }
/-- jdk/internal/util/ArraysSupport -/
def k13 : Class := { plain "jdk/internal/util/ArraysSupport" (some 0) with
  accessFlags := 33
  interfaces := #[]
  cf := some (fileOf pool13 21 #[] #[{ accessFlags := 2, nameIndex := 9, descriptorIndex := 19, attributes := #[] }] 33 16 #[] #[{ accessFlags := 24, nameIndex := 28, descriptorIndex := 29, attributes := #[] }, { accessFlags := 26, nameIndex := 38, descriptorIndex := 39, attributes := #[] }, { accessFlags := 25, nameIndex := 121, descriptorIndex := 25, attributes := #[] }, { accessFlags := 25, nameIndex := 131, descriptorIndex := 25, attributes := #[] }, { accessFlags := 25, nameIndex := 137, descriptorIndex := 25, attributes := #[] }, { accessFlags := 25, nameIndex := 143, descriptorIndex := 25, attributes := #[] }, { accessFlags := 25, nameIndex := 53, descriptorIndex := 25, attributes := #[] }, { accessFlags := 25, nameIndex := 24, descriptorIndex := 25, attributes := #[] }, { accessFlags := 25, nameIndex := 162, descriptorIndex := 25, attributes := #[] }, { accessFlags := 25, nameIndex := 187, descriptorIndex := 25, attributes := #[] }, { accessFlags := 26, nameIndex := 48, descriptorIndex := 25, attributes := #[] }, { accessFlags := 25, nameIndex := 277, descriptorIndex := 25, attributes := #[] }, { accessFlags := 25, nameIndex := 280, descriptorIndex := 25, attributes := #[] }, { accessFlags := 25, nameIndex := 282, descriptorIndex := 25, attributes := #[] }, { accessFlags := 25, nameIndex := 284, descriptorIndex := 25, attributes := #[] }, { accessFlags := 25, nameIndex := 286, descriptorIndex := 25, attributes := #[] }, { accessFlags := 25, nameIndex := 288, descriptorIndex := 25, attributes := #[] }, { accessFlags := 25, nameIndex := 290, descriptorIndex := 25, attributes := #[] }, { accessFlags := 25, nameIndex := 292, descriptorIndex := 25, attributes := #[] }, { accessFlags := 26, nameIndex := 108, descriptorIndex := 109, attributes := #[] }, { accessFlags := 25, nameIndex := 294, descriptorIndex := 25, attributes := #[] }])
  fields := #[{ name := "U", type := (.object "jdk/internal/misc/Unsafe"), accessFlags := 24, slot := 0, constantValue := 0 }, { name := "BIG_ENDIAN", type := .boolean, accessFlags := 26, slot := 1, constantValue := 0 }, { name := "LOG2_ARRAY_BOOLEAN_INDEX_SCALE", type := .int, accessFlags := 25, slot := 2, constantValue := 0 }, { name := "LOG2_ARRAY_BYTE_INDEX_SCALE", type := .int, accessFlags := 25, slot := 3, constantValue := 0 }, { name := "LOG2_ARRAY_CHAR_INDEX_SCALE", type := .int, accessFlags := 25, slot := 4, constantValue := 0 }, { name := "LOG2_ARRAY_SHORT_INDEX_SCALE", type := .int, accessFlags := 25, slot := 5, constantValue := 0 }, { name := "LOG2_ARRAY_INT_INDEX_SCALE", type := .int, accessFlags := 25, slot := 6, constantValue := 0 }, { name := "LOG2_ARRAY_LONG_INDEX_SCALE", type := .int, accessFlags := 25, slot := 7, constantValue := 0 }, { name := "LOG2_ARRAY_FLOAT_INDEX_SCALE", type := .int, accessFlags := 25, slot := 8, constantValue := 0 }, { name := "LOG2_ARRAY_DOUBLE_INDEX_SCALE", type := .int, accessFlags := 25, slot := 9, constantValue := 0 }, { name := "LOG2_BYTE_BIT_SIZE", type := .int, accessFlags := 26, slot := 10, constantValue := 0 }, { name := "T_BOOLEAN", type := .int, accessFlags := 25, slot := 11, constantValue := 0 }, { name := "T_CHAR", type := .int, accessFlags := 25, slot := 12, constantValue := 0 }, { name := "T_FLOAT", type := .int, accessFlags := 25, slot := 13, constantValue := 0 }, { name := "T_DOUBLE", type := .int, accessFlags := 25, slot := 14, constantValue := 0 }, { name := "T_BYTE", type := .int, accessFlags := 25, slot := 15, constantValue := 0 }, { name := "T_SHORT", type := .int, accessFlags := 25, slot := 16, constantValue := 0 }, { name := "T_INT", type := .int, accessFlags := 25, slot := 17, constantValue := 0 }, { name := "T_LONG", type := .int, accessFlags := 25, slot := 18, constantValue := 0 }, { name := "JLA", type := (.object "jdk/internal/access/JavaLangAccess"), accessFlags := 26, slot := 19, constantValue := 0 }, { name := "SOFT_MAX_ARRAY_LENGTH", type := .int, accessFlags := 25, slot := 20, constantValue := 0 }]
  methods := #[k13m0]
  instanceTypes := #[]
  staticTypes := #[(.object "jdk/internal/misc/Unsafe"), .boolean, .int, .int, .int, .int, .int, .int, .int, .int, .int, .int, .int, .int, .int, .int, .int, .int, .int, (.object "jdk/internal/access/JavaLangAccess"), .int]
  resolved := Array.replicate 378 none
  statics := none }

def pool14 : Array CpInfo := pool [(1, u "java/lang/Cloneable"), (0, .class_ 1), (0, u "java/lang/Object"), (0, .class_ 3)] 3

/-- java/lang/Cloneable -/
def k14 : Class := { plain "java/lang/Cloneable" (some 0) with
  accessFlags := 1537
  interfaces := #[]
  cf := some (fileOf pool14 2 #[] #[] 1537 4 #[] #[])
  fields := #[]
  methods := #[]
  instanceTypes := #[]
  staticTypes := #[]
  resolved := Array.replicate 8 none
  statics := none }

/-- the primitive byte -/
def k15 : Class := { plain "byte" none with kind := .primitive 'B', accessFlags := 0x411 }
/-- [B -/
def k16 : Class := { plain "[B" (some 0) with kind := .array 15 .byte, interfaces := #[14, 3], accessFlags := 1041 }

/-- the primitive char -/
def k17 : Class := { plain "char" none with kind := .primitive 'C', accessFlags := 0x411 }
/-- [C -/
def k18 : Class := { plain "[C" (some 0) with kind := .array 17 .char, interfaces := #[14, 3], accessFlags := 1041 }

/-- the primitive int -/
def k19 : Class := { plain "int" none with kind := .primitive 'I', accessFlags := 0x411 }
/-- [I -/
def k20 : Class := { plain "[I" (some 0) with kind := .array 19 .int, interfaces := #[14, 3], accessFlags := 1041 }

/-- the primitive long -/
def k21 : Class := { plain "long" none with kind := .primitive 'J', accessFlags := 0x411 }
/-- [J -/
def k22 : Class := { plain "[J" (some 0) with kind := .array 21 .long, interfaces := #[14, 3], accessFlags := 1041 }

def heap : Heap := #[{ cls := 8, slots := #[.long 0, .int 1, .null, .int 0, .null, .int 0, .int 0], vm := .statics 8 },
  { cls := 12, slots := #[.null, .null, .null], vm := .statics 12 }]
def classes : Array Class := #[k0, k1, k2, k3, k4, k5, k6, k7, k8, k9, k10, k11, k12, k13, k14, k15, k16, k17, k18, k19, k20, k21, k22]
def interned : List (Array UInt16 × Addr) := []
def slotsUsed : Nat := 10
def theMethod : MethodId := ⟨1, 2⟩
def args0 : Array Value := #[.long 12345, .int 2, .int 3, .int 4]
def aboutOver (below : List Frame) : State where
  vm := { classes := classes, interned := interned.toArray }
  heap := heap
  slotsUsed := slotsUsed
  threads := #[{ frames := .invoking theMethod args0 :: below }]
def below0 : List Frame := [.native { method := ⟨0, 0⟩, args := #[] }]
def about1 : State := aboutOver below0
def p0 : Program := .bare "" "" ""
def e0 : Env := launch0.env 0 0 0
theorem w_frames : about1.frames = Frame.invoking theMethod args0 :: below0 := rfl
set_option maxRecDepth 65536 in
theorem w_args : argsFit about1.vm theMethod args0 = true := by decide +kernel
set_option maxRecDepth 65536 in
theorem w_heap : heapFits about1 = true := by decide +kernel
set_option maxRecDepth 65536 in
theorem w_runnable : about1.curStatus? = some .runnable := by decide +kernel
set_option maxRecDepth 65536 in
theorem w_alone : about1.alone = true := by decide +kernel
set_option maxRecDepth 65536 in
theorem w_named : about1.methodNamed? x = some theMethod := by decide +kernel
set_option maxRecDepth 65536 in
theorem w_hears : about1.hears theMethod below0 = true := by decide +kernel
set_option maxRecDepth 65536 in
theorem w_ripe : about1.ripe theMethod args0 below0 = true := by decide +kernel
theorem w_running : about1.status = .running := rfl
set_option maxRecDepth 65536 in
theorem w_room : about1.hasRoom e0.platform room_1 = true :=
  launch0.hasRoom_least _ room_1 (by decide +kernel) (by decide +kernel) (by decide +kernel) (by decide +kernel) (by decide +kernel) (by decide +kernel)
theorem allAtoms_all (ts : List Jvm.Cond) (a : Array Jvm.Value) (st : Jvm.State) : (allAtoms ts).before a st = ts.all (fun c => c.before a st) := by
  induction ts with
  | nil => rfl
  | cons c t ih =>
    show (Jvm.Cond.and c (allAtoms t)).before a st = _
    rw [Jvm.Cond.before_and, ih, List.all_cons]
def words1 : List Jvm.Cond := Jvm.Cond.code x code maxLocals ret :: tables_1
/-- a 'code' word, met by the world's own term for the bytes: nothing is compared byte by byte -/
theorem code_word {y : MethodName} {bytes : ByteArray} {mx : Nat} {rt : Option FieldType} {a : Array Value} {s : State} {m : MethodId} {meth : Method} {c : Code} (h1 : s.methodNamed? y = some m) (h2 : s.vm.method? m = some meth) (h3 : meth.code = some c) (h4 : c.code = bytes)
    (h5 : (c.maxLocals == mx && c.exceptionTable.isEmpty && decide (c.maxStack ≤ mostOperands) && decide (meth.sig.returnType = rt) && !meth.locks && decide (parseMethodDescriptor y.desc = some meth.sig)) = true) : (Jvm.Cond.code y bytes mx rt).before a s = true := by
  simp only [Bool.and_eq_true, beq_iff_eq, Bool.not_eq_true', decide_eq_true_eq] at h5
  obtain ⟨⟨⟨⟨⟨g1, g2⟩, g3⟩, g4⟩, g5⟩, g6⟩ := h5
  simp [Cond.before, Cond.holds, Cond.value, h1, h2, h3, h4, g1, g2, g3, g4, g5, g6]
def isCode : Jvm.Cond → Bool
  | .code _ _ _ _ => true
  | _ => false
theorem all_split {L : List Jvm.Cond} {P : Jvm.Cond → Bool} (h1 : L.all (fun c => isCode c || P c) = true) (h2 : ∀ c ∈ L.filter isCode, P c = true) : L.all P = true := by
  refine List.all_eq_true.mpr fun c hc => ?_
  have h := List.all_eq_true.mp h1 c hc
  rcases Bool.eq_false_or_eq_true (isCode c) with hi | hi
  · exact h2 c (List.mem_filter.mpr ⟨hc, hi⟩)
  · simpa [hi] using h
set_option maxRecDepth 65536 in
theorem w_c0 : (Jvm.Cond.code x code maxLocals ret).before args0 about1 = true := code_word (m := ⟨1, 2⟩) (meth := k1m2) (c := k1c2) (by decide +kernel) rfl rfl rfl (by decide +kernel)
set_option maxRecDepth 65536 in
theorem w_c1 : (Jvm.Cond.code ({ cls := "java/lang/Math", name := "max", desc := "(JJ)J" } : Jvm.MethodName) jdk_29_method_66_code (4 : Nat) (Option.some Jvm.ClassFile.FieldType.long)).before args0 about1 = true := code_word (m := ⟨2, 1⟩) (meth := k2m1) (c := k2c1) (by decide +kernel) rfl rfl rfl (by decide +kernel)
set_option maxRecDepth 65536 in
theorem w_c2 : (Jvm.Cond.code ({ cls := "org/linkloom/io/FieldsIntegerPinLaw", name := "at", desc := "(IIIIJCC[J)C" } : Jvm.MethodName) method_2_code (10 : Nat) (Option.some Jvm.ClassFile.FieldType.char)).before args0 about1 = true := code_word (m := ⟨1, 1⟩) (meth := k1m1) (c := k1c1) (by decide +kernel) rfl rfl rfl (by decide +kernel)
set_option maxRecDepth 65536 in
theorem w_c3 : (Jvm.Cond.code ({ cls := "java/lang/String", name := "<init>", desc := "([C)V" } : Jvm.MethodName) jdk_42_method_3_code (2 : Nat) (Option.none : Option Jvm.ClassFile.FieldType)).before args0 about1 = true := code_word (m := ⟨8, 1⟩) (meth := k8m1) (c := k8c1) (by decide +kernel) rfl rfl rfl (by decide +kernel)
set_option maxRecDepth 65536 in
theorem w_c4 : (Jvm.Cond.code ({ cls := "java/lang/String", name := "<init>", desc := "([CIILjava/lang/Void;)V" } : Jvm.MethodName) jdk_42_method_149_code (6 : Nat) (Option.none : Option Jvm.ClassFile.FieldType)).before args0 about1 = true := code_word (m := ⟨8, 3⟩) (meth := k8m3) (c := k8c3) (by decide +kernel) rfl rfl rfl (by decide +kernel)
set_option maxRecDepth 65536 in
theorem w_c5 : (Jvm.Cond.code ({ cls := "java/lang/Object", name := "<init>", desc := "()V" } : Jvm.MethodName) object_method_1_code (1 : Nat) (Option.none : Option Jvm.ClassFile.FieldType)).before args0 about1 = true := code_word (m := ⟨0, 0⟩) (meth := k0m0) (c := k0c0) (by decide +kernel) rfl rfl rfl (by decide +kernel)
set_option maxRecDepth 65536 in
theorem w_c6 : (Jvm.Cond.code ({ cls := "java/lang/StringUTF16", name := "compress", desc := "([CII)[B" } : Jvm.MethodName) jdk_52_method_16_code (6 : Nat) (Option.some (Jvm.ClassFile.FieldType.array Jvm.ClassFile.FieldType.byte))).before args0 about1 = true := code_word (m := ⟨9, 2⟩) (meth := k9m2) (c := k9c2) (by decide +kernel) rfl rfl rfl (by decide +kernel)
set_option maxRecDepth 65536 in
theorem w_c7 : (Jvm.Cond.code ({ cls := "java/lang/StringUTF16", name := "compress", desc := "([CI[BII)I" } : Jvm.MethodName) jdk_52_method_21_code (7 : Nat) (Option.some Jvm.ClassFile.FieldType.int)).before args0 about1 = true := code_word (m := ⟨9, 3⟩) (meth := k9m3) (c := k9c3) (by decide +kernel) rfl rfl rfl (by decide +kernel)
set_option maxRecDepth 65536 in
theorem w_c8 : (Jvm.Cond.code ({ cls := "java/lang/StringUTF16", name := "coderFromArrayLen", desc := "([BI)B" } : Jvm.MethodName) jdk_52_method_15_code (2 : Nat) (Option.some Jvm.ClassFile.FieldType.byte)).before args0 about1 = true := code_word (m := ⟨9, 1⟩) (meth := k9m1) (c := k9c1) (by decide +kernel) rfl rfl rfl (by decide +kernel)
set_option maxRecDepth 65536 in
theorem w_c9 : (Jvm.Cond.code ({ cls := "org/linkloom/io/Fields", name := "integer", desc := "(Ljava/lang/String;IIILjava/lang/String;)I" } : Jvm.MethodName) prog_23_method_4_code (10 : Nat) (Option.some Jvm.ClassFile.FieldType.int)).before args0 about1 = true := code_word (m := ⟨10, 1⟩) (meth := k10m1) (c := k10c1) (by decide +kernel) rfl rfl rfl (by decide +kernel)
set_option maxRecDepth 65536 in
theorem w_c10 : (Jvm.Cond.code ({ cls := "java/lang/String", name := "charAt", desc := "(I)C" } : Jvm.MethodName) jdk_42_method_56_code (2 : Nat) (Option.some Jvm.ClassFile.FieldType.char)).before args0 about1 = true := code_word (m := ⟨8, 2⟩) (meth := k8m2) (c := k8c2) (by decide +kernel) rfl rfl rfl (by decide +kernel)
set_option maxRecDepth 65536 in
theorem w_c11 : (Jvm.Cond.code ({ cls := "java/lang/String", name := "isLatin1", desc := "()Z" } : Jvm.MethodName) jdk_42_method_154_code (1 : Nat) (Option.some Jvm.ClassFile.FieldType.boolean)).before args0 about1 = true := code_word (m := ⟨8, 4⟩) (meth := k8m4) (c := k8c4) (by decide +kernel) rfl rfl rfl (by decide +kernel)
set_option maxRecDepth 65536 in
theorem w_c12 : (Jvm.Cond.code ({ cls := "java/lang/StringLatin1", name := "charAt", desc := "([BI)C" } : Jvm.MethodName) jdk_43_method_2_code (2 : Nat) (Option.some Jvm.ClassFile.FieldType.char)).before args0 about1 = true := code_word (m := ⟨11, 1⟩) (meth := k11m1) (c := k11c1) (by decide +kernel) rfl rfl rfl (by decide +kernel)
set_option maxRecDepth 65536 in
theorem w_c13 : (Jvm.Cond.code ({ cls := "java/lang/String", name := "checkIndex", desc := "(II)V" } : Jvm.MethodName) jdk_42_method_155_code (2 : Nat) (Option.none : Option Jvm.ClassFile.FieldType)).before args0 about1 = true := code_word (m := ⟨8, 5⟩) (meth := k8m5) (c := k8c5) (by decide +kernel) rfl rfl rfl (by decide +kernel)
set_option maxRecDepth 65536 in
theorem w_c14 : (Jvm.Cond.code ({ cls := "jdk/internal/util/Preconditions", name := "checkIndex", desc := "(IILjava/util/function/BiFunction;)I" } : Jvm.MethodName) jdk_41_method_11_code (3 : Nat) (Option.some Jvm.ClassFile.FieldType.int)).before args0 about1 = true := code_word (m := ⟨12, 1⟩) (meth := k12m1) (c := k12c1) (by decide +kernel) rfl rfl rfl (by decide +kernel)
set_option maxRecDepth 65536 in
theorem w_c15 : (Jvm.Cond.code ({ cls := "org/linkloom/io/Fields", name := "digits", desc := "(Ljava/lang/String;II)J" } : Jvm.MethodName) prog_23_method_5_code (7 : Nat) (Option.some Jvm.ClassFile.FieldType.long)).before args0 about1 = true := code_word (m := ⟨10, 2⟩) (meth := k10m2) (c := k10c2) (by decide +kernel) rfl rfl rfl (by decide +kernel)
def codes1 : List Jvm.Cond := [Jvm.Cond.code x code maxLocals ret, Jvm.Cond.code ({ cls := "java/lang/Math", name := "max", desc := "(JJ)J" } : Jvm.MethodName) jdk_29_method_66_code (4 : Nat) (Option.some Jvm.ClassFile.FieldType.long), Jvm.Cond.code ({ cls := "org/linkloom/io/FieldsIntegerPinLaw", name := "at", desc := "(IIIIJCC[J)C" } : Jvm.MethodName) method_2_code (10 : Nat) (Option.some Jvm.ClassFile.FieldType.char), Jvm.Cond.code ({ cls := "java/lang/String", name := "<init>", desc := "([C)V" } : Jvm.MethodName) jdk_42_method_3_code (2 : Nat) (Option.none : Option Jvm.ClassFile.FieldType), Jvm.Cond.code ({ cls := "java/lang/String", name := "<init>", desc := "([CIILjava/lang/Void;)V" } : Jvm.MethodName) jdk_42_method_149_code (6 : Nat) (Option.none : Option Jvm.ClassFile.FieldType), Jvm.Cond.code ({ cls := "java/lang/Object", name := "<init>", desc := "()V" } : Jvm.MethodName) object_method_1_code (1 : Nat) (Option.none : Option Jvm.ClassFile.FieldType), Jvm.Cond.code ({ cls := "java/lang/StringUTF16", name := "compress", desc := "([CII)[B" } : Jvm.MethodName) jdk_52_method_16_code (6 : Nat) (Option.some (Jvm.ClassFile.FieldType.array Jvm.ClassFile.FieldType.byte)), Jvm.Cond.code ({ cls := "java/lang/StringUTF16", name := "compress", desc := "([CI[BII)I" } : Jvm.MethodName) jdk_52_method_21_code (7 : Nat) (Option.some Jvm.ClassFile.FieldType.int), Jvm.Cond.code ({ cls := "java/lang/StringUTF16", name := "coderFromArrayLen", desc := "([BI)B" } : Jvm.MethodName) jdk_52_method_15_code (2 : Nat) (Option.some Jvm.ClassFile.FieldType.byte), Jvm.Cond.code ({ cls := "org/linkloom/io/Fields", name := "integer", desc := "(Ljava/lang/String;IIILjava/lang/String;)I" } : Jvm.MethodName) prog_23_method_4_code (10 : Nat) (Option.some Jvm.ClassFile.FieldType.int), Jvm.Cond.code ({ cls := "java/lang/String", name := "charAt", desc := "(I)C" } : Jvm.MethodName) jdk_42_method_56_code (2 : Nat) (Option.some Jvm.ClassFile.FieldType.char), Jvm.Cond.code ({ cls := "java/lang/String", name := "isLatin1", desc := "()Z" } : Jvm.MethodName) jdk_42_method_154_code (1 : Nat) (Option.some Jvm.ClassFile.FieldType.boolean), Jvm.Cond.code ({ cls := "java/lang/StringLatin1", name := "charAt", desc := "([BI)C" } : Jvm.MethodName) jdk_43_method_2_code (2 : Nat) (Option.some Jvm.ClassFile.FieldType.char), Jvm.Cond.code ({ cls := "java/lang/String", name := "checkIndex", desc := "(II)V" } : Jvm.MethodName) jdk_42_method_155_code (2 : Nat) (Option.none : Option Jvm.ClassFile.FieldType), Jvm.Cond.code ({ cls := "jdk/internal/util/Preconditions", name := "checkIndex", desc := "(IILjava/util/function/BiFunction;)I" } : Jvm.MethodName) jdk_41_method_11_code (3 : Nat) (Option.some Jvm.ClassFile.FieldType.int), Jvm.Cond.code ({ cls := "org/linkloom/io/Fields", name := "digits", desc := "(Ljava/lang/String;II)J" } : Jvm.MethodName) prog_23_method_5_code (7 : Nat) (Option.some Jvm.ClassFile.FieldType.long)]
set_option maxRecDepth 65536 in
theorem codes_eq : words1.filter isCode = codes1 := rfl
theorem w_codes : ∀ c ∈ words1.filter isCode, c.before args0 about1 = true := by
  rw [codes_eq]
  intro c hc
  simp only [codes1, List.mem_cons, List.not_mem_nil, or_false] at hc
  rcases hc with rfl | rfl | rfl | rfl | rfl | rfl | rfl | rfl | rfl | rfl | rfl | rfl | rfl | rfl | rfl | rfl
  · exact w_c0
  · exact w_c1
  · exact w_c2
  · exact w_c3
  · exact w_c4
  · exact w_c5
  · exact w_c6
  · exact w_c7
  · exact w_c8
  · exact w_c9
  · exact w_c10
  · exact w_c11
  · exact w_c12
  · exact w_c13
  · exact w_c14
  · exact w_c15
set_option maxRecDepth 65536 in
theorem w_t1 : (words1.take 24).all (fun c => isCode c || c.before args0 about1) = true := by decide +kernel
set_option maxRecDepth 65536 in
theorem w_t2 : ((words1.drop 24).take 24).all (fun c => isCode c || c.before args0 about1) = true := by decide +kernel
set_option maxRecDepth 65536 in
theorem w_t3 : (((words1.drop 24).drop 24).take 24).all (fun c => isCode c || c.before args0 about1) = true := by decide +kernel
set_option maxRecDepth 65536 in
theorem w_t4 : (((words1.drop 24).drop 24).drop 24).all (fun c => isCode c || c.before args0 about1) = true := by decide +kernel
theorem w_tables : (allAtoms (Jvm.Cond.code x code maxLocals ret :: tables_1)).before args0 about1 = true := by
  rw [allAtoms_all]
  show words1.all (fun c => c.before args0 about1) = true
  refine all_split ?_ w_codes
  rw [← List.take_append_drop 24 words1, List.all_append, w_t1, ← List.take_append_drop 24 (words1.drop 24), List.all_append, w_t2, ← List.take_append_drop 24 ((words1.drop 24).drop 24), List.all_append, w_t3, w_t4]
  rfl
set_option maxRecDepth 65536 in
theorem w_rest : rest_1_c.before args0 about1 = true := by decide +kernel
set_option maxRecDepth 65536 in
theorem w_case : (Jvm.Cond.and given_1 narrow_1).before args0 about1 = true := by decide +kernel
theorem w_applies : (headSpec (Jvm.Cond.code x code maxLocals ret :: tables_1) room_1).applies x e0.platform about1 = true :=
  (Spec.applies_iff w_frames).mpr ⟨w_running, w_runnable, w_alone, w_named, w_hears, w_ripe, w_room, w_tables⟩
theorem atStart : AtStart classFile x code maxLocals ret World_1 tables_1 room_1 Calls_1 rest_1 Pre_1 launch0 p0 e0 about1 theMethod args0 below0 :=
  ⟨lists_1, trivial, launch0.admits_env _ _ _, launch0.least_env, fairChoices_fair.cas, fairChoices_fair.clock, w_frames, w_args, w_heap, w_applies, trivial, w_rest, w_case⟩
end start1
theorem witness_1 : WitnessClaimed_1 := ⟨start1.p0, start1.e0, start1.about1, start1.theMethod, start1.args0, start1.below0, start1.atStart⟩
end Jvm.Pilot.@@N@@
