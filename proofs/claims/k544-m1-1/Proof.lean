import JvmDerived
import JvmDerived.Pilot.@@N@@Statement
import JvmDerived.Pilot.@@N@@Code
set_option linter.unusedVariables false
set_option linter.unusedSimpArgs false
namespace Jvm.OwnKit
open Jvm Jvm.ClassFile Sem Op Lib Jvm.Stand Jvm.Free Jvm.LawKit Jvm.RoadKit
/-! A small calculus of my own over the library's laws: Go says 'from here the body comes to its end, and what it leaves satisfies Q'. -/
abbrev Bod : Type := Option (Vm → Heap → Prop) × Program × Launch × Env × Room × State × MethodId × Array Value × List Frame × Method × Code
abbrev Bod.p (B : Bod) : Program := B.2.1
abbrev Bod.l (B : Bod) : Launch := B.2.2.1
abbrev Bod.e (B : Bod) : Env := B.2.2.2.1
abbrev Bod.R (B : Bod) : Room := B.2.2.2.2.1
abbrev Bod.s (B : Bod) : State := B.2.2.2.2.2.1
abbrev Bod.m (B : Bod) : MethodId := B.2.2.2.2.2.2.1
abbrev Bod.args (B : Bod) : Array Value := B.2.2.2.2.2.2.2.1
abbrev Bod.below (B : Bod) : List Frame := B.2.2.2.2.2.2.2.2.1
abbrev Bod.meth (B : Bod) : Method := B.2.2.2.2.2.2.2.2.2.1
abbrev Bod.c (B : Bod) : Code := B.2.2.2.2.2.2.2.2.2.2
abbrev St (B : Bod) (T : State) (locs : List Loc) (k n : Nat) : Prop := Stand B.p B.l B.e B.R B.s B.m B.args B.below B.meth B.c T locs k n
def EndB : Option (Vm → Heap → Prop) → State → Outcome → State → List Loc → Nat → Nat → Prop
  | none, s, o, t, L, k, n => FrameEnd s o t L k n
  | some V, s, o, t, L, k, n => ReturnedEndW s o t L k n ∧ V t.vm t.heap
def EndOk (B : Bod) (h : Heap) : Prop := ∀ V, B.1 = some V → ∀ vm', B.s.WarmedH vm' → V vm' h
theorem EndB.of {B : Bod} {t : State} {o : Outcome} {L : List Loc} {k n : Nat} (hE : EndOk B t.heap) (h : FrameEnd B.s o t L k n) : EndB B.1 B.s o t L k n := by
  have hE' := hE
  unfold EndOk at hE'
  cases hB : B.1 with
  | none => exact h
  | some V => exact ⟨ReturnedEndW.of_narrow h.1 h.2.1 h.2.2, hE' V hB _ h.2.1⟩
def Fin0 (B : Bod) (n0 : Nat) (Q : Option Value → Heap → Prop) (g : JFrame) (T : State) : Prop :=
  ∃ t o, Steps B.p.tables B.e B.below (T.setTop g) t ∧ t.status = .running ∧ Ended t B.below o ∧ ∃ v L, o = .returned v ∧ (Fr n0 L ∧ Q v t.heap) ∧ EndB B.1 B.s o t L B.R.cells B.R.slots
def Go (B : Bod) (n0 : Nat) (Q : Option Value → Heap → Prop) (h : Heap) (k n pc : Nat) (L : Array Slot) (st : List Value) : Prop :=
  ∀ T locs, St B T locs k n → Fr n0 locs → T.heap = h → Fin0 B n0 Q (mkF B.m pc L st) T
def Ctx (B : Bod) (l : Launch) (rm : Room) (bytes : ByteArray) (own nm : String) (maxL : Nat) (ret : Option FieldType) (Z : State) : Prop :=
  B.l = l ∧ B.R = rm ∧ B.p.tables.exec = Jvm.exec ∧ B.c.code = bytes ∧ Z.Warmed39 B.s.vm ∧ B.s.vm.findClass own = some B.m.cls ∧ B.meth.name = nm ∧ B.c.maxLocals = maxL ∧ B.meth.sig.returnType = ret ∧ B.meth.locks = false
/-- a method's contract: called with these arguments over this heap it returns, and Q holds of what it returns and of the heap it leaves -/
def Met1 (l : Launch) (Z : State) (y : MethodName) (bytes : ByteArray) (maxL : Nat) (ret : Option FieldType) (rm : Room) (n0 : Nat) (as' : Array Value) (h0 : Heap) (Q : Option Value → Heap → Prop) : Prop :=
  ∀ ws : List Jvm.Cond, MetFree l y (head1 (Jvm.Cond.code y bytes maxL ret :: ws) rm) (fun a U => a = as' ∧ Z.Warmed39 U.vm ∧ U.heap = h0) (fun _ _ _ _ _ => True) (fun _ U o U' => ∃ v L, o = .returned v ∧ (Fr n0 L ∧ Q v U'.heap) ∧ FrameEnd U o U' L rm.cells rm.slots)
section Base
variable {B : Bod} {l : Launch} {rm : Room} {bytes : ByteArray} {own nm : String} {maxL : Nat} {ret : Option FieldType} {Z : State} {n0 : Nat} {Q : Option Value → Heap → Prop} {h : Heap} {k n pc pc' : Nat} {L L' : Array Slot} {st st' : List Value} {a0 : Array Value}
theorem met_of {y : MethodName} {as' : Array Value} (hp : plainFor y = true) {L0 : Array Slot} (hL : argsToLocals as' maxL = L0) (go : ∀ B : Bod, Ctx B l rm bytes y.cls y.name maxL ret Z → B.1 = none → Go B n0 Q h 0 0 0 L0 []) : Met1 l Z y bytes maxL ret rm n0 as' h Q := by
  intro ws
  refine MetFree.of_bodySF hp hisR ?_
  intro p e s m args below meth c s₁ Bd hml0 hP hK
  obtain ⟨rfl, hZ, hh⟩ := hP
  subst hL
  obtain ⟨t, o, h1, h2, h3, v, L, h4, h5, h6⟩ := go (none, p, l, e, rm, s, m, args, below, meth, c) ⟨rfl, rfl, Bd.exec, Bd.bytes, hZ, findClass_of_methodNamed Bd.named, (name_of_methodNamed Bd.named Bd.method).1, hml0, Bd.returns, BodyLoose.notSynchronized Bd⟩ rfl s₁ [] (Stand.of_body Bd) (Fr.nil n0) (by rw [← hh, Bd.state]; rfl)
  exact ⟨t, o, h1, h2, h3, v, L, h4, h5, h6⟩
/-- a step that moves the frame alone -/
theorem Go.step (f : ∀ T locs, St B T locs k n → T.heap = h → ∀ t, Steps B.p.tables B.e B.below (T.setTop (mkF B.m pc' L' st')) t → Steps B.p.tables B.e B.below (T.setTop (mkF B.m pc L st)) t) (go : Go B n0 Q h k n pc' L' st') : Go B n0 Q h k n pc L st := fun T locs X N eT => by
  obtain ⟨t, o, a, r⟩ := go T locs X N eT
  exact ⟨t, o, f T locs X eT t a, r⟩
/-- a step that moves the tables too -/
theorem Go.move (f : ∀ T locs, St B T locs k n → T.heap = h → ∃ T', St B T' locs k n ∧ T'.heap = h ∧ ∀ t, Steps B.p.tables B.e B.below (T'.setTop (mkF B.m pc' L' st')) t → Steps B.p.tables B.e B.below (T.setTop (mkF B.m pc L st)) t) (go : Go B n0 Q h k n pc' L' st') : Go B n0 Q h k n pc L st := fun T locs X N eT => by
  obtain ⟨T', X', e', f'⟩ := f T locs X eT
  obtain ⟨t, o, a, r⟩ := go T' locs X' N e'
  exact ⟨t, o, f' t a, r⟩
theorem Go.eqs {st2 : List Value} (go : Go B n0 Q h k n pc L st2) (e : st = st2) : Go B n0 Q h k n pc L st := e ▸ go
theorem Go.eqh {h2 : Heap} (go : Go B n0 Q h2 k n pc L st) (e : h = h2) : Go B n0 Q h k n pc L st := e ▸ go
theorem g_iload_n (C : Ctx B l rm bytes own nm maxL ret Z) {i : Fin 4} {v : Int32} (hd : decode bytes pc = .ok (.iload_n i, 1)) (hl : L[i.val]? = some (.val (.int v))) (hpc : pc + 1 = pc') (go : Go B n0 Q h k n pc' L (.int v :: st)) : Go B n0 Q h k n pc L st := go.step fun T locs X eT t q => Jvm.Free.XS.iloadN X.here C.2.2.1 rfl (hb C.2.2.2.1 hd) hl (by subst hpc; exact q)
theorem g_iload (C : Ctx B l rm bytes own nm maxL ret Z) {i : Nat} {v : Int32} (hd : decode bytes pc = .ok (.iload i, 2)) (hl : L[i]? = some (.val (.int v))) (hpc : pc + 2 = pc') (go : Go B n0 Q h k n pc' L (.int v :: st)) : Go B n0 Q h k n pc L st := go.step fun T locs X eT t q => Jvm.Free.XS.iload X.here C.2.2.1 rfl (hb C.2.2.2.1 hd) hl (by subst hpc; exact q)
theorem g_lload_n (C : Ctx B l rm bytes own nm maxL ret Z) {i : Fin 4} {v : Int64} (hd : decode bytes pc = .ok (.lload_n i, 1)) (hl : L[i.val]? = some (.val (.long v))) (hpc : pc + 1 = pc') (go : Go B n0 Q h k n pc' L (.long v :: st)) : Go B n0 Q h k n pc L st := go.step fun T locs X eT t q => Jvm.Free.XT.lloadN X.here C.2.2.1 rfl (hb C.2.2.2.1 hd) hl (by subst hpc; exact q)
theorem g_lload (C : Ctx B l rm bytes own nm maxL ret Z) {i : Nat} {v : Int64} (hd : decode bytes pc = .ok (.lload i, 2)) (hl : L[i]? = some (.val (.long v))) (hpc : pc + 2 = pc') (go : Go B n0 Q h k n pc' L (.long v :: st)) : Go B n0 Q h k n pc L st := go.step fun T locs X eT t q => Jvm.Free.XT.lload X.here C.2.2.1 rfl (hb C.2.2.2.1 hd) hl (by subst hpc; exact q)
theorem g_aload_n (C : Ctx B l rm bytes own nm maxL ret Z) {i : Fin 4} {v : Value} (hd : decode bytes pc = .ok (.aload_n i, 1)) (hl : L[i.val]? = some (.val v)) (hv : v.isRef = true) (hpc : pc + 1 = pc') (go : Go B n0 Q h k n pc' L (v :: st)) : Go B n0 Q h k n pc L st := go.step fun T locs X eT t q => Jvm.Free.XS.aloadN X.here C.2.2.1 rfl (hb C.2.2.2.1 hd) hl hv (by subst hpc; exact q)
theorem g_aload (C : Ctx B l rm bytes own nm maxL ret Z) {i : Nat} {v : Value} (hd : decode bytes pc = .ok (.aload i, 2)) (hl : L[i]? = some (.val v)) (hv : v.isRef = true) (hpc : pc + 2 = pc') (go : Go B n0 Q h k n pc' L (v :: st)) : Go B n0 Q h k n pc L st := go.step fun T locs X eT t q => Jvm.Free.XS.aload X.here C.2.2.1 rfl (hb C.2.2.2.1 hd) hl hv (by subst hpc; exact q)
theorem g_istore_n (C : Ctx B l rm bytes own nm maxL ret Z) {i : Fin 4} {v : Int32} (hd : decode bytes pc = .ok (.istore_n i, 1)) (hl : storeLocals L i.val (.int v) = some L') (hpc : pc + 1 = pc') (go : Go B n0 Q h k n pc' L' st) : Go B n0 Q h k n pc L (.int v :: st) := go.step fun T locs X eT t q => Jvm.Free.XS.istoreN X.here C.2.2.1 rfl (hb C.2.2.2.1 hd) rfl hl (by subst hpc; exact q)
theorem g_istore (C : Ctx B l rm bytes own nm maxL ret Z) {i : Nat} {v : Int32} (hd : decode bytes pc = .ok (.istore i, 2)) (hl : storeLocals L i (.int v) = some L') (hpc : pc + 2 = pc') (go : Go B n0 Q h k n pc' L' st) : Go B n0 Q h k n pc L (.int v :: st) := go.step fun T locs X eT t q => Jvm.Free.XS.istore X.here C.2.2.1 rfl (hb C.2.2.2.1 hd) rfl hl (by subst hpc; exact q)
theorem g_lstore_n (C : Ctx B l rm bytes own nm maxL ret Z) {i : Fin 4} {v : Int64} (hd : decode bytes pc = .ok (.lstore_n i, 1)) (hl : storeLocals L i.val (.long v) = some L') (hpc : pc + 1 = pc') (go : Go B n0 Q h k n pc' L' st) : Go B n0 Q h k n pc L (.long v :: st) := go.step fun T locs X eT t q => Jvm.Free.XT.lstoreN X.here C.2.2.1 rfl (hb C.2.2.2.1 hd) rfl hl (by subst hpc; exact q)
theorem g_lstore (C : Ctx B l rm bytes own nm maxL ret Z) {i : Nat} {v : Int64} (hd : decode bytes pc = .ok (.lstore i, 2)) (hl : storeLocals L i (.long v) = some L') (hpc : pc + 2 = pc') (go : Go B n0 Q h k n pc' L' st) : Go B n0 Q h k n pc L (.long v :: st) := go.step fun T locs X eT t q => Jvm.Free.XT.lstore X.here C.2.2.1 rfl (hb C.2.2.2.1 hd) rfl hl (by subst hpc; exact q)
theorem g_astore_n (C : Ctx B l rm bytes own nm maxL ret Z) {i : Fin 4} {v : Value} (hd : decode bytes pc = .ok (.astore_n i, 1)) (hl : storeLocals L i.val v = some L') (hv : v.isRef = true) (hpc : pc + 1 = pc') (go : Go B n0 Q h k n pc' L' st) : Go B n0 Q h k n pc L (v :: st) := go.step fun T locs X eT t q => Jvm.Free.XS.astoreN X.here C.2.2.1 rfl (hb C.2.2.2.1 hd) rfl hv hl (by subst hpc; exact q)
theorem g_astore (C : Ctx B l rm bytes own nm maxL ret Z) {i : Nat} {v : Value} (hd : decode bytes pc = .ok (.astore i, 2)) (hl : storeLocals L i v = some L') (hv : v.isRef = true) (hpc : pc + 2 = pc') (go : Go B n0 Q h k n pc' L' st) : Go B n0 Q h k n pc L (v :: st) := go.step fun T locs X eT t q => Jvm.Free.XS.astore X.here C.2.2.1 rfl (hb C.2.2.2.1 hd) rfl hv hl (by subst hpc; exact q)
theorem g_iinc (C : Ctx B l rm bytes own nm maxL ret Z) {i : Nat} {z : Int} {v w : Int32} (hd : decode bytes pc = .ok (.iinc i z, 3)) (hl : L[i]? = some (.val (.int v))) (hw : v + Int32.ofInt z = w) (hl' : storeLocals L i (.int w) = some L') (hpc : pc + 3 = pc') (go : Go B n0 Q h k n pc' L' st) : Go B n0 Q h k n pc L st := go.step fun T locs X eT t q => Jvm.Free.XS.iinc X.here C.2.2.1 rfl (hb C.2.2.2.1 hd) hl (by rw [hw]; exact hl') (by subst hpc; exact q)
theorem g_iconst (C : Ctx B l rm bytes own nm maxL ret Z) {z : Int} {v : Int32} (hd : decode bytes pc = .ok (.iconst z, 1)) (hv : Int32.ofInt z = v) (hpc : pc + 1 = pc') (go : Go B n0 Q h k n pc' L (.int v :: st)) : Go B n0 Q h k n pc L st := go.step fun T locs X eT t q => Jvm.Free.XS.iconst X.here C.2.2.1 rfl (hb C.2.2.2.1 hd) (by subst hpc hv; exact q)
theorem g_bipush (C : Ctx B l rm bytes own nm maxL ret Z) {z : Int} {v : Int32} (hd : decode bytes pc = .ok (.bipush z, 2)) (hv : (Int8.ofInt z).toInt32 = v) (hpc : pc + 2 = pc') (go : Go B n0 Q h k n pc' L (.int v :: st)) : Go B n0 Q h k n pc L st := go.step fun T locs X eT t q => Jvm.Free.XS.bipush X.here C.2.2.1 rfl (hb C.2.2.2.1 hd) (by subst hpc hv; exact q)
theorem g_lconst (C : Ctx B l rm bytes own nm maxL ret Z) {i : Fin 2} {v : Int64} (hd : decode bytes pc = .ok (.lconst i, 1)) (hv : Int64.ofNat i = v) (hpc : pc + 1 = pc') (go : Go B n0 Q h k n pc' L (.long v :: st)) : Go B n0 Q h k n pc L st := go.step fun T locs X eT t q => Jvm.Free.XT.lconst X.here C.2.2.1 rfl (hb C.2.2.2.1 hd) (by subst hpc hv; exact q)
theorem g_aconst_null (C : Ctx B l rm bytes own nm maxL ret Z)  (hd : decode bytes pc = .ok (.aconst_null, 1))  (hpc : pc + 1 = pc') (go : Go B n0 Q h k n pc' L (.null :: st)) : Go B n0 Q h k n pc L st := go.step fun T locs X eT t q => Jvm.Free.XS.aconstNull X.here C.2.2.1 rfl (hb C.2.2.2.1 hd)  (by subst hpc; exact q)
theorem g_iadd (C : Ctx B l rm bytes own nm maxL ret Z) {x y : Int32} (hd : decode bytes pc = .ok (.iadd, 1))  (hpc : pc + 1 = pc') (go : Go B n0 Q h k n pc' L (.int (x + y) :: st)) : Go B n0 Q h k n pc L (.int y :: .int x :: st) := go.step fun T locs X eT t q => Jvm.Free.XS.iadd X.here C.2.2.1 rfl (hb C.2.2.2.1 hd) rfl (by subst hpc; exact q)
theorem g_isub (C : Ctx B l rm bytes own nm maxL ret Z) {x y : Int32} (hd : decode bytes pc = .ok (.isub, 1))  (hpc : pc + 1 = pc') (go : Go B n0 Q h k n pc' L (.int (x - y) :: st)) : Go B n0 Q h k n pc L (.int y :: .int x :: st) := go.step fun T locs X eT t q => Jvm.Free.XS.isub X.here C.2.2.1 rfl (hb C.2.2.2.1 hd) rfl (by subst hpc; exact q)
theorem g_iand (C : Ctx B l rm bytes own nm maxL ret Z) {x y : Int32} (hd : decode bytes pc = .ok (.iand, 1))  (hpc : pc + 1 = pc') (go : Go B n0 Q h k n pc' L (.int (x &&& y) :: st)) : Go B n0 Q h k n pc L (.int y :: .int x :: st) := go.step fun T locs X eT t q => Jvm.Free.XS.iand X.here C.2.2.1 rfl (hb C.2.2.2.1 hd) rfl (by subst hpc; exact q)
theorem g_imul (C : Ctx B l rm bytes own nm maxL ret Z) {x y : Int32} (hd : decode bytes pc = .ok (.imul, 1))  (hpc : pc + 1 = pc') (go : Go B n0 Q h k n pc' L (.int (x * y) :: st)) : Go B n0 Q h k n pc L (.int y :: .int x :: st) := go.step fun T locs X eT t q => Jvm.Free.XS.imul X.here C.2.2.1 rfl (hb C.2.2.2.1 hd) rfl (by subst hpc; exact q)
theorem g_ixor (C : Ctx B l rm bytes own nm maxL ret Z) {x y : Int32} (hd : decode bytes pc = .ok (.ixor, 1))  (hpc : pc + 1 = pc') (go : Go B n0 Q h k n pc' L (.int (x ^^^ y) :: st)) : Go B n0 Q h k n pc L (.int y :: .int x :: st) := go.step fun T locs X eT t q => Jvm.Free.XT.ixor X.here C.2.2.1 rfl (hb C.2.2.2.1 hd) rfl (by subst hpc; exact q)
theorem g_ior (C : Ctx B l rm bytes own nm maxL ret Z) {x y : Int32} (hd : decode bytes pc = .ok (.ior, 1))  (hpc : pc + 1 = pc') (go : Go B n0 Q h k n pc' L (.int (x ||| y) :: st)) : Go B n0 Q h k n pc L (.int y :: .int x :: st) := go.step fun T locs X eT t q => Jvm.Free.XT.ior X.here C.2.2.1 rfl (hb C.2.2.2.1 hd) rfl (by subst hpc; exact q)
theorem g_ishl (C : Ctx B l rm bytes own nm maxL ret Z) {x y : Int32} (hd : decode bytes pc = .ok (.ishl, 1))  (hpc : pc + 1 = pc') (go : Go B n0 Q h k n pc' L (.int (x <<< (y &&& 31)) :: st)) : Go B n0 Q h k n pc L (.int y :: .int x :: st) := go.step fun T locs X eT t q => Jvm.Free.XT.ishl X.here C.2.2.1 rfl (hb C.2.2.2.1 hd) rfl (by subst hpc; exact q)
theorem g_ishr (C : Ctx B l rm bytes own nm maxL ret Z) {x y : Int32} (hd : decode bytes pc = .ok (.ishr, 1))  (hpc : pc + 1 = pc') (go : Go B n0 Q h k n pc' L (.int (x >>> (y &&& 31)) :: st)) : Go B n0 Q h k n pc L (.int y :: .int x :: st) := go.step fun T locs X eT t q => Jvm.Free.XT.ishr X.here C.2.2.1 rfl (hb C.2.2.2.1 hd) rfl (by subst hpc; exact q)
theorem g_iushr (C : Ctx B l rm bytes own nm maxL ret Z) {x y : Int32} (hd : decode bytes pc = .ok (.iushr, 1))  (hpc : pc + 1 = pc') (go : Go B n0 Q h k n pc' L (.int (Jvm.Free.XT.ushr x y) :: st)) : Go B n0 Q h k n pc L (.int y :: .int x :: st) := go.step fun T locs X eT t q => Jvm.Free.XT.iushr X.here C.2.2.1 rfl (hb C.2.2.2.1 hd) rfl (by subst hpc; exact q)
theorem g_idiv (C : Ctx B l rm bytes own nm maxL ret Z) {x y : Int32} (hd : decode bytes pc = .ok (.idiv, 1)) (hy : y ≠ 0) (hpc : pc + 1 = pc') (go : Go B n0 Q h k n pc' L (.int (x / y) :: st)) : Go B n0 Q h k n pc L (.int y :: .int x :: st) := go.step fun T locs X eT t q => Jvm.Free.XS.idiv X.here C.2.2.1 rfl (hb C.2.2.2.1 hd) rfl hy (by subst hpc; exact q)
theorem g_irem (C : Ctx B l rm bytes own nm maxL ret Z) {x y : Int32} (hd : decode bytes pc = .ok (.irem, 1)) (hy : y ≠ 0) (hpc : pc + 1 = pc') (go : Go B n0 Q h k n pc' L (.int (x - (x / y) * y) :: st)) : Go B n0 Q h k n pc L (.int y :: .int x :: st) := go.step fun T locs X eT t q => Jvm.Free.XS.irem X.here C.2.2.1 rfl (hb C.2.2.2.1 hd) rfl hy (by subst hpc; exact q)
theorem g_ineg (C : Ctx B l rm bytes own nm maxL ret Z) {x : Int32} (hd : decode bytes pc = .ok (.ineg, 1))  (hpc : pc + 1 = pc') (go : Go B n0 Q h k n pc' L (.int (-x) :: st)) : Go B n0 Q h k n pc L (.int x :: st) := go.step fun T locs X eT t q => Jvm.Free.XS.ineg X.here C.2.2.1 rfl (hb C.2.2.2.1 hd) rfl (by subst hpc; exact q)
theorem g_ladd (C : Ctx B l rm bytes own nm maxL ret Z) {x y : Int64} (hd : decode bytes pc = .ok (.ladd, 1))  (hpc : pc + 1 = pc') (go : Go B n0 Q h k n pc' L (.long (x + y) :: st)) : Go B n0 Q h k n pc L (.long y :: .long x :: st) := go.step fun T locs X eT t q => Jvm.Free.XT.ladd X.here C.2.2.1 rfl (hb C.2.2.2.1 hd) rfl (by subst hpc; exact q)
theorem g_lsub (C : Ctx B l rm bytes own nm maxL ret Z) {x y : Int64} (hd : decode bytes pc = .ok (.lsub, 1))  (hpc : pc + 1 = pc') (go : Go B n0 Q h k n pc' L (.long (x - y) :: st)) : Go B n0 Q h k n pc L (.long y :: .long x :: st) := go.step fun T locs X eT t q => Jvm.Free.XT.lsub X.here C.2.2.1 rfl (hb C.2.2.2.1 hd) rfl (by subst hpc; exact q)
theorem g_lmul (C : Ctx B l rm bytes own nm maxL ret Z) {x y : Int64} (hd : decode bytes pc = .ok (.lmul, 1))  (hpc : pc + 1 = pc') (go : Go B n0 Q h k n pc' L (.long (x * y) :: st)) : Go B n0 Q h k n pc L (.long y :: .long x :: st) := go.step fun T locs X eT t q => Jvm.Free.XT.lmul X.here C.2.2.1 rfl (hb C.2.2.2.1 hd) rfl (by subst hpc; exact q)
theorem g_land (C : Ctx B l rm bytes own nm maxL ret Z) {x y : Int64} (hd : decode bytes pc = .ok (.land, 1))  (hpc : pc + 1 = pc') (go : Go B n0 Q h k n pc' L (.long (x &&& y) :: st)) : Go B n0 Q h k n pc L (.long y :: .long x :: st) := go.step fun T locs X eT t q => Jvm.Free.XT.land X.here C.2.2.1 rfl (hb C.2.2.2.1 hd) rfl (by subst hpc; exact q)
theorem g_lor (C : Ctx B l rm bytes own nm maxL ret Z) {x y : Int64} (hd : decode bytes pc = .ok (.lor, 1))  (hpc : pc + 1 = pc') (go : Go B n0 Q h k n pc' L (.long (x ||| y) :: st)) : Go B n0 Q h k n pc L (.long y :: .long x :: st) := go.step fun T locs X eT t q => Jvm.Free.XT.lor X.here C.2.2.1 rfl (hb C.2.2.2.1 hd) rfl (by subst hpc; exact q)
theorem g_lxor (C : Ctx B l rm bytes own nm maxL ret Z) {x y : Int64} (hd : decode bytes pc = .ok (.lxor, 1))  (hpc : pc + 1 = pc') (go : Go B n0 Q h k n pc' L (.long (x ^^^ y) :: st)) : Go B n0 Q h k n pc L (.long y :: .long x :: st) := go.step fun T locs X eT t q => Jvm.Free.XT.lxor X.here C.2.2.1 rfl (hb C.2.2.2.1 hd) rfl (by subst hpc; exact q)
theorem g_ldiv (C : Ctx B l rm bytes own nm maxL ret Z) {x y : Int64} (hd : decode bytes pc = .ok (.ldiv, 1)) (hy : y ≠ 0) (hpc : pc + 1 = pc') (go : Go B n0 Q h k n pc' L (.long (x / y) :: st)) : Go B n0 Q h k n pc L (.long y :: .long x :: st) := go.step fun T locs X eT t q => Jvm.Free.XT.ldiv X.here C.2.2.1 rfl (hb C.2.2.2.1 hd) rfl hy (by subst hpc; exact q)
theorem g_lrem (C : Ctx B l rm bytes own nm maxL ret Z) {x y : Int64} (hd : decode bytes pc = .ok (.lrem, 1)) (hy : y ≠ 0) (hpc : pc + 1 = pc') (go : Go B n0 Q h k n pc' L (.long (x - (x / y) * y) :: st)) : Go B n0 Q h k n pc L (.long y :: .long x :: st) := go.step fun T locs X eT t q => Jvm.Free.XT.lrem X.here C.2.2.1 rfl (hb C.2.2.2.1 hd) rfl hy (by subst hpc; exact q)
theorem g_lneg (C : Ctx B l rm bytes own nm maxL ret Z) {x : Int64} (hd : decode bytes pc = .ok (.lneg, 1))  (hpc : pc + 1 = pc') (go : Go B n0 Q h k n pc' L (.long (-x) :: st)) : Go B n0 Q h k n pc L (.long x :: st) := go.step fun T locs X eT t q => Jvm.Free.XT.lneg X.here C.2.2.1 rfl (hb C.2.2.2.1 hd) rfl (by subst hpc; exact q)
theorem g_lshl (C : Ctx B l rm bytes own nm maxL ret Z) {x : Int64} {y : Int32} (hd : decode bytes pc = .ok (.lshl, 1))  (hpc : pc + 1 = pc') (go : Go B n0 Q h k n pc' L (.long (x <<< (y.toInt64 &&& 63)) :: st)) : Go B n0 Q h k n pc L (.int y :: .long x :: st) := go.step fun T locs X eT t q => Jvm.Free.XT.lshl X.here C.2.2.1 rfl (hb C.2.2.2.1 hd) rfl (by subst hpc; exact q)
theorem g_lshr (C : Ctx B l rm bytes own nm maxL ret Z) {x : Int64} {y : Int32} (hd : decode bytes pc = .ok (.lshr, 1))  (hpc : pc + 1 = pc') (go : Go B n0 Q h k n pc' L (.long (x >>> (y.toInt64 &&& 63)) :: st)) : Go B n0 Q h k n pc L (.int y :: .long x :: st) := go.step fun T locs X eT t q => Jvm.Free.XT.lshr X.here C.2.2.1 rfl (hb C.2.2.2.1 hd) rfl (by subst hpc; exact q)
theorem g_lushr (C : Ctx B l rm bytes own nm maxL ret Z) {x : Int64} {y : Int32} (hd : decode bytes pc = .ok (.lushr, 1))  (hpc : pc + 1 = pc') (go : Go B n0 Q h k n pc' L (.long (Jvm.Free.XT.ushrL x y) :: st)) : Go B n0 Q h k n pc L (.int y :: .long x :: st) := go.step fun T locs X eT t q => Jvm.Free.XT.lushr X.here C.2.2.1 rfl (hb C.2.2.2.1 hd) rfl (by subst hpc; exact q)
theorem g_lcmp (C : Ctx B l rm bytes own nm maxL ret Z) {x y : Int64} (hd : decode bytes pc = .ok (.lcmp, 1))  (hpc : pc + 1 = pc') (go : Go B n0 Q h k n pc' L (.int (Jvm.Free.XT.cmpL x y) :: st)) : Go B n0 Q h k n pc L (.long y :: .long x :: st) := go.step fun T locs X eT t q => Jvm.Free.XT.lcmp X.here C.2.2.1 rfl (hb C.2.2.2.1 hd) rfl (by subst hpc; exact q)
theorem g_i2l (C : Ctx B l rm bytes own nm maxL ret Z) {x : Int32} (hd : decode bytes pc = .ok (.i2l, 1))  (hpc : pc + 1 = pc') (go : Go B n0 Q h k n pc' L (.long (x.toInt64) :: st)) : Go B n0 Q h k n pc L (.int x :: st) := go.step fun T locs X eT t q => Jvm.Free.XT.i2l X.here C.2.2.1 rfl (hb C.2.2.2.1 hd) rfl (by subst hpc; exact q)
theorem g_l2i (C : Ctx B l rm bytes own nm maxL ret Z) {x : Int64} (hd : decode bytes pc = .ok (.l2i, 1))  (hpc : pc + 1 = pc') (go : Go B n0 Q h k n pc' L (.int (x.toInt32) :: st)) : Go B n0 Q h k n pc L (.long x :: st) := go.step fun T locs X eT t q => Jvm.Free.XT.l2i X.here C.2.2.1 rfl (hb C.2.2.2.1 hd) rfl (by subst hpc; exact q)
theorem g_i2b (C : Ctx B l rm bytes own nm maxL ret Z) {x : Int32} (hd : decode bytes pc = .ok (.i2b, 1))  (hpc : pc + 1 = pc') (go : Go B n0 Q h k n pc' L (.int (x.toInt8.toInt32) :: st)) : Go B n0 Q h k n pc L (.int x :: st) := go.step fun T locs X eT t q => Jvm.Free.XT.i2b X.here C.2.2.1 rfl (hb C.2.2.2.1 hd) rfl (by subst hpc; exact q)
theorem g_i2c (C : Ctx B l rm bytes own nm maxL ret Z) {x : Int32} (hd : decode bytes pc = .ok (.i2c, 1))  (hpc : pc + 1 = pc') (go : Go B n0 Q h k n pc' L (.int (x.toUInt32.toUInt16.toUInt32.toInt32) :: st)) : Go B n0 Q h k n pc L (.int x :: st) := go.step fun T locs X eT t q => Jvm.Free.XT.i2c X.here C.2.2.1 rfl (hb C.2.2.2.1 hd) rfl (by subst hpc; exact q)
theorem g_i2s (C : Ctx B l rm bytes own nm maxL ret Z) {x : Int32} (hd : decode bytes pc = .ok (.i2s, 1))  (hpc : pc + 1 = pc') (go : Go B n0 Q h k n pc' L (.int (x.toInt16.toInt32) :: st)) : Go B n0 Q h k n pc L (.int x :: st) := go.step fun T locs X eT t q => Jvm.Free.XT.i2s X.here C.2.2.1 rfl (hb C.2.2.2.1 hd) rfl (by subst hpc; exact q)
theorem g_dup (C : Ctx B l rm bytes own nm maxL ret Z) {x : Value} (hd : decode bytes pc = .ok (.dup, 1)) (hc : x.category = 1) (hpc : pc + 1 = pc') (go : Go B n0 Q h k n pc' L (x :: x :: st)) : Go B n0 Q h k n pc L (x :: st) := go.step fun T locs X eT t q => Jvm.Free.XS.dup X.here C.2.2.1 rfl (hb C.2.2.2.1 hd) rfl hc (by subst hpc; exact q)
theorem g_pop (C : Ctx B l rm bytes own nm maxL ret Z) {x : Value} (hd : decode bytes pc = .ok (.pop, 1)) (hc : x.category = 1) (hpc : pc + 1 = pc') (go : Go B n0 Q h k n pc' L st) : Go B n0 Q h k n pc L (x :: st) := go.step fun T locs X eT t q => Jvm.Free.XT.pop X.here C.2.2.1 rfl (hb C.2.2.2.1 hd) rfl hc (by subst hpc; exact q)
theorem g_dup_x1 (C : Ctx B l rm bytes own nm maxL ret Z) {x y : Value} (hd : decode bytes pc = .ok (.dup_x1, 1)) (hc : x.category = 1) (hc' : y.category = 1) (hpc : pc + 1 = pc') (go : Go B n0 Q h k n pc' L (x :: y :: x :: st)) : Go B n0 Q h k n pc L (x :: y :: st) := go.step fun T locs X eT t q => Jvm.Free.XT.dupX1 X.here C.2.2.1 rfl (hb C.2.2.2.1 hd) rfl hc hc' (by subst hpc; exact q)
theorem g_dup2 (C : Ctx B l rm bytes own nm maxL ret Z) {x y : Value} (hd : decode bytes pc = .ok (.dup2, 1)) (hc : x.category = 1) (hc' : y.category = 1) (hpc : pc + 1 = pc') (go : Go B n0 Q h k n pc' L (x :: y :: x :: y :: st)) : Go B n0 Q h k n pc L (x :: y :: st) := go.step fun T locs X eT t q => Jvm.Free.XT.dup2 X.here C.2.2.1 rfl (hb C.2.2.2.1 hd) rfl hc hc' (by subst hpc; exact q)
theorem g_dup2L (C : Ctx B l rm bytes own nm maxL ret Z) {x : Int64} (hd : decode bytes pc = .ok (.dup2, 1))  (hpc : pc + 1 = pc') (go : Go B n0 Q h k n pc' L (.long x :: .long x :: st)) : Go B n0 Q h k n pc L (.long x :: st) := go.step fun T locs X eT t q => Jvm.Free.XT.dup2L X.here C.2.2.1 rfl (hb C.2.2.2.1 hd) rfl (by subst hpc; exact q)
theorem g_goto (C : Ctx B l rm bytes own nm maxL ret Z) {o : Int} (hd : decode bytes pc = .ok (.goto o, 3)) (ho : 0 ≤ (pc : Int) + o) (hp : ((pc : Int) + o).toNat = pc') (go : Go B n0 Q h k n pc' L st) : Go B n0 Q h k n pc L st := go.step fun T locs X eT t q => Jvm.Free.XS.goto X.here C.2.2.1 rfl rfl (hb C.2.2.2.1 hd) ho hp q
theorem g_if_y (C : Ctx B l rm bytes own nm maxL ret Z) {cd : ClassFile.Cond} {x : Int32} {o : Int} (hd : decode bytes pc = .ok (.ifCond cd o, 3)) (hc : ifCond.holds cd x = true) (ho : 0 ≤ (pc : Int) + o) (hp : ((pc : Int) + o).toNat = pc') (go : Go B n0 Q h k n pc' L st) : Go B n0 Q h k n pc L (.int x :: st) := go.step fun T locs X eT t q => Jvm.Free.XS.ifYes X.here C.2.2.1 rfl rfl (hb C.2.2.2.1 hd) rfl hc ho hp q
theorem g_if_n (C : Ctx B l rm bytes own nm maxL ret Z) {cd : ClassFile.Cond} {x : Int32} {o : Int} (hd : decode bytes pc = .ok (.ifCond cd o, 3)) (hc : ifCond.holds cd x = false) (hpc : pc + 3 = pc') (go : Go B n0 Q h k n pc' L st) : Go B n0 Q h k n pc L (.int x :: st) := go.step fun T locs X eT t q => Jvm.Free.XS.ifNo X.here C.2.2.1 rfl (hb C.2.2.2.1 hd) rfl hc (by subst hpc; exact q)
theorem g_icmp_y (C : Ctx B l rm bytes own nm maxL ret Z) {cd : ClassFile.Cond} {x y : Int32} {o : Int} (hd : decode bytes pc = .ok (.if_icmp cd o, 3)) (hc : if_icmp.holds cd x y = true) (ho : 0 ≤ (pc : Int) + o) (hp : ((pc : Int) + o).toNat = pc') (go : Go B n0 Q h k n pc' L st) : Go B n0 Q h k n pc L (.int y :: .int x :: st) := go.step fun T locs X eT t q => Jvm.Free.XS.icmpYes X.here C.2.2.1 rfl rfl (hb C.2.2.2.1 hd) rfl hc ho hp q
theorem g_icmp_n (C : Ctx B l rm bytes own nm maxL ret Z) {cd : ClassFile.Cond} {x y : Int32} {o : Int} (hd : decode bytes pc = .ok (.if_icmp cd o, 3)) (hc : if_icmp.holds cd x y = false) (hpc : pc + 3 = pc') (go : Go B n0 Q h k n pc' L st) : Go B n0 Q h k n pc L (.int y :: .int x :: st) := go.step fun T locs X eT t q => Jvm.Free.XS.icmpNo X.here C.2.2.1 rfl (hb C.2.2.2.1 hd) rfl hc (by subst hpc; exact q)
theorem g_acmp_y (C : Ctx B l rm bytes own nm maxL ret Z) {cd : ClassFile.ACond} {x y : Value} {o : Int} (hd : decode bytes pc = .ok (.if_acmp cd o, 3)) (hc1 : x.isRef = true) (hc2 : y.isRef = true) (hc : Jvm.Free.XT.acmp cd x y = true) (ho : 0 ≤ (pc : Int) + o) (hp : ((pc : Int) + o).toNat = pc') (go : Go B n0 Q h k n pc' L st) : Go B n0 Q h k n pc L (y :: x :: st) := go.step fun T locs X eT t q => Jvm.Free.XT.acmpYes X.here C.2.2.1 rfl rfl (hb C.2.2.2.1 hd) rfl hc1 hc2 hc ho hp q
theorem g_acmp_n (C : Ctx B l rm bytes own nm maxL ret Z) {cd : ClassFile.ACond} {x y : Value} {o : Int} (hd : decode bytes pc = .ok (.if_acmp cd o, 3)) (hc1 : x.isRef = true) (hc2 : y.isRef = true) (hc : Jvm.Free.XT.acmp cd x y = false) (hpc : pc + 3 = pc') (go : Go B n0 Q h k n pc' L st) : Go B n0 Q h k n pc L (y :: x :: st) := go.step fun T locs X eT t q => Jvm.Free.XT.acmpNo X.here C.2.2.1 rfl (hb C.2.2.2.1 hd) rfl hc1 hc2 hc (by subst hpc; exact q)
theorem g_ifnull_y (C : Ctx B l rm bytes own nm maxL ret Z) {o : Int} (hd : decode bytes pc = .ok (.ifnull o, 3)) (ho : 0 ≤ (pc : Int) + o) (hp : ((pc : Int) + o).toNat = pc') (go : Go B n0 Q h k n pc' L st) : Go B n0 Q h k n pc L (.null :: st) := go.step fun T locs X eT t q => Jvm.Free.XS.ifnullYes X.here C.2.2.1 rfl rfl (hb C.2.2.2.1 hd) rfl ho hp q
theorem g_ifnull_n (C : Ctx B l rm bytes own nm maxL ret Z) {o : Int} {b : Addr} (hd : decode bytes pc = .ok (.ifnull o, 3)) (hpc : pc + 3 = pc') (go : Go B n0 Q h k n pc' L st) : Go B n0 Q h k n pc L (.ref b :: st) := go.step fun T locs X eT t q => Jvm.Free.XS.ifnullNo X.here C.2.2.1 rfl (hb C.2.2.2.1 hd) rfl (by subst hpc; exact q)
theorem g_ifnonnull_y (C : Ctx B l rm bytes own nm maxL ret Z) {o : Int} {b : Addr} (hd : decode bytes pc = .ok (.ifnonnull o, 3)) (ho : 0 ≤ (pc : Int) + o) (hp : ((pc : Int) + o).toNat = pc') (go : Go B n0 Q h k n pc' L st) : Go B n0 Q h k n pc L (.ref b :: st) := go.step fun T locs X eT t q => Jvm.Free.XT.ifnonnullYes X.here C.2.2.1 rfl rfl (hb C.2.2.2.1 hd) rfl ho hp q
theorem g_ifnonnull_n (C : Ctx B l rm bytes own nm maxL ret Z) {o : Int} (hd : decode bytes pc = .ok (.ifnonnull o, 3)) (hpc : pc + 3 = pc') (go : Go B n0 Q h k n pc' L st) : Go B n0 Q h k n pc L (.null :: st) := go.step fun T locs X eT t q => Jvm.Free.XT.ifnonnullNo X.here C.2.2.1 rfl (hb C.2.2.2.1 hd) rfl (by subst hpc; exact q)
theorem g_ldc (C : Ctx B l rm bytes own nm maxL ret Z) {i : Nat} {v : Int32} (w : (Jvm.Cond.constant own i v).before a0 Z = true) (hd : decode bytes pc = .ok (.ldc i, 2)) (hpc : pc + 2 = pc') (go : Go B n0 Q h k n pc' L (.int v :: st)) : Go B n0 Q h k n pc L st := go.step fun T locs X eT t q => X.ldcInt C.2.2.1 C.2.2.2.2.2.1 (mvT C.2.2.2.2.1 w) (g := mkF B.m pc L st) rfl (hb C.2.2.2.1 hd) t (by subst hpc; exact q)
theorem g_ldc_w (C : Ctx B l rm bytes own nm maxL ret Z) {i : Nat} {v : Int32} (w : (Jvm.Cond.constant own i v).before a0 Z = true) (hd : decode bytes pc = .ok (.ldc_w i, 3)) (hpc : pc + 3 = pc') (go : Go B n0 Q h k n pc' L (.int v :: st)) : Go B n0 Q h k n pc L st := go.step fun T locs X eT t q => X.ldcwInt C.2.2.1 C.2.2.2.2.2.1 (mvT C.2.2.2.2.1 w) (g := mkF B.m pc L st) rfl (hb C.2.2.2.1 hd) t (by subst hpc; exact q)
theorem g_ldc2_w (C : Ctx B l rm bytes own nm maxL ret Z) {i : Nat} {v : Int64} (w : (Jvm.Cond.constantLong own i v).before a0 Z = true) (hd : decode bytes pc = .ok (.ldc2_w i, 3)) (hpc : pc + 3 = pc') (go : Go B n0 Q h k n pc' L (.long v :: st)) : Go B n0 Q h k n pc L st := go.step fun T locs X eT t q => X.ldc2Long C.2.2.1 C.2.2.2.2.2.1 (mvT C.2.2.2.2.1 w) (g := mkF B.m pc L st) rfl (hb C.2.2.2.1 hd) t (by subst hpc; exact q)
theorem g_getfield (C : Ctx B l rm bytes own nm maxL ret Z) {i : Nat} {R0 O fn d host : String} {a : Addr} {v : Value} (w : (Jvm.Cond.fieldLink own i R0 fn d).before a0 Z = true ∨ (Jvm.Cond.fieldLinkNest own i R0 fn d host).before a0 Z = true) (via : Via Z R0 O fn d) (F : Fld Z h a O fn d v) (hd : decode bytes pc = .ok (.getfield i, 3)) (hpc : pc + 3 = pc') (go : Go B n0 Q h k n pc' L (v :: st)) : Go B n0 Q h k n pc L (.ref a :: st) := go.move fun T locs X eT => by
  obtain ⟨T', X', e', f⟩ := getF X C.2.2.1 C.2.2.2.2.1 C.2.2.2.2.2.1 w via eT F (g := mkF B.m pc L (.ref a :: st)) rfl rfl (hb C.2.2.2.1 hd)
  subst hpc; exact ⟨T', X', e', f⟩
theorem g_getstatic (C : Ctx B l rm bytes own nm maxL ret Z) {i : Nat} {R0 O fn d host : String} {v : Value} (w : (Jvm.Cond.fieldLink own i R0 fn d).before a0 Z = true ∨ (Jvm.Cond.fieldLinkNest own i R0 fn d host).before a0 Z = true) (via : Via Z R0 O fn d) (F : Sta Z h O fn d v) (hd : decode bytes pc = .ok (.getstatic i, 3)) (hpc : pc + 3 = pc') (go : Go B n0 Q h k n pc' L (v :: st)) : Go B n0 Q h k n pc L st := go.move fun T locs X eT => by
  obtain ⟨T', X', e', f⟩ := getS2 X C.2.2.1 C.2.2.2.2.1 C.2.2.2.2.2.1 w via eT F (g := mkF B.m pc L st) rfl (hb C.2.2.2.1 hd)
  subst hpc; exact ⟨T', X', e', f⟩
theorem g_checkcast (C : Ctx B l rm bytes own nm maxL ret Z) {i : Nat} {K : String} {a : Addr} (w : (Jvm.Cond.classLink own i K).before a0 Z = true) (F : Ins Z h a K true) (hd : decode bytes pc = .ok (.checkcast i, 3)) (hpc : pc + 3 = pc') (go : Go B n0 Q h k n pc' L (.ref a :: st)) : Go B n0 Q h k n pc L (.ref a :: st) := go.move fun T locs X eT => by
  obtain ⟨T', X', e', f⟩ := castY X C.2.2.1 C.2.2.2.2.1 C.2.2.2.2.2.1 w eT F (g := mkF B.m pc L (.ref a :: st)) rfl rfl (hb C.2.2.2.1 hd)
  subst hpc; exact ⟨T', X', e', f⟩
theorem g_instanceof_y (C : Ctx B l rm bytes own nm maxL ret Z) {i : Nat} {K : String} {a : Addr} (w : (Jvm.Cond.classLink own i K).before a0 Z = true) (F : Ins Z h a K true) (hd : decode bytes pc = .ok (.instanceof i, 3)) (hpc : pc + 3 = pc') (go : Go B n0 Q h k n pc' L (.int 1 :: st)) : Go B n0 Q h k n pc L (.ref a :: st) := go.move fun T locs X eT => by
  obtain ⟨T', X', e', f⟩ := instY X C.2.2.1 C.2.2.2.2.1 C.2.2.2.2.2.1 w eT F (g := mkF B.m pc L (.ref a :: st)) rfl rfl (hb C.2.2.2.1 hd)
  subst hpc; exact ⟨T', X', e', f⟩
theorem g_instanceof_n (C : Ctx B l rm bytes own nm maxL ret Z) {i : Nat} {K K' : String} {a : Addr} (w : (Jvm.Cond.classLink own i K).before a0 Z = true) (E : Exa Z h a K') (F : ∃ c t, Z.vm.findClass K' = some c ∧ Z.vm.findClass K = some t ∧ Z.vm.assignable c t = false) (hd : decode bytes pc = .ok (.instanceof i, 3)) (hpc : pc + 3 = pc') (go : Go B n0 Q h k n pc' L (.int 0 :: st)) : Go B n0 Q h k n pc L (.ref a :: st) := go.move fun T locs X eT => by
  obtain ⟨T', X', e', f⟩ := instNo X C.2.2.1 C.2.2.2.2.1 C.2.2.2.2.2.1 w eT E F (g := mkF B.m pc L (.ref a :: st)) rfl rfl (hb C.2.2.2.1 hd)
  subst hpc; exact ⟨T', X', e', f⟩
theorem g_putfield (C : Ctx B l rm bytes own nm maxL ret Z) {i kk : Nat} {R0 O fn d host K : String} {ty : FieldType} {a : Addr} {v old : Value} (w : (Jvm.Cond.fieldLink own i R0 fn d).before a0 Z = true ∨ (Jvm.Cond.fieldLinkNest own i R0 fn d host).before a0 Z = true) (via : Via Z R0 O fn d) (F : Fld Z h a O fn d old) (E : Exa Z h a K) (Ly : (Jvm.Cond.lays K O fn d).before a0 Z = true ∨ ((Jvm.Cond.laysFinal K O fn d).before a0 Z = true ∧ own = O ∧ nm = "<init>")) (wi : (Jvm.Cond.instantiable K kk).before a0 Z = true) (hty : parseFieldDescriptor d = some ty) (hn : narrow ty v = v) (hf : fits ty v = true) (ge : n0 ≤ a) (hd : decode bytes pc = .ok (.putfield i, 3)) (hpc : pc + 3 = pc') (go : ∀ h', Wr h h' a (Jvm.RoadKit.slotOf Z O fn d) v → Go B n0 Q h' k n pc' L st) : Go B n0 Q h k n pc L (v :: .ref a :: st) := fun T locs X N eT => by
  obtain ⟨T', h', X', e', W, f⟩ := putF X C.2.2.1 C.2.2.2.2.1 C.2.2.2.2.2.1 w via eT F E (Ly.imp id fun q => ⟨q.1, q.2.1, by rw [C.2.2.2.2.2.2.1]; exact q.2.2⟩) wi hty hn hf (g := mkF B.m pc L (v :: .ref a :: st)) rfl rfl (hb C.2.2.2.1 hd)
  obtain ⟨t, o, q, r⟩ := go h' W T' _ X' (Fr.snoc X' N ge) e'
  subst hpc
  exact ⟨t, o, f t q, r⟩
theorem g_new (C : Ctx B l rm bytes own nm maxL ret Z) {i nn : Nat} {K : String} (w : (Jvm.Cond.classLink own i K).before a0 Z = true) (wi : (Jvm.Cond.instantiable K nn).before a0 Z = true) (wz : (Jvm.Cond.initialized K).before a0 Z = true) (hc : k + 1 ≤ rm.cells) (hl : n + nn ≤ rm.slots) (hd : decode bytes pc = .ok (.new i, 3)) (hpc : pc + 3 = pc') (go : ∀ h' a, a = h.size → Ext h h' → Exa Z h' a K → (∀ {O fn d : String} {ty : FieldType}, Laid Z a0 K O fn d → parseFieldDescriptor d = some ty → Fld Z h' a O fn d (defaultValue ty)) → Go B n0 Q h' (k + 1) (n + nn) pc' L (.ref a :: st)) : Go B n0 Q h k n pc L st := fun T locs X N eT => by
  obtain ⟨T', h', X', e', E, A, D, -, f⟩ := newO X C.2.2.1 C.2.2.2.2.1 C.2.2.2.2.2.1 w wi wz eT (g := mkF B.m pc L st) rfl (hb C.2.2.2.1 hd) (by rw [C.2.1]; exact hc) (by rw [C.2.1]; exact hl)
  obtain ⟨t, o, q, r⟩ := go h' _ rfl E A D T' _ X' N e'
  subst hpc
  exact ⟨t, o, f t q, r⟩
theorem g_initObj (C : Ctx B l rm bytes own nm maxL ret Z) {i : Nat} {a : Addr} (w1 : (Jvm.Cond.methodLink own i Lib.objectInit).before a0 Z = true) (w2 : (Jvm.Cond.instanceMethod Lib.objectInit).before a0 Z = true) (w3 : (Jvm.Cond.code Lib.objectInit ⟨#[0xb1]⟩ 1 none).before a0 Z = true) (hsz : L.size = maxL) (hf : 1 ≤ rm.frames) {W : Nat} (hW : (st.map fun v => v.category).sum ≤ W) (hl : W + 12 ≤ rm.locals) (hd : decode bytes pc = .ok (.invokespecial i, 3)) (hpc : pc + 3 = pc') (go : Go B n0 Q h k n pc' L st) : Go B n0 Q h k n pc L (.ref a :: st) := fun T locs X N eT => by
  obtain ⟨T', X', e', f⟩ := initO X C.2.2.1 C.2.2.2.2.1 C.2.2.2.2.2.1 w1 w2 w3 eT (g := mkF B.m pc L (.ref a :: st)) rfl (by rw [C.2.2.2.2.2.2.2.1]; exact hsz) rfl (hb C.2.2.2.1 hd) (by rw [C.2.1]; exact hf) (W := W) (by show 2 * 0 + _ ≤ _; omega) (by rw [C.2.1]; exact hl)
  obtain ⟨t, o, q, r⟩ := go T' _ X' N e'
  subst hpc
  exact ⟨t, o, f t q, r⟩
theorem g_static (C : Ctx B l rm bytes own nm maxL ret Z) {i : Nat} {y : MethodName} {b' : ByteArray} {mx : Nat} {rt : Option FieldType} {rm' : Room} {as' : Array Value} {Q' : Option Value → Heap → Prop} (w1 : (Jvm.Cond.methodLink own i y).before a0 Z = true) (w2 : (Jvm.Cond.static y).before a0 Z = true) (wz : (Jvm.Cond.initialized y.cls).before a0 Z = true) (wc : (Jvm.Cond.code y b' mx rt).before a0 Z = true) (hy : y.cls ≠ "java/lang/invoke/MethodHandle" ∧ y.cls ≠ "java/lang/invoke/VarHandle") (K : Met1 l Z y b' mx rt rm' n0 as' h Q') (argsL : List Value) {stk : List Value} (hst : stk = argsL.reverse ++ st) (has : as' = argsL.toArray) {ps : List FieldType} {r' : Option FieldType} (pd : parseMethodDescriptor y.desc = some ⟨ps, r'⟩) (hlen : argsL.length = ps.length) (hsz : L.size = maxL) (hf : rm'.frames + 1 ≤ rm.frames) {W : Nat} (hW : (st.map fun v => v.category).sum ≤ W) (hlo : W + (mx + 11) + rm'.locals ≤ rm.locals) (hc : k + rm'.cells ≤ rm.cells) (hs : n + rm'.slots ≤ rm.slots) (hd : decode bytes pc = .ok (.invokestatic i, 3)) (hpc : pc + 3 = pc') (go : ∀ v h', Q' v h' → Go B n0 Q h' (k + rm'.cells) (n + rm'.slots) pc' L (v.toList ++ st)) : Go B n0 Q h k n pc L stk := fun T locs X N eT => by
  subst hst has
  obtain ⟨v, _, ⟨T', L1, k1, n1⟩, -, X', ⟨L2, ⟨N', hq⟩, l1, l2, l3⟩, f⟩ := Jvm.LawKit.callS X C.2.2.1 (y := y) C.2.2.2.2.2.1 (mvT C.2.2.2.2.1 w1) (mvT C.2.2.2.2.1 w2) (mvT C.2.2.2.2.1 wz) (mvT C.2.2.2.2.1 wc) hy (backOf (W := W) (Q := fun v h L => Fr n0 L ∧ Q' v h) (C.1 ▸ K []) C.2.2.2.2.1 wc wz (by rw [C.2.1]; exact hf) (by rw [C.2.1]; exact hlo)) (g := mkF B.m pc L (argsL.reverse ++ st)) rfl (by rw [C.2.2.2.2.2.2.2.1]; exact hsz) (argsL := argsL) (rest := st) (lenOf pd hlen) rfl (by show 2 * 0 + _ ≤ _; omega) (hb C.2.2.2.1 hd) (fun _ _ => ⟨rfl, eT, by rw [C.2.1]; exact hc, by rw [C.2.1]; exact hs⟩)
  dsimp only [Pt.U, Pt.locs, Pt.cells, Pt.slots] at X' l1 l2 l3 f hq
  subst l1 l2 l3
  obtain ⟨t, o, q, r⟩ := go v _ hq T' _ X' (Fr.app N N') rfl
  subst hpc
  exact ⟨t, o, f t q, r⟩
theorem g_special (C : Ctx B l rm bytes own nm maxL ret Z) {i : Nat} {y : MethodName} {b' : ByteArray} {mx : Nat} {rm' : Room} {as' : Array Value} {Q' : Option Value → Heap → Prop} {a : Addr} (hy1 : y.name = "<init>") (w1 : (Jvm.Cond.methodLink own i y).before a0 Z = true) (w2 : (Jvm.Cond.instanceMethod y).before a0 Z = true) (wz : (Jvm.Cond.initialized y.cls).before a0 Z = true) (wc : (Jvm.Cond.code y b' mx none).before a0 Z = true) (hy : y.cls ≠ "java/lang/invoke/MethodHandle" ∧ y.cls ≠ "java/lang/invoke/VarHandle") (K : Met1 l Z y b' mx none rm' n0 as' h Q') (argsL : List Value) {stk : List Value} (hst : stk = argsL.reverse ++ .ref a :: st) (has : as' = (Value.ref a :: argsL).toArray) {ps : List FieldType} {r' : Option FieldType} (pd : parseMethodDescriptor y.desc = some ⟨ps, r'⟩) (hlen : argsL.length = ps.length) (hsz : L.size = maxL) (hf : rm'.frames + 1 ≤ rm.frames) {W : Nat} (hW : (st.map fun v => v.category).sum ≤ W) (hlo : W + (mx + 11) + rm'.locals ≤ rm.locals) (hc : k + rm'.cells ≤ rm.cells) (hs : n + rm'.slots ≤ rm.slots) (hd : decode bytes pc = .ok (.invokespecial i, 3)) (hpc : pc + 3 = pc') (go : ∀ v h', Q' v h' → Go B n0 Q h' (k + rm'.cells) (n + rm'.slots) pc' L (v.toList ++ st)) : Go B n0 Q h k n pc L stk := fun T locs X N eT => by
  subst hst has
  obtain ⟨v, _, ⟨T', L1, k1, n1⟩, -, X', ⟨L2, ⟨N', hq⟩, l1, l2, l3⟩, f⟩ := X.specialBack C.2.2.1 (y := y) hy1 C.2.2.2.2.2.1 (mvT C.2.2.2.2.1 w1) (mvT C.2.2.2.2.1 w2) (mvT C.2.2.2.2.1 wc) hy (backOf (W := W) (Q := fun v h L => Fr n0 L ∧ Q' v h) (C.1 ▸ K []) C.2.2.2.2.1 wc wz (by rw [C.2.1]; exact hf) (by rw [C.2.1]; exact hlo)) (g := mkF B.m pc L (argsL.reverse ++ .ref a :: st)) rfl (by rw [C.2.2.2.2.2.2.2.1]; exact hsz) (Steps.refl _) (a := a) (argsL := argsL) (rest := st) (lenOf pd hlen) rfl (by show 2 * 0 + _ ≤ _; omega) (hb C.2.2.2.1 hd) (fun _ _ => ⟨rfl, eT, by rw [C.2.1]; exact hc, by rw [C.2.1]; exact hs⟩)
  dsimp only [Pt.U, Pt.locs, Pt.cells, Pt.slots] at X' l1 l2 l3 f hq
  subst l1 l2 l3
  obtain ⟨t, o, q, r⟩ := go v _ hq T' _ X' (Fr.app N N') rfl
  subst hpc
  exact ⟨t, o, f.trans q, r⟩
theorem g_virtual (C : Ctx B l rm bytes own nm maxL ret Z) {i : Nat} {y : MethodName} {b' : ByteArray} {mx : Nat} {rt : Option FieldType} {rm' : Room} {as' : Array Value} {Q' : Option Value → Heap → Prop} {a : Addr} {K' : String} {y0 : MethodName} (w1 : (Jvm.Cond.methodLink own i y0).before a0 Z = true) (w2 : (Jvm.Cond.declares y0).before a0 Z = true) (w3 : (Jvm.Cond.selects K' y0 y).before a0 Z = true) (w4 : (Jvm.Cond.instanceMethod y).before a0 Z = true) (wz : (Jvm.Cond.initialized y.cls).before a0 Z = true) (wc : (Jvm.Cond.code y b' mx rt).before a0 Z = true) (nf : NotFace B.s y0) (hy : y0.cls ≠ "java/lang/invoke/MethodHandle" ∧ y0.cls ≠ "java/lang/invoke/VarHandle") (E : Exa Z h a K') (K : Met1 l Z y b' mx rt rm' n0 as' h Q') (argsL : List Value) {stk : List Value} (hst : stk = argsL.reverse ++ .ref a :: st) (has : as' = (Value.ref a :: argsL).toArray) {ps : List FieldType} {r' : Option FieldType} (pd : parseMethodDescriptor y0.desc = some ⟨ps, r'⟩) (hlen : argsL.length = ps.length) (hsz : L.size = maxL) (hf : rm'.frames + 1 ≤ rm.frames) {W : Nat} (hW : (st.map fun v => v.category).sum ≤ W) (hlo : W + (mx + 11) + rm'.locals ≤ rm.locals) (hc : k + rm'.cells ≤ rm.cells) (hs : n + rm'.slots ≤ rm.slots) (hd : decode bytes pc = .ok (.invokevirtual i, 3)) (hpc : pc + 3 = pc') (go : ∀ v h', Q' v h' → Go B n0 Q h' (k + rm'.cells) (n + rm'.slots) pc' L (v.toList ++ st)) : Go B n0 Q h k n pc L stk := fun T locs X N eT => by
  subst hst has
  obtain ⟨cq, kq, qa, qb, qc⟩ := isOf C.2.2.2.2.1 eT E
  obtain ⟨v, _, ⟨T', L1, k1, n1⟩, -, X', ⟨L2, ⟨N', hq⟩, l1, l2, l3⟩, f⟩ := X.virtualBack C.2.2.1 (y := y0) (z := y) C.2.2.2.2.2.1 (mvT C.2.2.2.2.1 w1) (mvT C.2.2.2.2.1 w2) nf (mvT C.2.2.2.2.1 w3) (mvT C.2.2.2.2.1 w4) hy (backOf (W := W) (Q := fun v h L => Fr n0 L ∧ Q' v h) (C.1 ▸ K []) C.2.2.2.2.1 wc wz (by rw [C.2.1]; exact hf) (by rw [C.2.1]; exact hlo)) qa qc (g := mkF B.m pc L (argsL.reverse ++ .ref a :: st)) rfl (by rw [C.2.2.2.2.2.2.2.1]; exact hsz) (Steps.refl _) (argsL := argsL) (rest := st) (lenOf pd hlen) rfl (by show 2 * 0 + _ ≤ _; omega) (hb C.2.2.2.1 hd) (fun _ _ => ⟨rfl, eT, by rw [C.2.1]; exact hc, by rw [C.2.1]; exact hs⟩)
  dsimp only [Pt.U, Pt.locs, Pt.cells, Pt.slots] at X' l1 l2 l3 f hq
  subst l1 l2 l3
  obtain ⟨t, o, q, r⟩ := go v _ hq T' _ X' (Fr.app N N') rfl
  subst hpc
  exact ⟨t, o, f.trans q, r⟩
theorem g_ret (C : Ctx B l rm bytes own nm maxL ret Z) (hE : EndOk B h) {v : Value} {ty : FieldType} {i : Instr} (hret : ret = some ty) (hn : narrow ty v = v)
    (hi : (i = .ireturn ∧ (ty = .int ∨ ty = .boolean ∨ ty = .byte ∨ ty = .char ∨ ty = .short) ∧ ∃ z, v = .int z) ∨ (i = .lreturn ∧ ty = .long ∧ ∃ z, v = .long z) ∨ (i = .dreturn ∧ ty = .double ∧ ∃ z, v = .double z) ∨ (i = .freturn ∧ ty = .float ∧ ∃ z, v = .float z) ∨ (i = .areturn ∧ ty.isReference = true ∧ v.isRef = true))
    (hd : decode bytes pc = .ok (i, 1)) (hk : k ≤ rm.cells) (hs : n ≤ rm.slots) (go : Q (some v) h) : Go B n0 Q h k n pc L (v :: st) := fun T locs X N eT => by
  have hr0 : B.meth.sig.returnType = some ty := C.2.2.2.2.2.2.2.2.1.trans hret
  obtain ⟨fs, hr, hrun, hended, hW, hsame⟩ := X.leave (v := some v) (fun q => by rw [hr0] at q; cases q) C.2.2.2.2.2.2.2.2.2
  exact ⟨_, _, retOut X C.2.2.1 hr0 hn hi (hb C.2.2.2.1 hd) hr, hrun, hended, _, _, rfl, ⟨N, by show Q _ T.heap; rw [eT]; exact go⟩, EndB.of (by show EndOk B T.heap; rw [eT]; exact hE) ⟨⟨_, rfl⟩, hW, hsame.mono (by rw [C.2.1]; exact hk) (by rw [C.2.1]; exact hs)⟩⟩
theorem g_return (C : Ctx B l rm bytes own nm maxL ret Z) (hE : EndOk B h) (hret : ret = none) (hd : decode bytes pc = .ok (.return_, 1)) (hk : k ≤ rm.cells) (hs : n ≤ rm.slots) (go : Q none h) : Go B n0 Q h k n pc L [] := fun T locs X N eT => by
  have hr0 : B.meth.sig.returnType = none := C.2.2.2.2.2.2.2.2.1.trans hret
  obtain ⟨fs, hr, hrun, hended, hW, hsame⟩ := X.leave (v := none) (fun _ => rfl) C.2.2.2.2.2.2.2.2.2
  exact ⟨_, _, X.returnOut C.2.2.1 hr0 (hb C.2.2.2.1 hd) hr, hrun, hended, _, _, rfl, ⟨N, by show Q _ T.heap; rw [eT]; exact go⟩, EndB.of (by show EndOk B T.heap; rw [eT]; exact hE) ⟨⟨_, rfl⟩, hW, hsame.mono (by rw [C.2.1]; exact hk) (by rw [C.2.1]; exact hs)⟩⟩
end Base
/-! arrays made on the road -/
section Arrays
variable {Z : State} {h h' : Heap} {a b : Addr} {ty : FieldType} {vs : List Value} {ws : List Addr} {sl : Nat} {v : Value} {K : String}
def Ary (Z : State) (h : Heap) (a : Addr) (ty : FieldType) (vs : List Value) : Prop := ∃ c : Cell, Arr Z h a c ty ∧ c.slots.toList = vs ∧ vs.length < 2 ^ 31
def AryR (Z : State) (h : Heap) (a : Addr) (K : String) (vs : List Value) : Prop := ∃ c : Cell, Arr Z h a c (.object K) ∧ Ovr Z c.cls K ∧ c.slots.toList = vs ∧ vs.length < 2 ^ 31
theorem AryR.ary (F : AryR Z h a K vs) : Ary Z h a (.object K) vs := by obtain ⟨c, A, -, r⟩ := F; exact ⟨c, A, r⟩
theorem Ary.lt (F : Ary Z h a ty vs) : a < h.size := by obtain ⟨c, A, -⟩ := F; exact A.lt
theorem AryR.lt (F : AryR Z h a K vs) : a < h.size := F.ary.lt
theorem Ary.ext (F : Ary Z h a ty vs) (E : Ext h h') : Ary Z h' a ty vs := by obtain ⟨c, A, r⟩ := F; exact ⟨c, A.ext E, r⟩
theorem AryR.ext (F : AryR Z h a K vs) (E : Ext h h') : AryR Z h' a K vs := by obtain ⟨c, A, r⟩ := F; exact ⟨c, A.ext E, r⟩
theorem Ary.keep (F : Ary Z h a ty vs) (K : Keep h h' ws) (q : a ∉ ws) : Ary Z h' a ty vs := by obtain ⟨c, A, r⟩ := F; exact ⟨c, ⟨K.2.1 a c A.1 q, A.2⟩, r⟩
theorem AryR.keep (F : AryR Z h a K vs) (Kp : Keep h h' ws) (q : a ∉ ws) : AryR Z h' a K vs := by obtain ⟨c, A, r⟩ := F; exact ⟨c, ⟨Kp.2.1 a c A.1 q, A.2⟩, r⟩
theorem set_list (c : Cell) (i : Nat) (v : Value) : (c.setSlot i v).slots.toList = c.slots.toList.set i v := by simp [Cell.setSlot]
theorem keep_ext (E : Ext h h') : Keep h h' [] := (Keep.refl h []).ext E
theorem ne_new {c : Nat} (q : a < c) (e : b = c) : a ≠ b := fun z => absurd q (by rw [z, e]; exact Nat.lt_irrefl _)
theorem ne_newL {c : Nat} (q : a < c) (e : b = c) : b ≠ a := fun z => absurd q (by rw [← z, e]; exact Nat.lt_irrefl _)
theorem ne_ge {c : Nat} (q : a < c) (e : c ≤ b) : a ≠ b := fun z => absurd q (Nat.not_lt.mpr (z ▸ e))
theorem nin1 (q : a ≠ b) : a ∉ [b] := ninS q nin0
theorem in_b {j : Int32} {c : Cell} {i : Nat} (h0 : ¬ j < 0) (hj : j.toNatClampNeg = i) (hi : i < c.slots.size) : ¬ (j < 0 ∨ c.slots.size ≤ j.toNatClampNeg) := fun q => q.elim h0 fun q => by omega
end Arrays
section ArraySteps
variable {B : Bod} {l : Launch} {rm : Room} {bytes : ByteArray} {own nm : String} {maxL : Nat} {ret : Option FieldType} {Z : State} {n0 : Nat} {Q : Option Value → Heap → Prop} {h : Heap} {k n pc pc' : Nat} {L L' : Array Slot} {st st' : List Value} {a0 : Array Value}
theorem g_iaload (C : Ctx B l rm bytes own nm maxL ret Z) {a : Addr} {vs : List Value} {j : Int32} {i : Nat} {v : Int32} (F : Ary Z h a .int vs) (h0 : ¬ j < 0) (hj : j.toNatClampNeg = i) (hv : vs[i]? = some (.int v)) (hd : decode bytes pc = .ok (.iaload, 1)) (hpc : pc + 1 = pc') (go : Go B n0 Q h k n pc' L (.int v :: st)) : Go B n0 Q h k n pc L (.int j :: .ref a :: st) := go.step fun T locs X eT t q => by
  obtain ⟨c, A, rfl, hl⟩ := F
  have hi := (List.getElem?_eq_some_iff.mp hv).1
  rw [Array.length_toList] at hi
  rw [Array.getElem?_toList, ← hj] at hv
  exact X.iaload C.2.2.1 (by rw [eT]; exact A.1) (State.isArrayOf_alike C.2.2.2.2.1.alike A.2.1)  A.2.2 (in_b h0 hj hi) hv (g := mkF B.m pc L (.int j :: .ref a :: st)) rfl rfl (hb C.2.2.2.1 hd) t (by subst hpc; exact q)
theorem g_laload (C : Ctx B l rm bytes own nm maxL ret Z) {a : Addr} {vs : List Value} {j : Int32} {i : Nat} {v : Int64} (F : Ary Z h a .long vs) (h0 : ¬ j < 0) (hj : j.toNatClampNeg = i) (hv : vs[i]? = some (.long v)) (hd : decode bytes pc = .ok (.laload, 1)) (hpc : pc + 1 = pc') (go : Go B n0 Q h k n pc' L (.long v :: st)) : Go B n0 Q h k n pc L (.int j :: .ref a :: st) := go.step fun T locs X eT t q => by
  obtain ⟨c, A, rfl, hl⟩ := F
  have hi := (List.getElem?_eq_some_iff.mp hv).1
  rw [Array.length_toList] at hi
  rw [Array.getElem?_toList, ← hj] at hv
  exact X.laload C.2.2.1 (by rw [eT]; exact A.1) (State.isArrayOf_alike C.2.2.2.2.1.alike A.2.1)  A.2.2 (in_b h0 hj hi) hv (g := mkF B.m pc L (.int j :: .ref a :: st)) rfl rfl (hb C.2.2.2.1 hd) t (by subst hpc; exact q)
theorem g_caload (C : Ctx B l rm bytes own nm maxL ret Z) {a : Addr} {vs : List Value} {j : Int32} {i : Nat} {v : Int32} (F : Ary Z h a .char vs) (h0 : ¬ j < 0) (hj : j.toNatClampNeg = i) (hv : vs[i]? = some (.int v)) (hd : decode bytes pc = .ok (.caload, 1)) (hpc : pc + 1 = pc') (go : Go B n0 Q h k n pc' L (.int v :: st)) : Go B n0 Q h k n pc L (.int j :: .ref a :: st) := go.step fun T locs X eT t q => by
  obtain ⟨c, A, rfl, hl⟩ := F
  have hi := (List.getElem?_eq_some_iff.mp hv).1
  rw [Array.length_toList] at hi
  rw [Array.getElem?_toList, ← hj] at hv
  exact X.caload C.2.2.1 (by rw [eT]; exact A.1) (State.isArrayOf_alike C.2.2.2.2.1.alike A.2.1)  A.2.2 (in_b h0 hj hi) hv (g := mkF B.m pc L (.int j :: .ref a :: st)) rfl rfl (hb C.2.2.2.1 hd) t (by subst hpc; exact q)
theorem g_baloadB (C : Ctx B l rm bytes own nm maxL ret Z) {a : Addr} {vs : List Value} {j : Int32} {i : Nat} {v : Int32} (F : Ary Z h a .byte vs) (h0 : ¬ j < 0) (hj : j.toNatClampNeg = i) (hv : vs[i]? = some (.int v)) (hd : decode bytes pc = .ok (.baload, 1)) (hpc : pc + 1 = pc') (go : Go B n0 Q h k n pc' L (.int v :: st)) : Go B n0 Q h k n pc L (.int j :: .ref a :: st) := go.step fun T locs X eT t q => by
  obtain ⟨c, A, rfl, hl⟩ := F
  have hi := (List.getElem?_eq_some_iff.mp hv).1
  rw [Array.length_toList] at hi
  rw [Array.getElem?_toList, ← hj] at hv
  exact X.baloadBytes C.2.2.1 (by rw [eT]; exact A.1) (State.isArrayOf_alike C.2.2.2.2.1.alike A.2.1)  A.2.2 (in_b h0 hj hi) hv (g := mkF B.m pc L (.int j :: .ref a :: st)) rfl rfl (hb C.2.2.2.1 hd) t (by subst hpc; exact q)
theorem g_baloadZ (C : Ctx B l rm bytes own nm maxL ret Z) {a : Addr} {vs : List Value} {j : Int32} {i : Nat} {v : Int32} (F : Ary Z h a .boolean vs) (h0 : ¬ j < 0) (hj : j.toNatClampNeg = i) (hv : vs[i]? = some (.int v)) (hd : decode bytes pc = .ok (.baload, 1)) (hpc : pc + 1 = pc') (go : Go B n0 Q h k n pc' L (.int v :: st)) : Go B n0 Q h k n pc L (.int j :: .ref a :: st) := go.step fun T locs X eT t q => by
  obtain ⟨c, A, rfl, hl⟩ := F
  have hi := (List.getElem?_eq_some_iff.mp hv).1
  rw [Array.length_toList] at hi
  rw [Array.getElem?_toList, ← hj] at hv
  exact X.baloadBooleans C.2.2.1 (by rw [eT]; exact A.1) (State.isArrayOf_alike C.2.2.2.2.1.alike A.2.1)  A.2.2 (in_b h0 hj hi) hv (g := mkF B.m pc L (.int j :: .ref a :: st)) rfl rfl (hb C.2.2.2.1 hd) t (by subst hpc; exact q)
theorem g_aaload (C : Ctx B l rm bytes own nm maxL ret Z) {a : Addr} {vs : List Value} {j : Int32} {i : Nat} {v : Value} {ty : FieldType} (F : Ary Z h a ty vs) (hty : ty.isReference = true) (h0 : ¬ j < 0) (hj : j.toNatClampNeg = i) (hv : vs[i]? = some v) (hd : decode bytes pc = .ok (.aaload, 1)) (hpc : pc + 1 = pc') (go : Go B n0 Q h k n pc' L (v :: st)) : Go B n0 Q h k n pc L (.int j :: .ref a :: st) := go.step fun T locs X eT t q => by
  obtain ⟨c, A, rfl, hl⟩ := F
  have hi := (List.getElem?_eq_some_iff.mp hv).1
  rw [Array.length_toList] at hi
  rw [Array.getElem?_toList, ← hj] at hv
  exact X.aaload C.2.2.1 (by rw [eT]; exact A.1) (State.isArrayOf_alike C.2.2.2.2.1.alike A.2.1) hty A.2.2 (in_b h0 hj hi) hv (g := mkF B.m pc L (.int j :: .ref a :: st)) rfl rfl (hb C.2.2.2.1 hd) t (by subst hpc; exact q)
theorem g_arraylength (C : Ctx B l rm bytes own nm maxL ret Z) {a : Addr} {vs : List Value} {ty : FieldType} {z : Int32} (F : Ary Z h a ty vs) (hz : vs.length.toInt32 = z) (hd : decode bytes pc = .ok (.arraylength, 1)) (hpc : pc + 1 = pc') (go : Go B n0 Q h k n pc' L (.int z :: st)) : Go B n0 Q h k n pc L (.ref a :: st) := go.step fun T locs X eT t q => by
  obtain ⟨c, A, rfl, hl⟩ := F
  rw [Array.length_toList] at hz
  exact X.arraylength C.2.2.1 (by rw [eT]; exact A.1) (State.isArrayOf_alike C.2.2.2.2.1.alike A.2.1) (g := mkF B.m pc L (.ref a :: st)) rfl rfl (hb C.2.2.2.1 hd) t (by subst hpc hz; exact q)
theorem g_iastore (C : Ctx B l rm bytes own nm maxL ret Z) {a : Addr} {vs : List Value} {j : Int32} {i : Nat} {v : Int32} {w : Value} (F : Ary Z h a .int vs) (h0 : ¬ j < 0) (hj : j.toNatClampNeg = i) (hi : i < vs.length) (hw : Value.int v = w) (ge : n0 ≤ a) (hd : decode bytes pc = .ok (.iastore, 1)) (hpc : pc + 1 = pc') (go : ∀ h', Keep h h' [a] → Ary Z h' a .int (vs.set i w) → Go B n0 Q h' k n pc' L st) : Go B n0 Q h k n pc L (.int v :: .int j :: .ref a :: st) := fun T locs X N eT => by
  obtain ⟨c, A, rfl, hl⟩ := F
  have hi' := hi
  rw [Array.length_toList] at hi'
  obtain ⟨T', h', X', e', W, f⟩ := stI X C.2.2.1 C.2.2.2.2.1 eT A (in_b h0 hj hi') (g := mkF B.m pc L (.int v :: .int j :: .ref a :: st)) rfl rfl (hb C.2.2.2.1 hd)
  rw [hj, hw] at W
  obtain ⟨t, o, q, r⟩ := go h' (Keep.of_wr W) ⟨_, A.same W, set_list c i w, by rw [List.length_set]; exact hl⟩ T' _ X' (Fr.snoc X' N ge) e'
  subst hpc
  exact ⟨t, o, f t q, r⟩
theorem g_lastore (C : Ctx B l rm bytes own nm maxL ret Z) {a : Addr} {vs : List Value} {j : Int32} {i : Nat} {v : Int64} {w : Value} (F : Ary Z h a .long vs) (h0 : ¬ j < 0) (hj : j.toNatClampNeg = i) (hi : i < vs.length) (hw : Value.long v = w) (ge : n0 ≤ a) (hd : decode bytes pc = .ok (.lastore, 1)) (hpc : pc + 1 = pc') (go : ∀ h', Keep h h' [a] → Ary Z h' a .long (vs.set i w) → Go B n0 Q h' k n pc' L st) : Go B n0 Q h k n pc L (.long v :: .int j :: .ref a :: st) := fun T locs X N eT => by
  obtain ⟨c, A, rfl, hl⟩ := F
  have hi' := hi
  rw [Array.length_toList] at hi'
  obtain ⟨T', h', X', e', W, f⟩ := stJ X C.2.2.1 C.2.2.2.2.1 eT A (in_b h0 hj hi') (g := mkF B.m pc L (.long v :: .int j :: .ref a :: st)) rfl rfl (hb C.2.2.2.1 hd)
  rw [hj, hw] at W
  obtain ⟨t, o, q, r⟩ := go h' (Keep.of_wr W) ⟨_, A.same W, set_list c i w, by rw [List.length_set]; exact hl⟩ T' _ X' (Fr.snoc X' N ge) e'
  subst hpc
  exact ⟨t, o, f t q, r⟩
theorem g_castore (C : Ctx B l rm bytes own nm maxL ret Z) {a : Addr} {vs : List Value} {j : Int32} {i : Nat} {v : Int32} {w : Value} (F : Ary Z h a .char vs) (h0 : ¬ j < 0) (hj : j.toNatClampNeg = i) (hi : i < vs.length) (hw : Value.int (nar .char v) = w) (ge : n0 ≤ a) (hd : decode bytes pc = .ok (.castore, 1)) (hpc : pc + 1 = pc') (go : ∀ h', Keep h h' [a] → Ary Z h' a .char (vs.set i w) → Go B n0 Q h' k n pc' L st) : Go B n0 Q h k n pc L (.int v :: .int j :: .ref a :: st) := fun T locs X N eT => by
  obtain ⟨c, A, rfl, hl⟩ := F
  have hi' := hi
  rw [Array.length_toList] at hi'
  obtain ⟨T', h', X', e', W, f⟩ := stC X C.2.2.1 C.2.2.2.2.1 eT A (in_b h0 hj hi') (g := mkF B.m pc L (.int v :: .int j :: .ref a :: st)) rfl rfl (hb C.2.2.2.1 hd)
  rw [hj, hw] at W
  obtain ⟨t, o, q, r⟩ := go h' (Keep.of_wr W) ⟨_, A.same W, set_list c i w, by rw [List.length_set]; exact hl⟩ T' _ X' (Fr.snoc X' N ge) e'
  subst hpc
  exact ⟨t, o, f t q, r⟩
theorem g_bastoreB (C : Ctx B l rm bytes own nm maxL ret Z) {a : Addr} {vs : List Value} {j : Int32} {i : Nat} {v : Int32} {w : Value} (F : Ary Z h a .byte vs) (h0 : ¬ j < 0) (hj : j.toNatClampNeg = i) (hi : i < vs.length) (hw : Value.int (nar .byte v) = w) (ge : n0 ≤ a) (hd : decode bytes pc = .ok (.bastore, 1)) (hpc : pc + 1 = pc') (go : ∀ h', Keep h h' [a] → Ary Z h' a .byte (vs.set i w) → Go B n0 Q h' k n pc' L st) : Go B n0 Q h k n pc L (.int v :: .int j :: .ref a :: st) := fun T locs X N eT => by
  obtain ⟨c, A, rfl, hl⟩ := F
  have hi' := hi
  rw [Array.length_toList] at hi'
  obtain ⟨T', h', X', e', W, f⟩ := stB X C.2.2.1 C.2.2.2.2.1 eT A (in_b h0 hj hi') (g := mkF B.m pc L (.int v :: .int j :: .ref a :: st)) rfl rfl (hb C.2.2.2.1 hd)
  rw [hj, hw] at W
  obtain ⟨t, o, q, r⟩ := go h' (Keep.of_wr W) ⟨_, A.same W, set_list c i w, by rw [List.length_set]; exact hl⟩ T' _ X' (Fr.snoc X' N ge) e'
  subst hpc
  exact ⟨t, o, f t q, r⟩
theorem g_bastoreZ (C : Ctx B l rm bytes own nm maxL ret Z) {a : Addr} {vs : List Value} {j : Int32} {i : Nat} {v : Int32} {w : Value} (F : Ary Z h a .boolean vs) (h0 : ¬ j < 0) (hj : j.toNatClampNeg = i) (hi : i < vs.length) (hw : Value.int (nar .boolean v) = w) (ge : n0 ≤ a) (hd : decode bytes pc = .ok (.bastore, 1)) (hpc : pc + 1 = pc') (go : ∀ h', Keep h h' [a] → Ary Z h' a .boolean (vs.set i w) → Go B n0 Q h' k n pc' L st) : Go B n0 Q h k n pc L (.int v :: .int j :: .ref a :: st) := fun T locs X N eT => by
  obtain ⟨c, A, rfl, hl⟩ := F
  have hi' := hi
  rw [Array.length_toList] at hi'
  obtain ⟨T', h', X', e', W, f⟩ := stZ X C.2.2.1 C.2.2.2.2.1 eT A (in_b h0 hj hi') (g := mkF B.m pc L (.int v :: .int j :: .ref a :: st)) rfl rfl (hb C.2.2.2.1 hd)
  rw [hj, hw] at W
  obtain ⟨t, o, q, r⟩ := go h' (Keep.of_wr W) ⟨_, A.same W, set_list c i w, by rw [List.length_set]; exact hl⟩ T' _ X' (Fr.snoc X' N ge) e'
  subst hpc
  exact ⟨t, o, f t q, r⟩
theorem g_aastore (C : Ctx B l rm bytes own nm maxL ret Z) {a y : Addr} {K : String} {vs : List Value} {j : Int32} {i : Nat} (F : AryR Z h a K vs) (I : Ins Z h y K true) (h0 : ¬ j < 0) (hj : j.toNatClampNeg = i) (hi : i < vs.length) (ge : n0 ≤ a) (hd : decode bytes pc = .ok (.aastore, 1)) (hpc : pc + 1 = pc') (go : ∀ h', Keep h h' [a] → AryR Z h' a K (vs.set i (.ref y)) → Go B n0 Q h' k n pc' L st) : Go B n0 Q h k n pc L (.ref y :: .int j :: .ref a :: st) := fun T locs X N eT => by
  obtain ⟨c, A, O, rfl, hl⟩ := F
  have hi' := hi
  rw [Array.length_toList] at hi'
  obtain ⟨T', h', X', e', W, f⟩ := stR X C.2.2.1 C.2.2.2.2.1 eT A (in_b h0 hj hi') rfl (Sto.of A O I) (g := mkF B.m pc L (.ref y :: .int j :: .ref a :: st)) rfl rfl (hb C.2.2.2.1 hd)
  rw [hj] at W
  obtain ⟨t, o, q, r⟩ := go h' (Keep.of_wr W) ⟨_, A.same W, O, set_list c i _, by rw [List.length_set]; exact hl⟩ T' _ X' (Fr.snoc X' N ge) e'
  subst hpc
  exact ⟨t, o, f t q, r⟩
theorem g_newarray (C : Ctx B l rm bytes own nm maxL ret Z) {aty : ArrayType} {z : Int32} {cap : Nat} {ty : FieldType} (w : (Jvm.Cond.arrayClass (newarray.typeOf aty)).before a0 Z = true) (hty : newarray.typeOf aty = ty) (hz : ¬ z < 0) (hcap : z.toNatClampNeg = cap) (hcb : cap * 8 ≤ 536870912) (hc : k + 1 ≤ rm.cells) (hl : n + cap ≤ rm.slots) (hd : decode bytes pc = .ok (.newarray aty, 2)) (hpc : pc + 2 = pc') (go : ∀ h' a, a = h.size → Ext h h' → Ary Z h' a ty (List.replicate cap (defaultValue ty)) → Go B n0 Q h' (k + 1) (n + cap) pc' L (.ref a :: st)) : Go B n0 Q h k n pc L (.int z :: st) := fun T locs X N eT => by
  subst hty
  obtain ⟨T', h', cA, X', e', E, A, f⟩ := newP X C.2.2.1 C.2.2.2.2.1 w eT (g := mkF B.m pc L (.int z :: st)) rfl (hb C.2.2.2.1 hd) rfl hz (cap := cap) (Nat.le_of_eq hcap) hcb (by rw [C.2.1]; exact hc) (by rw [C.2.1]; exact hl)
  obtain ⟨t, o, q, r⟩ := go h' _ rfl E ⟨_, A, by rw [← hcap]; simp [newA], by rw [List.length_replicate]; omega⟩ T' _ X' N e'
  subst hpc
  exact ⟨t, o, f t q, r⟩
theorem g_newarrayUpTo (C : Ctx B l rm bytes own nm maxL ret Z) {aty : ArrayType} {z : Int32} {len cap : Nat} {ty : FieldType} (w : (Jvm.Cond.arrayClass (newarray.typeOf aty)).before a0 Z = true) (hty : newarray.typeOf aty = ty) (hz : ¬ z < 0) (hlen : z.toNatClampNeg = len) (hcap : len ≤ cap) (hcb : cap * 8 ≤ 536870912) (hc : k + 1 ≤ rm.cells) (hl : n + cap ≤ rm.slots) (hd : decode bytes pc = .ok (.newarray aty, 2)) (hpc : pc + 2 = pc') (go : ∀ h' a, a = h.size → Ext h h' → Ary Z h' a ty (List.replicate len (defaultValue ty)) → Go B n0 Q h' (k + 1) (n + cap) pc' L (.ref a :: st)) : Go B n0 Q h k n pc L (.int z :: st) := fun T locs X N eT => by
  subst hty
  obtain ⟨T', h', cA, X', e', E, A, f⟩ := newP X C.2.2.1 C.2.2.2.2.1 w eT (g := mkF B.m pc L (.int z :: st)) rfl (hb C.2.2.2.1 hd) rfl hz (cap := cap) (by rw [hlen]; exact hcap) hcb (by rw [C.2.1]; exact hc) (by rw [C.2.1]; exact hl)
  obtain ⟨t, o, q, r⟩ := go h' _ rfl E ⟨_, A, by rw [← hlen]; simp [newA], by rw [List.length_replicate]; omega⟩ T' _ X' N e'
  subst hpc
  exact ⟨t, o, f t q, r⟩
theorem g_anewarray (C : Ctx B l rm bytes own nm maxL ret Z) {i : Nat} {K : String} {z : Int32} {cap : Nat} (w : (Jvm.Cond.classLink own i K).before a0 Z = true) (w2 : (Jvm.Cond.arrayOver (.object K)).before a0 Z = true) (hz : ¬ z < 0) (hcap : z.toNatClampNeg = cap) (hcb : cap * 8 ≤ 536870912) (hc : k + 1 ≤ rm.cells) (hl : n + cap ≤ rm.slots) (hd : decode bytes pc = .ok (.anewarray i, 3)) (hpc : pc + 3 = pc') (go : ∀ h' a, a = h.size → Ext h h' → AryR Z h' a K (List.replicate cap .null) → Go B n0 Q h' (k + 1) (n + cap) pc' L (.ref a :: st)) : Go B n0 Q h k n pc L (.int z :: st) := fun T locs X N eT => by
  obtain ⟨T', h', cA, X', e', E, A, O, f⟩ := newR X C.2.2.1 C.2.2.2.2.1 C.2.2.2.2.2.1 w w2 eT (g := mkF B.m pc L (.int z :: st)) rfl (hb C.2.2.2.1 hd) rfl hz (cap := cap) (Nat.le_of_eq hcap) hcb (by rw [C.2.1]; exact hc) (by rw [C.2.1]; exact hl)
  obtain ⟨t, o, q, r⟩ := go h' _ rfl E ⟨_, A, O, by rw [← hcap]; simp [newA, defaultValue], by rw [List.length_replicate]; omega⟩ T' _ X' N e'
  subst hpc
  exact ⟨t, o, f t q, r⟩
end ArraySteps
end Jvm.OwnKit
namespace Jvm.OwnKit
open Jvm Jvm.ClassFile Sem Op Lib Jvm.Stand Jvm.Free Jvm.LawKit Jvm.RoadKit
section More
variable {B : Bod} {l : Launch} {rm : Room} {bytes : ByteArray} {own nm : String} {maxL : Nat} {ret : Option FieldType} {Z : State} {n0 : Nat} {Q : Option Value → Heap → Prop} {h h' : Heap} {k n pc pc' : Nat} {L L' : Array Slot} {st st' : List Value} {a0 : Array Value} {a b : Addr} {ty : FieldType} {vs vd : List Value}
theorem g_sipush (C : Ctx B l rm bytes own nm maxL ret Z) {z : Int} {v : Int32} (hd : decode bytes pc = .ok (.sipush z, 3)) (hv : (Int16.ofInt z).toInt32 = v) (hpc : pc + 3 = pc') (go : Go B n0 Q h k n pc' L (.int v :: st)) : Go B n0 Q h k n pc L st := go.step fun T locs X eT t q => Jvm.Free.XS.sipush X.here C.2.2.1 rfl (hb C.2.2.2.1 hd) (by subst hpc hv; exact q)
theorem g_instanceof_null (C : Ctx B l rm bytes own nm maxL ret Z) {i : Nat} (hd : decode bytes pc = .ok (.instanceof i, 3)) (hpc : pc + 3 = pc') (go : Go B n0 Q h k n pc' L (.int 0 :: st)) : Go B n0 Q h k n pc L (.null :: st) := go.step fun T locs X eT t q => X.instanceofNull C.2.2.1 (g := mkF B.m pc L (.null :: st)) rfl rfl (hb C.2.2.2.1 hd) t (by subst hpc; exact q)
theorem g_checkcast_null (C : Ctx B l rm bytes own nm maxL ret Z) {i : Nat} (hd : decode bytes pc = .ok (.checkcast i, 3)) (hpc : pc + 3 = pc') (go : Go B n0 Q h k n pc' L (.null :: st)) : Go B n0 Q h k n pc L (.null :: st) := go.step fun T locs X eT t q => X.checkcastNull C.2.2.1 (g := mkF B.m pc L (.null :: st)) rfl rfl (hb C.2.2.2.1 hd) t (by subst hpc; exact q)
theorem g_private (C : Ctx B l rm bytes own nm maxL ret Z) {i nn : Nat} {y : MethodName} {b' : ByteArray} {mx : Nat} {rt : Option FieldType} {rm' : Room} {as' : Array Value} {Q' : Option Value → Heap → Prop} {K' : String} (w1 : (Jvm.Cond.methodLink own i y).before a0 Z = true) (w4 : (Jvm.Cond.instanceMethod y).before a0 Z = true) (wp : (Jvm.Cond.privateMethod y).before a0 Z = true) (wi : (Jvm.Cond.instantiable y.cls nn).before a0 Z = true) (wz : (Jvm.Cond.initialized y.cls).before a0 Z = true) (wc : (Jvm.Cond.code y b' mx rt).before a0 Z = true) (hy : y.cls ≠ "java/lang/invoke/MethodHandle" ∧ y.cls ≠ "java/lang/invoke/VarHandle") (E : Exa Z h a K') (K : Met1 l Z y b' mx rt rm' n0 as' h Q') (argsL : List Value) {stk : List Value} (hst : stk = argsL.reverse ++ .ref a :: st) (has : as' = (Value.ref a :: argsL).toArray) {ps : List FieldType} {r' : Option FieldType} (pd : parseMethodDescriptor y.desc = some ⟨ps, r'⟩) (hlen : argsL.length = ps.length) (hsz : L.size = maxL) (hf : rm'.frames + 1 ≤ rm.frames) {W : Nat} (hW : (st.map fun v => v.category).sum ≤ W) (hlo : W + (mx + 11) + rm'.locals ≤ rm.locals) (hc : k + rm'.cells ≤ rm.cells) (hs : n + rm'.slots ≤ rm.slots) (hd : decode bytes pc = .ok (.invokevirtual i, 3)) (hpc : pc + 3 = pc') (go : ∀ v h', Q' v h' → Go B n0 Q h' (k + rm'.cells) (n + rm'.slots) pc' L (v.toList ++ st)) : Go B n0 Q h k n pc L stk := fun T locs X N eT => by
  subst hst has
  obtain ⟨cq, kq, qa, qb, cellq, qc, qd, qe⟩ := isOf C.2.2.2.2.1 eT E
  obtain ⟨c9, k9, u1, u2, u3, u4, -⟩ := Cond.instantiable_spec (mvT (args := B.args) C.2.2.2.2.1 wi)
  have hni : k9.isInterface = false := by simp only [Bool.or_eq_false_iff] at u4; exact u4.1
  have hpr := Cond.privateMethod_at (mvP C.2.2.2.2.1 wp (args := B.args))
  have hsel := selects_self_of_private (args := B.args) u1 u2 hni hpr (mvT C.2.2.2.2.1 w4) hy
  obtain ⟨v, _, ⟨T', L1, k1, n1⟩, -, X', ⟨L2, ⟨N', hq⟩, l1, l2, l3⟩, f⟩ := X.privateBack C.2.2.1 (y := y) C.2.2.2.2.2.1 (mvT C.2.2.2.2.1 w1) (mvT C.2.2.2.2.1 w4) hsel hpr (mvT C.2.2.2.2.1 wc) hy (backOf (W := W) (Q := fun v h L => Fr n0 L ∧ Q' v h) (C.1 ▸ K []) C.2.2.2.2.1 wc wz (by rw [C.2.1]; exact hf) (by rw [C.2.1]; exact hlo)) (g := mkF B.m pc L (argsL.reverse ++ .ref a :: st)) rfl (by rw [C.2.2.2.2.2.2.2.1]; exact hsz) (Steps.refl _) (a := a) qc (fun z e => by rw [e] at qe; cases qe) (argsL := argsL) (rest := st) (lenOf pd hlen) rfl (by show 2 * 0 + _ ≤ _; omega) (hb C.2.2.2.1 hd) (fun _ _ => ⟨rfl, eT, by rw [C.2.1]; exact hc, by rw [C.2.1]; exact hs⟩)
  dsimp only [Pt.U, Pt.locs, Pt.cells, Pt.slots] at X' l1 l2 l3 f hq
  subst l1 l2 l3
  obtain ⟨t, o, q, r⟩ := go v _ hq T' _ X' (Fr.app N N') rfl
  subst hpc
  exact ⟨t, o, f.trans q, r⟩
theorem nat32 {m : Nat} (q : m < 2 ^ 31) : m.toInt32.toNatClampNeg = m := Int32.toNatClampNeg_ofNat_of_lt q
theorem nneg32 {m : Nat} (q : m < 2 ^ 31) : ¬ m.toInt32 < 0 := by
  have e := len_toInt q
  rw [Int32.lt_iff_toInt_lt, e]
  show ¬ (m : Int) < 0
  omega
theorem Ary.arv (F : Ary Z h a ty vs) (hf : ∀ v ∈ vs, fits ty v = true) (dv : Value) : ∃ kk, Arv Z h a kk ty vs.length.toInt32 vs dv := by
  obtain ⟨c, A, rfl, hl⟩ := F
  have hs : c.slots.toList.length = c.slots.size := Array.length_toList
  refine ⟨c.cls, c, A, rfl, ?_, nneg32 hl, fun i hi => ?_, fun i hi => ?_⟩
  · rw [nat32 hl, hs]
  · rw [List.getD_eq_getElem?_getD, Array.getElem?_toList, Array.getElem?_eq_getElem hi]; rfl
  · apply hf
    rw [List.getD_eq_getElem?_getD, Array.getElem?_toList, Array.getElem?_eq_getElem hi]
    exact Array.mem_toList_iff.mpr (Array.getElem_mem hi)
theorem Arv.ary {kk : ClassId} {z : Int32} {dv : Value} (F : Arv Z h a kk ty z vs dv) (hz : z.toNatClampNeg = vs.length) (hl : vs.length < 2 ^ 31) : Ary Z h a ty vs := by
  obtain ⟨c, A, -, S, -, H, -⟩ := F
  refine ⟨c, A, ?_, hl⟩
  apply List.ext_getElem?
  intro i
  by_cases hi : i < c.slots.size
  · rw [Array.getElem?_toList, H i hi, List.getD_eq_getElem?_getD, List.getElem?_eq_getElem (by omega)]; rfl
  · rw [List.getElem?_eq_none (by rw [Array.length_toList]; omega), List.getElem?_eq_none (by omega)]
theorem g_arraycopy (C : Ctx B l rm bytes own nm maxL ret Z) {i : Nat} {sp dp nn : Int32} {spN dpN nnN : Nat} (w1 : (Jvm.Cond.methodLink own i Jvm.Stand.acN).before a0 Z = true) (w2 : (Jvm.Cond.native Jvm.Stand.acN).before a0 Z = true) (w3 : (Jvm.Cond.static Jvm.Stand.acN).before a0 Z = true) (w4 : (Jvm.Cond.initialized "java/lang/System").before a0 Z = true) (F : Ary Z h a ty vs) (G : Ary Z h b ty vd) (hp : refKind ty = false) (hfa : ∀ v ∈ vs, fits ty v = true) (hfb : ∀ v ∈ vd, fits ty v = true) (h1 : ¬ sp < 0) (h2 : ¬ dp < 0) (h3 : ¬ nn < 0) (e1 : sp.toNatClampNeg = spN) (e2 : dp.toNatClampNeg = dpN) (e3 : nn.toNatClampNeg = nnN) (h4 : spN + nnN ≤ vs.length) (h5 : dpN + nnN ≤ vd.length) {out : List Value} (ho : vd.take dpN ++ (List.range nnN).map (fun j => vs.getD (spN + j) .null) ++ vd.drop (dpN + nnN) = out) (ge : n0 ≤ b) (hsz : L.size = maxL) (hf : 1 ≤ rm.frames) {W : Nat} (hW : (st.map fun v => v.category).sum ≤ W) (hlo : W + (nativeFrameWords "java/lang/System" "arraycopy" 5 + 11) ≤ rm.locals) (hd : decode bytes pc = .ok (.invokestatic i, 3)) (hpc : pc + 3 = pc') (go : ∀ h', Keep h h' [b] → Ary Z h' b ty out → Go B n0 Q h' k n pc' L st) : Go B n0 Q h k n pc L (.int nn :: .int dp :: .ref b :: .int sp :: .ref a :: st) := fun T locs X N eT => by
  obtain ⟨ka, A⟩ := F.arv hfa .null
  obtain ⟨kb, A'⟩ := G.arv hfb .null
  obtain ⟨-, -, -, hla⟩ := F
  have hlb : vd.length < 2 ^ 31 := by obtain ⟨-, -, -, q⟩ := G; exact q
  subst e1 e2 e3
  obtain ⟨T', h', L', X', e', N', Kp, R', f⟩ := cpA X C.2.2.1 C.2.2.2.2.1 C.2.2.2.2.2.1 w1 w2 w3 w4 eT A A' (us := (List.range nn.toNatClampNeg).map fun j => vs.getD (sp.toNatClampNeg + j) .null) (Or.inl ⟨rfl, hp⟩) h1 h2 h3 (by rw [nat32 hla]; exact h4) (by rw [nat32 hlb]; exact h5) rfl h5 N ge (g := mkF B.m pc L (.int nn :: .int dp :: .ref b :: .int sp :: .ref a :: st)) rfl (by rw [C.2.2.2.2.2.2.2.1]; exact hsz) rfl (hb C.2.2.2.1 hd) (by rw [C.2.1]; exact hf) (W := W) (by show 2 * 0 + _ ≤ _; omega) (by rw [C.2.1]; exact hlo)
  have ol : (vd.take dp.toNatClampNeg ++ (List.range nn.toNatClampNeg).map (fun j => vs.getD (sp.toNatClampNeg + j) .null) ++ vd.drop (dp.toNatClampNeg + nn.toNatClampNeg)).length = vd.length := by simp; omega
  obtain ⟨t, o, q, r⟩ := go h' Kp (ho ▸ Arv.ary R' (by rw [nat32 hlb, ol]) (by rw [ol]; exact hlb)) T' _ X' N' e'
  subst hpc
  exact ⟨t, o, f t q, r⟩
theorem g_newarrayE (C : Ctx B l rm bytes own nm maxL ret Z) {aty : ArrayType} {z : Int32} {cap : Nat} {ty : FieldType} {ad : String} (w : (Jvm.Cond.arrayClass (newarray.typeOf aty)).before a0 Z = true) (hty : newarray.typeOf aty = ty) (had : "[" ++ (newarray.typeOf aty).toString = ad) (hz : ¬ z < 0) (hcap : z.toNatClampNeg = cap) (hcb : cap * 8 ≤ 536870912) (hc : k + 1 ≤ rm.cells) (hl : n + cap ≤ rm.slots) (hd : decode bytes pc = .ok (.newarray aty, 2)) (hpc : pc + 2 = pc') (go : ∀ h' a, a = h.size → Ext h h' → Ary Z h' a ty (List.replicate cap (defaultValue ty)) → Exa Z h' a ad → Go B n0 Q h' (k + 1) (n + cap) pc' L (.ref a :: st)) : Go B n0 Q h k n pc L (.int z :: st) := fun T locs X N eT => by
  subst hty
  obtain ⟨T', h', cA, X', e', E, A, Ex, f⟩ := newPE X C.2.2.1 C.2.2.2.2.1 w eT (g := mkF B.m pc L (.int z :: st)) rfl (hb C.2.2.2.1 hd) rfl hz (cap := cap) (Nat.le_of_eq hcap) hcb (by rw [C.2.1]; exact hc) (by rw [C.2.1]; exact hl) had
  obtain ⟨t, o, q, r⟩ := go h' _ rfl E ⟨_, A, by rw [← hcap]; simp [newA], by rw [List.length_replicate]; omega⟩ Ex T' _ X' N e'
  subst hpc
  exact ⟨t, o, f t q, r⟩
theorem g_clone (C : Ctx B l rm bytes own nm maxL ret Z) {i cap : Nat} {ad : String} (w1 : (Jvm.Cond.methodLink own i ⟨ad, "clone", "()Ljava/lang/Object;"⟩).before a0 Z = true) (w2 : (Jvm.Cond.sameMethod ad "java/lang/Object" "clone" "()Ljava/lang/Object;").before a0 Z = true) (w3 : (Jvm.Cond.native ⟨"java/lang/Object", "clone", "()Ljava/lang/Object;"⟩).before a0 Z = true)
    (w4 : (Jvm.Cond.instanceMethod ⟨"java/lang/Object", "clone", "()Ljava/lang/Object;"⟩).before a0 Z = true) (w5 : (Jvm.Cond.selects ad ⟨ad, "clone", "()Ljava/lang/Object;"⟩ ⟨"java/lang/Object", "clone", "()Ljava/lang/Object;"⟩).before a0 Z = true) (w6 : (Jvm.Cond.castable ad "java/lang/Cloneable").before a0 Z = true)
    (F : Ary Z h a ty vs) (E : Exa Z h a ad) (hfa : ∀ v ∈ vs, fits ty v = true) (hsz : L.size = maxL) (hf : 1 ≤ rm.frames) {W : Nat} (hW : (st.map fun v => v.category).sum ≤ W) (hlo : W + 14 ≤ rm.locals) (hcap : vs.length ≤ cap) (hc : k + 1 ≤ rm.cells) (hl : n + cap ≤ rm.slots) (hd : decode bytes pc = .ok (.invokevirtual i, 3)) (hpc : pc + 3 = pc') (go : ∀ h' b, b = h.size → Ext h h' → Ary Z h' b ty vs → Exa Z h' b ad → Go B n0 Q h' (k + 1) (n + cap) pc' L (.ref b :: st)) : Go B n0 Q h k n pc L (.ref a :: st) := fun T locs X N eT => by
  obtain ⟨c, A, rfl, hlv⟩ := F
  have FC : FitC Z c := fitC_of A fun j hj v hv => hfa v (by rw [Array.mem_toList_iff]; exact Array.mem_of_getElem? hv)
  obtain ⟨T', h', X', e', Ex, A', E', f⟩ := cloneA X C.2.2.1 C.2.2.2.2.1 C.2.2.2.2.2.1 w1 w2 w3 w4 w5 w6 eT A E FC (g := mkF B.m pc L (.ref a :: st)) rfl (by rw [C.2.2.2.2.2.2.2.1]; exact hsz) rfl (hb C.2.2.2.1 hd) (by rw [C.2.1]; exact hf) (W := W) (cap := cap) (by show 2 * 0 + _ ≤ _; omega) (by rw [C.2.1]; exact hlo) (by rw [← Array.length_toList]; exact hcap) (by rw [C.2.1]; exact hc) (by rw [C.2.1]; exact hl)
  obtain ⟨t, o, q, r⟩ := go h' _ rfl Ex ⟨_, A', rfl, hlv⟩ E' T' _ X' N e'
  subst hpc
  exact ⟨t, o, f t q, r⟩
end More
end Jvm.OwnKit
namespace Jvm.OwnKit
open Jvm Jvm.ClassFile Sem Op Lib Jvm.Stand Jvm.Free Jvm.LawKit Jvm.RoadKit
section Third
variable {B : Bod} {l : Launch} {rm : Room} {bytes : ByteArray} {own nm : String} {maxL : Nat} {ret : Option FieldType} {Z : State} {n0 : Nat} {Q : Option Value → Heap → Prop} {h h' : Heap} {k n pc pc' : Nat} {L L' : Array Slot} {st st' : List Value} {a0 : Array Value} {a b : Addr} {ty : FieldType} {vs vd : List Value}
theorem own_pop2 {tb : Tables} [Ours tb] {e : Env} {below : List Frame} {T target : State} {m : MethodId} {c : Code} {g : JFrame} (h : At T m c below) (hx : tb.exec = Jvm.exec) (hg : g.method = m) {x : Int64} {rest : List Value} (hd : decode c.code g.pc = .ok (.pop2, 1)) (hs : g.stack = .long x :: rest)
    (hr : Steps tb e below (T.setTop { g with pc := g.pc + 1, stack := rest }) target) : Steps tb e below (T.setTop g) target := by
  subst hg
  jvm_step h [h.top, hx, hd, hs, Value.category]
  exact hr
theorem g_pop2L (C : Ctx B l rm bytes own nm maxL ret Z) {x : Int64} (hd : decode bytes pc = .ok (.pop2, 1)) (hpc : pc + 1 = pc') (go : Go B n0 Q h k n pc' L st) : Go B n0 Q h k n pc L (.long x :: st) := go.step fun T locs X eT t q => own_pop2 X.here C.2.2.1 rfl (hb C.2.2.2.1 hd) rfl (by subst hpc; exact q)
theorem g_interface (C : Ctx B l rm bytes own nm maxL ret Z) {i cnt : Nat} {y y0 : MethodName} {b' : ByteArray} {mx : Nat} {rt : Option FieldType} {rm' : Room} {as' : Array Value} {Q' : Option Value → Heap → Prop} {K' : String} (w1 : (Jvm.Cond.methodLink own i y0).before a0 Z = true) (w2 : (Jvm.Cond.declares y0).before a0 Z = true) (wf : (Jvm.Cond.interfaceMethod y0.cls y0.cls y0.name y0.desc).before a0 Z = true) (hwf : (Jvm.Cond.interfaceMethod y0.cls y0.cls y0.name y0.desc).faceAtom = true) (w3 : (Jvm.Cond.selects K' y0 y).before a0 Z = true) (w4 : (Jvm.Cond.instanceMethod y).before a0 Z = true) (wp : (Jvm.Cond.publicMethod y).before a0 Z = true) (wu : (Jvm.Cond.unhidden K' y0.name y0.desc).before a0 Z = true) (wk : (Jvm.Cond.castable K' y0.cls).before a0 Z = true) (wz : (Jvm.Cond.initialized y.cls).before a0 Z = true) (wc : (Jvm.Cond.code y b' mx rt).before a0 Z = true) (hy : y0.cls ≠ "java/lang/invoke/MethodHandle" ∧ y0.cls ≠ "java/lang/invoke/VarHandle") (E : Exa Z h a K') (K : Met1 l Z y b' mx rt rm' n0 as' h Q') (argsL : List Value) {stk : List Value} (hst : stk = argsL.reverse ++ .ref a :: st) (has : as' = (Value.ref a :: argsL).toArray) {ps : List FieldType} {r' : Option FieldType} (pd : parseMethodDescriptor y0.desc = some ⟨ps, r'⟩) (hlen : argsL.length = ps.length) (hsz : L.size = maxL) (hf : rm'.frames + 1 ≤ rm.frames) {W : Nat} (hW : (st.map fun v => v.category).sum ≤ W) (hlo : W + (mx + 11) + rm'.locals ≤ rm.locals) (hc : k + rm'.cells ≤ rm.cells) (hs : n + rm'.slots ≤ rm.slots) (hd : decode bytes pc = .ok (.invokeinterface i cnt, 5)) (hpc : pc + 5 = pc') (go : ∀ v h', Q' v h' → Go B n0 Q h' (k + rm'.cells) (n + rm'.slots) pc' L (v.toList ++ st)) : Go B n0 Q h k n pc L stk := fun T locs X N eT => by
  subst hst has
  obtain ⟨cq, kq, qa, qb, qc⟩ := isOf C.2.2.2.2.1 eT E
  obtain ⟨v, _, ⟨T', L1, k1, n1⟩, -, X', ⟨L2, ⟨N', hq⟩, l1, l2, l3⟩, f⟩ := X.interfaceBack C.2.2.1 (xi := y0) (y := y) C.2.2.2.2.2.1 (mvT C.2.2.2.2.1 w1) (mvT C.2.2.2.2.1 w2) (mvT C.2.2.2.2.1 wf (by simp [Cond.onTables, Cond.keepsFace, Cond.keeps, Cond.steady, hwf])) (mvT C.2.2.2.2.1 w3) (mvT C.2.2.2.2.1 w4) (mvT C.2.2.2.2.1 wp) (mvT C.2.2.2.2.1 wu) (mvT C.2.2.2.2.1 wk) hy (backOf (W := W) (Q := fun v h L => Fr n0 L ∧ Q' v h) (C.1 ▸ K []) C.2.2.2.2.1 wc wz (by rw [C.2.1]; exact hf) (by rw [C.2.1]; exact hlo)) qa qb qc (g := mkF B.m pc L (argsL.reverse ++ .ref a :: st)) rfl (by rw [C.2.2.2.2.2.2.2.1]; exact hsz) (Steps.refl _) (argsL := argsL) (rest := st) (lenOf pd hlen) rfl (by show 2 * 0 + _ ≤ _; omega) (hb C.2.2.2.1 hd) (fun _ _ => ⟨rfl, eT, by rw [C.2.1]; exact hc, by rw [C.2.1]; exact hs⟩)
  dsimp only [Pt.U, Pt.locs, Pt.cells, Pt.slots] at X' l1 l2 l3 f hq
  subst l1 l2 l3
  obtain ⟨t, o, q, r⟩ := go v _ hq T' _ X' (Fr.app N N') rfl
  subst hpc
  exact ⟨t, o, f.trans q, r⟩
theorem own_mvRef {Z T : State} {args : Array Value} {own : String} {i : Nat} {y : MethodName} {mq : MethodId} (hZ : Z.Warmed39 T.vm) (hn : Z.methodNamed? y = some mq) (hy : y.cls ≠ "java/lang/invoke/MethodHandle" ∧ y.cls ≠ "java/lang/invoke/VarHandle") (w : (Jvm.Cond.methodRef own i y).before a0 Z = true) : (Jvm.Cond.methodRef own i y).before args T = true := by
  have h1 : (Jvm.Cond.methodRef own i y).before a0 (Z.setVm T.vm) = true := Cond.methodRef_warmed39 hZ hn hy w
  exact h1
/-- a constructor by an entry that has been used before -/
theorem g_specialRef (C : Ctx B l rm bytes own nm maxL ret Z) {i : Nat} {y : MethodName} {b' : ByteArray} {mx : Nat} {rm' : Room} {as' : Array Value} {Q' : Option Value → Heap → Prop} (hy1 : y.name = "<init>") (w1 : (Jvm.Cond.methodRef own i y).before a0 Z = true) (w2 : (Jvm.Cond.instanceMethod y).before a0 Z = true) (wz : (Jvm.Cond.initialized y.cls).before a0 Z = true) (wc : (Jvm.Cond.code y b' mx none).before a0 Z = true) (hy : y.cls ≠ "java/lang/invoke/MethodHandle" ∧ y.cls ≠ "java/lang/invoke/VarHandle") (K : Met1 l Z y b' mx none rm' n0 as' h Q') (argsL : List Value) {stk : List Value} (hst : stk = argsL.reverse ++ .ref a :: st) (has : as' = (Value.ref a :: argsL).toArray) {ps : List FieldType} {r' : Option FieldType} (pd : parseMethodDescriptor y.desc = some ⟨ps, r'⟩) (hlen : argsL.length = ps.length) (hsz : L.size = maxL) (hf : rm'.frames + 1 ≤ rm.frames) {W : Nat} (hW : (st.map fun v => v.category).sum ≤ W) (hlo : W + (mx + 11) + rm'.locals ≤ rm.locals) (hc : k + rm'.cells ≤ rm.cells) (hs : n + rm'.slots ≤ rm.slots) (hd : decode bytes pc = .ok (.invokespecial i, 3)) (hpc : pc + 3 = pc') (go : ∀ v h', Q' v h' → Go B n0 Q h' (k + rm'.cells) (n + rm'.slots) pc' L (v.toList ++ st)) : Go B n0 Q h k n pc L stk := fun T locs X N eT => by
  subst hst has
  have hZT : Z.Warmed39 T.vm := wtrans C.2.2.2.2.1 X.warmed
  obtain ⟨mz, methZ, hnZ, -⟩ := Cond.instanceMethod_spec w2
  have hownT : T.vm.findClass own = some B.m.cls := by rw [X.warmed.alike.findClass]; exact C.2.2.2.2.2.1
  obtain ⟨m1, c1, hfound, hready, hcls, hnames⟩ := Cond.methodRef_named B.e hownT (own_mvRef (args := B.args) hZT hnZ hy w1)
  obtain ⟨mq, methM, hnamed, hmethM, hstM, habM⟩ := Cond.instanceMethod_spec (mv (args := B.args) hZT w2)
  obtain rfl : mq = m1 := Option.some.inj ((State.methodFound?_of_named hnamed hy).symm.trans hfound)
  obtain rfl : mq.cls = c1 := Option.some.inj ((findClass_of_methodNamed hnamed).symm.trans hcls)
  obtain ⟨kP, hkP, -⟩ := className_of_methodNamed hnamed
  obtain ⟨hnm1, hds1⟩ := name_of_methodNamed hnamed hmethM
  obtain ⟨methM', cM, hmethM', -, -, -, -, -, -, hsigM⟩ := Cond.code_spec hnamed (mv (args := B.args) hZT wc)
  cases hmethM.symm.trans hmethM'
  have hlook : lookupSpecial T.vm mq.cls "<init>" methM.desc = .method mq := by
    have q := lookupSpecial_of_named hnamed hmethM hstM
    rw [hy1] at q; rw [hds1]; exact q
  have hl : argsL.length = methM.sig.parameters.length := lenOf pd hlen _ hsigM
  have hdc : decode B.c.code pc = .ok (.invokespecial i, 3) := hb C.2.2.2.1 hd
  have step : ∀ target, (∀ acts, Steps B.p.tables B.e B.below (doInvoke B.e (T.setTop (mkF B.m pc L st)) acts mq (.ref a :: argsL).toArray).1 target) → Steps B.p.tables B.e B.below (T.setTop (mkF B.m pc L (argsL.reverse ++ .ref a :: st))) target := fun target hr => by
    jvm_step X.here [C.2.2.1, hdc, invokespecial.wp_init (e := B.e) (s := T) (f := mkF B.m pc L (argsL.reverse ++ .ref a :: st)) (k := kP) (meth := methM) (m := mq) (a := a) (args := argsL) (rest := st) X.here.top hnames hready hkP hmethM (hnm1.trans hy1) hstM habM hlook hl rfl]
    exact hr
  have hK := backOf (R := B.R) (l := B.l) (s := B.s) (p := B.p) (e := B.e) (below := B.below) (args := B.args) (len := 3) (W := W) (Q := fun v h L => Fr n0 L ∧ Q' v h) (C.1 ▸ K []) C.2.2.2.2.1 wc wz (by rw [C.2.1]; exact hf) (by rw [C.2.1]; exact hlo)
  obtain ⟨v, ⟨T', L1, k1, n1⟩, X', ⟨L2, ⟨N', hq⟩, l1, l2, l3⟩, f⟩ := hK B.m B.meth B.c ⟨T, locs, k, n⟩ (mkF B.m pc L st) (.invokespecial i) mq (.ref a :: argsL).toArray X rfl (by rw [C.2.2.2.2.2.2.2.1]; exact hsz) hdc (by show 2 * 0 + (st.map fun v => v.category).sum ≤ W; omega) hnamed ⟨rfl, eT, by rw [C.2.1]; exact hc, by rw [C.2.1]; exact hs⟩
  dsimp only [Pt.U, Pt.locs, Pt.cells, Pt.slots] at X' l1 l2 l3 f hq
  subst l1 l2 l3
  obtain ⟨t, o, q, r⟩ := go v _ hq T' _ X' (Fr.app N N') rfl
  subst hpc
  exact ⟨t, o, (step _ fun acts => by rw [doInvoke_state]; exact Steps.refl _).trans (f.trans q), r⟩
end Third
end Jvm.OwnKit
namespace Jvm.OwnKit
open Jvm Jvm.ClassFile Sem Op Lib Jvm.Stand Jvm.Free Jvm.LawKit Jvm.RoadKit
/-! roads on which a callee may load String constants: the wide end with a word on the tables it leaves -/
section WideV
variable {B : Bod} {l : Launch} {rm : Room} {bytes : ByteArray} {own nm : String} {maxL : Nat} {ret : Option FieldType} {Z : State} {n0 : Nat} {Q : Option Value → Heap → Prop} {h : Heap} {k n pc pc' : Nat} {L L' : Array Slot} {st st' : List Value} {a0 : Array Value} {V V' : Vm → Heap → Prop} {P : Vm → Prop}
theorem eN (hN : B.1 = none) : EndOk B h := fun V e => by rw [hN] at e; cases e
theorem eW (hW : B.1 = some V) (q : ∀ vm', B.s.WarmedH vm' → V vm' h) : EndOk B h := fun V' e => by rw [hW] at e; cases e; exact q
def Met1V (l : Launch) (Z : State) (y : MethodName) (bytes : ByteArray) (maxL : Nat) (ret : Option FieldType) (rm : Room) (n0 : Nat) (as' : Array Value) (h0 : Heap) (P : Vm → Prop) (V : Vm → Heap → Prop) (Q : Option Value → Heap → Prop) : Prop :=
  ∀ ws : List Jvm.Cond, MetFree l y (head1 (Jvm.Cond.code y bytes maxL ret :: ws) rm) (fun a U => a = as' ∧ Z.Warmed39 U.vm ∧ U.heap = h0 ∧ P U.vm) (fun _ _ _ _ _ => True) (fun _ U o U' => ∃ v L, o = .returned v ∧ (Fr n0 L ∧ Q v U'.heap ∧ V U'.vm U'.heap) ∧ ReturnedEndW U o U' L rm.cells rm.slots)
/-- at the body's first instruction, nothing written and nothing made -/
def Go0 (B : Bod) (n0 : Nat) (Q : Option Value → Heap → Prop) (h : Heap) (pc : Nat) (L : Array Slot) (st : List Value) : Prop :=
  ∀ T, St B T [] 0 0 → T.heap = h → Fin0 B n0 Q (mkF B.m pc L st) T
theorem Go.zero (go : Go B n0 Q h 0 0 pc L st) : Go0 B n0 Q h pc L st := fun T X eT => go T [] X (Fr.nil n0) eT
theorem Go0.step (f : ∀ T locs, St B T locs 0 0 → T.heap = h → ∀ t, Steps B.p.tables B.e B.below (T.setTop (mkF B.m pc' L' st')) t → Steps B.p.tables B.e B.below (T.setTop (mkF B.m pc L st)) t) (go : Go0 B n0 Q h pc' L' st') : Go0 B n0 Q h pc L st := fun T X eT => by
  obtain ⟨t, o, a, r⟩ := go T X eT
  exact ⟨t, o, f T [] X eT t a, r⟩
theorem met_ofV0 {y : MethodName} {as' : Array Value} (hp : plainFor y = true) {L0 : Array Slot} (hL : argsToLocals as' maxL = L0) (go : ∀ B : Bod, Ctx B l rm bytes y.cls y.name maxL ret Z → B.1 = some V → B.s.heap = h → P B.s.vm → Go0 B n0 Q h 0 L0 []) : Met1V l Z y bytes maxL ret rm n0 as' h P V Q := by
  intro ws
  refine MetFree.of_bodySF hp hisR ?_
  intro p e s m args below meth c s₁ Bd hml0 hP hK
  obtain ⟨rfl, hZ, hh, hPP⟩ := hP
  subst hL
  obtain ⟨t, o, h1, h2, h3, v, L, h4, h5, h6, h7⟩ := go (some V, p, l, e, rm, s, m, args, below, meth, c) ⟨rfl, rfl, Bd.exec, Bd.bytes, hZ, findClass_of_methodNamed Bd.named, (name_of_methodNamed Bd.named Bd.method).1, hml0, Bd.returns, BodyLoose.notSynchronized Bd⟩ rfl hh hPP s₁ (Stand.of_body Bd) (by rw [← hh, Bd.state]; rfl)
  exact ⟨t, o, h1, h2, h3, v, L, h4, ⟨h5.1, h5.2, h7⟩, h6⟩
theorem met_ofV {y : MethodName} {as' : Array Value} (hp : plainFor y = true) {L0 : Array Slot} (hL : argsToLocals as' maxL = L0) (go : ∀ B : Bod, Ctx B l rm bytes y.cls y.name maxL ret Z → B.1 = some V → P B.s.vm → Go B n0 Q h 0 0 0 L0 []) : Met1V l Z y bytes maxL ret rm n0 as' h P V Q :=
  met_ofV0 hp hL fun B C hW _ hPP => (go B C hW hPP).zero
def Bod.tab (B : Bod) (vm : Vm) : Bod := (B.1, B.p, B.l, B.e, B.R, B.s.setVm vm, B.m, B.args, B.below, B.meth, B.c)
theorem Fin0.tab {g g' : JFrame} {T T' : State} (hW : B.1 = some V) (hS : B.s.Since T'.vm T'.heap.size) (f : ∀ t, Steps B.p.tables B.e B.below (T'.setTop g') t → Steps B.p.tables B.e B.below (T.setTop g) t) (go : Fin0 (B.tab T'.vm) n0 Q g' T') : Fin0 B n0 Q g T := by
  obtain ⟨t, o, h1, h2, h3, v, L, h4, h5, h6⟩ := go
  have hle0 : (T'.setTop g').heap.size ≤ t.heap.size := Steps.heap_le h1
  have hle : T'.heap.size ≤ t.heap.size := hle0
  refine ⟨t, o, f t h1, h2, h3, v, L, h4, h5, ?_⟩
  have h7 : EndB B.1 (B.s.setVm T'.vm) o t L B.R.cells B.R.slots := h6
  rw [hW] at h7 ⊢
  obtain ⟨⟨q1, q2, q3, q4⟩, q5⟩ := h7
  have h8 := hS.trans ⟨q2, q3⟩ hle
  exact ⟨⟨q1, h8.1, h8.2, q4.setVm B.s.vm⟩, q5⟩
theorem Ctx.tab (C : Ctx B l rm bytes own nm maxL ret Z) {vm : Vm} (hW : B.s.Warmed39 vm) : Ctx (B.tab vm) l rm bytes own nm maxL ret Z :=
  ⟨C.1, C.2.1, C.2.2.1, C.2.2.2.1, State.Warmed39.trans C.2.2.2.2.1 hW, by show vm.findClass own = _; rw [hW.alike.findClass]; exact C.2.2.2.2.2.1, C.2.2.2.2.2.2⟩
theorem backOfV {p : Program} {e : Env} {R : Room} {s : State} {args : Array Value} {below : List Frame} {y : MethodName} {bytes : ByteArray} {maxL : Nat} {ret : Option FieldType} {rm : Room} {len W : Nat} {as' : Array Value} {Q : Option Value → Heap → Prop}
    (hM : Met1V l Z y bytes maxL ret rm n0 as' h P V Q) (hPw : ∀ vm', s.WarmedH vm' → P vm')
    (hZ : Z.Warmed39 s.vm) (wc : (Cond.code y bytes maxL ret).before a0 Z = true) (wz : (Cond.initialized y.cls).before a0 Z = true) (hf : rm.frames + 1 ≤ R.frames) (hl : W + (maxL + 11) + rm.locals ≤ R.locals) :
    BackS l R p e below s args y len W (fun A a => a = as' ∧ A.U.heap = h ∧ A.cells + rm.cells ≤ R.cells ∧ A.slots + rm.slots ≤ R.slots)
      (fun A _ v B => ∃ L, (Fr n0 L ∧ Q v B.U.heap ∧ V B.U.vm B.U.heap) ∧ B.locs = A.locs ++ L ∧ B.cells = A.cells + rm.cells ∧ B.slots = A.slots + rm.slots) :=
  BackS.of_freeW (bytes := bytes) (maxL := maxL) (ret := ret) (E := fun _ _ o t L k n => k = rm.cells ∧ n = rm.slots ∧ ∃ v, o = .returned v ∧ (Fr n0 L ∧ Q v t.heap ∧ V t.vm t.heap)) (hM []) hf hl
    (fun m meth c A a Y hp => have hU : Z.Warmed39 A.U.vm := wtrans hZ Y.warmed
      ⟨by show (Cond.and _ .tt).before a A.U = true; rw [Cond.before_and, mv hU wc]; rfl, mv hU wc, mv hU wz, hp.2.2.1, hp.2.2.2⟩)
    (fun m meth c A a g mk Y hp => ⟨hp.1, wtrans hZ Y.warmed, hp.2.1, hPw _ Y.warmed⟩) (fun _ _ _ _ _ _ _ _ _ => trivial)
    (fun _ _ _ _ ⟨v, L, h1, h2, h3⟩ => ⟨L, _, _, h3, rfl, rfl, v, h1, h2⟩)
    (fun m meth c A a g mk v t L k n Y hp _ _ ⟨e1, e2, v', e3, e4⟩ => by cases e3; subst e1 e2; exact ⟨L, e4, rfl, rfl, rfl⟩)
theorem g_staticV (C : Ctx B l rm bytes own nm maxL ret Z) (hB : B.1 = some V) {i : Nat} {y : MethodName} {b' : ByteArray} {mx : Nat} {rt : Option FieldType} {rm' : Room} {as' : Array Value} {Q' : Option Value → Heap → Prop} (w1 : (Jvm.Cond.methodLink own i y).before a0 Z = true) (w2 : (Jvm.Cond.static y).before a0 Z = true) (wz : (Jvm.Cond.initialized y.cls).before a0 Z = true) (wc : (Jvm.Cond.code y b' mx rt).before a0 Z = true) (hy : y.cls ≠ "java/lang/invoke/MethodHandle" ∧ y.cls ≠ "java/lang/invoke/VarHandle") (K : Met1V l Z y b' mx rt rm' n0 as' h P V' Q') (hP : ∀ vm', B.s.WarmedH vm' → P vm') (argsL : List Value) {stk : List Value} (hst : stk = argsL.reverse ++ st) (has : as' = argsL.toArray) {ps : List FieldType} {r' : Option FieldType} (pd : parseMethodDescriptor y.desc = some ⟨ps, r'⟩) (hlen : argsL.length = ps.length) (hsz : L.size = maxL) (hf : rm'.frames + 1 ≤ rm.frames) {W : Nat} (hW : (st.map fun v => v.category).sum ≤ W) (hlo : W + (mx + 11) + rm'.locals ≤ rm.locals) (hc : k + rm'.cells ≤ rm.cells) (hs : n + rm'.slots ≤ rm.slots) (hd : decode bytes pc = .ok (.invokestatic i, 3)) (hpc : pc + 3 = pc')
    (go : ∀ B' : Bod, Ctx B' l rm bytes own nm maxL ret Z → B'.1 = some V → ∀ v h', Q' v h' → V' B'.s.vm h' → Go B' n0 Q h' (k + rm'.cells) (n + rm'.slots) pc' L (v.toList ++ st)) : Go B n0 Q h k n pc L stk := fun T locs X N eT => by
  subst hst has
  obtain ⟨v, _, ⟨T', L1, k1, n1⟩, -, X', hS, -, ⟨L2, ⟨N', hq, hv⟩, l1, l2, l3⟩, f⟩ := Jvm.RoadKit.callSS X C.2.2.1 (y := y) C.2.2.2.2.2.1 (mvT C.2.2.2.2.1 w1) (mvT C.2.2.2.2.1 w2) (mvT C.2.2.2.2.1 wz) (mvT C.2.2.2.2.1 wc) hy (backOfV (W := W) (C.1 ▸ K) hP C.2.2.2.2.1 wc wz (by rw [C.2.1]; exact hf) (by rw [C.2.1]; exact hlo)) (g := mkF B.m pc L (argsL.reverse ++ st)) rfl (by rw [C.2.2.2.2.2.2.2.1]; exact hsz) (argsL := argsL) (rest := st) (lenOf pd hlen) rfl (by show 2 * 0 + _ ≤ _; omega) (hb C.2.2.2.1 hd) (fun _ _ => ⟨rfl, eT, by rw [C.2.1]; exact hc, by rw [C.2.1]; exact hs⟩)
  dsimp only [Pt.U, Pt.locs, Pt.cells, Pt.slots] at X' l1 l2 l3 f hq hS hv
  subst l1 l2 l3
  subst hpc
  exact Fin0.tab hB hS (fun t q => f.trans q) (go (B.tab T'.vm) (C.tab hS.1) hB v _ hq hv T' _ X' (Fr.app N N') rfl)
theorem g_specialV (C : Ctx B l rm bytes own nm maxL ret Z) (hB : B.1 = some V) {i : Nat} {y : MethodName} {b' : ByteArray} {mx : Nat} {rm' : Room} {as' : Array Value} {Q' : Option Value → Heap → Prop} {a : Addr} (hy1 : y.name = "<init>") (w1 : (Jvm.Cond.methodLink own i y).before a0 Z = true) (w2 : (Jvm.Cond.instanceMethod y).before a0 Z = true) (wz : (Jvm.Cond.initialized y.cls).before a0 Z = true) (wc : (Jvm.Cond.code y b' mx none).before a0 Z = true) (hy : y.cls ≠ "java/lang/invoke/MethodHandle" ∧ y.cls ≠ "java/lang/invoke/VarHandle") (K : Met1V l Z y b' mx none rm' n0 as' h P V' Q') (hP : ∀ vm', B.s.WarmedH vm' → P vm') (argsL : List Value) {stk : List Value} (hst : stk = argsL.reverse ++ .ref a :: st) (has : as' = (Value.ref a :: argsL).toArray) {ps : List FieldType} {r' : Option FieldType} (pd : parseMethodDescriptor y.desc = some ⟨ps, r'⟩) (hlen : argsL.length = ps.length) (hsz : L.size = maxL) (hf : rm'.frames + 1 ≤ rm.frames) {W : Nat} (hW : (st.map fun v => v.category).sum ≤ W) (hlo : W + (mx + 11) + rm'.locals ≤ rm.locals) (hc : k + rm'.cells ≤ rm.cells) (hs : n + rm'.slots ≤ rm.slots) (hd : decode bytes pc = .ok (.invokespecial i, 3)) (hpc : pc + 3 = pc')
    (go : ∀ B' : Bod, Ctx B' l rm bytes own nm maxL ret Z → B'.1 = some V → ∀ v h', Q' v h' → V' B'.s.vm h' → Go B' n0 Q h' (k + rm'.cells) (n + rm'.slots) pc' L (v.toList ++ st)) : Go B n0 Q h k n pc L stk := fun T locs X N eT => by
  subst hst has
  obtain ⟨v, _, ⟨T', L1, k1, n1⟩, -, X', hS, -, ⟨L2, ⟨N', hq, hv⟩, l1, l2, l3⟩, f⟩ := X.specialBackS C.2.2.1 (y := y) hy1 C.2.2.2.2.2.1 (mvT C.2.2.2.2.1 w1) (mvT C.2.2.2.2.1 w2) (mvT C.2.2.2.2.1 wc) hy (backOfV (W := W) (C.1 ▸ K) hP C.2.2.2.2.1 wc wz (by rw [C.2.1]; exact hf) (by rw [C.2.1]; exact hlo)) (g := mkF B.m pc L (argsL.reverse ++ .ref a :: st)) rfl (by rw [C.2.2.2.2.2.2.2.1]; exact hsz) (Steps.refl _) (a := a) (argsL := argsL) (rest := st) (lenOf pd hlen) rfl (by show 2 * 0 + _ ≤ _; omega) (hb C.2.2.2.1 hd) (fun _ _ => ⟨rfl, eT, by rw [C.2.1]; exact hc, by rw [C.2.1]; exact hs⟩)
  dsimp only [Pt.U, Pt.locs, Pt.cells, Pt.slots] at X' l1 l2 l3 f hq hS hv
  subst l1 l2 l3
  subst hpc
  exact Fin0.tab hB hS (fun t q => f.trans q) (go (B.tab T'.vm) (C.tab hS.1) hB v _ hq hv T' _ X' (Fr.app N N') rfl)
/-! the empty String's constant: what is known of it -/
def EStr (Z : State) (h : Heap) (a b : Addr) : Prop := Exa Z h a "java/lang/String" ∧ Fld Z h a "java/lang/String" "coder" "B" (.int 0) ∧ Fld Z h a "java/lang/String" "value" "[B" (.ref b) ∧ Ary Z h b .byte []
def Inv (Z : State) (vm : Vm) (h : Heap) : Prop := (∃ Ts : List String, "" ∉ Ts ∧ IB Z vm Ts) ∨ ∃ a b, Lit (Z.setVm vm) "java/lang/String" 7 a ∧ EStr Z h a b
theorem EStr.ext {h' : Heap} {a b : Addr} (F : EStr Z h a b) (E : Ext h h') : EStr Z h' a b := ⟨F.1.ext E, F.2.1.ext E, F.2.2.1.ext E, F.2.2.2.ext E⟩
theorem EStr.keep {h' : Heap} {a b : Addr} {ws : List Addr} (F : EStr Z h a b) (K : Keep h h' ws) (q1 : a ∉ ws) (q2 : b ∉ ws) : EStr Z h' a b := ⟨F.1.keep K, F.2.1.keep K q1, F.2.2.1.keep K q1, F.2.2.2.keep K q2⟩
theorem Inv.start : Inv Z Z.vm h := Or.inl ⟨[], by simp, IB.start⟩
theorem Inv.ext {vm : Vm} {h' : Heap} (I : Inv Z vm h) (E : Ext h h') : Inv Z vm h' := I.imp id fun ⟨a, b, L, F⟩ => ⟨a, b, L, F.ext E⟩
theorem Inv.keep0 {vm : Vm} {h' : Heap} (I : Inv Z vm h) (K : Keep h h' []) : Inv Z vm h' := I.imp id fun ⟨a, b, L, F⟩ => ⟨a, b, L, F.keep K nin0 nin0⟩
theorem Inv.warm {s : State} {vm' : Vm} (I : Inv Z s.vm h) (hW : s.WarmedH vm') : Inv Z vm' h := by
  rcases I with ⟨Ts, q, more, e, hm⟩ | ⟨a, b, L, F⟩
  · exact Or.inl ⟨Ts, q, more, by rw [hW.interned_eq]; exact e, hm⟩
  · exact Or.inr ⟨a, b, Lit.stays (s := s) (vm0 := s.vm) L hW.wide, F⟩
end WideV
end Jvm.OwnKit
namespace Jvm.OwnKit
open Jvm Jvm.ClassFile Sem Op Lib Jvm.Stand Jvm.Free Jvm.LawKit Jvm.RoadKit
section Fresh
variable {p : Program} {l : Launch} {e : Env} {R : Room} {s : State} {m : MethodId} {args : Array Value} {below : List Frame} {meth : Method} {c : Code} {T T' : State} {locs : List Loc} {cells slots c2 n2 : Nat} {vm1 : Vm}
abbrev frs (s T : State) : State := { s with heap := T.heap, slotsUsed := T.slotsUsed }
abbrev frR (R : Room) (cells slots : Nat) : Room := { R with cells := R.cells - cells, slots := R.slots - slots }
theorem st_fresh (X : Stand p l e R s m args below meth c T locs cells slots) (hc : cells ≤ R.cells) (hs : slots ≤ R.slots) : Stand p l e (frR R cells slots) (frs s T) m args below meth c T [] 0 0 := by
  have hroom := X.room
  have hsz := X.heapSize
  have hus := X.used
  refine ⟨X.admits, X.cas, X.clock, X.frames, ?_, X.hears, X.method, X.code, X.here, X.tail, X.warmed, X.limits, X.bytes, ?_⟩
  · have hb := X.book
    unfold State.hasRoom at hroom ⊢
    simp only [Bool.and_eq_true, decide_eq_true_eq] at hroom ⊢
    obtain ⟨⟨⟨⟨r1, r2⟩, r3⟩, r4⟩, r5⟩ := hroom
    refine ⟨⟨⟨⟨r1, r2⟩, ?_⟩, ?_⟩, hb⟩
    · show T.heap.size + (R.cells - cells) ≤ _; omega
    · show T.slotsUsed + (R.slots - slots) ≤ _; omega
  · have e1 := X.same.1
    refine ⟨?_, Nat.le_refl _, Nat.le_refl _, ?_, ?_, fun a c h => ⟨c, h, rfl, rfl, fun _ _ => rfl⟩⟩
    · refine e1.trans ?_
      rfl
    · show T.slotsUsed = T.slotsUsed + ((T.heap.toList.drop T.heap.size).map (·.slots.size)).sum
      rw [List.drop_of_length_le (by simp)]; rfl
    · show ((T.heap.toList.drop T.heap.size).map (·.slots.size)).sum ≤ 0
      rw [List.drop_of_length_le (by simp)]; exact Nat.le_refl _
theorem st_back (X : Stand p l e R s m args below meth c T locs cells slots) (hW : s.Warmed39 vm1) (X' : Stand p l e (frR R cells slots) ((frs s T).setVm vm1) m args below meth c T' [] c2 n2) : Stand p l e R (s.setVm vm1) m args below meth c T' locs (cells + c2) (slots + n2) := by
  have Y := X.retabled hW
  refine ⟨Y.admits, Y.cas, Y.clock, Y.frames, Y.room, Y.hears, Y.method, Y.code, X'.here, X'.tail, X'.warmed, X'.limits, X'.bytes, ?_⟩
  have h1 := Y.same
  have h2 := X'.same
  have e1 := h1.1
  have h3 : (T.setVm vm1).sameButNew (T'.setVm vm1) [] c2 n2 := by
    have e2 : (T.setVm vm1) = ((frs s T).setVm vm1).setFrames T.frames := e1.trans rfl
    rw [e2]
    refine ⟨h2.1.trans ?_, h2.2⟩
    simp
  have h4 := h1.trans h3
  rwa [List.append_nil] at h4
end Fresh
section LdcK
variable {B : Bod} {l : Launch} {rm : Room} {bytes : ByteArray} {own nm : String} {maxL : Nat} {ret : Option FieldType} {Z : State} {n0 n1 : Nat} {Q : Option Value → Heap → Prop} {h : Heap} {k n pc pc' : Nat} {L L' : Array Slot} {st st' : List Value} {a0 : Array Value} {V : Vm → Heap → Prop}
theorem g_ldcT (C : Ctx B l rm bytes own nm maxL ret Z) (hB : B.1 = some V) {i : Nat} {text : String} {Ts : List String} (w : (Jvm.Cond.stringLink own i text).before a0 Z = true) (wS : ∀ a ∈ Bundle.stringAtoms, a.before a0 Z = true) (O : Old Z n1 h) (I : IB Z B.s.vm Ts) (hnot : text ∉ Ts) (hh : Jvm.Lit.constHeld Z own i) (hcw : Jvm.Lit.compactW.before a0 Z = true) {vs : List Value} {z : Int32} (ht : (∀ c ∈ text.toList, c.toNat < 256) ∧ text.toList.map (fun c => Value.int (Jvm.Lit.byteI c.toNat.toUInt16)) = vs) (hz : ¬ z < 0) (hl : z.toNatClampNeg = vs.length)
    {nn : Nat} (hn : 4 * text.toList.length ≤ nn) (hbig : nn ≤ 536870912) (hc : k + 2 ≤ rm.cells) (hl' : n + (nn + 4) ≤ rm.slots) (hd : decode bytes pc = .ok (.ldc i, 2)) (hpc : pc + 2 = pc')
    (go : ∀ B' : Bod, Ctx B' l rm bytes own nm maxL ret Z → B'.1 = some V → B.s.Warmed39 B'.s.vm → ∀ h' a b kk, Ext h h' → Exa Z h' a "java/lang/String" → Fld Z h' a "java/lang/String" "coder" "B" (.int 0) → Fld Z h' a "java/lang/String" "value" "[B" (.ref b) → Arv Z h' b kk .byte z vs (.int 0) → IB Z B'.s.vm (text :: Ts) → Lit (Z.setVm B'.s.vm) own i a → Go B' n0 Q h' (k + 2) (n + (nn + 4)) pc' L (.ref a :: st)) : Go B n0 Q h k n pc L st := fun T locs X N eT => by
  have hR : B.R = rm := C.2.1
  have X0 := st_fresh X (by rw [hR]; omega) (by rw [hR]; omega)
  obtain ⟨a, T', h', k1, b, kk, X', e', E, hS, hk, hZ', hown', f1, f2, f3, f4, -, -, hI, hLit, f⟩ := ldcSVL (s := frs B.s T) (vm0 := B.s.vm) X0 C.2.2.1 C.2.2.2.2.1 C.2.2.2.2.2.1 w wS eT ((State.WarmedH.refl (frs B.s T)).since 0) (Nat.zero_le _) (Fr.nil _) (fun b cl q => by show T.heap[b]? = _; rw [eT]; exact O.2.2 b cl q) I hnot hh hcw ht hz hl (g := mkF B.m pc L st) rfl (hb C.2.2.2.1 hd) hn hbig (by show 0 + 2 ≤ B.R.cells - k; rw [hR]; omega) (by show 0 + (nn + 4) ≤ B.R.slots - n; rw [hR]; omega)
  have hW : B.s.Warmed39 T'.vm := hS.1
  have X2 := st_back X hW X'
  have hle : B.s.heap.size ≤ T.heap.size := X.same.2.1
  have hS' : B.s.Since T'.vm T'.heap.size := ⟨hW, fun j p hj hp => ⟨Nat.le_trans hle (hS.2 j p hj hp).1, Nat.lt_of_lt_of_le (hS.2 j p hj hp).2 (by rw [e']; exact hk)⟩⟩
  subst hpc
  exact Fin0.tab hB hS' f (go (B.tab T'.vm) (C.tab hW) hB hW h' a b kk E f1 f2 f3 f4 hI hLit T' locs (X2.mono (by omega) (by omega)) N e')
/-- what is known of the constants K since the case's start -/
def InvK (K : List (String × Nat × String)) (Z : State) (vm : Vm) (h : Heap) : Prop := ∃ Ts, IB Z vm Ts ∧ ∀ q ∈ K, q.2.2 ∉ Ts ∨ ∃ a, Lit (Z.setVm vm) q.1 q.2.1 a ∧ (q.2.2 = "" → ∃ b, EStr Z h a b)
variable {K : List (String × Nat × String)} {h' : Heap} {vm : Vm}
theorem InvK.start : InvK K Z Z.vm h := ⟨[], IB.start, fun q _ => Or.inl (by simp)⟩
theorem InvK.ext (I : InvK K Z vm h) (E : Ext h h') : InvK K Z vm h' := by
  obtain ⟨Ts, i1, i2⟩ := I
  exact ⟨Ts, i1, fun q hq => (i2 q hq).imp id fun ⟨a, La, F⟩ => ⟨a, La, fun e => (F e).imp fun b f => f.ext E⟩⟩
theorem InvK.keep0 (I : InvK K Z vm h) (Kp : Keep h h' []) : InvK K Z vm h' := by
  obtain ⟨Ts, i1, i2⟩ := I
  exact ⟨Ts, i1, fun q hq => (i2 q hq).imp id fun ⟨a, La, F⟩ => ⟨a, La, fun e => (F e).imp fun b f => f.keep Kp nin0 nin0⟩⟩
theorem InvK.warm {s : State} {vm' : Vm} (I : InvK K Z s.vm h) (hW : s.WarmedH vm') : InvK K Z vm' h := by
  obtain ⟨Ts, ⟨more, e, hm⟩, i2⟩ := I
  exact ⟨Ts, ⟨more, by rw [hW.interned_eq]; exact e, hm⟩, fun q hq => (i2 q hq).imp id fun ⟨a, La, F⟩ => ⟨a, Lit.stays (s := s) (vm0 := s.vm) La hW.wide, F⟩⟩
theorem g_ldcK (C : Ctx B l rm bytes own nm maxL ret Z) (hB : B.1 = some V) {i : Nat} {text : String} (hq : (own, i, text) ∈ K) (hK : ∀ q ∈ K, q.2.2 = text → q = (own, i, text)) (w : (Jvm.Cond.stringLink own i text).before a0 Z = true) (wS : ∀ a ∈ Bundle.stringAtoms, a.before a0 Z = true) (O : Old Z n1 h) (I : InvK K Z B.s.vm h) (hh : Jvm.Lit.constHeld Z own i) (hcw : Jvm.Lit.compactW.before a0 Z = true) {z : Int32} (ht : ∀ c ∈ text.toList, c.toNat < 256) (hz : ¬ z < 0) (hl : z.toNatClampNeg = text.toList.length)
    {nn : Nat} (hn : 4 * text.toList.length ≤ nn) (hbig : nn ≤ 536870912) (hc : k + 2 ≤ rm.cells) (hl' : n + (nn + 4) ≤ rm.slots) (hd : decode bytes pc = .ok (.ldc i, 2)) (hpc : pc + 2 = pc')
    (go : ∀ B' : Bod, Ctx B' l rm bytes own nm maxL ret Z → B'.1 = some V → ∀ h' a, Ext h h' → InvK K Z B'.s.vm h' → Lit (Z.setVm B'.s.vm) own i a → (text = "" → ∃ b, EStr Z h' a b) → Go B' n0 Q h' (k + 2) (n + (nn + 4)) pc' L (.ref a :: st)) : Go B n0 Q h k n pc L st := by
  obtain ⟨Ts, i1, i2⟩ := I
  rcases i2 _ hq with hnot | ⟨a, La, F⟩
  · refine g_ldcT C hB w wS O i1 hnot hh hcw (z := z) ⟨ht, rfl⟩ hz (by rw [List.length_map]; exact hl) hn hbig hc hl' hd hpc ?_
    intro B' C' hB' hW h' a b kk E f1 f2 f3 f4 hI hLit
    have hE : text = "" → ∃ b, EStr Z h' a b := fun e => ⟨b, f1, f2, f3, by subst e; exact Arv.ary (show Arv Z h' b kk .byte z [] (.int 0) from f4) hl (by decide)⟩
    refine go B' C' hB' h' a E ⟨_, hI, fun q hq' => ?_⟩ hLit hE
    by_cases e : q.2.2 = text
    · have := hK q hq' e
      subst this
      exact Or.inr ⟨a, hLit, hE⟩
    · rcases i2 q hq' with q1 | ⟨a', La', F'⟩
      · exact Or.inl (by simp [e, q1])
      · exact Or.inr ⟨a', Lit.stays (s := B.s) (vm0 := B.s.vm) La' hW, fun e => (F' e).imp fun b f => f.ext E⟩
  · have hE : Ext h h := ⟨Nat.le_refl _, fun _ _ q => q⟩
    have go' := go B C hB h a hE ⟨Ts, i1, i2⟩ La F
    intro T locs X N eT
    obtain ⟨t, o, q, r⟩ := go' T locs (X.mono (by omega) (by omega)) N eT
    refine ⟨t, o, ?_, r⟩
    subst hpc
    exact ldcAgain (s := B.s) (vm0 := B.s.vm) X C.2.2.1 C.2.2.2.2.1 C.2.2.2.2.2.1 w La (g := mkF B.m pc L st) rfl (hb C.2.2.2.1 hd) t q
end LdcK
end Jvm.OwnKit
namespace Jvm.OwnKit
open Jvm Jvm.ClassFile Sem Op Lib Jvm.Stand Jvm.Free Jvm.LawKit Jvm.RoadKit
section LdcL
variable {B : Bod} {l : Launch} {rm : Room} {bytes : ByteArray} {own nm : String} {maxL : Nat} {ret : Option FieldType} {Z : State} {n0 n1 : Nat} {Q : Option Value → Heap → Prop} {h h' : Heap} {k n pc pc' : Nat} {L L' : Array Slot} {st st' : List Value} {a0 : Array Value} {V : Vm → Heap → Prop} {K : List (String × Nat × String)} {vm : Vm}
/-- a second load in the same body -/
theorem g_ldcL (C : Ctx B l rm bytes own nm maxL ret Z) {i : Nat} {text : String} {a : Addr} (w : (Jvm.Cond.stringLink own i text).before a0 Z = true) (La : Lit (Z.setVm B.s.vm) own i a) (hd : decode bytes pc = .ok (.ldc i, 2)) (hpc : pc + 2 = pc') (go : Go B n0 Q h k n pc' L (.ref a :: st)) : Go B n0 Q h k n pc L st := fun T locs X N eT => by
  obtain ⟨t, o, q, r⟩ := go T locs X N eT
  refine ⟨t, o, ?_, r⟩
  subst hpc
  exact ldcAgain (s := B.s) (vm0 := B.s.vm) X C.2.2.1 C.2.2.2.2.1 C.2.2.2.2.2.1 w La (g := mkF B.m pc L st) rfl (hb C.2.2.2.1 hd) t q
theorem Fld.det {a : Addr} {O fn d : String} {v v' : Value} (F : Fld Z h a O fn d v) (G : Fld Z h a O fn d v') : v = v' := by
  obtain ⟨cell, cf, k, i, f, h1, h2, h3, h4, h5, h6, h7⟩ := F
  obtain ⟨cell', cf', k', i', f', g1, g2, g3, g4, g5, g6, g7⟩ := G
  cases h1.symm.trans g1
  cases h2.symm.trans g2
  exact Option.some.inj (h7.symm.trans g7)
theorem ne_val {a x b : Addr} {O fn d : String} (F : Fld Z h x O fn d .null) (G : Fld Z h a O fn d (.ref b)) : a ≠ x := fun e => by
  subst e; cases Fld.det F G
theorem ne_arr {x b : Addr} {C0 : String} {nn : Nat} (E : Exa Z h x C0) (A : Ary Z h b .byte []) (w : (Jvm.Cond.instantiable C0 nn).before a0 Z = true) : b ≠ x := by
  obtain ⟨kk, A'⟩ := A.arv (by simp) (.int 0)
  exact (Exa.neArv E A' w).symm
theorem InvK.keep1 {x : Addr} (I : InvK K Z vm h) (Kp : Keep h h' [x]) (q : ∀ a b, EStr Z h a b → a ≠ x ∧ b ≠ x) : InvK K Z vm h' := by
  obtain ⟨Ts, i1, i2⟩ := I
  exact ⟨Ts, i1, fun p hp => (i2 p hp).imp id fun ⟨a, La, F⟩ => ⟨a, La, fun e => (F e).imp fun b f => f.keep Kp (nin1 (q a b f).1) (nin1 (q a b f).2)⟩⟩
/-- a write to a String that isn't laid out yet -/
theorem InvK.keepS {x : Addr} {nn : Nat} (I : InvK K Z vm h) (Kp : Keep h h' [x]) (E : Exa Z h x "java/lang/String") (F : Fld Z h x "java/lang/String" "value" "[B" .null) (w : (Jvm.Cond.instantiable "java/lang/String" nn).before a0 Z = true) : InvK K Z vm h' :=
  I.keep1 Kp fun a b f => ⟨ne_val F f.2.2.1, ne_arr E f.2.2.2 w⟩
/-- a write to an object of another class -/
theorem InvK.keepO {x : Addr} {nn : Nat} {C0 : String} (I : InvK K Z vm h) (Kp : Keep h h' [x]) (E : Exa Z h x C0) (hne : "java/lang/String" ≠ C0) (w : (Jvm.Cond.instantiable C0 nn).before a0 Z = true) : InvK K Z vm h' :=
  I.keep1 Kp fun a b f => ⟨Exa.ne f.1 E hne, ne_arr E f.2.2.2 w⟩
end LdcL
end Jvm.OwnKit
namespace Jvm.Pilot.@@N@@
open Jvm Jvm.ClassFile Sem Op Lib Jvm.Free Jvm.Stand Jvm.LawKit Jvm.RoadKit Jvm.OwnKit Bundle Jvm.Pilot.@@N@@.Jvm.D
theorem own_w {a0 : Array Value} {Z : State} (hw : ∀ d ∈ tables_1, d.before a0 Z = true) (k : Nat) {d : Jvm.Cond} (e : tables_1[k]? = some d) : d.before a0 Z = true := hw _ (List.mem_of_getElem? e)
def own_K : List (String × Nat × String) := tables_1.filterMap fun | .stringLink o i t => some (o, i, t) | _ => none
theorem own_narb (x : Int32) : nar .byte (Int8.toInt32 (Int32.toInt8 x)) = (Int8.toInt32 (Int32.toInt8 x)) := by
  show (Int8.toInt32 (Int32.toInt8 (Int8.toInt32 (Int32.toInt8 x)))) = _
  rw [Int8.toInt8_toInt32]
/-- a char that one byte holds -/
def Ch (c : Int32) : Prop := nar .char c = c ∧ ¬ (255 : Int32) < c ∧ ¬ c < (0 : Int32)
theorem own_nch {c : Int32} (h : nar .char c = c) : narrow .char (.int c) = .int c := congrArg Value.int h
theorem own_chM (x : Int32) : Ch (x &&& (255 : Int32)) := by
  refine ⟨i2c_mask x, ?_, ?_⟩
  · have h := c_mask x (255 : Int32) 8 (by decide) (by decide)
    have e : (255 : Int32).toInt = 255 := rfl
    rw [Int32.lt_iff_toInt_lt]; omega
  · have h := c_mask x (255 : Int32) 8 (by decide) (by decide)
    have e : (0 : Int32).toInt = 0 := rfl
    rw [Int32.lt_iff_toInt_lt]; omega
/-- compact Strings are on -/
def Cmp (Z : State) : Prop := ∃ z : Int32, Sta Z Z.heap "java/lang/String" "COMPACT_STRINGS" "Z" (.int z) ∧ ¬ z = (0 : Int32)
theorem own_cmp {args : Array Value} {s : State} (w0 : (Jvm.Cond.initializedFor "java/lang/String" "COMPACT_STRINGS" "Z").before args s = true) (w1 : (Jvm.Cond.isInt (.static "java/lang/String" "COMPACT_STRINGS" "Z")).before args s = true) (w2 : (Jvm.Cond.not (.eq (.static "java/lang/String" "COMPACT_STRINGS" "Z") (.int 0))).before args s = true) : Cmp s := by
  obtain ⟨z, e⟩ := is_v (Cond.before_iff.mp w1)
  refine ⟨z, Sta.start e (Or.inl w0), fun q => ?_⟩
  have h := not_v (Cond.before_iff.mp w2)
  subst q
  simp only [Jvm.Cond.value, e, Jvm.Term.int_eval] at h
  simp at h
def own_str (n c1 c2 : Int32) : List Value := if n = (0 : Int32) then [] else if n = (1 : Int32) then [.int (Int8.toInt32 (Int32.toInt8 c1))] else [.int (Int8.toInt32 (Int32.toInt8 c1)), .int (Int8.toInt32 (Int32.toInt8 c2))]
theorem own_str0 {n c1 c2 : Int32} (h : n = (0 : Int32)) : own_str n c1 c2 = [] := by simp [own_str, h]
theorem own_str1 {n c1 c2 : Int32} (h0 : ¬ n = (0 : Int32)) (h : n = (1 : Int32)) : own_str n c1 c2 = [.int (Int8.toInt32 (Int32.toInt8 c1))] := by simp [own_str, h]
theorem own_str2 {n c1 c2 : Int32} (h0 : ¬ n = (0 : Int32)) (h : ¬ n = (1 : Int32)) : own_str n c1 c2 = [.int (Int8.toInt32 (Int32.toInt8 c1)), .int (Int8.toInt32 (Int32.toInt8 c2))] := by simp [own_str, h0, h]
def Sh (l : List Value) : Prop := l = [] ∨ (∃ x, l = [.int x]) ∨ ∃ x y, l = [.int x, .int y]
theorem own_sh (n c1 c2 : Int32) : Sh (own_str n c1 c2) := by
  unfold own_str
  split
  · exact Or.inl rfl
  · split
    · exact Or.inr (Or.inl ⟨_, rfl⟩)
    · exact Or.inr (Or.inr ⟨_, _, rfl⟩)
theorem own_byinj {c d : Int32} (k : Ch c) (j : Ch d) : ((Int8.toInt32 (Int32.toInt8 c)) = (Int8.toInt32 (Int32.toInt8 d))) ↔ c = d := by
  refine ⟨fun q => ?_, fun q => by rw [q]⟩
  have e := c_i2b c
  have e' := c_i2b d
  obtain ⟨k1, k2, k3⟩ := k
  obtain ⟨j1, j2, j3⟩ := j
  rw [Int32.lt_iff_toInt_lt] at k2 k3 j2 j3
  have t1 : (255 : Int32).toInt = 255 := rfl
  have t0 : (0 : Int32).toInt = 0 := rfl
  rw [q] at e
  apply Int32.toInt_inj.mp
  omega
theorem own_chX {c : Int32} (k : Ch c) (y : Int32) : Ch (c ^^^ (y &&& (1 : Int32))) := by
  obtain ⟨k1, k2, k3⟩ := k
  rw [Int32.lt_iff_toInt_lt] at k2 k3
  have t1 : (255 : Int32).toInt = 255 := rfl
  have t0 : (0 : Int32).toInt = 0 := rfl
  have hc : c.toBitVec.toNat < 256 := by
    have e : c.toInt = c.toBitVec.toInt := rfl
    have h := BitVec.toInt_eq_toNat_cond c.toBitVec
    have hlt := c.toBitVec.isLt
    rw [e] at k2 k3
    split at h <;> omega
  have hy : (y &&& (1 : Int32)).toBitVec.toNat < 256 := by
    rw [Int32.toBitVec_and, BitVec.toNat_and]
    exact Nat.lt_of_le_of_lt Nat.and_le_right (by decide)
  have hx : (c ^^^ (y &&& (1 : Int32))).toBitVec.toNat < 2 ^ 8 := by
    rw [Int32.toBitVec_xor, BitVec.toNat_xor]; exact Nat.xor_lt_two_pow hc hy
  have ei : (c ^^^ (y &&& (1 : Int32))).toInt = (c ^^^ (y &&& (1 : Int32))).toBitVec.toNat := by
    show BitVec.toInt _ = _
    rw [BitVec.toInt_eq_toNat_of_lt (by omega)]
  refine ⟨?_, ?_, ?_⟩
  · have e := c_i2c (c ^^^ (y &&& (1 : Int32)))
    apply Int32.toInt_inj.mp
    show (UInt32.toInt32 (UInt16.toUInt32 (UInt32.toUInt16 (Int32.toUInt32 (c ^^^ (y &&& (1 : Int32))))))).toInt = _
    omega
  · rw [Int32.lt_iff_toInt_lt, t1]; omega
  · rw [Int32.lt_iff_toInt_lt, t0]; omega
theorem own_r3 (x : Int32) {n : Int32} (e : n = ((x &&& (3 : Int32)) - ((x &&& (3 : Int32)) / (3 : Int32)) * (3 : Int32))) : n = (0 : Int32) ∨ n = (1 : Int32) ∨ n = (2 : Int32) := by
  have h := c_mask x (3 : Int32) 2 (by decide) (by decide)
  have h0 : 0 ≤ (x &&& (3 : Int32)).toInt := by omega
  have h1 := (c_idiv (x &&& (3 : Int32)) (3 : Int32) 3 rfl (by decide)).1 h0
  have h2 := c_imul ((x &&& (3 : Int32)) / (3 : Int32)) (3 : Int32)
  have h3 := c_isub (x &&& (3 : Int32)) ((x &&& (3 : Int32)) / (3 : Int32) * (3 : Int32))
  have t3 : (3 : Int32).toInt = 3 := rfl
  rw [h1, t3] at h2
  rw [← e] at h3
  have r2 := rng32 n
  have hn : n.toInt = 0 ∨ n.toInt = 1 ∨ n.toInt = 2 := by omega
  rcases hn with q | q | q
  · exact Or.inl (Int32.toInt_inj.mp q)
  · exact Or.inr (Or.inl (Int32.toInt_inj.mp q))
  · exact Or.inr (Or.inr (Int32.toInt_inj.mp q))
theorem own_m3 (x : Int32) : 0 ≤ (x &&& (3 : Int32)).toInt ∧ (x &&& (3 : Int32)).toInt < 4 := by
  have h := c_mask x (3 : Int32) 2 (by decide) (by decide)
  omega
theorem own_satoms {a0 : Array Value} {Z : State} (hw : ∀ d ∈ tables_1, d.before a0 Z = true) : ∀ a ∈ Bundle.stringAtoms, a.before a0 Z = true := by
  intro d hd
  simp only [Bundle.stringAtoms, List.mem_cons, List.not_mem_nil, or_false] at hd
  rcases hd with rfl | rfl | rfl | rfl | rfl | rfl | rfl
  · exact (own_w hw 6 rfl)
  · exact (own_w hw 5 rfl)
  · exact (own_w hw 23 rfl)
  · exact (own_w hw 33 rfl)
  · exact (own_w hw 31 rfl)
  · exact (own_w hw 38 rfl)
  · exact (own_w hw 39 rfl)
theorem d3_0 : decode jdk_42_method_149_code 0 = .ok (.aload_n 0, 1) := by decide +kernel
theorem d3_1 : decode jdk_42_method_149_code 1 = .ok (.invokespecial 1, 3) := by decide +kernel
theorem d3_4 : decode jdk_42_method_149_code 4 = .ok (.iload_n 3, 1) := by decide +kernel
theorem d3_5 : decode jdk_42_method_149_code 5 = .ok (.ifCond .ne 22, 3) := by decide +kernel
theorem d3_8 : decode jdk_42_method_149_code 8 = .ok (.aload_n 0, 1) := by decide +kernel
theorem d3_9 : decode jdk_42_method_149_code 9 = .ok (.ldc 7, 2) := by decide +kernel
theorem d3_11 : decode jdk_42_method_149_code 11 = .ok (.getfield 9, 3) := by decide +kernel
theorem d3_14 : decode jdk_42_method_149_code 14 = .ok (.putfield 9, 3) := by decide +kernel
theorem d3_17 : decode jdk_42_method_149_code 17 = .ok (.aload_n 0, 1) := by decide +kernel
theorem d3_18 : decode jdk_42_method_149_code 18 = .ok (.ldc 7, 2) := by decide +kernel
theorem d3_20 : decode jdk_42_method_149_code 20 = .ok (.getfield 15, 3) := by decide +kernel
theorem d3_23 : decode jdk_42_method_149_code 23 = .ok (.putfield 15, 3) := by decide +kernel
theorem d3_26 : decode jdk_42_method_149_code 26 = .ok (.return_, 1) := by decide +kernel
theorem own_pn_java_lang_String : plainName "java/lang/String" = true := by first | (simp [plainName, overriddenIn]; done) | decide +kernel
set_option maxRecDepth 65536 in
set_option maxHeartbeats 40000000 in
theorem rm_init4_0 (l : Launch) (Z : State) (a0 : Array Value) (hw : ∀ d ∈ tables_1, d.before a0 Z = true) (n0 : Nat) (a1 a2 : Addr) (h0 : Heap) (Z0 : n0 ≤ h0.size) (cm : Cmp Z) (O : Old Z n0 h0) (ch0 : Jvm.Lit.constHeld Z "java/lang/String" 7) (ch1 : Jvm.Lit.constHeld Z "com/example/chiton/chiton/model/MethodName" 7) (ch2 : Jvm.Lit.constHeld Z "com/example/chiton/chiton/model/MethodName" 23) (cw : Jvm.Lit.compactW.before a0 Z = true) (E0 : Exa Z h0 a1 "java/lang/String") (F0 : Fld Z h0 a1 "java/lang/String" "value" "[B" .null) (F1 : Fld Z h0 a1 "java/lang/String" "coder" "B" (.int (0 : Int32))) (g1 : n0 ≤ a1) (A2 : Ary Z h0 a2 .char []) (n12 : a1 ≠ a2) :
    Met1V l Z (⟨"java/lang/String", "<init>", "([CIILjava/lang/Void;)V"⟩ : MethodName) jdk_42_method_149_code 6 none ({ frames := 1, cells := 2, slots := 4, locals := 12 } : Room) n0 #[(.ref a1), (.ref a2), (.int (0 : Int32)), (.int (0 : Int32)), .null] h0 (fun vm => InvK own_K Z vm h0) (fun vm h => InvK own_K Z vm h) (fun v h => v = none ∧ Keep h0 h [a1] ∧ ∃ b : Addr, b ≠ a1 ∧ Fld Z h a1 "java/lang/String" "value" "[B" (.ref b) ∧ Fld Z h a1 "java/lang/String" "coder" "B" (.int (0 : Int32)) ∧ Ary Z h b .byte []) := by
  refine met_ofV (plainFor_of_name own_pn_java_lang_String) (L0 := #[.val (.ref a1), .val (.ref a2), .val (.int (0 : Int32)), .val (.int (0 : Int32)), .val .null, .unset]) (by first | (simp [argsToLocals, Value.category]; done) | rfl) ?_
  intro B C hW hP
  change Ctx B l _ _ "java/lang/String" "<init>" _ _ Z at C
  have cm' := cm
  obtain ⟨cz, Scz, hcz⟩ := cm'
  have I0 : InvK own_K Z B.s.vm h0 := hP
  refine g_aload_n C d3_0 (v := (.ref a1)) rfl rfl (pc' := 1) rfl ?_
  refine g_initObj C (own_w hw 15 rfl) (own_w hw 16 rfl) (own_w hw 17 rfl) rfl (by decide) (W := 0) (Nat.le_of_eq rfl) (by decide) d3_1 (pc' := 4) rfl ?_
  refine g_iload_n C d3_4 (v := (0 : Int32)) rfl (pc' := 5) rfl ?_
  refine g_if_n C d3_5 (Jvm.Free.XT.i0_ne_f (by decide)) (pc' := 8) rfl ?_
  refine g_aload_n C d3_8 (v := (.ref a1)) rfl rfl (pc' := 9) rfl ?_
  refine g_ldcK C hW (K := own_K) (List.mem_of_getElem? (i := 0) rfl) (by decide +kernel) (own_w hw 37 rfl) (own_satoms hw) O I0 ch0 cw (z := (0 : Int32)) (by decide +kernel) (by decide) (by decide +kernel) (nn := 0) (by decide +kernel) (by decide) (by decide) (by decide) d3_9 (pc' := 11) rfl ?_
  intro B C hW h_1 a_2 E_3 I_4 Lt_5 Es_6
  have f_7 := (F0.ext E_3)
  have f_8 := (E0.ext E_3)
  obtain ⟨b_9, es_10⟩ := Es_6 rfl
  have ne_11 : a_2 ≠ a1 := ne_val f_7 es_10.2.2.1
  have ne_12 : b_9 ≠ a1 := ne_arr f_8 es_10.2.2.2 (own_w hw 5 rfl)
  show Go B n0 _ h_1 2 4 11 #[.val (.ref a1), .val (.ref a2), .val (.int (0 : Int32)), .val (.int (0 : Int32)), .val .null, .unset] [(.ref a_2), (.ref a1)]
  refine g_getfield C (host := "") (v := (.ref b_9)) (Or.inl (own_w hw 32 rfl)) Via.refl es_10.2.2.1 d3_11 (pc' := 14) rfl ?_
  refine g_putfield C (host := "") (v := (.ref b_9)) (Or.inl (own_w hw 32 rfl)) Via.refl f_7 f_8 (Or.inr ⟨(own_w hw 33 rfl), rfl, rfl⟩) (own_w hw 5 rfl) (ty := (.array .byte)) (by decide) rfl rfl g1 d3_14 (pc' := 17) rfl ?_
  intro h_13 W_14
  have f_15 := f_7.same W_14
  refine g_aload_n C d3_17 (v := (.ref a1)) rfl rfl (pc' := 18) rfl ?_
  refine g_ldcL C (own_w hw 37 rfl) Lt_5 d3_18 (pc' := 20) rfl ?_
  have f_16 := (es_10.2.1.other W_14 (Or.inl ne_11))
  refine g_getfield C (host := "") (v := (.int (0 : Int32))) (Or.inl (own_w hw 30 rfl)) Via.refl f_16 d3_20 (pc' := 23) rfl ?_
  have f_17 := ((F1.ext E_3).other W_14 (Or.inr (slot_ne (Or.inr (own_w hw 31 rfl)) (Or.inr (own_w hw 33 rfl)) (by decide) (t := .byte) (t' := (.array .byte)) (by decide) (by decide))))
  have f_18 := (f_8.wr W_14)
  refine g_putfield C (host := "") (v := (.int (0 : Int32))) (Or.inl (own_w hw 30 rfl)) Via.refl f_17 f_18 (Or.inr ⟨(own_w hw 31 rfl), rfl, rfl⟩) (own_w hw 5 rfl) (ty := .byte) (by decide) rfl rfl g1 d3_23 (pc' := 26) rfl ?_
  intro h_19 W_20
  have f_21 := f_17.same W_20
  refine g_return C (eW hW fun vm' hw' => InvK.warm (InvK.keepS I_4 (((Keep.refl h_1 [a1]).wr W_14 (Or.inl (List.mem_of_getElem? (i := 0) rfl))).wr W_20 (Or.inl (List.mem_of_getElem? (i := 0) rfl))) f_8 f_7 (own_w hw 5 rfl)) hw') rfl d3_26 (by decide) (by decide) ?_
  have f_22 := (f_15.other W_20 (Or.inr (slot_ne (Or.inr (own_w hw 33 rfl)) (Or.inr (own_w hw 31 rfl)) (by decide) (t := (.array .byte)) (t' := .byte) (by decide) (by decide))))
  have f_23 := ((es_10.2.2.2.keep (Keep.of_wr W_14) (nin1 ne_12)).keep (Keep.of_wr W_20) (nin1 ne_12))
  exact ⟨rfl, ((((Keep.refl h0 [a1]).ext E_3).wr W_14 (Or.inl (List.mem_of_getElem? (i := 0) rfl))).wr W_20 (Or.inl (List.mem_of_getElem? (i := 0) rfl))), b_9, ne_12, f_22, f_21, f_23⟩
theorem own_pd_11_init : parseMethodDescriptor "([CIILjava/lang/Void;)V" = some ⟨[(.array .char), .int, .int, (.object "java/lang/Void")], none⟩ := by decide +kernel
theorem d2_0 : decode jdk_42_method_3_code 0 = .ok (.aload_n 0, 1) := by decide +kernel
theorem d2_1 : decode jdk_42_method_3_code 1 = .ok (.aload_n 1, 1) := by decide +kernel
theorem d2_2 : decode jdk_42_method_3_code 2 = .ok (.iconst 0, 1) := by decide +kernel
theorem d2_3 : decode jdk_42_method_3_code 3 = .ok (.aload_n 1, 1) := by decide +kernel
theorem d2_4 : decode jdk_42_method_3_code 4 = .ok (.arraylength, 1) := by decide +kernel
theorem d2_5 : decode jdk_42_method_3_code 5 = .ok (.aconst_null, 1) := by decide +kernel
theorem d2_6 : decode jdk_42_method_3_code 6 = .ok (.invokespecial 27, 3) := by decide +kernel
theorem d2_9 : decode jdk_42_method_3_code 9 = .ok (.return_, 1) := by decide +kernel
set_option maxRecDepth 65536 in
set_option maxHeartbeats 40000000 in
theorem rm_init1_0 (l : Launch) (Z : State) (a0 : Array Value) (hw : ∀ d ∈ tables_1, d.before a0 Z = true) (n0 : Nat) (a1 a2 : Addr) (h0 : Heap) (Z0 : n0 ≤ h0.size) (cm : Cmp Z) (O : Old Z n0 h0) (ch0 : Jvm.Lit.constHeld Z "java/lang/String" 7) (ch1 : Jvm.Lit.constHeld Z "com/example/chiton/chiton/model/MethodName" 7) (ch2 : Jvm.Lit.constHeld Z "com/example/chiton/chiton/model/MethodName" 23) (cw : Jvm.Lit.compactW.before a0 Z = true) (E0 : Exa Z h0 a1 "java/lang/String") (F0 : Fld Z h0 a1 "java/lang/String" "value" "[B" .null) (F1 : Fld Z h0 a1 "java/lang/String" "coder" "B" (.int (0 : Int32))) (g1 : n0 ≤ a1) (A2 : Ary Z h0 a2 .char []) (n12 : a1 ≠ a2) :
    Met1V l Z (⟨"java/lang/String", "<init>", "([C)V"⟩ : MethodName) jdk_42_method_3_code 2 none ({ frames := 2, cells := 2, slots := 4, locals := 29 } : Room) n0 #[(.ref a1), (.ref a2)] h0 (fun vm => InvK own_K Z vm h0) (fun vm h => InvK own_K Z vm h) (fun v h => v = none ∧ Keep h0 h [a1] ∧ ∃ b : Addr, b ≠ a1 ∧ Fld Z h a1 "java/lang/String" "value" "[B" (.ref b) ∧ Fld Z h a1 "java/lang/String" "coder" "B" (.int (0 : Int32)) ∧ Ary Z h b .byte []) := by
  refine met_ofV (plainFor_of_name own_pn_java_lang_String) (L0 := #[.val (.ref a1), .val (.ref a2)]) (by first | (simp [argsToLocals, Value.category]; done) | rfl) ?_
  intro B C hW hP
  change Ctx B l _ _ "java/lang/String" "<init>" _ _ Z at C
  have cm' := cm
  obtain ⟨cz, Scz, hcz⟩ := cm'
  have I0 : InvK own_K Z B.s.vm h0 := hP
  refine g_aload_n C d2_0 (v := (.ref a1)) rfl rfl (pc' := 1) rfl ?_
  refine g_aload_n C d2_1 (v := (.ref a2)) rfl rfl (pc' := 2) rfl ?_
  refine g_iconst C d2_2 (v := (0 : Int32)) rfl (pc' := 3) rfl ?_
  refine g_aload_n C d2_3 (v := (.ref a2)) rfl rfl (pc' := 4) rfl ?_
  refine g_arraylength C A2 (z := (0 : Int32)) rfl d2_4 (pc' := 5) rfl ?_
  refine g_aconst_null C d2_5 (pc' := 6) rfl ?_
  refine g_specialV C hW (a := a1) rfl (own_w hw 11 rfl) (own_w hw 12 rfl) (own_w hw 6 rfl) (own_w hw 14 rfl) (by decide) (rm_init4_0 l Z a0 hw n0 a1 a2 h0 Z0 cm O ch0 ch1 ch2 cw E0 F0 F1 g1 A2 n12) (fun vm' hw' => InvK.warm I0 hw') (st := []) [(.ref a2), (.int (0 : Int32)), (.int (0 : Int32)), .null] rfl rfl own_pd_11_init rfl rfl (by decide) (W := 0) (Nat.le_of_eq rfl) (by decide) (by decide) (by decide) d2_6 (pc' := 9) rfl ?_
  intro B C hW v_3 h_1 q_2 I_4
  obtain ⟨rfl, K_5, b_6, nb_7, f_8, f_9, f_10⟩ := q_2
  show Go B n0 _ h_1 2 4 9 #[.val (.ref a1), .val (.ref a2)] []
  refine g_return C (eW hW fun vm' hw' => InvK.warm I_4 hw') rfl d2_9 (by decide) (by decide) ?_
  exact ⟨rfl, ((Keep.refl h0 [a1]).trans K_5 (allS (Or.inl (List.mem_of_getElem? (i := 0) rfl)) all0)), b_6, nb_7, f_8, f_9, f_10⟩
theorem d6_0 : decode jdk_52_method_21_code 0 = .ok (.iconst 0, 1) := by decide +kernel
theorem d6_1 : decode jdk_52_method_21_code 1 = .ok (.istore 5, 2) := by decide +kernel
theorem d6_3 : decode jdk_52_method_21_code 3 = .ok (.iload 5, 2) := by decide +kernel
theorem d6_5 : decode jdk_52_method_21_code 5 = .ok (.iload 4, 2) := by decide +kernel
theorem d6_7 : decode jdk_52_method_21_code 7 = .ok (.if_icmp .ge 37, 3) := by decide +kernel
theorem d6_10 : decode jdk_52_method_21_code 10 = .ok (.aload_n 0, 1) := by decide +kernel
theorem d6_11 : decode jdk_52_method_21_code 11 = .ok (.iload_n 1, 1) := by decide +kernel
theorem d6_12 : decode jdk_52_method_21_code 12 = .ok (.caload, 1) := by decide +kernel
theorem d6_13 : decode jdk_52_method_21_code 13 = .ok (.istore 6, 2) := by decide +kernel
theorem d6_15 : decode jdk_52_method_21_code 15 = .ok (.iload 6, 2) := by decide +kernel
theorem d6_17 : decode jdk_52_method_21_code 17 = .ok (.sipush 255, 3) := by decide +kernel
theorem d6_20 : decode jdk_52_method_21_code 20 = .ok (.if_icmp .le 6, 3) := by decide +kernel
theorem d6_26 : decode jdk_52_method_21_code 26 = .ok (.aload_n 2, 1) := by decide +kernel
theorem d6_27 : decode jdk_52_method_21_code 27 = .ok (.iload_n 3, 1) := by decide +kernel
theorem d6_28 : decode jdk_52_method_21_code 28 = .ok (.iload 6, 2) := by decide +kernel
theorem d6_30 : decode jdk_52_method_21_code 30 = .ok (.i2b, 1) := by decide +kernel
theorem d6_31 : decode jdk_52_method_21_code 31 = .ok (.bastore, 1) := by decide +kernel
theorem d6_32 : decode jdk_52_method_21_code 32 = .ok (.iinc 1 1, 3) := by decide +kernel
theorem d6_35 : decode jdk_52_method_21_code 35 = .ok (.iinc 3 1, 3) := by decide +kernel
theorem d6_38 : decode jdk_52_method_21_code 38 = .ok (.iinc 5 1, 3) := by decide +kernel
theorem d6_41 : decode jdk_52_method_21_code 41 = .ok (.goto (-38), 3) := by decide +kernel
theorem d6_44 : decode jdk_52_method_21_code 44 = .ok (.iload 4, 2) := by decide +kernel
theorem d6_46 : decode jdk_52_method_21_code 46 = .ok (.ireturn, 1) := by decide +kernel
theorem own_pn_java_lang_StringUTF16 : plainName "java/lang/StringUTF16" = true := by first | (simp [plainName, overriddenIn]; done) | decide +kernel
set_option maxRecDepth 65536 in
set_option maxHeartbeats 40000000 in
theorem rm_comp1_1 (l : Launch) (Z : State) (a0 : Array Value) (hw : ∀ d ∈ tables_1, d.before a0 Z = true) (n0 : Nat) (a1 a2 : Addr) (c0 : Int32) (h0 : Heap) (Z0 : n0 ≤ h0.size) (A1 : Ary Z h0 a1 .char [.int c0]) (A2 : Ary Z h0 a2 .byte [.int (0 : Int32)]) (g2 : n0 ≤ a2) (n12 : a1 ≠ a2) (k0 : Ch c0) :
    Met1 l Z (⟨"java/lang/StringUTF16", "compress", "([CI[BII)I"⟩ : MethodName) jdk_52_method_21_code 7 (some .int) ({ frames := 0, cells := 0, slots := 0, locals := 0 } : Room) n0 #[(.ref a1), (.int (0 : Int32)), (.ref a2), (.int (0 : Int32)), (.int (1 : Int32))] h0 (fun v h => v = some (.int (1 : Int32)) ∧ Keep h0 h [a2] ∧ Ary Z h a2 .byte [.int (Int8.toInt32 (Int32.toInt8 c0))]) := by
  refine met_of (plainFor_of_name own_pn_java_lang_StringUTF16) (L0 := #[.val (.ref a1), .val (.int (0 : Int32)), .val (.ref a2), .val (.int (0 : Int32)), .val (.int (1 : Int32)), .unset, .unset]) (by first | (simp [argsToLocals, Value.category]; done) | rfl) ?_
  intro B C hN
  change Ctx B l _ _ "java/lang/StringUTF16" "compress" _ _ Z at C
  refine g_iconst C d6_0 (v := (0 : Int32)) rfl (pc' := 1) rfl ?_
  refine g_istore C d6_1 (v := (0 : Int32)) (L' := #[.val (.ref a1), .val (.int (0 : Int32)), .val (.ref a2), .val (.int (0 : Int32)), .val (.int (1 : Int32)), .val (.int (0 : Int32)), .unset]) rfl (pc' := 3) rfl ?_
  refine g_iload C d6_3 (v := (0 : Int32)) rfl (pc' := 5) rfl ?_
  refine g_iload C d6_5 (v := (1 : Int32)) rfl (pc' := 7) rfl ?_
  refine g_icmp_n C d6_7 (Jvm.Free.XT.ii_ge_f (by decide)) (pc' := 10) rfl ?_
  refine g_aload_n C d6_10 (v := (.ref a1)) rfl rfl (pc' := 11) rfl ?_
  refine g_iload_n C d6_11 (v := (0 : Int32)) rfl (pc' := 12) rfl ?_
  refine g_caload C A1 (by decide) (i := 0) (by decide) (v := c0) rfl d6_12 (pc' := 13) rfl ?_
  refine g_istore C d6_13 (v := c0) (L' := #[.val (.ref a1), .val (.int (0 : Int32)), .val (.ref a2), .val (.int (0 : Int32)), .val (.int (1 : Int32)), .val (.int (0 : Int32)), .val (.int c0)]) rfl (pc' := 15) rfl ?_
  refine g_iload C d6_15 (v := c0) rfl (pc' := 17) rfl ?_
  refine g_sipush C d6_17 (v := (255 : Int32)) rfl (pc' := 20) rfl ?_
  refine g_icmp_y C d6_20 (Jvm.Free.XT.ii_le_t k0.2.1) (pc' := 26) (by decide) (by decide) ?_
  refine g_aload_n C d6_26 (v := (.ref a2)) rfl rfl (pc' := 27) rfl ?_
  refine g_iload_n C d6_27 (v := (0 : Int32)) rfl (pc' := 28) rfl ?_
  refine g_iload C d6_28 (v := c0) rfl (pc' := 30) rfl ?_
  refine g_i2b C (x := c0) d6_30 (pc' := 31) rfl ?_
  refine g_bastoreB C A2 (by decide) (i := 0) (by decide) (show 0 < 1 by decide) (w := (.int (Int8.toInt32 (Int32.toInt8 c0)))) (congrArg Value.int (own_narb _)) g2 d6_31 (pc' := 32) rfl ?_
  intro h_1 K_2 A_3
  have f_4 : Ary Z h_1 a2 .byte [(.int (Int8.toInt32 (Int32.toInt8 c0)))] := A_3
  refine g_iinc C d6_32 (v := (0 : Int32)) (w := (1 : Int32)) rfl rfl (L' := #[.val (.ref a1), .val (.int (1 : Int32)), .val (.ref a2), .val (.int (0 : Int32)), .val (.int (1 : Int32)), .val (.int (0 : Int32)), .val (.int c0)]) rfl (pc' := 35) rfl ?_
  refine g_iinc C d6_35 (v := (0 : Int32)) (w := (1 : Int32)) rfl rfl (L' := #[.val (.ref a1), .val (.int (1 : Int32)), .val (.ref a2), .val (.int (1 : Int32)), .val (.int (1 : Int32)), .val (.int (0 : Int32)), .val (.int c0)]) rfl (pc' := 38) rfl ?_
  refine g_iinc C d6_38 (v := (0 : Int32)) (w := (1 : Int32)) rfl rfl (L' := #[.val (.ref a1), .val (.int (1 : Int32)), .val (.ref a2), .val (.int (1 : Int32)), .val (.int (1 : Int32)), .val (.int (1 : Int32)), .val (.int c0)]) rfl (pc' := 41) rfl ?_
  refine g_goto C d6_41 (pc' := 3) (by decide) (by decide) ?_
  refine g_iload C d6_3 (v := (1 : Int32)) rfl (pc' := 5) rfl ?_
  refine g_iload C d6_5 (v := (1 : Int32)) rfl (pc' := 7) rfl ?_
  refine g_icmp_y C d6_7 (Jvm.Free.XT.ii_ge_t (by decide)) (pc' := 44) (by decide) (by decide) ?_
  refine g_iload C d6_44 (v := (1 : Int32)) rfl (pc' := 46) rfl ?_
  refine g_ret C (eN hN) (v := (.int (1 : Int32))) (ty := .int) rfl rfl (Or.inl ⟨rfl, Or.inl rfl, _, rfl⟩) d6_46 (by decide) (by decide) ?_
  exact ⟨rfl, ((Keep.refl h0 [a2]).trans K_2 (allS (Or.inl (List.mem_of_getElem? (i := 0) rfl)) all0)), f_4⟩
theorem own_pd_12_compress : parseMethodDescriptor "([CI[BII)I" = some ⟨[(.array .char), .int, (.array .byte), .int, .int], (some .int)⟩ := by decide +kernel
theorem d5_0 : decode jdk_52_method_16_code 0 = .ok (.iload_n 2, 1) := by decide +kernel
theorem d5_1 : decode jdk_52_method_16_code 1 = .ok (.newarray .byte, 2) := by decide +kernel
theorem d5_3 : decode jdk_52_method_16_code 3 = .ok (.astore_n 3, 1) := by decide +kernel
theorem d5_4 : decode jdk_52_method_16_code 4 = .ok (.aload_n 0, 1) := by decide +kernel
theorem d5_5 : decode jdk_52_method_16_code 5 = .ok (.iload_n 1, 1) := by decide +kernel
theorem d5_6 : decode jdk_52_method_16_code 6 = .ok (.aload_n 3, 1) := by decide +kernel
theorem d5_7 : decode jdk_52_method_16_code 7 = .ok (.iconst 0, 1) := by decide +kernel
theorem d5_8 : decode jdk_52_method_16_code 8 = .ok (.iload_n 2, 1) := by decide +kernel
theorem d5_9 : decode jdk_52_method_16_code 9 = .ok (.invokestatic 115, 3) := by decide +kernel
theorem d5_12 : decode jdk_52_method_16_code 12 = .ok (.istore 4, 2) := by decide +kernel
theorem d5_14 : decode jdk_52_method_16_code 14 = .ok (.iload 4, 2) := by decide +kernel
theorem d5_16 : decode jdk_52_method_16_code 16 = .ok (.iload_n 2, 1) := by decide +kernel
theorem d5_17 : decode jdk_52_method_16_code 17 = .ok (.if_icmp .eq 40, 3) := by decide +kernel
theorem d5_57 : decode jdk_52_method_16_code 57 = .ok (.aload_n 3, 1) := by decide +kernel
theorem d5_58 : decode jdk_52_method_16_code 58 = .ok (.areturn, 1) := by decide +kernel
set_option maxRecDepth 65536 in
set_option maxHeartbeats 40000000 in
theorem rm_comp2_1 (l : Launch) (Z : State) (a0 : Array Value) (hw : ∀ d ∈ tables_1, d.before a0 Z = true) (n0 : Nat) (a1 : Addr) (c0 : Int32) (h0 : Heap) (Z0 : n0 ≤ h0.size) (A1 : Ary Z h0 a1 .char [.int c0]) (k0 : Ch c0) :
    Met1 l Z (⟨"java/lang/StringUTF16", "compress", "([CII)[B"⟩ : MethodName) jdk_52_method_16_code 6 (some (.array .byte)) ({ frames := 1, cells := 1, slots := 1, locals := 18 } : Room) n0 #[(.ref a1), (.int (0 : Int32)), (.int (1 : Int32))] h0 (fun v h => ∃ b : Addr, v = some (.ref b) ∧ h0.size ≤ b ∧ Keep h0 h [] ∧ Ary Z h b .byte [.int (Int8.toInt32 (Int32.toInt8 c0))]) := by
  refine met_of (plainFor_of_name own_pn_java_lang_StringUTF16) (L0 := #[.val (.ref a1), .val (.int (0 : Int32)), .val (.int (1 : Int32)), .unset, .unset, .unset]) (by first | (simp [argsToLocals, Value.category]; done) | rfl) ?_
  intro B C hN
  change Ctx B l _ _ "java/lang/StringUTF16" "compress" _ _ Z at C
  refine g_iload_n C d5_0 (v := (1 : Int32)) rfl (pc' := 1) rfl ?_
  refine g_newarray C (own_w hw 23 rfl) (ty := .byte) rfl (by decide) (cap := 1) (by decide) (by decide) (by decide) (by decide) d5_1 (pc' := 3) rfl ?_
  intro h_1 a_2 g_3 E_4 A_5
  have ne_6 : a1 ≠ a_2 := ne_new A1.lt g_3
  have ge_a_2 : n0 ≤ a_2 := Nat.le_trans Z0 (Nat.le_of_eq g_3.symm)
  have gs_a_2 : h0.size ≤ a_2 := Nat.le_trans (Nat.le_refl h0.size) (Nat.le_of_eq g_3.symm)
  have f_7 : Ary Z h_1 a_2 .byte [(.int (0 : Int32))] := A_5
  show Go B n0 _ h_1 1 1 3 #[.val (.ref a1), .val (.int (0 : Int32)), .val (.int (1 : Int32)), .unset, .unset, .unset] [(.ref a_2)]
  refine g_astore_n C d5_3 (v := (.ref a_2)) (L' := #[.val (.ref a1), .val (.int (0 : Int32)), .val (.int (1 : Int32)), .val (.ref a_2), .unset, .unset]) rfl rfl (pc' := 4) rfl ?_
  refine g_aload_n C d5_4 (v := (.ref a1)) rfl rfl (pc' := 5) rfl ?_
  refine g_iload_n C d5_5 (v := (0 : Int32)) rfl (pc' := 6) rfl ?_
  refine g_aload_n C d5_6 (v := (.ref a_2)) rfl rfl (pc' := 7) rfl ?_
  refine g_iconst C d5_7 (v := (0 : Int32)) rfl (pc' := 8) rfl ?_
  refine g_iload_n C d5_8 (v := (1 : Int32)) rfl (pc' := 9) rfl ?_
  have f_8 := (A1.ext E_4)
  have f_9 := (Nat.le_trans Z0 E_4.1)
  refine g_static C (own_w hw 24 rfl) (own_w hw 25 rfl) (own_w hw 21 rfl) (own_w hw 26 rfl) (by decide) (rm_comp1_1 l Z a0 hw n0 a1 a_2 c0 h_1 f_9 f_8 f_7 ge_a_2 ne_6 k0) (st := []) [(.ref a1), (.int (0 : Int32)), (.ref a_2), (.int (0 : Int32)), (.int (1 : Int32))] rfl rfl own_pd_12_compress rfl rfl (by decide) (W := 0) (Nat.le_of_eq rfl) (by decide) (by decide) (by decide) d5_9 (pc' := 12) rfl ?_
  intro v_12 h_10 q_11
  obtain ⟨rfl, K_14, f_15⟩ := q_11
  show Go B n0 _ h_10 1 1 12 #[.val (.ref a1), .val (.int (0 : Int32)), .val (.int (1 : Int32)), .val (.ref a_2), .unset, .unset] [(.int (1 : Int32))]
  refine g_istore C d5_12 (v := (1 : Int32)) (L' := #[.val (.ref a1), .val (.int (0 : Int32)), .val (.int (1 : Int32)), .val (.ref a_2), .val (.int (1 : Int32)), .unset]) rfl (pc' := 14) rfl ?_
  refine g_iload C d5_14 (v := (1 : Int32)) rfl (pc' := 16) rfl ?_
  refine g_iload_n C d5_16 (v := (1 : Int32)) rfl (pc' := 17) rfl ?_
  refine g_icmp_y C d5_17 (Jvm.Free.XT.ii_eq_t (by decide)) (pc' := 57) (by decide) (by decide) ?_
  refine g_aload_n C d5_57 (v := (.ref a_2)) rfl rfl (pc' := 58) rfl ?_
  refine g_ret C (eN hN) (v := (.ref a_2)) (ty := (.array .byte)) rfl rfl (Or.inr (Or.inr (Or.inr (Or.inr ⟨rfl, rfl, rfl⟩)))) d5_58 (by decide) (by decide) ?_
  exact ⟨a_2, rfl, gs_a_2, (((Keep.refl h0 []).ext E_4).trans K_14 (allS (Or.inr gs_a_2) all0)), f_15⟩
theorem d7_0 : decode jdk_52_method_15_code 0 = .ok (.iload_n 1, 1) := by decide +kernel
theorem d7_1 : decode jdk_52_method_15_code 1 = .ok (.aload_n 0, 1) := by decide +kernel
theorem d7_2 : decode jdk_52_method_15_code 2 = .ok (.arraylength, 1) := by decide +kernel
theorem d7_3 : decode jdk_52_method_15_code 3 = .ok (.isub, 1) := by decide +kernel
theorem d7_4 : decode jdk_52_method_15_code 4 = .ok (.bipush 31, 2) := by decide +kernel
theorem d7_6 : decode jdk_52_method_15_code 6 = .ok (.iushr, 1) := by decide +kernel
theorem d7_7 : decode jdk_52_method_15_code 7 = .ok (.i2b, 1) := by decide +kernel
theorem d7_8 : decode jdk_52_method_15_code 8 = .ok (.ireturn, 1) := by decide +kernel
set_option maxRecDepth 65536 in
set_option maxHeartbeats 40000000 in
theorem rm_coderF_1 (l : Launch) (Z : State) (a0 : Array Value) (hw : ∀ d ∈ tables_1, d.before a0 Z = true) (n0 : Nat) (a1 : Addr) (x0 : Int32) (h0 : Heap) (Z0 : n0 ≤ h0.size) (A1 : Ary Z h0 a1 .byte [.int x0]) :
    Met1 l Z (⟨"java/lang/StringUTF16", "coderFromArrayLen", "([BI)B"⟩ : MethodName) jdk_52_method_15_code 2 (some .byte) ({ frames := 0, cells := 0, slots := 0, locals := 0 } : Room) n0 #[(.ref a1), (.int (1 : Int32))] h0 (fun v h => v = some (.int (0 : Int32)) ∧ h0 = h) := by
  refine met_of (plainFor_of_name own_pn_java_lang_StringUTF16) (L0 := #[.val (.ref a1), .val (.int (1 : Int32))]) (by first | (simp [argsToLocals, Value.category]; done) | rfl) ?_
  intro B C hN
  change Ctx B l _ _ "java/lang/StringUTF16" "coderFromArrayLen" _ _ Z at C
  refine g_iload_n C d7_0 (v := (1 : Int32)) rfl (pc' := 1) rfl ?_
  refine g_aload_n C d7_1 (v := (.ref a1)) rfl rfl (pc' := 2) rfl ?_
  refine g_arraylength C A1 (z := (1 : Int32)) rfl d7_2 (pc' := 3) rfl ?_
  refine g_isub C (x := (1 : Int32)) (y := (1 : Int32)) d7_3  (pc' := 4) rfl ?_
  refine Go.eqs (st2 := [(.int (0 : Int32))]) ?_ (by rfl)
  refine g_bipush C d7_4 (v := (31 : Int32)) rfl (pc' := 6) rfl ?_
  refine g_iushr C (x := (0 : Int32)) (y := (31 : Int32)) d7_6  (pc' := 7) rfl ?_
  refine Go.eqs (st2 := [(.int (0 : Int32))]) ?_ (by rfl)
  refine g_i2b C (x := (0 : Int32)) d7_7 (pc' := 8) rfl ?_
  refine Go.eqs (st2 := [(.int (0 : Int32))]) ?_ (by rfl)
  refine g_ret C (eN hN) (v := (.int (0 : Int32))) (ty := .byte) rfl rfl (Or.inl ⟨rfl, Or.inr (Or.inr (Or.inl rfl)), _, rfl⟩) d7_8 (by decide) (by decide) ?_
  exact ⟨rfl, rfl⟩
theorem own_pd_10_compress : parseMethodDescriptor "([CII)[B" = some ⟨[(.array .char), .int, .int], (some (.array .byte))⟩ := by decide +kernel
theorem own_pd_7_coderFromArrayLen : parseMethodDescriptor "([BI)B" = some ⟨[(.array .byte), .int], (some .byte)⟩ := by decide +kernel
theorem d3_27 : decode jdk_42_method_149_code 27 = .ok (.getstatic 38, 3) := by decide +kernel
theorem d3_30 : decode jdk_42_method_149_code 30 = .ok (.ifCond .eq 28, 3) := by decide +kernel
theorem d3_33 : decode jdk_42_method_149_code 33 = .ok (.aload_n 1, 1) := by decide +kernel
theorem d3_34 : decode jdk_42_method_149_code 34 = .ok (.iload_n 2, 1) := by decide +kernel
theorem d3_35 : decode jdk_42_method_149_code 35 = .ok (.iload_n 3, 1) := by decide +kernel
theorem d3_36 : decode jdk_42_method_149_code 36 = .ok (.invokestatic 177, 3) := by decide +kernel
theorem d3_39 : decode jdk_42_method_149_code 39 = .ok (.astore 5, 2) := by decide +kernel
theorem d3_41 : decode jdk_42_method_149_code 41 = .ok (.aload_n 0, 1) := by decide +kernel
theorem d3_42 : decode jdk_42_method_149_code 42 = .ok (.aload 5, 2) := by decide +kernel
theorem d3_44 : decode jdk_42_method_149_code 44 = .ok (.iload_n 3, 1) := by decide +kernel
theorem d3_45 : decode jdk_42_method_149_code 45 = .ok (.invokestatic 47, 3) := by decide +kernel
theorem d3_48 : decode jdk_42_method_149_code 48 = .ok (.putfield 15, 3) := by decide +kernel
theorem d3_51 : decode jdk_42_method_149_code 51 = .ok (.aload_n 0, 1) := by decide +kernel
theorem d3_52 : decode jdk_42_method_149_code 52 = .ok (.aload 5, 2) := by decide +kernel
theorem d3_54 : decode jdk_42_method_149_code 54 = .ok (.putfield 9, 3) := by decide +kernel
theorem d3_57 : decode jdk_42_method_149_code 57 = .ok (.return_, 1) := by decide +kernel
set_option maxRecDepth 65536 in
set_option maxHeartbeats 40000000 in
theorem rm_init4_1 (l : Launch) (Z : State) (a0 : Array Value) (hw : ∀ d ∈ tables_1, d.before a0 Z = true) (n0 : Nat) (a1 a2 : Addr) (c0 : Int32) (h0 : Heap) (Z0 : n0 ≤ h0.size) (cm : Cmp Z) (O : Old Z n0 h0) (E0 : Exa Z h0 a1 "java/lang/String") (F0 : Fld Z h0 a1 "java/lang/String" "value" "[B" .null) (F1 : Fld Z h0 a1 "java/lang/String" "coder" "B" (.int (0 : Int32))) (g1 : n0 ≤ a1) (A2 : Ary Z h0 a2 .char [.int c0]) (n12 : a1 ≠ a2) (k0 : Ch c0) :
    Met1 l Z (⟨"java/lang/String", "<init>", "([CIILjava/lang/Void;)V"⟩ : MethodName) jdk_42_method_149_code 6 none ({ frames := 2, cells := 1, slots := 1, locals := 35 } : Room) n0 #[(.ref a1), (.ref a2), (.int (0 : Int32)), (.int (1 : Int32)), .null] h0 (fun v h => v = none ∧ Keep h0 h [a1] ∧ ∃ b : Addr, h0.size ≤ b ∧ Fld Z h a1 "java/lang/String" "value" "[B" (.ref b) ∧ Fld Z h a1 "java/lang/String" "coder" "B" (.int (0 : Int32)) ∧ Ary Z h b .byte [.int (Int8.toInt32 (Int32.toInt8 c0))]) := by
  refine met_of (plainFor_of_name own_pn_java_lang_String) (L0 := #[.val (.ref a1), .val (.ref a2), .val (.int (0 : Int32)), .val (.int (1 : Int32)), .val .null, .unset]) (by first | (simp [argsToLocals, Value.category]; done) | rfl) ?_
  intro B C hN
  change Ctx B l _ _ "java/lang/String" "<init>" _ _ Z at C
  have cm' := cm
  obtain ⟨cz, Scz, hcz⟩ := cm'
  refine g_aload_n C d3_0 (v := (.ref a1)) rfl rfl (pc' := 1) rfl ?_
  refine g_initObj C (own_w hw 15 rfl) (own_w hw 16 rfl) (own_w hw 17 rfl) rfl (by decide) (W := 0) (Nat.le_of_eq rfl) (by decide) d3_1 (pc' := 4) rfl ?_
  refine g_iload_n C d3_4 (v := (1 : Int32)) rfl (pc' := 5) rfl ?_
  refine g_if_y C d3_5 (Jvm.Free.XT.i0_ne_t (by decide)) (pc' := 27) (by decide) (by decide) ?_
  refine g_getstatic C (host := "") (v := (.int cz)) (Or.inl (own_w hw 18 rfl)) Via.refl (Scz.ext O.2) d3_27 (pc' := 30) rfl ?_
  refine g_if_n C d3_30 (Jvm.Free.XT.i0_eq_f hcz) (pc' := 33) rfl ?_
  refine g_aload_n C d3_33 (v := (.ref a2)) rfl rfl (pc' := 34) rfl ?_
  refine g_iload_n C d3_34 (v := (0 : Int32)) rfl (pc' := 35) rfl ?_
  refine g_iload_n C d3_35 (v := (1 : Int32)) rfl (pc' := 36) rfl ?_
  refine g_static C (own_w hw 19 rfl) (own_w hw 20 rfl) (own_w hw 21 rfl) (own_w hw 22 rfl) (by decide) (rm_comp2_1 l Z a0 hw n0 a2 c0 h0 Z0 A2 k0) (st := []) [(.ref a2), (.int (0 : Int32)), (.int (1 : Int32))] rfl rfl own_pd_10_compress rfl rfl (by decide) (W := 0) (Nat.le_of_eq rfl) (by decide) (by decide) (by decide) d3_36 (pc' := 39) rfl ?_
  intro v_3 h_1 q_2
  obtain ⟨b_5, rfl, le_6, K_7, f_8⟩ := q_2
  have ne_9 : a1 ≠ b_5 := ne_ge E0.lt le_6
  have ne_10 : a2 ≠ b_5 := ne_ge A2.lt le_6
  have ge_b_5 : n0 ≤ b_5 := Nat.le_trans Z0 le_6
  have gs_b_5 : h0.size ≤ b_5 := Nat.le_trans (Nat.le_refl h0.size) le_6
  show Go B n0 _ h_1 1 1 39 #[.val (.ref a1), .val (.ref a2), .val (.int (0 : Int32)), .val (.int (1 : Int32)), .val .null, .unset] [(.ref b_5)]
  refine g_astore C d3_39 (v := (.ref b_5)) (L' := #[.val (.ref a1), .val (.ref a2), .val (.int (0 : Int32)), .val (.int (1 : Int32)), .val .null, .val (.ref b_5)]) rfl rfl (pc' := 41) rfl ?_
  refine g_aload_n C d3_41 (v := (.ref a1)) rfl rfl (pc' := 42) rfl ?_
  refine g_aload C d3_42 (v := (.ref b_5)) rfl rfl (pc' := 44) rfl ?_
  refine g_iload_n C d3_44 (v := (1 : Int32)) rfl (pc' := 45) rfl ?_
  have f_11 := (Nat.le_trans Z0 K_7.1)
  refine g_static C (own_w hw 27 rfl) (own_w hw 28 rfl) (own_w hw 21 rfl) (own_w hw 29 rfl) (by decide) (rm_coderF_1 l Z a0 hw n0 b_5 (Int8.toInt32 (Int32.toInt8 c0)) h_1 f_11 f_8) (st := [(.ref a1)]) [(.ref b_5), (.int (1 : Int32))] rfl rfl own_pd_7_coderFromArrayLen rfl rfl (by decide) (W := 1) (Nat.le_of_eq rfl) (by decide) (by decide) (by decide) d3_45 (pc' := 48) rfl ?_
  intro v_14 h_12 q_13
  obtain ⟨rfl, rfl⟩ := q_13
  show Go B n0 _ h_1 1 1 48 #[.val (.ref a1), .val (.ref a2), .val (.int (0 : Int32)), .val (.int (1 : Int32)), .val .null, .val (.ref b_5)] [(.int (0 : Int32)), (.ref a1)]
  have f_16 := (F1.keep K_7 nin0)
  have f_17 := (E0.keep K_7)
  refine g_putfield C (host := "") (v := (.int (0 : Int32))) (Or.inl (own_w hw 30 rfl)) Via.refl f_16 f_17 (Or.inr ⟨(own_w hw 31 rfl), rfl, rfl⟩) (own_w hw 5 rfl) (ty := .byte) (by decide) rfl rfl g1 d3_48 (pc' := 51) rfl ?_
  intro h_18 W_19
  have f_20 := f_16.same W_19
  refine g_aload_n C d3_51 (v := (.ref a1)) rfl rfl (pc' := 52) rfl ?_
  refine g_aload C d3_52 (v := (.ref b_5)) rfl rfl (pc' := 54) rfl ?_
  have f_21 := ((F0.keep K_7 nin0).other W_19 (Or.inr (slot_ne (Or.inr (own_w hw 33 rfl)) (Or.inr (own_w hw 31 rfl)) (by decide) (t := (.array .byte)) (t' := .byte) (by decide) (by decide))))
  have f_22 := (f_17.wr W_19)
  refine g_putfield C (host := "") (v := (.ref b_5)) (Or.inl (own_w hw 32 rfl)) Via.refl f_21 f_22 (Or.inr ⟨(own_w hw 33 rfl), rfl, rfl⟩) (own_w hw 5 rfl) (ty := (.array .byte)) (by decide) rfl rfl g1 d3_54 (pc' := 57) rfl ?_
  intro h_23 W_24
  have f_25 := f_21.same W_24
  refine g_return C (eN hN) rfl d3_57 (by decide) (by decide) ?_
  have f_26 := (f_20.other W_24 (Or.inr (slot_ne (Or.inr (own_w hw 31 rfl)) (Or.inr (own_w hw 33 rfl)) (by decide) (t := .byte) (t' := (.array .byte)) (by decide) (by decide))))
  have f_27 := ((f_8.keep (Keep.of_wr W_19) (nin1 (Ne.symm ne_9))).keep (Keep.of_wr W_24) (nin1 (Ne.symm ne_9)))
  exact ⟨rfl, ((((Keep.refl h0 [a1]).trans K_7 all0).wr W_19 (Or.inl (List.mem_of_getElem? (i := 0) rfl))).wr W_24 (Or.inl (List.mem_of_getElem? (i := 0) rfl))), b_5, gs_b_5, f_25, f_26, f_27⟩
set_option maxRecDepth 65536 in
set_option maxHeartbeats 40000000 in
theorem rm_init1_1 (l : Launch) (Z : State) (a0 : Array Value) (hw : ∀ d ∈ tables_1, d.before a0 Z = true) (n0 : Nat) (a1 a2 : Addr) (c0 : Int32) (h0 : Heap) (Z0 : n0 ≤ h0.size) (cm : Cmp Z) (O : Old Z n0 h0) (E0 : Exa Z h0 a1 "java/lang/String") (F0 : Fld Z h0 a1 "java/lang/String" "value" "[B" .null) (F1 : Fld Z h0 a1 "java/lang/String" "coder" "B" (.int (0 : Int32))) (g1 : n0 ≤ a1) (A2 : Ary Z h0 a2 .char [.int c0]) (n12 : a1 ≠ a2) (k0 : Ch c0) :
    Met1 l Z (⟨"java/lang/String", "<init>", "([C)V"⟩ : MethodName) jdk_42_method_3_code 2 none ({ frames := 3, cells := 1, slots := 1, locals := 52 } : Room) n0 #[(.ref a1), (.ref a2)] h0 (fun v h => v = none ∧ Keep h0 h [a1] ∧ ∃ b : Addr, h0.size ≤ b ∧ Fld Z h a1 "java/lang/String" "value" "[B" (.ref b) ∧ Fld Z h a1 "java/lang/String" "coder" "B" (.int (0 : Int32)) ∧ Ary Z h b .byte [.int (Int8.toInt32 (Int32.toInt8 c0))]) := by
  refine met_of (plainFor_of_name own_pn_java_lang_String) (L0 := #[.val (.ref a1), .val (.ref a2)]) (by first | (simp [argsToLocals, Value.category]; done) | rfl) ?_
  intro B C hN
  change Ctx B l _ _ "java/lang/String" "<init>" _ _ Z at C
  have cm' := cm
  obtain ⟨cz, Scz, hcz⟩ := cm'
  refine g_aload_n C d2_0 (v := (.ref a1)) rfl rfl (pc' := 1) rfl ?_
  refine g_aload_n C d2_1 (v := (.ref a2)) rfl rfl (pc' := 2) rfl ?_
  refine g_iconst C d2_2 (v := (0 : Int32)) rfl (pc' := 3) rfl ?_
  refine g_aload_n C d2_3 (v := (.ref a2)) rfl rfl (pc' := 4) rfl ?_
  refine g_arraylength C A2 (z := (1 : Int32)) rfl d2_4 (pc' := 5) rfl ?_
  refine g_aconst_null C d2_5 (pc' := 6) rfl ?_
  refine g_special C (a := a1) rfl (own_w hw 11 rfl) (own_w hw 12 rfl) (own_w hw 6 rfl) (own_w hw 14 rfl) (by decide) (rm_init4_1 l Z a0 hw n0 a1 a2 c0 h0 Z0 cm O E0 F0 F1 g1 A2 n12 k0) (st := []) [(.ref a2), (.int (0 : Int32)), (.int (1 : Int32)), .null] rfl rfl own_pd_11_init rfl rfl (by decide) (W := 0) (Nat.le_of_eq rfl) (by decide) (by decide) (by decide) d2_6 (pc' := 9) rfl ?_
  intro v_3 h_1 q_2
  obtain ⟨rfl, K_5, b_6, le_7, f_8, f_9, f_10⟩ := q_2
  have ne_11 : a1 ≠ b_6 := ne_ge E0.lt le_7
  have ne_12 : a2 ≠ b_6 := ne_ge A2.lt le_7
  have ge_b_6 : n0 ≤ b_6 := Nat.le_trans Z0 le_7
  have gs_b_6 : h0.size ≤ b_6 := Nat.le_trans (Nat.le_refl h0.size) le_7
  show Go B n0 _ h_1 1 1 9 #[.val (.ref a1), .val (.ref a2)] []
  refine g_return C (eN hN) rfl d2_9 (by decide) (by decide) ?_
  exact ⟨rfl, ((Keep.refl h0 [a1]).trans K_5 (allS (Or.inl (List.mem_of_getElem? (i := 0) rfl)) all0)), b_6, gs_b_6, f_8, f_9, f_10⟩
set_option maxRecDepth 65536 in
set_option maxHeartbeats 40000000 in
theorem rm_comp1_2 (l : Launch) (Z : State) (a0 : Array Value) (hw : ∀ d ∈ tables_1, d.before a0 Z = true) (n0 : Nat) (a1 a2 : Addr) (c0 c1 : Int32) (h0 : Heap) (Z0 : n0 ≤ h0.size) (A1 : Ary Z h0 a1 .char [.int c0, .int c1]) (A2 : Ary Z h0 a2 .byte [.int (0 : Int32), .int (0 : Int32)]) (g2 : n0 ≤ a2) (n12 : a1 ≠ a2) (k0 : Ch c0) (k1 : Ch c1) :
    Met1 l Z (⟨"java/lang/StringUTF16", "compress", "([CI[BII)I"⟩ : MethodName) jdk_52_method_21_code 7 (some .int) ({ frames := 0, cells := 0, slots := 0, locals := 0 } : Room) n0 #[(.ref a1), (.int (0 : Int32)), (.ref a2), (.int (0 : Int32)), (.int (2 : Int32))] h0 (fun v h => v = some (.int (2 : Int32)) ∧ Keep h0 h [a2] ∧ Ary Z h a2 .byte [.int (Int8.toInt32 (Int32.toInt8 c0)), .int (Int8.toInt32 (Int32.toInt8 c1))]) := by
  refine met_of (plainFor_of_name own_pn_java_lang_StringUTF16) (L0 := #[.val (.ref a1), .val (.int (0 : Int32)), .val (.ref a2), .val (.int (0 : Int32)), .val (.int (2 : Int32)), .unset, .unset]) (by first | (simp [argsToLocals, Value.category]; done) | rfl) ?_
  intro B C hN
  change Ctx B l _ _ "java/lang/StringUTF16" "compress" _ _ Z at C
  refine g_iconst C d6_0 (v := (0 : Int32)) rfl (pc' := 1) rfl ?_
  refine g_istore C d6_1 (v := (0 : Int32)) (L' := #[.val (.ref a1), .val (.int (0 : Int32)), .val (.ref a2), .val (.int (0 : Int32)), .val (.int (2 : Int32)), .val (.int (0 : Int32)), .unset]) rfl (pc' := 3) rfl ?_
  refine g_iload C d6_3 (v := (0 : Int32)) rfl (pc' := 5) rfl ?_
  refine g_iload C d6_5 (v := (2 : Int32)) rfl (pc' := 7) rfl ?_
  refine g_icmp_n C d6_7 (Jvm.Free.XT.ii_ge_f (by decide)) (pc' := 10) rfl ?_
  refine g_aload_n C d6_10 (v := (.ref a1)) rfl rfl (pc' := 11) rfl ?_
  refine g_iload_n C d6_11 (v := (0 : Int32)) rfl (pc' := 12) rfl ?_
  refine g_caload C A1 (by decide) (i := 0) (by decide) (v := c0) rfl d6_12 (pc' := 13) rfl ?_
  refine g_istore C d6_13 (v := c0) (L' := #[.val (.ref a1), .val (.int (0 : Int32)), .val (.ref a2), .val (.int (0 : Int32)), .val (.int (2 : Int32)), .val (.int (0 : Int32)), .val (.int c0)]) rfl (pc' := 15) rfl ?_
  refine g_iload C d6_15 (v := c0) rfl (pc' := 17) rfl ?_
  refine g_sipush C d6_17 (v := (255 : Int32)) rfl (pc' := 20) rfl ?_
  refine g_icmp_y C d6_20 (Jvm.Free.XT.ii_le_t k0.2.1) (pc' := 26) (by decide) (by decide) ?_
  refine g_aload_n C d6_26 (v := (.ref a2)) rfl rfl (pc' := 27) rfl ?_
  refine g_iload_n C d6_27 (v := (0 : Int32)) rfl (pc' := 28) rfl ?_
  refine g_iload C d6_28 (v := c0) rfl (pc' := 30) rfl ?_
  refine g_i2b C (x := c0) d6_30 (pc' := 31) rfl ?_
  refine g_bastoreB C A2 (by decide) (i := 0) (by decide) (show 0 < 2 by decide) (w := (.int (Int8.toInt32 (Int32.toInt8 c0)))) (congrArg Value.int (own_narb _)) g2 d6_31 (pc' := 32) rfl ?_
  intro h_1 K_2 A_3
  have f_4 : Ary Z h_1 a2 .byte [(.int (Int8.toInt32 (Int32.toInt8 c0))), (.int (0 : Int32))] := A_3
  refine g_iinc C d6_32 (v := (0 : Int32)) (w := (1 : Int32)) rfl rfl (L' := #[.val (.ref a1), .val (.int (1 : Int32)), .val (.ref a2), .val (.int (0 : Int32)), .val (.int (2 : Int32)), .val (.int (0 : Int32)), .val (.int c0)]) rfl (pc' := 35) rfl ?_
  refine g_iinc C d6_35 (v := (0 : Int32)) (w := (1 : Int32)) rfl rfl (L' := #[.val (.ref a1), .val (.int (1 : Int32)), .val (.ref a2), .val (.int (1 : Int32)), .val (.int (2 : Int32)), .val (.int (0 : Int32)), .val (.int c0)]) rfl (pc' := 38) rfl ?_
  refine g_iinc C d6_38 (v := (0 : Int32)) (w := (1 : Int32)) rfl rfl (L' := #[.val (.ref a1), .val (.int (1 : Int32)), .val (.ref a2), .val (.int (1 : Int32)), .val (.int (2 : Int32)), .val (.int (1 : Int32)), .val (.int c0)]) rfl (pc' := 41) rfl ?_
  refine g_goto C d6_41 (pc' := 3) (by decide) (by decide) ?_
  refine g_iload C d6_3 (v := (1 : Int32)) rfl (pc' := 5) rfl ?_
  refine g_iload C d6_5 (v := (2 : Int32)) rfl (pc' := 7) rfl ?_
  refine g_icmp_n C d6_7 (Jvm.Free.XT.ii_ge_f (by decide)) (pc' := 10) rfl ?_
  refine g_aload_n C d6_10 (v := (.ref a1)) rfl rfl (pc' := 11) rfl ?_
  refine g_iload_n C d6_11 (v := (1 : Int32)) rfl (pc' := 12) rfl ?_
  have f_5 := (A1.keep K_2 (ninS n12 nin0))
  refine g_caload C f_5 (by decide) (i := 1) (by decide) (v := c1) rfl d6_12 (pc' := 13) rfl ?_
  refine g_istore C d6_13 (v := c1) (L' := #[.val (.ref a1), .val (.int (1 : Int32)), .val (.ref a2), .val (.int (1 : Int32)), .val (.int (2 : Int32)), .val (.int (1 : Int32)), .val (.int c1)]) rfl (pc' := 15) rfl ?_
  refine g_iload C d6_15 (v := c1) rfl (pc' := 17) rfl ?_
  refine g_sipush C d6_17 (v := (255 : Int32)) rfl (pc' := 20) rfl ?_
  refine g_icmp_y C d6_20 (Jvm.Free.XT.ii_le_t k1.2.1) (pc' := 26) (by decide) (by decide) ?_
  refine g_aload_n C d6_26 (v := (.ref a2)) rfl rfl (pc' := 27) rfl ?_
  refine g_iload_n C d6_27 (v := (1 : Int32)) rfl (pc' := 28) rfl ?_
  refine g_iload C d6_28 (v := c1) rfl (pc' := 30) rfl ?_
  refine g_i2b C (x := c1) d6_30 (pc' := 31) rfl ?_
  refine g_bastoreB C f_4 (by decide) (i := 1) (by decide) (show 1 < 2 by decide) (w := (.int (Int8.toInt32 (Int32.toInt8 c1)))) (congrArg Value.int (own_narb _)) g2 d6_31 (pc' := 32) rfl ?_
  intro h_6 K_7 A_8
  have f_9 : Ary Z h_6 a2 .byte [(.int (Int8.toInt32 (Int32.toInt8 c0))), (.int (Int8.toInt32 (Int32.toInt8 c1)))] := A_8
  refine g_iinc C d6_32 (v := (1 : Int32)) (w := (2 : Int32)) rfl rfl (L' := #[.val (.ref a1), .val (.int (2 : Int32)), .val (.ref a2), .val (.int (1 : Int32)), .val (.int (2 : Int32)), .val (.int (1 : Int32)), .val (.int c1)]) rfl (pc' := 35) rfl ?_
  refine g_iinc C d6_35 (v := (1 : Int32)) (w := (2 : Int32)) rfl rfl (L' := #[.val (.ref a1), .val (.int (2 : Int32)), .val (.ref a2), .val (.int (2 : Int32)), .val (.int (2 : Int32)), .val (.int (1 : Int32)), .val (.int c1)]) rfl (pc' := 38) rfl ?_
  refine g_iinc C d6_38 (v := (1 : Int32)) (w := (2 : Int32)) rfl rfl (L' := #[.val (.ref a1), .val (.int (2 : Int32)), .val (.ref a2), .val (.int (2 : Int32)), .val (.int (2 : Int32)), .val (.int (2 : Int32)), .val (.int c1)]) rfl (pc' := 41) rfl ?_
  refine g_goto C d6_41 (pc' := 3) (by decide) (by decide) ?_
  refine g_iload C d6_3 (v := (2 : Int32)) rfl (pc' := 5) rfl ?_
  refine g_iload C d6_5 (v := (2 : Int32)) rfl (pc' := 7) rfl ?_
  refine g_icmp_y C d6_7 (Jvm.Free.XT.ii_ge_t (by decide)) (pc' := 44) (by decide) (by decide) ?_
  refine g_iload C d6_44 (v := (2 : Int32)) rfl (pc' := 46) rfl ?_
  refine g_ret C (eN hN) (v := (.int (2 : Int32))) (ty := .int) rfl rfl (Or.inl ⟨rfl, Or.inl rfl, _, rfl⟩) d6_46 (by decide) (by decide) ?_
  exact ⟨rfl, (((Keep.refl h0 [a2]).trans K_2 (allS (Or.inl (List.mem_of_getElem? (i := 0) rfl)) all0)).trans K_7 (allS (Or.inl (List.mem_of_getElem? (i := 0) rfl)) all0)), f_9⟩
set_option maxRecDepth 65536 in
set_option maxHeartbeats 40000000 in
theorem rm_comp2_2 (l : Launch) (Z : State) (a0 : Array Value) (hw : ∀ d ∈ tables_1, d.before a0 Z = true) (n0 : Nat) (a1 : Addr) (c0 c1 : Int32) (h0 : Heap) (Z0 : n0 ≤ h0.size) (A1 : Ary Z h0 a1 .char [.int c0, .int c1]) (k0 : Ch c0) (k1 : Ch c1) :
    Met1 l Z (⟨"java/lang/StringUTF16", "compress", "([CII)[B"⟩ : MethodName) jdk_52_method_16_code 6 (some (.array .byte)) ({ frames := 1, cells := 1, slots := 2, locals := 18 } : Room) n0 #[(.ref a1), (.int (0 : Int32)), (.int (2 : Int32))] h0 (fun v h => ∃ b : Addr, v = some (.ref b) ∧ h0.size ≤ b ∧ Keep h0 h [] ∧ Ary Z h b .byte [.int (Int8.toInt32 (Int32.toInt8 c0)), .int (Int8.toInt32 (Int32.toInt8 c1))]) := by
  refine met_of (plainFor_of_name own_pn_java_lang_StringUTF16) (L0 := #[.val (.ref a1), .val (.int (0 : Int32)), .val (.int (2 : Int32)), .unset, .unset, .unset]) (by first | (simp [argsToLocals, Value.category]; done) | rfl) ?_
  intro B C hN
  change Ctx B l _ _ "java/lang/StringUTF16" "compress" _ _ Z at C
  refine g_iload_n C d5_0 (v := (2 : Int32)) rfl (pc' := 1) rfl ?_
  refine g_newarray C (own_w hw 23 rfl) (ty := .byte) rfl (by decide) (cap := 2) (by decide) (by decide) (by decide) (by decide) d5_1 (pc' := 3) rfl ?_
  intro h_1 a_2 g_3 E_4 A_5
  have ne_6 : a1 ≠ a_2 := ne_new A1.lt g_3
  have ge_a_2 : n0 ≤ a_2 := Nat.le_trans Z0 (Nat.le_of_eq g_3.symm)
  have gs_a_2 : h0.size ≤ a_2 := Nat.le_trans (Nat.le_refl h0.size) (Nat.le_of_eq g_3.symm)
  have f_7 : Ary Z h_1 a_2 .byte [(.int (0 : Int32)), (.int (0 : Int32))] := A_5
  show Go B n0 _ h_1 1 2 3 #[.val (.ref a1), .val (.int (0 : Int32)), .val (.int (2 : Int32)), .unset, .unset, .unset] [(.ref a_2)]
  refine g_astore_n C d5_3 (v := (.ref a_2)) (L' := #[.val (.ref a1), .val (.int (0 : Int32)), .val (.int (2 : Int32)), .val (.ref a_2), .unset, .unset]) rfl rfl (pc' := 4) rfl ?_
  refine g_aload_n C d5_4 (v := (.ref a1)) rfl rfl (pc' := 5) rfl ?_
  refine g_iload_n C d5_5 (v := (0 : Int32)) rfl (pc' := 6) rfl ?_
  refine g_aload_n C d5_6 (v := (.ref a_2)) rfl rfl (pc' := 7) rfl ?_
  refine g_iconst C d5_7 (v := (0 : Int32)) rfl (pc' := 8) rfl ?_
  refine g_iload_n C d5_8 (v := (2 : Int32)) rfl (pc' := 9) rfl ?_
  have f_8 := (A1.ext E_4)
  have f_9 := (Nat.le_trans Z0 E_4.1)
  refine g_static C (own_w hw 24 rfl) (own_w hw 25 rfl) (own_w hw 21 rfl) (own_w hw 26 rfl) (by decide) (rm_comp1_2 l Z a0 hw n0 a1 a_2 c0 c1 h_1 f_9 f_8 f_7 ge_a_2 ne_6 k0 k1) (st := []) [(.ref a1), (.int (0 : Int32)), (.ref a_2), (.int (0 : Int32)), (.int (2 : Int32))] rfl rfl own_pd_12_compress rfl rfl (by decide) (W := 0) (Nat.le_of_eq rfl) (by decide) (by decide) (by decide) d5_9 (pc' := 12) rfl ?_
  intro v_12 h_10 q_11
  obtain ⟨rfl, K_14, f_15⟩ := q_11
  show Go B n0 _ h_10 1 2 12 #[.val (.ref a1), .val (.int (0 : Int32)), .val (.int (2 : Int32)), .val (.ref a_2), .unset, .unset] [(.int (2 : Int32))]
  refine g_istore C d5_12 (v := (2 : Int32)) (L' := #[.val (.ref a1), .val (.int (0 : Int32)), .val (.int (2 : Int32)), .val (.ref a_2), .val (.int (2 : Int32)), .unset]) rfl (pc' := 14) rfl ?_
  refine g_iload C d5_14 (v := (2 : Int32)) rfl (pc' := 16) rfl ?_
  refine g_iload_n C d5_16 (v := (2 : Int32)) rfl (pc' := 17) rfl ?_
  refine g_icmp_y C d5_17 (Jvm.Free.XT.ii_eq_t (by decide)) (pc' := 57) (by decide) (by decide) ?_
  refine g_aload_n C d5_57 (v := (.ref a_2)) rfl rfl (pc' := 58) rfl ?_
  refine g_ret C (eN hN) (v := (.ref a_2)) (ty := (.array .byte)) rfl rfl (Or.inr (Or.inr (Or.inr (Or.inr ⟨rfl, rfl, rfl⟩)))) d5_58 (by decide) (by decide) ?_
  exact ⟨a_2, rfl, gs_a_2, (((Keep.refl h0 []).ext E_4).trans K_14 (allS (Or.inr gs_a_2) all0)), f_15⟩
set_option maxRecDepth 65536 in
set_option maxHeartbeats 40000000 in
theorem rm_coderF_2 (l : Launch) (Z : State) (a0 : Array Value) (hw : ∀ d ∈ tables_1, d.before a0 Z = true) (n0 : Nat) (a1 : Addr) (x0 x1 : Int32) (h0 : Heap) (Z0 : n0 ≤ h0.size) (A1 : Ary Z h0 a1 .byte [.int x0, .int x1]) :
    Met1 l Z (⟨"java/lang/StringUTF16", "coderFromArrayLen", "([BI)B"⟩ : MethodName) jdk_52_method_15_code 2 (some .byte) ({ frames := 0, cells := 0, slots := 0, locals := 0 } : Room) n0 #[(.ref a1), (.int (2 : Int32))] h0 (fun v h => v = some (.int (0 : Int32)) ∧ h0 = h) := by
  refine met_of (plainFor_of_name own_pn_java_lang_StringUTF16) (L0 := #[.val (.ref a1), .val (.int (2 : Int32))]) (by first | (simp [argsToLocals, Value.category]; done) | rfl) ?_
  intro B C hN
  change Ctx B l _ _ "java/lang/StringUTF16" "coderFromArrayLen" _ _ Z at C
  refine g_iload_n C d7_0 (v := (2 : Int32)) rfl (pc' := 1) rfl ?_
  refine g_aload_n C d7_1 (v := (.ref a1)) rfl rfl (pc' := 2) rfl ?_
  refine g_arraylength C A1 (z := (2 : Int32)) rfl d7_2 (pc' := 3) rfl ?_
  refine g_isub C (x := (2 : Int32)) (y := (2 : Int32)) d7_3  (pc' := 4) rfl ?_
  refine Go.eqs (st2 := [(.int (0 : Int32))]) ?_ (by rfl)
  refine g_bipush C d7_4 (v := (31 : Int32)) rfl (pc' := 6) rfl ?_
  refine g_iushr C (x := (0 : Int32)) (y := (31 : Int32)) d7_6  (pc' := 7) rfl ?_
  refine Go.eqs (st2 := [(.int (0 : Int32))]) ?_ (by rfl)
  refine g_i2b C (x := (0 : Int32)) d7_7 (pc' := 8) rfl ?_
  refine Go.eqs (st2 := [(.int (0 : Int32))]) ?_ (by rfl)
  refine g_ret C (eN hN) (v := (.int (0 : Int32))) (ty := .byte) rfl rfl (Or.inl ⟨rfl, Or.inr (Or.inr (Or.inl rfl)), _, rfl⟩) d7_8 (by decide) (by decide) ?_
  exact ⟨rfl, rfl⟩
set_option maxRecDepth 65536 in
set_option maxHeartbeats 40000000 in
theorem rm_init4_2 (l : Launch) (Z : State) (a0 : Array Value) (hw : ∀ d ∈ tables_1, d.before a0 Z = true) (n0 : Nat) (a1 a2 : Addr) (c0 c1 : Int32) (h0 : Heap) (Z0 : n0 ≤ h0.size) (cm : Cmp Z) (O : Old Z n0 h0) (E0 : Exa Z h0 a1 "java/lang/String") (F0 : Fld Z h0 a1 "java/lang/String" "value" "[B" .null) (F1 : Fld Z h0 a1 "java/lang/String" "coder" "B" (.int (0 : Int32))) (g1 : n0 ≤ a1) (A2 : Ary Z h0 a2 .char [.int c0, .int c1]) (n12 : a1 ≠ a2) (k0 : Ch c0) (k1 : Ch c1) :
    Met1 l Z (⟨"java/lang/String", "<init>", "([CIILjava/lang/Void;)V"⟩ : MethodName) jdk_42_method_149_code 6 none ({ frames := 2, cells := 1, slots := 2, locals := 35 } : Room) n0 #[(.ref a1), (.ref a2), (.int (0 : Int32)), (.int (2 : Int32)), .null] h0 (fun v h => v = none ∧ Keep h0 h [a1] ∧ ∃ b : Addr, h0.size ≤ b ∧ Fld Z h a1 "java/lang/String" "value" "[B" (.ref b) ∧ Fld Z h a1 "java/lang/String" "coder" "B" (.int (0 : Int32)) ∧ Ary Z h b .byte [.int (Int8.toInt32 (Int32.toInt8 c0)), .int (Int8.toInt32 (Int32.toInt8 c1))]) := by
  refine met_of (plainFor_of_name own_pn_java_lang_String) (L0 := #[.val (.ref a1), .val (.ref a2), .val (.int (0 : Int32)), .val (.int (2 : Int32)), .val .null, .unset]) (by first | (simp [argsToLocals, Value.category]; done) | rfl) ?_
  intro B C hN
  change Ctx B l _ _ "java/lang/String" "<init>" _ _ Z at C
  have cm' := cm
  obtain ⟨cz, Scz, hcz⟩ := cm'
  refine g_aload_n C d3_0 (v := (.ref a1)) rfl rfl (pc' := 1) rfl ?_
  refine g_initObj C (own_w hw 15 rfl) (own_w hw 16 rfl) (own_w hw 17 rfl) rfl (by decide) (W := 0) (Nat.le_of_eq rfl) (by decide) d3_1 (pc' := 4) rfl ?_
  refine g_iload_n C d3_4 (v := (2 : Int32)) rfl (pc' := 5) rfl ?_
  refine g_if_y C d3_5 (Jvm.Free.XT.i0_ne_t (by decide)) (pc' := 27) (by decide) (by decide) ?_
  refine g_getstatic C (host := "") (v := (.int cz)) (Or.inl (own_w hw 18 rfl)) Via.refl (Scz.ext O.2) d3_27 (pc' := 30) rfl ?_
  refine g_if_n C d3_30 (Jvm.Free.XT.i0_eq_f hcz) (pc' := 33) rfl ?_
  refine g_aload_n C d3_33 (v := (.ref a2)) rfl rfl (pc' := 34) rfl ?_
  refine g_iload_n C d3_34 (v := (0 : Int32)) rfl (pc' := 35) rfl ?_
  refine g_iload_n C d3_35 (v := (2 : Int32)) rfl (pc' := 36) rfl ?_
  refine g_static C (own_w hw 19 rfl) (own_w hw 20 rfl) (own_w hw 21 rfl) (own_w hw 22 rfl) (by decide) (rm_comp2_2 l Z a0 hw n0 a2 c0 c1 h0 Z0 A2 k0 k1) (st := []) [(.ref a2), (.int (0 : Int32)), (.int (2 : Int32))] rfl rfl own_pd_10_compress rfl rfl (by decide) (W := 0) (Nat.le_of_eq rfl) (by decide) (by decide) (by decide) d3_36 (pc' := 39) rfl ?_
  intro v_3 h_1 q_2
  obtain ⟨b_5, rfl, le_6, K_7, f_8⟩ := q_2
  have ne_9 : a1 ≠ b_5 := ne_ge E0.lt le_6
  have ne_10 : a2 ≠ b_5 := ne_ge A2.lt le_6
  have ge_b_5 : n0 ≤ b_5 := Nat.le_trans Z0 le_6
  have gs_b_5 : h0.size ≤ b_5 := Nat.le_trans (Nat.le_refl h0.size) le_6
  show Go B n0 _ h_1 1 2 39 #[.val (.ref a1), .val (.ref a2), .val (.int (0 : Int32)), .val (.int (2 : Int32)), .val .null, .unset] [(.ref b_5)]
  refine g_astore C d3_39 (v := (.ref b_5)) (L' := #[.val (.ref a1), .val (.ref a2), .val (.int (0 : Int32)), .val (.int (2 : Int32)), .val .null, .val (.ref b_5)]) rfl rfl (pc' := 41) rfl ?_
  refine g_aload_n C d3_41 (v := (.ref a1)) rfl rfl (pc' := 42) rfl ?_
  refine g_aload C d3_42 (v := (.ref b_5)) rfl rfl (pc' := 44) rfl ?_
  refine g_iload_n C d3_44 (v := (2 : Int32)) rfl (pc' := 45) rfl ?_
  have f_11 := (Nat.le_trans Z0 K_7.1)
  refine g_static C (own_w hw 27 rfl) (own_w hw 28 rfl) (own_w hw 21 rfl) (own_w hw 29 rfl) (by decide) (rm_coderF_2 l Z a0 hw n0 b_5 (Int8.toInt32 (Int32.toInt8 c0)) (Int8.toInt32 (Int32.toInt8 c1)) h_1 f_11 f_8) (st := [(.ref a1)]) [(.ref b_5), (.int (2 : Int32))] rfl rfl own_pd_7_coderFromArrayLen rfl rfl (by decide) (W := 1) (Nat.le_of_eq rfl) (by decide) (by decide) (by decide) d3_45 (pc' := 48) rfl ?_
  intro v_14 h_12 q_13
  obtain ⟨rfl, rfl⟩ := q_13
  show Go B n0 _ h_1 1 2 48 #[.val (.ref a1), .val (.ref a2), .val (.int (0 : Int32)), .val (.int (2 : Int32)), .val .null, .val (.ref b_5)] [(.int (0 : Int32)), (.ref a1)]
  have f_16 := (F1.keep K_7 nin0)
  have f_17 := (E0.keep K_7)
  refine g_putfield C (host := "") (v := (.int (0 : Int32))) (Or.inl (own_w hw 30 rfl)) Via.refl f_16 f_17 (Or.inr ⟨(own_w hw 31 rfl), rfl, rfl⟩) (own_w hw 5 rfl) (ty := .byte) (by decide) rfl rfl g1 d3_48 (pc' := 51) rfl ?_
  intro h_18 W_19
  have f_20 := f_16.same W_19
  refine g_aload_n C d3_51 (v := (.ref a1)) rfl rfl (pc' := 52) rfl ?_
  refine g_aload C d3_52 (v := (.ref b_5)) rfl rfl (pc' := 54) rfl ?_
  have f_21 := ((F0.keep K_7 nin0).other W_19 (Or.inr (slot_ne (Or.inr (own_w hw 33 rfl)) (Or.inr (own_w hw 31 rfl)) (by decide) (t := (.array .byte)) (t' := .byte) (by decide) (by decide))))
  have f_22 := (f_17.wr W_19)
  refine g_putfield C (host := "") (v := (.ref b_5)) (Or.inl (own_w hw 32 rfl)) Via.refl f_21 f_22 (Or.inr ⟨(own_w hw 33 rfl), rfl, rfl⟩) (own_w hw 5 rfl) (ty := (.array .byte)) (by decide) rfl rfl g1 d3_54 (pc' := 57) rfl ?_
  intro h_23 W_24
  have f_25 := f_21.same W_24
  refine g_return C (eN hN) rfl d3_57 (by decide) (by decide) ?_
  have f_26 := (f_20.other W_24 (Or.inr (slot_ne (Or.inr (own_w hw 31 rfl)) (Or.inr (own_w hw 33 rfl)) (by decide) (t := .byte) (t' := (.array .byte)) (by decide) (by decide))))
  have f_27 := ((f_8.keep (Keep.of_wr W_19) (nin1 (Ne.symm ne_9))).keep (Keep.of_wr W_24) (nin1 (Ne.symm ne_9)))
  exact ⟨rfl, ((((Keep.refl h0 [a1]).trans K_7 all0).wr W_19 (Or.inl (List.mem_of_getElem? (i := 0) rfl))).wr W_24 (Or.inl (List.mem_of_getElem? (i := 0) rfl))), b_5, gs_b_5, f_25, f_26, f_27⟩
set_option maxRecDepth 65536 in
set_option maxHeartbeats 40000000 in
theorem rm_init1_2 (l : Launch) (Z : State) (a0 : Array Value) (hw : ∀ d ∈ tables_1, d.before a0 Z = true) (n0 : Nat) (a1 a2 : Addr) (c0 c1 : Int32) (h0 : Heap) (Z0 : n0 ≤ h0.size) (cm : Cmp Z) (O : Old Z n0 h0) (E0 : Exa Z h0 a1 "java/lang/String") (F0 : Fld Z h0 a1 "java/lang/String" "value" "[B" .null) (F1 : Fld Z h0 a1 "java/lang/String" "coder" "B" (.int (0 : Int32))) (g1 : n0 ≤ a1) (A2 : Ary Z h0 a2 .char [.int c0, .int c1]) (n12 : a1 ≠ a2) (k0 : Ch c0) (k1 : Ch c1) :
    Met1 l Z (⟨"java/lang/String", "<init>", "([C)V"⟩ : MethodName) jdk_42_method_3_code 2 none ({ frames := 3, cells := 1, slots := 2, locals := 52 } : Room) n0 #[(.ref a1), (.ref a2)] h0 (fun v h => v = none ∧ Keep h0 h [a1] ∧ ∃ b : Addr, h0.size ≤ b ∧ Fld Z h a1 "java/lang/String" "value" "[B" (.ref b) ∧ Fld Z h a1 "java/lang/String" "coder" "B" (.int (0 : Int32)) ∧ Ary Z h b .byte [.int (Int8.toInt32 (Int32.toInt8 c0)), .int (Int8.toInt32 (Int32.toInt8 c1))]) := by
  refine met_of (plainFor_of_name own_pn_java_lang_String) (L0 := #[.val (.ref a1), .val (.ref a2)]) (by first | (simp [argsToLocals, Value.category]; done) | rfl) ?_
  intro B C hN
  change Ctx B l _ _ "java/lang/String" "<init>" _ _ Z at C
  have cm' := cm
  obtain ⟨cz, Scz, hcz⟩ := cm'
  refine g_aload_n C d2_0 (v := (.ref a1)) rfl rfl (pc' := 1) rfl ?_
  refine g_aload_n C d2_1 (v := (.ref a2)) rfl rfl (pc' := 2) rfl ?_
  refine g_iconst C d2_2 (v := (0 : Int32)) rfl (pc' := 3) rfl ?_
  refine g_aload_n C d2_3 (v := (.ref a2)) rfl rfl (pc' := 4) rfl ?_
  refine g_arraylength C A2 (z := (2 : Int32)) rfl d2_4 (pc' := 5) rfl ?_
  refine g_aconst_null C d2_5 (pc' := 6) rfl ?_
  refine g_special C (a := a1) rfl (own_w hw 11 rfl) (own_w hw 12 rfl) (own_w hw 6 rfl) (own_w hw 14 rfl) (by decide) (rm_init4_2 l Z a0 hw n0 a1 a2 c0 c1 h0 Z0 cm O E0 F0 F1 g1 A2 n12 k0 k1) (st := []) [(.ref a2), (.int (0 : Int32)), (.int (2 : Int32)), .null] rfl rfl own_pd_11_init rfl rfl (by decide) (W := 0) (Nat.le_of_eq rfl) (by decide) (by decide) (by decide) d2_6 (pc' := 9) rfl ?_
  intro v_3 h_1 q_2
  obtain ⟨rfl, K_5, b_6, le_7, f_8, f_9, f_10⟩ := q_2
  have ne_11 : a1 ≠ b_6 := ne_ge E0.lt le_7
  have ne_12 : a2 ≠ b_6 := ne_ge A2.lt le_7
  have ge_b_6 : n0 ≤ b_6 := Nat.le_trans Z0 le_7
  have gs_b_6 : h0.size ≤ b_6 := Nat.le_trans (Nat.le_refl h0.size) le_7
  show Go B n0 _ h_1 1 2 9 #[.val (.ref a1), .val (.ref a2)] []
  refine g_return C (eN hN) rfl d2_9 (by decide) (by decide) ?_
  exact ⟨rfl, ((Keep.refl h0 [a1]).trans K_5 (allS (Or.inl (List.mem_of_getElem? (i := 0) rfl)) all0)), b_6, gs_b_6, f_8, f_9, f_10⟩
theorem own_pd_9_init : parseMethodDescriptor "([C)V" = some ⟨[(.array .char)], none⟩ := by decide +kernel
theorem d1_0 : decode method_2_code 0 = .ok (.iload_n 0, 1) := by decide +kernel
theorem d1_1 : decode method_2_code 1 = .ok (.ifCond .ne 14, 3) := by decide +kernel
theorem d1_4 : decode method_2_code 4 = .ok (.new 7, 3) := by decide +kernel
theorem d1_7 : decode method_2_code 7 = .ok (.dup, 1) := by decide +kernel
theorem d1_8 : decode method_2_code 8 = .ok (.iconst 0, 1) := by decide +kernel
theorem d1_9 : decode method_2_code 9 = .ok (.newarray .char, 2) := by decide +kernel
theorem d1_11 : decode method_2_code 11 = .ok (.invokespecial 9, 3) := by decide +kernel
theorem d1_14 : decode method_2_code 14 = .ok (.areturn, 1) := by decide +kernel
theorem d1_15 : decode method_2_code 15 = .ok (.iload_n 0, 1) := by decide +kernel
theorem d1_16 : decode method_2_code 16 = .ok (.iconst 1, 1) := by decide +kernel
theorem d1_17 : decode method_2_code 17 = .ok (.if_icmp .ne 19, 3) := by decide +kernel
theorem d1_20 : decode method_2_code 20 = .ok (.new 7, 3) := by decide +kernel
theorem d1_23 : decode method_2_code 23 = .ok (.dup, 1) := by decide +kernel
theorem d1_24 : decode method_2_code 24 = .ok (.iconst 1, 1) := by decide +kernel
theorem d1_25 : decode method_2_code 25 = .ok (.newarray .char, 2) := by decide +kernel
theorem d1_27 : decode method_2_code 27 = .ok (.dup, 1) := by decide +kernel
theorem d1_28 : decode method_2_code 28 = .ok (.iconst 0, 1) := by decide +kernel
theorem d1_29 : decode method_2_code 29 = .ok (.iload_n 1, 1) := by decide +kernel
theorem d1_30 : decode method_2_code 30 = .ok (.i2c, 1) := by decide +kernel
theorem d1_31 : decode method_2_code 31 = .ok (.castore, 1) := by decide +kernel
theorem d1_32 : decode method_2_code 32 = .ok (.invokespecial 9, 3) := by decide +kernel
theorem d1_35 : decode method_2_code 35 = .ok (.areturn, 1) := by decide +kernel
theorem d1_36 : decode method_2_code 36 = .ok (.new 7, 3) := by decide +kernel
theorem d1_39 : decode method_2_code 39 = .ok (.dup, 1) := by decide +kernel
theorem d1_40 : decode method_2_code 40 = .ok (.iconst 2, 1) := by decide +kernel
theorem d1_41 : decode method_2_code 41 = .ok (.newarray .char, 2) := by decide +kernel
theorem d1_43 : decode method_2_code 43 = .ok (.dup, 1) := by decide +kernel
theorem d1_44 : decode method_2_code 44 = .ok (.iconst 0, 1) := by decide +kernel
theorem d1_45 : decode method_2_code 45 = .ok (.iload_n 1, 1) := by decide +kernel
theorem d1_46 : decode method_2_code 46 = .ok (.i2c, 1) := by decide +kernel
theorem d1_47 : decode method_2_code 47 = .ok (.castore, 1) := by decide +kernel
theorem d1_48 : decode method_2_code 48 = .ok (.dup, 1) := by decide +kernel
theorem d1_49 : decode method_2_code 49 = .ok (.iconst 1, 1) := by decide +kernel
theorem d1_50 : decode method_2_code 50 = .ok (.iload_n 2, 1) := by decide +kernel
theorem d1_51 : decode method_2_code 51 = .ok (.i2c, 1) := by decide +kernel
theorem d1_52 : decode method_2_code 52 = .ok (.castore, 1) := by decide +kernel
theorem d1_53 : decode method_2_code 53 = .ok (.invokespecial 9, 3) := by decide +kernel
theorem d1_56 : decode method_2_code 56 = .ok (.areturn, 1) := by decide +kernel
theorem own_pn_com_example_chiton_chiton_model_MethodNameEqualsPinLaw : plainName "com/example/chiton/chiton/model/MethodNameEqualsPinLaw" = true := by first | (simp [plainName, overriddenIn]; done) | decide +kernel
set_option maxRecDepth 65536 in
set_option maxHeartbeats 40000000 in
theorem rm_str (l : Launch) (Z : State) (a0 : Array Value) (hw : ∀ d ∈ tables_1, d.before a0 Z = true) (n0 : Nat) (nn c1 c2 : Int32) (h0 : Heap) (Z0 : n0 ≤ h0.size) (cm : Cmp Z) (O : Old Z n0 h0) (ch0 : Jvm.Lit.constHeld Z "java/lang/String" 7) (ch1 : Jvm.Lit.constHeld Z "com/example/chiton/chiton/model/MethodName" 7) (ch2 : Jvm.Lit.constHeld Z "com/example/chiton/chiton/model/MethodName" 23) (cw : Jvm.Lit.compactW.before a0 Z = true) (k1 : Ch c1) (k2 : Ch c2) :
    Met1V l Z (⟨"com/example/chiton/chiton/model/MethodNameEqualsPinLaw", "str", "(III)Ljava/lang/String;"⟩ : MethodName) method_2_code 3 (some (.object "java/lang/String")) ({ frames := 4, cells := 4, slots := 8, locals := 66 } : Room) n0 #[(.int nn), (.int c1), (.int c2)] h0 (fun vm => InvK own_K Z vm h0) (fun vm h => InvK own_K Z vm h) (fun v h => ∃ a b : Addr, v = some (.ref a) ∧ h0.size ≤ a ∧ Keep h0 h [] ∧ Exa Z h a "java/lang/String" ∧ Fld Z h a "java/lang/String" "value" "[B" (.ref b) ∧ Fld Z h a "java/lang/String" "coder" "B" (.int (0 : Int32)) ∧ Ary Z h b .byte (own_str nn c1 c2)) := by
  refine met_ofV (plainFor_of_name own_pn_com_example_chiton_chiton_model_MethodNameEqualsPinLaw) (L0 := #[.val (.int nn), .val (.int c1), .val (.int c2)]) (by first | (simp [argsToLocals, Value.category]; done) | rfl) ?_
  intro B C hW hP
  change Ctx B l _ _ "com/example/chiton/chiton/model/MethodNameEqualsPinLaw" "str" _ _ Z at C
  have cm' := cm
  obtain ⟨cz, Scz, hcz⟩ := cm'
  have I0 : InvK own_K Z B.s.vm h0 := hP
  refine g_iload_n C d1_0 (v := nn) rfl (pc' := 1) rfl ?_
  by_cases hb_1 : nn = (0 : Int32)
  · refine g_if_n C d1_1 (Jvm.Free.XT.i0_ne_f hb_1) (pc' := 4) rfl ?_
    refine g_new C (own_w hw 4 rfl) (own_w hw 5 rfl) (own_w hw 6 rfl) (by decide) (by decide) d1_4 (pc' := 7) rfl ?_
    intro h_2 a_3 g_4 E_5 A_6 D_7
    have ge_a_3 : n0 ≤ a_3 := Nat.le_trans Z0 (Nat.le_of_eq g_4.symm)
    have gs_a_3 : h0.size ≤ a_3 := Nat.le_trans (Nat.le_refl h0.size) (Nat.le_of_eq g_4.symm)
    have f_8 : Fld Z h_2 a_3 "java/lang/String" "coder" "B" (.int (0 : Int32)) := D_7 (Or.inr (own_w hw 31 rfl)) (ty := .byte) (by decide)
    have f_9 : Fld Z h_2 a_3 "java/lang/String" "value" "[B" .null := D_7 (Or.inr (own_w hw 33 rfl)) (ty := (.array .byte)) (by decide)
    show Go B n0 _ h_2 1 4 7 #[.val (.int nn), .val (.int c1), .val (.int c2)] [(.ref a_3)]
    refine g_dup C d1_7 rfl (pc' := 8) rfl ?_
    refine g_iconst C d1_8 (v := (0 : Int32)) rfl (pc' := 9) rfl ?_
    refine g_newarray C (own_w hw 7 rfl) (ty := .char) rfl (by decide) (cap := 0) (by decide) (by decide) (by decide) (by decide) d1_9 (pc' := 11) rfl ?_
    intro h_10 a_11 g_12 E_13 A_14
    have ne_15 : a_3 ≠ a_11 := ne_new A_6.lt g_12
    have f_16 := (Nat.le_trans Z0 E_5.1)
    have ge_a_11 : n0 ≤ a_11 := Nat.le_trans f_16 (Nat.le_of_eq g_12.symm)
    have f_17 := (Nat.le_trans (Nat.le_refl h0.size) E_5.1)
    have gs_a_11 : h0.size ≤ a_11 := Nat.le_trans f_17 (Nat.le_of_eq g_12.symm)
    have f_18 : Ary Z h_10 a_11 .char [] := A_14
    show Go B n0 _ h_10 2 4 11 #[.val (.int nn), .val (.int c1), .val (.int c2)] [(.ref a_11), (.ref a_3), (.ref a_3)]
    have f_19 := ((O.ext E_5).ext E_13)
    have f_20 := (A_6.ext E_13)
    have f_21 := (f_9.ext E_13)
    have f_22 := (f_8.ext E_13)
    have f_23 := (Nat.le_trans f_16 E_13.1)
    have f_24 := ((I0.ext E_5).ext E_13)
    refine g_specialV C hW (a := a_3) rfl (own_w hw 8 rfl) (own_w hw 9 rfl) (own_w hw 6 rfl) (own_w hw 10 rfl) (by decide) (rm_init1_0 l Z a0 hw n0 a_3 a_11 h_10 f_23 cm f_19 ch0 ch1 ch2 cw f_20 f_21 f_22 ge_a_3 f_18 ne_15) (fun vm' hw' => InvK.warm f_24 hw') (st := [(.ref a_3)]) [(.ref a_11)] rfl rfl own_pd_9_init rfl rfl (by decide) (W := 1) (Nat.le_of_eq rfl) (by decide) (by decide) (by decide) d1_11 (pc' := 14) rfl ?_
    intro B C hW v_27 h_25 q_26 I_28
    obtain ⟨rfl, K_29, b_30, nb_31, f_32, f_33, f_34⟩ := q_26
    show Go B n0 _ h_25 4 8 14 #[.val (.int nn), .val (.int c1), .val (.int c2)] [(.ref a_3)]
    refine g_ret C (eW hW fun vm' hw' => InvK.warm I_28 hw') (v := (.ref a_3)) (ty := (.object "java/lang/String")) rfl rfl (Or.inr (Or.inr (Or.inr (Or.inr ⟨rfl, rfl, rfl⟩)))) d1_14 (by decide) (by decide) ?_
    have f_35 := (f_20.keep K_29)
    exact ⟨a_3, b_30, rfl, gs_a_3, ((((Keep.refl h0 []).ext E_5).ext E_13).trans K_29 (allS (Or.inr gs_a_3) all0)), f_35, f_32, f_33, (by rw [own_str0 hb_1]; exact f_34)⟩
  · refine g_if_y C d1_1 (Jvm.Free.XT.i0_ne_t hb_1) (pc' := 15) (by decide) (by decide) ?_
    refine g_iload_n C d1_15 (v := nn) rfl (pc' := 16) rfl ?_
    refine g_iconst C d1_16 (v := (1 : Int32)) rfl (pc' := 17) rfl ?_
    by_cases hb_36 : nn = (1 : Int32)
    · refine g_icmp_n C d1_17 (Jvm.Free.XT.ii_ne_f hb_36) (pc' := 20) rfl ?_
      refine g_new C (own_w hw 4 rfl) (own_w hw 5 rfl) (own_w hw 6 rfl) (by decide) (by decide) d1_20 (pc' := 23) rfl ?_
      intro h_37 a_38 g_39 E_40 A_41 D_42
      have ge_a_38 : n0 ≤ a_38 := Nat.le_trans Z0 (Nat.le_of_eq g_39.symm)
      have gs_a_38 : h0.size ≤ a_38 := Nat.le_trans (Nat.le_refl h0.size) (Nat.le_of_eq g_39.symm)
      have f_43 : Fld Z h_37 a_38 "java/lang/String" "coder" "B" (.int (0 : Int32)) := D_42 (Or.inr (own_w hw 31 rfl)) (ty := .byte) (by decide)
      have f_44 : Fld Z h_37 a_38 "java/lang/String" "value" "[B" .null := D_42 (Or.inr (own_w hw 33 rfl)) (ty := (.array .byte)) (by decide)
      show Go B n0 _ h_37 1 4 23 #[.val (.int nn), .val (.int c1), .val (.int c2)] [(.ref a_38)]
      refine g_dup C d1_23 rfl (pc' := 24) rfl ?_
      refine g_iconst C d1_24 (v := (1 : Int32)) rfl (pc' := 25) rfl ?_
      refine g_newarray C (own_w hw 7 rfl) (ty := .char) rfl (by decide) (cap := 1) (by decide) (by decide) (by decide) (by decide) d1_25 (pc' := 27) rfl ?_
      intro h_45 a_46 g_47 E_48 A_49
      have ne_50 : a_38 ≠ a_46 := ne_new A_41.lt g_47
      have f_51 := (Nat.le_trans Z0 E_40.1)
      have ge_a_46 : n0 ≤ a_46 := Nat.le_trans f_51 (Nat.le_of_eq g_47.symm)
      have f_52 := (Nat.le_trans (Nat.le_refl h0.size) E_40.1)
      have gs_a_46 : h0.size ≤ a_46 := Nat.le_trans f_52 (Nat.le_of_eq g_47.symm)
      have f_53 : Ary Z h_45 a_46 .char [(.int (0 : Int32))] := A_49
      show Go B n0 _ h_45 2 5 27 #[.val (.int nn), .val (.int c1), .val (.int c2)] [(.ref a_46), (.ref a_38), (.ref a_38)]
      refine g_dup C d1_27 rfl (pc' := 28) rfl ?_
      refine g_iconst C d1_28 (v := (0 : Int32)) rfl (pc' := 29) rfl ?_
      refine g_iload_n C d1_29 (v := c1) rfl (pc' := 30) rfl ?_
      refine g_i2c C (x := c1) d1_30 (pc' := 31) rfl ?_
      rw [show (UInt32.toInt32 (UInt16.toUInt32 (UInt32.toUInt16 (Int32.toUInt32 c1)))) = c1 from k1.1]
      refine g_castore C f_53 (by decide) (i := 0) (by decide) (show 0 < 1 by decide) (w := (.int c1)) (congrArg Value.int k1.1) ge_a_46 d1_31 (pc' := 32) rfl ?_
      intro h_54 K_55 A_56
      have f_57 : Ary Z h_54 a_46 .char [(.int c1)] := A_56
      have f_58 := (((O.ext E_40).ext E_48).keep K_55 (allS ge_a_46 all0))
      have f_59 := ((A_41.ext E_48).keep K_55)
      have f_60 := ((f_44.ext E_48).keep K_55 (ninS ne_50 nin0))
      have f_61 := ((f_43.ext E_48).keep K_55 (ninS ne_50 nin0))
      have f_62 := (Nat.le_trans (Nat.le_trans f_51 E_48.1) K_55.1)
      have f_63 := (Nat.le_trans (Nat.le_trans f_52 E_48.1) K_55.1)
      refine g_special C (a := a_38) rfl (own_w hw 8 rfl) (own_w hw 9 rfl) (own_w hw 6 rfl) (own_w hw 10 rfl) (by decide) (rm_init1_1 l Z a0 hw n0 a_38 a_46 c1 h_54 f_62 cm f_58 f_59 f_60 f_61 ge_a_38 f_57 ne_50 k1) (st := [(.ref a_38)]) [(.ref a_46)] rfl rfl own_pd_9_init rfl rfl (by decide) (W := 1) (Nat.le_of_eq rfl) (by decide) (by decide) (by decide) d1_32 (pc' := 35) rfl ?_
      intro v_66 h_64 q_65
      obtain ⟨rfl, K_68, b_69, le_70, f_71, f_72, f_73⟩ := q_65
      have ne_74 : a_38 ≠ b_69 := ne_ge f_59.lt le_70
      have ne_75 : a_46 ≠ b_69 := ne_ge f_57.lt le_70
      have ge_b_69 : n0 ≤ b_69 := Nat.le_trans f_62 le_70
      have gs_b_69 : h0.size ≤ b_69 := Nat.le_trans f_63 le_70
      show Go B n0 _ h_64 3 6 35 #[.val (.int nn), .val (.int c1), .val (.int c2)] [(.ref a_38)]
      refine g_ret C (eW hW fun vm' hw' => InvK.warm (InvK.keep0 I0 (((((Keep.refl h0 []).ext E_40).ext E_48).trans K_55 (allS (Or.inr gs_a_46) all0)).trans K_68 (allS (Or.inr gs_a_38) all0))) hw') (v := (.ref a_38)) (ty := (.object "java/lang/String")) rfl rfl (Or.inr (Or.inr (Or.inr (Or.inr ⟨rfl, rfl, rfl⟩)))) d1_35 (by decide) (by decide) ?_
      have f_76 := (f_59.keep K_68)
      exact ⟨a_38, b_69, rfl, gs_a_38, (((((Keep.refl h0 []).ext E_40).ext E_48).trans K_55 (allS (Or.inr gs_a_46) all0)).trans K_68 (allS (Or.inr gs_a_38) all0)), f_76, f_71, f_72, (by rw [own_str1 hb_1 hb_36]; exact f_73)⟩
    · refine g_icmp_y C d1_17 (Jvm.Free.XT.ii_ne_t hb_36) (pc' := 36) (by decide) (by decide) ?_
      refine g_new C (own_w hw 4 rfl) (own_w hw 5 rfl) (own_w hw 6 rfl) (by decide) (by decide) d1_36 (pc' := 39) rfl ?_
      intro h_77 a_78 g_79 E_80 A_81 D_82
      have ge_a_78 : n0 ≤ a_78 := Nat.le_trans Z0 (Nat.le_of_eq g_79.symm)
      have gs_a_78 : h0.size ≤ a_78 := Nat.le_trans (Nat.le_refl h0.size) (Nat.le_of_eq g_79.symm)
      have f_83 : Fld Z h_77 a_78 "java/lang/String" "coder" "B" (.int (0 : Int32)) := D_82 (Or.inr (own_w hw 31 rfl)) (ty := .byte) (by decide)
      have f_84 : Fld Z h_77 a_78 "java/lang/String" "value" "[B" .null := D_82 (Or.inr (own_w hw 33 rfl)) (ty := (.array .byte)) (by decide)
      show Go B n0 _ h_77 1 4 39 #[.val (.int nn), .val (.int c1), .val (.int c2)] [(.ref a_78)]
      refine g_dup C d1_39 rfl (pc' := 40) rfl ?_
      refine g_iconst C d1_40 (v := (2 : Int32)) rfl (pc' := 41) rfl ?_
      refine g_newarray C (own_w hw 7 rfl) (ty := .char) rfl (by decide) (cap := 2) (by decide) (by decide) (by decide) (by decide) d1_41 (pc' := 43) rfl ?_
      intro h_85 a_86 g_87 E_88 A_89
      have ne_90 : a_78 ≠ a_86 := ne_new A_81.lt g_87
      have f_91 := (Nat.le_trans Z0 E_80.1)
      have ge_a_86 : n0 ≤ a_86 := Nat.le_trans f_91 (Nat.le_of_eq g_87.symm)
      have f_92 := (Nat.le_trans (Nat.le_refl h0.size) E_80.1)
      have gs_a_86 : h0.size ≤ a_86 := Nat.le_trans f_92 (Nat.le_of_eq g_87.symm)
      have f_93 : Ary Z h_85 a_86 .char [(.int (0 : Int32)), (.int (0 : Int32))] := A_89
      show Go B n0 _ h_85 2 6 43 #[.val (.int nn), .val (.int c1), .val (.int c2)] [(.ref a_86), (.ref a_78), (.ref a_78)]
      refine g_dup C d1_43 rfl (pc' := 44) rfl ?_
      refine g_iconst C d1_44 (v := (0 : Int32)) rfl (pc' := 45) rfl ?_
      refine g_iload_n C d1_45 (v := c1) rfl (pc' := 46) rfl ?_
      refine g_i2c C (x := c1) d1_46 (pc' := 47) rfl ?_
      rw [show (UInt32.toInt32 (UInt16.toUInt32 (UInt32.toUInt16 (Int32.toUInt32 c1)))) = c1 from k1.1]
      refine g_castore C f_93 (by decide) (i := 0) (by decide) (show 0 < 2 by decide) (w := (.int c1)) (congrArg Value.int k1.1) ge_a_86 d1_47 (pc' := 48) rfl ?_
      intro h_94 K_95 A_96
      have f_97 : Ary Z h_94 a_86 .char [(.int c1), (.int (0 : Int32))] := A_96
      refine g_dup C d1_48 rfl (pc' := 49) rfl ?_
      refine g_iconst C d1_49 (v := (1 : Int32)) rfl (pc' := 50) rfl ?_
      refine g_iload_n C d1_50 (v := c2) rfl (pc' := 51) rfl ?_
      refine g_i2c C (x := c2) d1_51 (pc' := 52) rfl ?_
      rw [show (UInt32.toInt32 (UInt16.toUInt32 (UInt32.toUInt16 (Int32.toUInt32 c2)))) = c2 from k2.1]
      refine g_castore C f_97 (by decide) (i := 1) (by decide) (show 1 < 2 by decide) (w := (.int c2)) (congrArg Value.int k2.1) ge_a_86 d1_52 (pc' := 53) rfl ?_
      intro h_98 K_99 A_100
      have f_101 : Ary Z h_98 a_86 .char [(.int c1), (.int c2)] := A_100
      have f_102 := ((((O.ext E_80).ext E_88).keep K_95 (allS ge_a_86 all0)).keep K_99 (allS ge_a_86 all0))
      have f_103 := (((A_81.ext E_88).keep K_95).keep K_99)
      have f_104 := (((f_84.ext E_88).keep K_95 (ninS ne_90 nin0)).keep K_99 (ninS ne_90 nin0))
      have f_105 := (((f_83.ext E_88).keep K_95 (ninS ne_90 nin0)).keep K_99 (ninS ne_90 nin0))
      have f_106 := (Nat.le_trans (Nat.le_trans (Nat.le_trans f_91 E_88.1) K_95.1) K_99.1)
      have f_107 := (Nat.le_trans (Nat.le_trans (Nat.le_trans f_92 E_88.1) K_95.1) K_99.1)
      refine g_special C (a := a_78) rfl (own_w hw 8 rfl) (own_w hw 9 rfl) (own_w hw 6 rfl) (own_w hw 10 rfl) (by decide) (rm_init1_2 l Z a0 hw n0 a_78 a_86 c1 c2 h_98 f_106 cm f_102 f_103 f_104 f_105 ge_a_78 f_101 ne_90 k1 k2) (st := [(.ref a_78)]) [(.ref a_86)] rfl rfl own_pd_9_init rfl rfl (by decide) (W := 1) (Nat.le_of_eq rfl) (by decide) (by decide) (by decide) d1_53 (pc' := 56) rfl ?_
      intro v_110 h_108 q_109
      obtain ⟨rfl, K_112, b_113, le_114, f_115, f_116, f_117⟩ := q_109
      have ne_118 : a_78 ≠ b_113 := ne_ge f_103.lt le_114
      have ne_119 : a_86 ≠ b_113 := ne_ge f_101.lt le_114
      have ge_b_113 : n0 ≤ b_113 := Nat.le_trans f_106 le_114
      have gs_b_113 : h0.size ≤ b_113 := Nat.le_trans f_107 le_114
      show Go B n0 _ h_108 3 8 56 #[.val (.int nn), .val (.int c1), .val (.int c2)] [(.ref a_78)]
      refine g_ret C (eW hW fun vm' hw' => InvK.warm (InvK.keep0 I0 ((((((Keep.refl h0 []).ext E_80).ext E_88).trans K_95 (allS (Or.inr gs_a_86) all0)).trans K_99 (allS (Or.inr gs_a_86) all0)).trans K_112 (allS (Or.inr gs_a_78) all0))) hw') (v := (.ref a_78)) (ty := (.object "java/lang/String")) rfl rfl (Or.inr (Or.inr (Or.inr (Or.inr ⟨rfl, rfl, rfl⟩)))) d1_56 (by decide) (by decide) ?_
      have f_120 := (f_103.keep K_112)
      exact ⟨a_78, b_113, rfl, gs_a_78, ((((((Keep.refl h0 []).ext E_80).ext E_88).trans K_95 (allS (Or.inr gs_a_86) all0)).trans K_99 (allS (Or.inr gs_a_86) all0)).trans K_112 (allS (Or.inr gs_a_78) all0)), f_120, f_115, f_116, (by rw [own_str2 hb_1 hb_36]; exact f_117)⟩
theorem d9_0 : decode jdk_31_method_11_code 0 = .ok (.aload_n 0, 1) := by decide +kernel
theorem d9_1 : decode jdk_31_method_11_code 1 = .ok (.ifnonnull 12, 3) := by decide +kernel
theorem d9_13 : decode jdk_31_method_11_code 13 = .ok (.aload_n 0, 1) := by decide +kernel
theorem d9_14 : decode jdk_31_method_11_code 14 = .ok (.areturn, 1) := by decide +kernel
theorem own_pn_java_util_Objects : plainName "java/util/Objects" = true := by first | (simp [plainName, overriddenIn]; done) | decide +kernel
set_option maxRecDepth 65536 in
set_option maxHeartbeats 40000000 in
theorem rm_rnn (l : Launch) (Z : State) (a0 : Array Value) (hw : ∀ d ∈ tables_1, d.before a0 Z = true) (n0 : Nat) (a1 a2 : Addr) (h0 : Heap) (Z0 : n0 ≤ h0.size)  :
    Met1 l Z (⟨"java/util/Objects", "requireNonNull", "(Ljava/lang/Object;Ljava/lang/String;)Ljava/lang/Object;"⟩ : MethodName) jdk_31_method_11_code 2 (some (.object "java/lang/Object")) ({ frames := 0, cells := 0, slots := 0, locals := 0 } : Room) n0 #[(.ref a1), (.ref a2)] h0 (fun v h => v = some (.ref a1) ∧ h0 = h) := by
  refine met_of (plainFor_of_name own_pn_java_util_Objects) (L0 := #[.val (.ref a1), .val (.ref a2)]) (by first | (simp [argsToLocals, Value.category]; done) | rfl) ?_
  intro B C hN
  change Ctx B l _ _ "java/util/Objects" "requireNonNull" _ _ Z at C
  refine g_aload_n C d9_0 (v := (.ref a1)) rfl rfl (pc' := 1) rfl ?_
  refine g_ifnonnull_y C d9_1 (pc' := 13) (by decide) (by decide) ?_
  refine g_aload_n C d9_13 (v := (.ref a1)) rfl rfl (pc' := 14) rfl ?_
  refine g_ret C (eN hN) (v := (.ref a1)) (ty := (.object "java/lang/Object")) rfl rfl (Or.inr (Or.inr (Or.inr (Or.inr ⟨rfl, rfl, rfl⟩)))) d9_14 (by decide) (by decide) ?_
  exact ⟨rfl, rfl⟩
theorem own_pd_5_requireNonNull : parseMethodDescriptor "(Ljava/lang/Object;Ljava/lang/String;)Ljava/lang/Object;" = some ⟨[(.object "java/lang/Object"), (.object "java/lang/String")], (some (.object "java/lang/Object"))⟩ := by decide +kernel
theorem d8_0 : decode prog_19_method_1_code 0 = .ok (.aload_n 0, 1) := by decide +kernel
theorem d8_1 : decode prog_19_method_1_code 1 = .ok (.invokespecial 1, 3) := by decide +kernel
theorem d8_4 : decode prog_19_method_1_code 4 = .ok (.aload_n 0, 1) := by decide +kernel
theorem d8_5 : decode prog_19_method_1_code 5 = .ok (.aload_n 1, 1) := by decide +kernel
theorem d8_6 : decode prog_19_method_1_code 6 = .ok (.ldc 7, 2) := by decide +kernel
theorem d8_8 : decode prog_19_method_1_code 8 = .ok (.invokestatic 9, 3) := by decide +kernel
theorem d8_11 : decode prog_19_method_1_code 11 = .ok (.checkcast 15, 3) := by decide +kernel
theorem d8_14 : decode prog_19_method_1_code 14 = .ok (.putfield 17, 3) := by decide +kernel
theorem d8_17 : decode prog_19_method_1_code 17 = .ok (.aload_n 0, 1) := by decide +kernel
theorem d8_18 : decode prog_19_method_1_code 18 = .ok (.aload_n 2, 1) := by decide +kernel
theorem d8_19 : decode prog_19_method_1_code 19 = .ok (.ldc 23, 2) := by decide +kernel
theorem d8_21 : decode prog_19_method_1_code 21 = .ok (.invokestatic 9, 3) := by decide +kernel
theorem d8_24 : decode prog_19_method_1_code 24 = .ok (.checkcast 15, 3) := by decide +kernel
theorem d8_27 : decode prog_19_method_1_code 27 = .ok (.putfield 25, 3) := by decide +kernel
theorem d8_30 : decode prog_19_method_1_code 30 = .ok (.return_, 1) := by decide +kernel
theorem own_pn_com_example_chiton_chiton_model_MethodName : plainName "com/example/chiton/chiton/model/MethodName" = true := by first | (simp [plainName, overriddenIn]; done) | decide +kernel
set_option maxRecDepth 65536 in
set_option maxHeartbeats 40000000 in
theorem rm_mninit (l : Launch) (Z : State) (a0 : Array Value) (hw : ∀ d ∈ tables_1, d.before a0 Z = true) (n0 : Nat) (a1 s1 s2 : Addr) (h0 : Heap) (Z0 : n0 ≤ h0.size) (cm : Cmp Z) (O : Old Z n0 h0) (ch0 : Jvm.Lit.constHeld Z "java/lang/String" 7) (ch1 : Jvm.Lit.constHeld Z "com/example/chiton/chiton/model/MethodName" 7) (ch2 : Jvm.Lit.constHeld Z "com/example/chiton/chiton/model/MethodName" 23) (cw : Jvm.Lit.compactW.before a0 Z = true) (E0 : Exa Z h0 a1 "com/example/chiton/chiton/model/MethodName") (F0 : Fld Z h0 a1 "com/example/chiton/chiton/model/MethodName" "className" "Ljava/lang/String;" .null) (F1 : Fld Z h0 a1 "com/example/chiton/chiton/model/MethodName" "methodName" "Ljava/lang/String;" .null) (g1 : n0 ≤ a1) (Es1 : Exa Z h0 s1 "java/lang/String") (Es2 : Exa Z h0 s2 "java/lang/String") :
    Met1V l Z (⟨"com/example/chiton/chiton/model/MethodName", "<init>", "(Ljava/lang/String;Ljava/lang/String;)V"⟩ : MethodName) prog_19_method_1_code 3 none ({ frames := 1, cells := 4, slots := 148, locals := 14 } : Room) n0 #[(.ref a1), (.ref s1), (.ref s2)] h0 (fun vm => InvK own_K Z vm h0) (fun vm h => InvK own_K Z vm h) (fun v h => v = none ∧ Keep h0 h [a1] ∧ Fld Z h a1 "com/example/chiton/chiton/model/MethodName" "className" "Ljava/lang/String;" (.ref s1) ∧ Fld Z h a1 "com/example/chiton/chiton/model/MethodName" "methodName" "Ljava/lang/String;" (.ref s2)) := by
  refine met_ofV (plainFor_of_name own_pn_com_example_chiton_chiton_model_MethodName) (L0 := #[.val (.ref a1), .val (.ref s1), .val (.ref s2)]) (by first | (simp [argsToLocals, Value.category]; done) | rfl) ?_
  intro B C hW hP
  change Ctx B l _ _ "com/example/chiton/chiton/model/MethodName" "<init>" _ _ Z at C
  have cm' := cm
  obtain ⟨cz, Scz, hcz⟩ := cm'
  have I0 : InvK own_K Z B.s.vm h0 := hP
  refine g_aload_n C d8_0 (v := (.ref a1)) rfl rfl (pc' := 1) rfl ?_
  refine g_initObj C (own_w hw 43 rfl) (own_w hw 16 rfl) (own_w hw 17 rfl) rfl (by decide) (W := 0) (Nat.le_of_eq rfl) (by decide) d8_1 (pc' := 4) rfl ?_
  refine g_aload_n C d8_4 (v := (.ref a1)) rfl rfl (pc' := 5) rfl ?_
  refine g_aload_n C d8_5 (v := (.ref s1)) rfl rfl (pc' := 6) rfl ?_
  refine g_ldcK C hW (K := own_K) (List.mem_of_getElem? (i := 1) rfl) (by decide +kernel) (own_w hw 44 rfl) (own_satoms hw) O I0 ch1 cw (z := (17 : Int32)) (by decide +kernel) (by decide) (by decide +kernel) (nn := 68) (by decide +kernel) (by decide) (by decide) (by decide) d8_6 (pc' := 8) rfl ?_
  intro B C hW h_1 a_2 E_3 I_4 Lt_5 Es_6
  show Go B n0 _ h_1 2 72 8 #[.val (.ref a1), .val (.ref s1), .val (.ref s2)] [(.ref a_2), (.ref s1), (.ref a1)]
  have f_7 := (Nat.le_trans Z0 E_3.1)
  refine g_static C (own_w hw 45 rfl) (own_w hw 46 rfl) (own_w hw 47 rfl) (own_w hw 48 rfl) (by decide) (rm_rnn l Z a0 hw n0 s1 a_2 h_1 f_7 ) (st := [(.ref a1)]) [(.ref s1), (.ref a_2)] rfl rfl own_pd_5_requireNonNull rfl rfl (by decide) (W := 1) (Nat.le_of_eq rfl) (by decide) (by decide) (by decide) d8_8 (pc' := 11) rfl ?_
  intro v_10 h_8 q_9
  obtain ⟨rfl, rfl⟩ := q_9
  show Go B n0 _ h_1 2 72 11 #[.val (.ref a1), .val (.ref s1), .val (.ref s2)] [(.ref s1), (.ref a1)]
  have f_12 := (Es1.ext E_3)
  refine g_checkcast C (own_w hw 49 rfl) (Ins.self f_12) d8_11 (pc' := 14) rfl ?_
  have f_13 := (E0.ext E_3)
  have f_14 := (F0.ext E_3)
  refine g_putfield C (host := "") (v := (.ref s1)) (Or.inl (own_w hw 50 rfl)) Via.refl f_14 f_13 (Or.inr ⟨(own_w hw 51 rfl), rfl, rfl⟩) (own_w hw 35 rfl) (ty := (.object "java/lang/String")) (by decide) rfl rfl g1 d8_14 (pc' := 17) rfl ?_
  intro h_15 W_16
  have f_17 := f_14.same W_16
  refine g_aload_n C d8_17 (v := (.ref a1)) rfl rfl (pc' := 18) rfl ?_
  refine g_aload_n C d8_18 (v := (.ref s2)) rfl rfl (pc' := 19) rfl ?_
  have f_18 := (InvK.keepO I_4 (Keep.of_wr W_16) f_13 (by decide) (own_w hw 35 rfl))
  have f_19 := ((O.ext E_3).wr W_16 g1)
  refine g_ldcK C hW (K := own_K) (List.mem_of_getElem? (i := 2) rfl) (by decide +kernel) (own_w hw 52 rfl) (own_satoms hw) f_19 f_18 ch2 cw (z := (18 : Int32)) (by decide +kernel) (by decide) (by decide +kernel) (nn := 72) (by decide +kernel) (by decide) (by decide) (by decide) d8_19 (pc' := 21) rfl ?_
  intro B C hW h_20 a_21 E_22 I_23 Lt_24 Es_25
  show Go B n0 _ h_20 4 148 21 #[.val (.ref a1), .val (.ref s1), .val (.ref s2)] [(.ref a_21), (.ref s2), (.ref a1)]
  have f_26 := (Nat.le_trans (Nat.le_trans f_7 (Keep.of_wr W_16).1) E_22.1)
  refine g_static C (own_w hw 45 rfl) (own_w hw 46 rfl) (own_w hw 47 rfl) (own_w hw 48 rfl) (by decide) (rm_rnn l Z a0 hw n0 s2 a_21 h_20 f_26 ) (st := [(.ref a1)]) [(.ref s2), (.ref a_21)] rfl rfl own_pd_5_requireNonNull rfl rfl (by decide) (W := 1) (Nat.le_of_eq rfl) (by decide) (by decide) (by decide) d8_21 (pc' := 24) rfl ?_
  intro v_29 h_27 q_28
  obtain ⟨rfl, rfl⟩ := q_28
  show Go B n0 _ h_20 4 148 24 #[.val (.ref a1), .val (.ref s1), .val (.ref s2)] [(.ref s2), (.ref a1)]
  have f_31 := (((Es2.ext E_3).wr W_16).ext E_22)
  refine g_checkcast C (own_w hw 49 rfl) (Ins.self f_31) d8_24 (pc' := 27) rfl ?_
  have f_32 := ((f_13.wr W_16).ext E_22)
  have f_33 := (((F1.ext E_3).other W_16 (Or.inr (slot_ne (Or.inr (own_w hw 54 rfl)) (Or.inr (own_w hw 51 rfl)) (by decide) (t := (.object "java/lang/String")) (t' := (.object "java/lang/String")) (by decide) (by decide)))).ext E_22)
  refine g_putfield C (host := "") (v := (.ref s2)) (Or.inl (own_w hw 53 rfl)) Via.refl f_33 f_32 (Or.inr ⟨(own_w hw 54 rfl), rfl, rfl⟩) (own_w hw 35 rfl) (ty := (.object "java/lang/String")) (by decide) rfl rfl g1 d8_27 (pc' := 30) rfl ?_
  intro h_34 W_35
  have f_36 := f_33.same W_35
  have f_37 := (InvK.keepO I_23 (Keep.of_wr W_35) f_32 (by decide) (own_w hw 35 rfl))
  refine g_return C (eW hW fun vm' hw' => InvK.warm f_37 hw') rfl d8_30 (by decide) (by decide) ?_
  have f_38 := ((f_17.ext E_22).other W_35 (Or.inr (slot_ne (Or.inr (own_w hw 51 rfl)) (Or.inr (own_w hw 54 rfl)) (by decide) (t := (.object "java/lang/String")) (t' := (.object "java/lang/String")) (by decide) (by decide))))
  exact ⟨rfl, (((((Keep.refl h0 [a1]).ext E_3).wr W_16 (Or.inl (List.mem_of_getElem? (i := 0) rfl))).ext E_22).wr W_35 (Or.inl (List.mem_of_getElem? (i := 0) rfl))), f_38, f_36⟩
theorem d13_0 : decode jdk_43_method_13_code 0 = .ok (.aload_n 0, 1) := by decide +kernel
theorem d13_1 : decode jdk_43_method_13_code 1 = .ok (.arraylength, 1) := by decide +kernel
theorem d13_2 : decode jdk_43_method_13_code 2 = .ok (.aload_n 1, 1) := by decide +kernel
theorem d13_3 : decode jdk_43_method_13_code 3 = .ok (.arraylength, 1) := by decide +kernel
theorem d13_4 : decode jdk_43_method_13_code 4 = .ok (.if_icmp .ne 30, 3) := by decide +kernel
theorem d13_7 : decode jdk_43_method_13_code 7 = .ok (.iconst 0, 1) := by decide +kernel
theorem d13_8 : decode jdk_43_method_13_code 8 = .ok (.istore_n 2, 1) := by decide +kernel
theorem d13_9 : decode jdk_43_method_13_code 9 = .ok (.iload_n 2, 1) := by decide +kernel
theorem d13_10 : decode jdk_43_method_13_code 10 = .ok (.aload_n 0, 1) := by decide +kernel
theorem d13_11 : decode jdk_43_method_13_code 11 = .ok (.arraylength, 1) := by decide +kernel
theorem d13_12 : decode jdk_43_method_13_code 12 = .ok (.if_icmp .ge 20, 3) := by decide +kernel
theorem d13_32 : decode jdk_43_method_13_code 32 = .ok (.iconst 1, 1) := by decide +kernel
theorem d13_33 : decode jdk_43_method_13_code 33 = .ok (.ireturn, 1) := by decide +kernel
theorem own_pn_java_lang_StringLatin1 : plainName "java/lang/StringLatin1" = true := by first | (simp [plainName, overriddenIn]; done) | decide +kernel
set_option maxRecDepth 65536 in
set_option maxHeartbeats 40000000 in
theorem rm_leq_0_0 (l : Launch) (Z : State) (a0 : Array Value) (hw : ∀ d ∈ tables_1, d.before a0 Z = true) (n0 : Nat) (a1 a2 : Addr) (h0 : Heap) (Z0 : n0 ≤ h0.size) (A1 : Ary Z h0 a1 .byte []) (A2 : Ary Z h0 a2 .byte []) :
    Met1 l Z (⟨"java/lang/StringLatin1", "equals", "([B[B)Z"⟩ : MethodName) jdk_43_method_13_code 3 (some .boolean) ({ frames := 0, cells := 0, slots := 0, locals := 0 } : Room) n0 #[(.ref a1), (.ref a2)] h0 (fun v h => ∃ r : Int32, v = some (.int r) ∧ ((([] : List Value) = []) ∧ r = (1 : Int32) ∨ ¬ (([] : List Value) = []) ∧ r = (0 : Int32)) ∧ h0 = h) := by
  refine met_of (plainFor_of_name own_pn_java_lang_StringLatin1) (L0 := #[.val (.ref a1), .val (.ref a2), .unset]) (by first | (simp [argsToLocals, Value.category]; done) | rfl) ?_
  intro B C hN
  change Ctx B l _ _ "java/lang/StringLatin1" "equals" _ _ Z at C
  refine g_aload_n C d13_0 (v := (.ref a1)) rfl rfl (pc' := 1) rfl ?_
  refine g_arraylength C A1 (z := (0 : Int32)) rfl d13_1 (pc' := 2) rfl ?_
  refine g_aload_n C d13_2 (v := (.ref a2)) rfl rfl (pc' := 3) rfl ?_
  refine g_arraylength C A2 (z := (0 : Int32)) rfl d13_3 (pc' := 4) rfl ?_
  refine g_icmp_n C d13_4 (Jvm.Free.XT.ii_ne_f (by decide)) (pc' := 7) rfl ?_
  refine g_iconst C d13_7 (v := (0 : Int32)) rfl (pc' := 8) rfl ?_
  refine g_istore_n C d13_8 (v := (0 : Int32)) (L' := #[.val (.ref a1), .val (.ref a2), .val (.int (0 : Int32))]) rfl (pc' := 9) rfl ?_
  refine g_iload_n C d13_9 (v := (0 : Int32)) rfl (pc' := 10) rfl ?_
  refine g_aload_n C d13_10 (v := (.ref a1)) rfl rfl (pc' := 11) rfl ?_
  refine g_arraylength C A1 (z := (0 : Int32)) rfl d13_11 (pc' := 12) rfl ?_
  refine g_icmp_y C d13_12 (Jvm.Free.XT.ii_ge_t (by decide)) (pc' := 32) (by decide) (by decide) ?_
  refine g_iconst C d13_32 (v := (1 : Int32)) rfl (pc' := 33) rfl ?_
  refine g_ret C (eN hN) (v := (.int (1 : Int32))) (ty := .boolean) rfl rfl (Or.inl ⟨rfl, Or.inr (Or.inl rfl), _, rfl⟩) d13_33 (by decide) (by decide) ?_
  exact ⟨_, rfl, Or.inl ⟨(by rfl), rfl⟩, rfl⟩
theorem d13_34 : decode jdk_43_method_13_code 34 = .ok (.iconst 0, 1) := by decide +kernel
theorem d13_35 : decode jdk_43_method_13_code 35 = .ok (.ireturn, 1) := by decide +kernel
set_option maxRecDepth 65536 in
set_option maxHeartbeats 40000000 in
theorem rm_leq_0_1 (l : Launch) (Z : State) (a0 : Array Value) (hw : ∀ d ∈ tables_1, d.before a0 Z = true) (n0 : Nat) (a1 a2 : Addr) (y0 : Int32) (h0 : Heap) (Z0 : n0 ≤ h0.size) (A1 : Ary Z h0 a1 .byte []) (A2 : Ary Z h0 a2 .byte [.int y0]) :
    Met1 l Z (⟨"java/lang/StringLatin1", "equals", "([B[B)Z"⟩ : MethodName) jdk_43_method_13_code 3 (some .boolean) ({ frames := 0, cells := 0, slots := 0, locals := 0 } : Room) n0 #[(.ref a1), (.ref a2)] h0 (fun v h => ∃ r : Int32, v = some (.int r) ∧ ((([] : List Value) = [.int y0]) ∧ r = (1 : Int32) ∨ ¬ (([] : List Value) = [.int y0]) ∧ r = (0 : Int32)) ∧ h0 = h) := by
  refine met_of (plainFor_of_name own_pn_java_lang_StringLatin1) (L0 := #[.val (.ref a1), .val (.ref a2), .unset]) (by first | (simp [argsToLocals, Value.category]; done) | rfl) ?_
  intro B C hN
  change Ctx B l _ _ "java/lang/StringLatin1" "equals" _ _ Z at C
  refine g_aload_n C d13_0 (v := (.ref a1)) rfl rfl (pc' := 1) rfl ?_
  refine g_arraylength C A1 (z := (0 : Int32)) rfl d13_1 (pc' := 2) rfl ?_
  refine g_aload_n C d13_2 (v := (.ref a2)) rfl rfl (pc' := 3) rfl ?_
  refine g_arraylength C A2 (z := (1 : Int32)) rfl d13_3 (pc' := 4) rfl ?_
  refine g_icmp_y C d13_4 (Jvm.Free.XT.ii_ne_t (by decide)) (pc' := 34) (by decide) (by decide) ?_
  refine g_iconst C d13_34 (v := (0 : Int32)) rfl (pc' := 35) rfl ?_
  refine g_ret C (eN hN) (v := (.int (0 : Int32))) (ty := .boolean) rfl rfl (Or.inl ⟨rfl, Or.inr (Or.inl rfl), _, rfl⟩) d13_35 (by decide) (by decide) ?_
  exact ⟨_, rfl, Or.inr ⟨(fun e => absurd (congrArg List.length e) (by simp)), rfl⟩, rfl⟩
set_option maxRecDepth 65536 in
set_option maxHeartbeats 40000000 in
theorem rm_leq_0_2 (l : Launch) (Z : State) (a0 : Array Value) (hw : ∀ d ∈ tables_1, d.before a0 Z = true) (n0 : Nat) (a1 a2 : Addr) (y0 y1 : Int32) (h0 : Heap) (Z0 : n0 ≤ h0.size) (A1 : Ary Z h0 a1 .byte []) (A2 : Ary Z h0 a2 .byte [.int y0, .int y1]) :
    Met1 l Z (⟨"java/lang/StringLatin1", "equals", "([B[B)Z"⟩ : MethodName) jdk_43_method_13_code 3 (some .boolean) ({ frames := 0, cells := 0, slots := 0, locals := 0 } : Room) n0 #[(.ref a1), (.ref a2)] h0 (fun v h => ∃ r : Int32, v = some (.int r) ∧ ((([] : List Value) = [.int y0, .int y1]) ∧ r = (1 : Int32) ∨ ¬ (([] : List Value) = [.int y0, .int y1]) ∧ r = (0 : Int32)) ∧ h0 = h) := by
  refine met_of (plainFor_of_name own_pn_java_lang_StringLatin1) (L0 := #[.val (.ref a1), .val (.ref a2), .unset]) (by first | (simp [argsToLocals, Value.category]; done) | rfl) ?_
  intro B C hN
  change Ctx B l _ _ "java/lang/StringLatin1" "equals" _ _ Z at C
  refine g_aload_n C d13_0 (v := (.ref a1)) rfl rfl (pc' := 1) rfl ?_
  refine g_arraylength C A1 (z := (0 : Int32)) rfl d13_1 (pc' := 2) rfl ?_
  refine g_aload_n C d13_2 (v := (.ref a2)) rfl rfl (pc' := 3) rfl ?_
  refine g_arraylength C A2 (z := (2 : Int32)) rfl d13_3 (pc' := 4) rfl ?_
  refine g_icmp_y C d13_4 (Jvm.Free.XT.ii_ne_t (by decide)) (pc' := 34) (by decide) (by decide) ?_
  refine g_iconst C d13_34 (v := (0 : Int32)) rfl (pc' := 35) rfl ?_
  refine g_ret C (eN hN) (v := (.int (0 : Int32))) (ty := .boolean) rfl rfl (Or.inl ⟨rfl, Or.inr (Or.inl rfl), _, rfl⟩) d13_35 (by decide) (by decide) ?_
  exact ⟨_, rfl, Or.inr ⟨(fun e => absurd (congrArg List.length e) (by simp)), rfl⟩, rfl⟩
set_option maxRecDepth 65536 in
set_option maxHeartbeats 40000000 in
theorem rm_leq_1_0 (l : Launch) (Z : State) (a0 : Array Value) (hw : ∀ d ∈ tables_1, d.before a0 Z = true) (n0 : Nat) (a1 a2 : Addr) (x0 : Int32) (h0 : Heap) (Z0 : n0 ≤ h0.size) (A1 : Ary Z h0 a1 .byte [.int x0]) (A2 : Ary Z h0 a2 .byte []) :
    Met1 l Z (⟨"java/lang/StringLatin1", "equals", "([B[B)Z"⟩ : MethodName) jdk_43_method_13_code 3 (some .boolean) ({ frames := 0, cells := 0, slots := 0, locals := 0 } : Room) n0 #[(.ref a1), (.ref a2)] h0 (fun v h => ∃ r : Int32, v = some (.int r) ∧ ((([.int x0] : List Value) = []) ∧ r = (1 : Int32) ∨ ¬ (([.int x0] : List Value) = []) ∧ r = (0 : Int32)) ∧ h0 = h) := by
  refine met_of (plainFor_of_name own_pn_java_lang_StringLatin1) (L0 := #[.val (.ref a1), .val (.ref a2), .unset]) (by first | (simp [argsToLocals, Value.category]; done) | rfl) ?_
  intro B C hN
  change Ctx B l _ _ "java/lang/StringLatin1" "equals" _ _ Z at C
  refine g_aload_n C d13_0 (v := (.ref a1)) rfl rfl (pc' := 1) rfl ?_
  refine g_arraylength C A1 (z := (1 : Int32)) rfl d13_1 (pc' := 2) rfl ?_
  refine g_aload_n C d13_2 (v := (.ref a2)) rfl rfl (pc' := 3) rfl ?_
  refine g_arraylength C A2 (z := (0 : Int32)) rfl d13_3 (pc' := 4) rfl ?_
  refine g_icmp_y C d13_4 (Jvm.Free.XT.ii_ne_t (by decide)) (pc' := 34) (by decide) (by decide) ?_
  refine g_iconst C d13_34 (v := (0 : Int32)) rfl (pc' := 35) rfl ?_
  refine g_ret C (eN hN) (v := (.int (0 : Int32))) (ty := .boolean) rfl rfl (Or.inl ⟨rfl, Or.inr (Or.inl rfl), _, rfl⟩) d13_35 (by decide) (by decide) ?_
  exact ⟨_, rfl, Or.inr ⟨(fun e => absurd (congrArg List.length e) (by simp)), rfl⟩, rfl⟩
theorem d13_15 : decode jdk_43_method_13_code 15 = .ok (.aload_n 0, 1) := by decide +kernel
theorem d13_16 : decode jdk_43_method_13_code 16 = .ok (.iload_n 2, 1) := by decide +kernel
theorem d13_17 : decode jdk_43_method_13_code 17 = .ok (.baload, 1) := by decide +kernel
theorem d13_18 : decode jdk_43_method_13_code 18 = .ok (.aload_n 1, 1) := by decide +kernel
theorem d13_19 : decode jdk_43_method_13_code 19 = .ok (.iload_n 2, 1) := by decide +kernel
theorem d13_20 : decode jdk_43_method_13_code 20 = .ok (.baload, 1) := by decide +kernel
theorem d13_21 : decode jdk_43_method_13_code 21 = .ok (.if_icmp .eq 5, 3) := by decide +kernel
theorem d13_24 : decode jdk_43_method_13_code 24 = .ok (.iconst 0, 1) := by decide +kernel
theorem d13_25 : decode jdk_43_method_13_code 25 = .ok (.ireturn, 1) := by decide +kernel
theorem d13_26 : decode jdk_43_method_13_code 26 = .ok (.iinc 2 1, 3) := by decide +kernel
theorem d13_29 : decode jdk_43_method_13_code 29 = .ok (.goto (-20), 3) := by decide +kernel
set_option maxRecDepth 65536 in
set_option maxHeartbeats 40000000 in
theorem rm_leq_1_1 (l : Launch) (Z : State) (a0 : Array Value) (hw : ∀ d ∈ tables_1, d.before a0 Z = true) (n0 : Nat) (a1 a2 : Addr) (x0 y0 : Int32) (h0 : Heap) (Z0 : n0 ≤ h0.size) (A1 : Ary Z h0 a1 .byte [.int x0]) (A2 : Ary Z h0 a2 .byte [.int y0]) :
    Met1 l Z (⟨"java/lang/StringLatin1", "equals", "([B[B)Z"⟩ : MethodName) jdk_43_method_13_code 3 (some .boolean) ({ frames := 0, cells := 0, slots := 0, locals := 0 } : Room) n0 #[(.ref a1), (.ref a2)] h0 (fun v h => ∃ r : Int32, v = some (.int r) ∧ ((([.int x0] : List Value) = [.int y0]) ∧ r = (1 : Int32) ∨ ¬ (([.int x0] : List Value) = [.int y0]) ∧ r = (0 : Int32)) ∧ h0 = h) := by
  refine met_of (plainFor_of_name own_pn_java_lang_StringLatin1) (L0 := #[.val (.ref a1), .val (.ref a2), .unset]) (by first | (simp [argsToLocals, Value.category]; done) | rfl) ?_
  intro B C hN
  change Ctx B l _ _ "java/lang/StringLatin1" "equals" _ _ Z at C
  refine g_aload_n C d13_0 (v := (.ref a1)) rfl rfl (pc' := 1) rfl ?_
  refine g_arraylength C A1 (z := (1 : Int32)) rfl d13_1 (pc' := 2) rfl ?_
  refine g_aload_n C d13_2 (v := (.ref a2)) rfl rfl (pc' := 3) rfl ?_
  refine g_arraylength C A2 (z := (1 : Int32)) rfl d13_3 (pc' := 4) rfl ?_
  refine g_icmp_n C d13_4 (Jvm.Free.XT.ii_ne_f (by decide)) (pc' := 7) rfl ?_
  refine g_iconst C d13_7 (v := (0 : Int32)) rfl (pc' := 8) rfl ?_
  refine g_istore_n C d13_8 (v := (0 : Int32)) (L' := #[.val (.ref a1), .val (.ref a2), .val (.int (0 : Int32))]) rfl (pc' := 9) rfl ?_
  refine g_iload_n C d13_9 (v := (0 : Int32)) rfl (pc' := 10) rfl ?_
  refine g_aload_n C d13_10 (v := (.ref a1)) rfl rfl (pc' := 11) rfl ?_
  refine g_arraylength C A1 (z := (1 : Int32)) rfl d13_11 (pc' := 12) rfl ?_
  refine g_icmp_n C d13_12 (Jvm.Free.XT.ii_ge_f (by decide)) (pc' := 15) rfl ?_
  refine g_aload_n C d13_15 (v := (.ref a1)) rfl rfl (pc' := 16) rfl ?_
  refine g_iload_n C d13_16 (v := (0 : Int32)) rfl (pc' := 17) rfl ?_
  refine g_baloadB C A1 (by decide) (i := 0) (by decide) (v := x0) rfl d13_17 (pc' := 18) rfl ?_
  refine g_aload_n C d13_18 (v := (.ref a2)) rfl rfl (pc' := 19) rfl ?_
  refine g_iload_n C d13_19 (v := (0 : Int32)) rfl (pc' := 20) rfl ?_
  refine g_baloadB C A2 (by decide) (i := 0) (by decide) (v := y0) rfl d13_20 (pc' := 21) rfl ?_
  by_cases hb_1 : x0 = y0
  · refine g_icmp_y C d13_21 (Jvm.Free.XT.ii_eq_t hb_1) (pc' := 26) (by decide) (by decide) ?_
    refine g_iinc C d13_26 (v := (0 : Int32)) (w := (1 : Int32)) rfl rfl (L' := #[.val (.ref a1), .val (.ref a2), .val (.int (1 : Int32))]) rfl (pc' := 29) rfl ?_
    refine g_goto C d13_29 (pc' := 9) (by decide) (by decide) ?_
    refine g_iload_n C d13_9 (v := (1 : Int32)) rfl (pc' := 10) rfl ?_
    refine g_aload_n C d13_10 (v := (.ref a1)) rfl rfl (pc' := 11) rfl ?_
    refine g_arraylength C A1 (z := (1 : Int32)) rfl d13_11 (pc' := 12) rfl ?_
    refine g_icmp_y C d13_12 (Jvm.Free.XT.ii_ge_t (by decide)) (pc' := 32) (by decide) (by decide) ?_
    refine g_iconst C d13_32 (v := (1 : Int32)) rfl (pc' := 33) rfl ?_
    refine g_ret C (eN hN) (v := (.int (1 : Int32))) (ty := .boolean) rfl rfl (Or.inl ⟨rfl, Or.inr (Or.inl rfl), _, rfl⟩) d13_33 (by decide) (by decide) ?_
    exact ⟨_, rfl, Or.inl ⟨(by rw [hb_1]), rfl⟩, rfl⟩
  · refine g_icmp_n C d13_21 (Jvm.Free.XT.ii_eq_f hb_1) (pc' := 24) rfl ?_
    refine g_iconst C d13_24 (v := (0 : Int32)) rfl (pc' := 25) rfl ?_
    refine g_ret C (eN hN) (v := (.int (0 : Int32))) (ty := .boolean) rfl rfl (Or.inl ⟨rfl, Or.inr (Or.inl rfl), _, rfl⟩) d13_25 (by decide) (by decide) ?_
    exact ⟨_, rfl, Or.inr ⟨(fun e => hb_1 (Value.int.inj (List.cons.inj e).1)), rfl⟩, rfl⟩
set_option maxRecDepth 65536 in
set_option maxHeartbeats 40000000 in
theorem rm_leq_1_2 (l : Launch) (Z : State) (a0 : Array Value) (hw : ∀ d ∈ tables_1, d.before a0 Z = true) (n0 : Nat) (a1 a2 : Addr) (x0 y0 y1 : Int32) (h0 : Heap) (Z0 : n0 ≤ h0.size) (A1 : Ary Z h0 a1 .byte [.int x0]) (A2 : Ary Z h0 a2 .byte [.int y0, .int y1]) :
    Met1 l Z (⟨"java/lang/StringLatin1", "equals", "([B[B)Z"⟩ : MethodName) jdk_43_method_13_code 3 (some .boolean) ({ frames := 0, cells := 0, slots := 0, locals := 0 } : Room) n0 #[(.ref a1), (.ref a2)] h0 (fun v h => ∃ r : Int32, v = some (.int r) ∧ ((([.int x0] : List Value) = [.int y0, .int y1]) ∧ r = (1 : Int32) ∨ ¬ (([.int x0] : List Value) = [.int y0, .int y1]) ∧ r = (0 : Int32)) ∧ h0 = h) := by
  refine met_of (plainFor_of_name own_pn_java_lang_StringLatin1) (L0 := #[.val (.ref a1), .val (.ref a2), .unset]) (by first | (simp [argsToLocals, Value.category]; done) | rfl) ?_
  intro B C hN
  change Ctx B l _ _ "java/lang/StringLatin1" "equals" _ _ Z at C
  refine g_aload_n C d13_0 (v := (.ref a1)) rfl rfl (pc' := 1) rfl ?_
  refine g_arraylength C A1 (z := (1 : Int32)) rfl d13_1 (pc' := 2) rfl ?_
  refine g_aload_n C d13_2 (v := (.ref a2)) rfl rfl (pc' := 3) rfl ?_
  refine g_arraylength C A2 (z := (2 : Int32)) rfl d13_3 (pc' := 4) rfl ?_
  refine g_icmp_y C d13_4 (Jvm.Free.XT.ii_ne_t (by decide)) (pc' := 34) (by decide) (by decide) ?_
  refine g_iconst C d13_34 (v := (0 : Int32)) rfl (pc' := 35) rfl ?_
  refine g_ret C (eN hN) (v := (.int (0 : Int32))) (ty := .boolean) rfl rfl (Or.inl ⟨rfl, Or.inr (Or.inl rfl), _, rfl⟩) d13_35 (by decide) (by decide) ?_
  exact ⟨_, rfl, Or.inr ⟨(fun e => absurd (congrArg List.length e) (by simp)), rfl⟩, rfl⟩
set_option maxRecDepth 65536 in
set_option maxHeartbeats 40000000 in
theorem rm_leq_2_0 (l : Launch) (Z : State) (a0 : Array Value) (hw : ∀ d ∈ tables_1, d.before a0 Z = true) (n0 : Nat) (a1 a2 : Addr) (x0 x1 : Int32) (h0 : Heap) (Z0 : n0 ≤ h0.size) (A1 : Ary Z h0 a1 .byte [.int x0, .int x1]) (A2 : Ary Z h0 a2 .byte []) :
    Met1 l Z (⟨"java/lang/StringLatin1", "equals", "([B[B)Z"⟩ : MethodName) jdk_43_method_13_code 3 (some .boolean) ({ frames := 0, cells := 0, slots := 0, locals := 0 } : Room) n0 #[(.ref a1), (.ref a2)] h0 (fun v h => ∃ r : Int32, v = some (.int r) ∧ ((([.int x0, .int x1] : List Value) = []) ∧ r = (1 : Int32) ∨ ¬ (([.int x0, .int x1] : List Value) = []) ∧ r = (0 : Int32)) ∧ h0 = h) := by
  refine met_of (plainFor_of_name own_pn_java_lang_StringLatin1) (L0 := #[.val (.ref a1), .val (.ref a2), .unset]) (by first | (simp [argsToLocals, Value.category]; done) | rfl) ?_
  intro B C hN
  change Ctx B l _ _ "java/lang/StringLatin1" "equals" _ _ Z at C
  refine g_aload_n C d13_0 (v := (.ref a1)) rfl rfl (pc' := 1) rfl ?_
  refine g_arraylength C A1 (z := (2 : Int32)) rfl d13_1 (pc' := 2) rfl ?_
  refine g_aload_n C d13_2 (v := (.ref a2)) rfl rfl (pc' := 3) rfl ?_
  refine g_arraylength C A2 (z := (0 : Int32)) rfl d13_3 (pc' := 4) rfl ?_
  refine g_icmp_y C d13_4 (Jvm.Free.XT.ii_ne_t (by decide)) (pc' := 34) (by decide) (by decide) ?_
  refine g_iconst C d13_34 (v := (0 : Int32)) rfl (pc' := 35) rfl ?_
  refine g_ret C (eN hN) (v := (.int (0 : Int32))) (ty := .boolean) rfl rfl (Or.inl ⟨rfl, Or.inr (Or.inl rfl), _, rfl⟩) d13_35 (by decide) (by decide) ?_
  exact ⟨_, rfl, Or.inr ⟨(fun e => absurd (congrArg List.length e) (by simp)), rfl⟩, rfl⟩
set_option maxRecDepth 65536 in
set_option maxHeartbeats 40000000 in
theorem rm_leq_2_1 (l : Launch) (Z : State) (a0 : Array Value) (hw : ∀ d ∈ tables_1, d.before a0 Z = true) (n0 : Nat) (a1 a2 : Addr) (x0 x1 y0 : Int32) (h0 : Heap) (Z0 : n0 ≤ h0.size) (A1 : Ary Z h0 a1 .byte [.int x0, .int x1]) (A2 : Ary Z h0 a2 .byte [.int y0]) :
    Met1 l Z (⟨"java/lang/StringLatin1", "equals", "([B[B)Z"⟩ : MethodName) jdk_43_method_13_code 3 (some .boolean) ({ frames := 0, cells := 0, slots := 0, locals := 0 } : Room) n0 #[(.ref a1), (.ref a2)] h0 (fun v h => ∃ r : Int32, v = some (.int r) ∧ ((([.int x0, .int x1] : List Value) = [.int y0]) ∧ r = (1 : Int32) ∨ ¬ (([.int x0, .int x1] : List Value) = [.int y0]) ∧ r = (0 : Int32)) ∧ h0 = h) := by
  refine met_of (plainFor_of_name own_pn_java_lang_StringLatin1) (L0 := #[.val (.ref a1), .val (.ref a2), .unset]) (by first | (simp [argsToLocals, Value.category]; done) | rfl) ?_
  intro B C hN
  change Ctx B l _ _ "java/lang/StringLatin1" "equals" _ _ Z at C
  refine g_aload_n C d13_0 (v := (.ref a1)) rfl rfl (pc' := 1) rfl ?_
  refine g_arraylength C A1 (z := (2 : Int32)) rfl d13_1 (pc' := 2) rfl ?_
  refine g_aload_n C d13_2 (v := (.ref a2)) rfl rfl (pc' := 3) rfl ?_
  refine g_arraylength C A2 (z := (1 : Int32)) rfl d13_3 (pc' := 4) rfl ?_
  refine g_icmp_y C d13_4 (Jvm.Free.XT.ii_ne_t (by decide)) (pc' := 34) (by decide) (by decide) ?_
  refine g_iconst C d13_34 (v := (0 : Int32)) rfl (pc' := 35) rfl ?_
  refine g_ret C (eN hN) (v := (.int (0 : Int32))) (ty := .boolean) rfl rfl (Or.inl ⟨rfl, Or.inr (Or.inl rfl), _, rfl⟩) d13_35 (by decide) (by decide) ?_
  exact ⟨_, rfl, Or.inr ⟨(fun e => absurd (congrArg List.length e) (by simp)), rfl⟩, rfl⟩
set_option maxRecDepth 65536 in
set_option maxHeartbeats 40000000 in
theorem rm_leq_2_2 (l : Launch) (Z : State) (a0 : Array Value) (hw : ∀ d ∈ tables_1, d.before a0 Z = true) (n0 : Nat) (a1 a2 : Addr) (x0 x1 y0 y1 : Int32) (h0 : Heap) (Z0 : n0 ≤ h0.size) (A1 : Ary Z h0 a1 .byte [.int x0, .int x1]) (A2 : Ary Z h0 a2 .byte [.int y0, .int y1]) :
    Met1 l Z (⟨"java/lang/StringLatin1", "equals", "([B[B)Z"⟩ : MethodName) jdk_43_method_13_code 3 (some .boolean) ({ frames := 0, cells := 0, slots := 0, locals := 0 } : Room) n0 #[(.ref a1), (.ref a2)] h0 (fun v h => ∃ r : Int32, v = some (.int r) ∧ ((([.int x0, .int x1] : List Value) = [.int y0, .int y1]) ∧ r = (1 : Int32) ∨ ¬ (([.int x0, .int x1] : List Value) = [.int y0, .int y1]) ∧ r = (0 : Int32)) ∧ h0 = h) := by
  refine met_of (plainFor_of_name own_pn_java_lang_StringLatin1) (L0 := #[.val (.ref a1), .val (.ref a2), .unset]) (by first | (simp [argsToLocals, Value.category]; done) | rfl) ?_
  intro B C hN
  change Ctx B l _ _ "java/lang/StringLatin1" "equals" _ _ Z at C
  refine g_aload_n C d13_0 (v := (.ref a1)) rfl rfl (pc' := 1) rfl ?_
  refine g_arraylength C A1 (z := (2 : Int32)) rfl d13_1 (pc' := 2) rfl ?_
  refine g_aload_n C d13_2 (v := (.ref a2)) rfl rfl (pc' := 3) rfl ?_
  refine g_arraylength C A2 (z := (2 : Int32)) rfl d13_3 (pc' := 4) rfl ?_
  refine g_icmp_n C d13_4 (Jvm.Free.XT.ii_ne_f (by decide)) (pc' := 7) rfl ?_
  refine g_iconst C d13_7 (v := (0 : Int32)) rfl (pc' := 8) rfl ?_
  refine g_istore_n C d13_8 (v := (0 : Int32)) (L' := #[.val (.ref a1), .val (.ref a2), .val (.int (0 : Int32))]) rfl (pc' := 9) rfl ?_
  refine g_iload_n C d13_9 (v := (0 : Int32)) rfl (pc' := 10) rfl ?_
  refine g_aload_n C d13_10 (v := (.ref a1)) rfl rfl (pc' := 11) rfl ?_
  refine g_arraylength C A1 (z := (2 : Int32)) rfl d13_11 (pc' := 12) rfl ?_
  refine g_icmp_n C d13_12 (Jvm.Free.XT.ii_ge_f (by decide)) (pc' := 15) rfl ?_
  refine g_aload_n C d13_15 (v := (.ref a1)) rfl rfl (pc' := 16) rfl ?_
  refine g_iload_n C d13_16 (v := (0 : Int32)) rfl (pc' := 17) rfl ?_
  refine g_baloadB C A1 (by decide) (i := 0) (by decide) (v := x0) rfl d13_17 (pc' := 18) rfl ?_
  refine g_aload_n C d13_18 (v := (.ref a2)) rfl rfl (pc' := 19) rfl ?_
  refine g_iload_n C d13_19 (v := (0 : Int32)) rfl (pc' := 20) rfl ?_
  refine g_baloadB C A2 (by decide) (i := 0) (by decide) (v := y0) rfl d13_20 (pc' := 21) rfl ?_
  by_cases hb_1 : x0 = y0
  · refine g_icmp_y C d13_21 (Jvm.Free.XT.ii_eq_t hb_1) (pc' := 26) (by decide) (by decide) ?_
    refine g_iinc C d13_26 (v := (0 : Int32)) (w := (1 : Int32)) rfl rfl (L' := #[.val (.ref a1), .val (.ref a2), .val (.int (1 : Int32))]) rfl (pc' := 29) rfl ?_
    refine g_goto C d13_29 (pc' := 9) (by decide) (by decide) ?_
    refine g_iload_n C d13_9 (v := (1 : Int32)) rfl (pc' := 10) rfl ?_
    refine g_aload_n C d13_10 (v := (.ref a1)) rfl rfl (pc' := 11) rfl ?_
    refine g_arraylength C A1 (z := (2 : Int32)) rfl d13_11 (pc' := 12) rfl ?_
    refine g_icmp_n C d13_12 (Jvm.Free.XT.ii_ge_f (by decide)) (pc' := 15) rfl ?_
    refine g_aload_n C d13_15 (v := (.ref a1)) rfl rfl (pc' := 16) rfl ?_
    refine g_iload_n C d13_16 (v := (1 : Int32)) rfl (pc' := 17) rfl ?_
    refine g_baloadB C A1 (by decide) (i := 1) (by decide) (v := x1) rfl d13_17 (pc' := 18) rfl ?_
    refine g_aload_n C d13_18 (v := (.ref a2)) rfl rfl (pc' := 19) rfl ?_
    refine g_iload_n C d13_19 (v := (1 : Int32)) rfl (pc' := 20) rfl ?_
    refine g_baloadB C A2 (by decide) (i := 1) (by decide) (v := y1) rfl d13_20 (pc' := 21) rfl ?_
    by_cases hb_2 : x1 = y1
    · refine g_icmp_y C d13_21 (Jvm.Free.XT.ii_eq_t hb_2) (pc' := 26) (by decide) (by decide) ?_
      refine g_iinc C d13_26 (v := (1 : Int32)) (w := (2 : Int32)) rfl rfl (L' := #[.val (.ref a1), .val (.ref a2), .val (.int (2 : Int32))]) rfl (pc' := 29) rfl ?_
      refine g_goto C d13_29 (pc' := 9) (by decide) (by decide) ?_
      refine g_iload_n C d13_9 (v := (2 : Int32)) rfl (pc' := 10) rfl ?_
      refine g_aload_n C d13_10 (v := (.ref a1)) rfl rfl (pc' := 11) rfl ?_
      refine g_arraylength C A1 (z := (2 : Int32)) rfl d13_11 (pc' := 12) rfl ?_
      refine g_icmp_y C d13_12 (Jvm.Free.XT.ii_ge_t (by decide)) (pc' := 32) (by decide) (by decide) ?_
      refine g_iconst C d13_32 (v := (1 : Int32)) rfl (pc' := 33) rfl ?_
      refine g_ret C (eN hN) (v := (.int (1 : Int32))) (ty := .boolean) rfl rfl (Or.inl ⟨rfl, Or.inr (Or.inl rfl), _, rfl⟩) d13_33 (by decide) (by decide) ?_
      exact ⟨_, rfl, Or.inl ⟨(by rw [hb_1, hb_2]), rfl⟩, rfl⟩
    · refine g_icmp_n C d13_21 (Jvm.Free.XT.ii_eq_f hb_2) (pc' := 24) rfl ?_
      refine g_iconst C d13_24 (v := (0 : Int32)) rfl (pc' := 25) rfl ?_
      refine g_ret C (eN hN) (v := (.int (0 : Int32))) (ty := .boolean) rfl rfl (Or.inl ⟨rfl, Or.inr (Or.inl rfl), _, rfl⟩) d13_25 (by decide) (by decide) ?_
      exact ⟨_, rfl, Or.inr ⟨(fun e => hb_2 (Value.int.inj (List.cons.inj (List.cons.inj e).2).1)), rfl⟩, rfl⟩
  · refine g_icmp_n C d13_21 (Jvm.Free.XT.ii_eq_f hb_1) (pc' := 24) rfl ?_
    refine g_iconst C d13_24 (v := (0 : Int32)) rfl (pc' := 25) rfl ?_
    refine g_ret C (eN hN) (v := (.int (0 : Int32))) (ty := .boolean) rfl rfl (Or.inl ⟨rfl, Or.inr (Or.inl rfl), _, rfl⟩) d13_25 (by decide) (by decide) ?_
    exact ⟨_, rfl, Or.inr ⟨(fun e => hb_1 (Value.int.inj (List.cons.inj e).1)), rfl⟩, rfl⟩
theorem d12_0 : decode jdk_42_method_66_code 0 = .ok (.aload_n 0, 1) := by decide +kernel
theorem d12_1 : decode jdk_42_method_66_code 1 = .ok (.aload_n 1, 1) := by decide +kernel
theorem d12_2 : decode jdk_42_method_66_code 2 = .ok (.if_acmp .ne 5, 3) := by decide +kernel
theorem d12_5 : decode jdk_42_method_66_code 5 = .ok (.iconst 1, 1) := by decide +kernel
theorem d12_6 : decode jdk_42_method_66_code 6 = .ok (.ireturn, 1) := by decide +kernel
set_option maxRecDepth 65536 in
set_option maxHeartbeats 40000000 in
theorem rm_seqS (l : Launch) (Z : State) (a0 : Array Value) (hw : ∀ d ∈ tables_1, d.before a0 Z = true) (n0 : Nat) (a1 : Addr) (h0 : Heap) (Z0 : n0 ≤ h0.size)  :
    Met1 l Z (⟨"java/lang/String", "equals", "(Ljava/lang/Object;)Z"⟩ : MethodName) jdk_42_method_66_code 3 (some .boolean) ({ frames := 0, cells := 0, slots := 0, locals := 0 } : Room) n0 #[(.ref a1), (.ref a1)] h0 (fun v h => v = some (.int (1 : Int32)) ∧ h0 = h) := by
  refine met_of (plainFor_of_name own_pn_java_lang_String) (L0 := #[.val (.ref a1), .val (.ref a1), .unset]) (by first | (simp [argsToLocals, Value.category]; done) | rfl) ?_
  intro B C hN
  change Ctx B l _ _ "java/lang/String" "equals" _ _ Z at C
  refine g_aload_n C d12_0 (v := (.ref a1)) rfl rfl (pc' := 1) rfl ?_
  refine g_aload_n C d12_1 (v := (.ref a1)) rfl rfl (pc' := 2) rfl ?_
  refine g_acmp_n C d12_2 rfl rfl (Jvm.Free.XT.aa_ne_f rfl) (pc' := 5) rfl ?_
  refine g_iconst C d12_5 (v := (1 : Int32)) rfl (pc' := 6) rfl ?_
  refine g_ret C (eN hN) (v := (.int (1 : Int32))) (ty := .boolean) rfl rfl (Or.inl ⟨rfl, Or.inr (Or.inl rfl), _, rfl⟩) d12_6 (by decide) (by decide) ?_
  exact ⟨rfl, rfl⟩
theorem own_pd_8_equals : parseMethodDescriptor "([B[B)Z" = some ⟨[(.array .byte), (.array .byte)], (some .boolean)⟩ := by decide +kernel
theorem d12_7 : decode jdk_42_method_66_code 7 = .ok (.aload_n 1, 1) := by decide +kernel
theorem d12_8 : decode jdk_42_method_66_code 8 = .ok (.instanceof 10, 3) := by decide +kernel
theorem d12_11 : decode jdk_42_method_66_code 11 = .ok (.ifCond .eq 43, 3) := by decide +kernel
theorem d12_14 : decode jdk_42_method_66_code 14 = .ok (.aload_n 1, 1) := by decide +kernel
theorem d12_15 : decode jdk_42_method_66_code 15 = .ok (.checkcast 10, 3) := by decide +kernel
theorem d12_18 : decode jdk_42_method_66_code 18 = .ok (.astore_n 2, 1) := by decide +kernel
theorem d12_19 : decode jdk_42_method_66_code 19 = .ok (.getstatic 38, 3) := by decide +kernel
theorem d12_22 : decode jdk_42_method_66_code 22 = .ok (.ifCond .eq 14, 3) := by decide +kernel
theorem d12_25 : decode jdk_42_method_66_code 25 = .ok (.aload_n 0, 1) := by decide +kernel
theorem d12_26 : decode jdk_42_method_66_code 26 = .ok (.getfield 15, 3) := by decide +kernel
theorem d12_29 : decode jdk_42_method_66_code 29 = .ok (.aload_n 2, 1) := by decide +kernel
theorem d12_30 : decode jdk_42_method_66_code 30 = .ok (.getfield 15, 3) := by decide +kernel
theorem d12_33 : decode jdk_42_method_66_code 33 = .ok (.if_icmp .ne 21, 3) := by decide +kernel
theorem d12_36 : decode jdk_42_method_66_code 36 = .ok (.aload_n 0, 1) := by decide +kernel
theorem d12_37 : decode jdk_42_method_66_code 37 = .ok (.getfield 9, 3) := by decide +kernel
theorem d12_40 : decode jdk_42_method_66_code 40 = .ok (.aload_n 2, 1) := by decide +kernel
theorem d12_41 : decode jdk_42_method_66_code 41 = .ok (.getfield 9, 3) := by decide +kernel
theorem d12_44 : decode jdk_42_method_66_code 44 = .ok (.invokestatic 541, 3) := by decide +kernel
theorem d12_47 : decode jdk_42_method_66_code 47 = .ok (.ifCond .eq 7, 3) := by decide +kernel
theorem d12_50 : decode jdk_42_method_66_code 50 = .ok (.iconst 1, 1) := by decide +kernel
theorem d12_51 : decode jdk_42_method_66_code 51 = .ok (.goto 4, 3) := by decide +kernel
theorem d12_54 : decode jdk_42_method_66_code 54 = .ok (.iconst 0, 1) := by decide +kernel
theorem d12_55 : decode jdk_42_method_66_code 55 = .ok (.ireturn, 1) := by decide +kernel
set_option maxRecDepth 65536 in
set_option maxHeartbeats 40000000 in
theorem rm_seq (l : Launch) (Z : State) (a0 : Array Value) (hw : ∀ d ∈ tables_1, d.before a0 Z = true) (n0 : Nat) (a1 a2 b1 b2 : Addr) (vs ws : List Value) (h0 : Heap) (Z0 : n0 ≤ h0.size) (cm : Cmp Z) (O : Old Z n0 h0) (E1 : Exa Z h0 a1 "java/lang/String") (G1 : Fld Z h0 a1 "java/lang/String" "value" "[B" (.ref b1)) (F1 : Fld Z h0 a1 "java/lang/String" "coder" "B" (.int (0 : Int32))) (A1 : Ary Z h0 b1 .byte vs) (E2 : Exa Z h0 a2 "java/lang/String") (G2 : Fld Z h0 a2 "java/lang/String" "value" "[B" (.ref b2)) (F2 : Fld Z h0 a2 "java/lang/String" "coder" "B" (.int (0 : Int32))) (A2 : Ary Z h0 b2 .byte ws) (nq : a1 ≠ a2) (sv : Sh vs) (sw : Sh ws) :
    Met1 l Z (⟨"java/lang/String", "equals", "(Ljava/lang/Object;)Z"⟩ : MethodName) jdk_42_method_66_code 3 (some .boolean) ({ frames := 1, cells := 0, slots := 0, locals := 14 } : Room) n0 #[(.ref a1), (.ref a2)] h0 (fun v h => ∃ r : Int32, v = some (.int r) ∧ ((vs = ws) ∧ r = (1 : Int32) ∨ ¬ (vs = ws) ∧ r = (0 : Int32)) ∧ h0 = h) := by
  refine met_of (plainFor_of_name own_pn_java_lang_String) (L0 := #[.val (.ref a1), .val (.ref a2), .unset]) (by first | (simp [argsToLocals, Value.category]; done) | rfl) ?_
  intro B C hN
  change Ctx B l _ _ "java/lang/String" "equals" _ _ Z at C
  have cm' := cm
  obtain ⟨cz, Scz, hcz⟩ := cm'
  rcases sv with rfl | ⟨x0, rfl⟩ | ⟨x0, x1, rfl⟩
  · rcases sw with rfl | ⟨y0, rfl⟩ | ⟨y0, y1, rfl⟩
    · show Go B n0 _ h0 0 0 0 #[.val (.ref a1), .val (.ref a2), .unset] []
      refine g_aload_n C d12_0 (v := (.ref a1)) rfl rfl (pc' := 1) rfl ?_
      refine g_aload_n C d12_1 (v := (.ref a2)) rfl rfl (pc' := 2) rfl ?_
      refine g_acmp_y C d12_2 rfl rfl (Jvm.Free.XT.aa_ne_t (fun q => nq (Value.ref.inj q))) (pc' := 7) (by decide) (by decide) ?_
      refine g_aload_n C d12_7 (v := (.ref a2)) rfl rfl (pc' := 8) rfl ?_
      refine g_instanceof_y C (own_w hw 70 rfl) (Ins.self E2) d12_8 (pc' := 11) rfl ?_
      refine g_if_n C d12_11 (Jvm.Free.XT.i0_eq_f (by decide)) (pc' := 14) rfl ?_
      refine g_aload_n C d12_14 (v := (.ref a2)) rfl rfl (pc' := 15) rfl ?_
      refine g_checkcast C (own_w hw 70 rfl) (Ins.self E2) d12_15 (pc' := 18) rfl ?_
      refine g_astore_n C d12_18 (v := (.ref a2)) (L' := #[.val (.ref a1), .val (.ref a2), .val (.ref a2)]) rfl rfl (pc' := 19) rfl ?_
      refine g_getstatic C (host := "") (v := (.int cz)) (Or.inl (own_w hw 18 rfl)) Via.refl (Scz.ext O.2) d12_19 (pc' := 22) rfl ?_
      refine g_if_n C d12_22 (Jvm.Free.XT.i0_eq_f hcz) (pc' := 25) rfl ?_
      refine g_aload_n C d12_25 (v := (.ref a1)) rfl rfl (pc' := 26) rfl ?_
      refine g_getfield C (host := "") (v := (.int (0 : Int32))) (Or.inl (own_w hw 30 rfl)) Via.refl F1 d12_26 (pc' := 29) rfl ?_
      refine g_aload_n C d12_29 (v := (.ref a2)) rfl rfl (pc' := 30) rfl ?_
      refine g_getfield C (host := "") (v := (.int (0 : Int32))) (Or.inl (own_w hw 30 rfl)) Via.refl F2 d12_30 (pc' := 33) rfl ?_
      refine g_icmp_n C d12_33 (Jvm.Free.XT.ii_ne_f (by decide)) (pc' := 36) rfl ?_
      refine g_aload_n C d12_36 (v := (.ref a1)) rfl rfl (pc' := 37) rfl ?_
      refine g_getfield C (host := "") (v := (.ref b1)) (Or.inl (own_w hw 32 rfl)) Via.refl G1 d12_37 (pc' := 40) rfl ?_
      refine g_aload_n C d12_40 (v := (.ref a2)) rfl rfl (pc' := 41) rfl ?_
      refine g_getfield C (host := "") (v := (.ref b2)) (Or.inl (own_w hw 32 rfl)) Via.refl G2 d12_41 (pc' := 44) rfl ?_
      refine g_static C (own_w hw 71 rfl) (own_w hw 72 rfl) (own_w hw 73 rfl) (own_w hw 74 rfl) (by decide) (rm_leq_0_0 l Z a0 hw n0 b1 b2  h0 Z0 A1 A2) (st := []) [(.ref b1), (.ref b2)] rfl rfl own_pd_8_equals rfl rfl (by decide) (W := 0) (Nat.le_of_eq rfl) (by decide) (by decide) (by decide) d12_44 (pc' := 47) rfl ?_
      intro v_3 h_1 q_2
      obtain ⟨r_5, rfl, ⟨e_6, rfl⟩ | ⟨e_6, rfl⟩, rfl⟩ := q_2
      · show Go B n0 _ h0 0 0 47 #[.val (.ref a1), .val (.ref a2), .val (.ref a2)] [(.int (1 : Int32))]
        refine g_if_n C d12_47 (Jvm.Free.XT.i0_eq_f (by decide)) (pc' := 50) rfl ?_
        refine g_iconst C d12_50 (v := (1 : Int32)) rfl (pc' := 51) rfl ?_
        refine g_goto C d12_51 (pc' := 55) (by decide) (by decide) ?_
        refine g_ret C (eN hN) (v := (.int (1 : Int32))) (ty := .boolean) rfl rfl (Or.inl ⟨rfl, Or.inr (Or.inl rfl), _, rfl⟩) d12_55 (by decide) (by decide) ?_
        exact ⟨_, rfl, Or.inl ⟨e_6, rfl⟩, rfl⟩
      · show Go B n0 _ h0 0 0 47 #[.val (.ref a1), .val (.ref a2), .val (.ref a2)] [(.int (0 : Int32))]
        refine g_if_y C d12_47 (Jvm.Free.XT.i0_eq_t (by decide)) (pc' := 54) (by decide) (by decide) ?_
        refine g_iconst C d12_54 (v := (0 : Int32)) rfl (pc' := 55) rfl ?_
        refine g_ret C (eN hN) (v := (.int (0 : Int32))) (ty := .boolean) rfl rfl (Or.inl ⟨rfl, Or.inr (Or.inl rfl), _, rfl⟩) d12_55 (by decide) (by decide) ?_
        exact ⟨_, rfl, Or.inr ⟨e_6, rfl⟩, rfl⟩
    · show Go B n0 _ h0 0 0 0 #[.val (.ref a1), .val (.ref a2), .unset] []
      refine g_aload_n C d12_0 (v := (.ref a1)) rfl rfl (pc' := 1) rfl ?_
      refine g_aload_n C d12_1 (v := (.ref a2)) rfl rfl (pc' := 2) rfl ?_
      refine g_acmp_y C d12_2 rfl rfl (Jvm.Free.XT.aa_ne_t (fun q => nq (Value.ref.inj q))) (pc' := 7) (by decide) (by decide) ?_
      refine g_aload_n C d12_7 (v := (.ref a2)) rfl rfl (pc' := 8) rfl ?_
      refine g_instanceof_y C (own_w hw 70 rfl) (Ins.self E2) d12_8 (pc' := 11) rfl ?_
      refine g_if_n C d12_11 (Jvm.Free.XT.i0_eq_f (by decide)) (pc' := 14) rfl ?_
      refine g_aload_n C d12_14 (v := (.ref a2)) rfl rfl (pc' := 15) rfl ?_
      refine g_checkcast C (own_w hw 70 rfl) (Ins.self E2) d12_15 (pc' := 18) rfl ?_
      refine g_astore_n C d12_18 (v := (.ref a2)) (L' := #[.val (.ref a1), .val (.ref a2), .val (.ref a2)]) rfl rfl (pc' := 19) rfl ?_
      refine g_getstatic C (host := "") (v := (.int cz)) (Or.inl (own_w hw 18 rfl)) Via.refl (Scz.ext O.2) d12_19 (pc' := 22) rfl ?_
      refine g_if_n C d12_22 (Jvm.Free.XT.i0_eq_f hcz) (pc' := 25) rfl ?_
      refine g_aload_n C d12_25 (v := (.ref a1)) rfl rfl (pc' := 26) rfl ?_
      refine g_getfield C (host := "") (v := (.int (0 : Int32))) (Or.inl (own_w hw 30 rfl)) Via.refl F1 d12_26 (pc' := 29) rfl ?_
      refine g_aload_n C d12_29 (v := (.ref a2)) rfl rfl (pc' := 30) rfl ?_
      refine g_getfield C (host := "") (v := (.int (0 : Int32))) (Or.inl (own_w hw 30 rfl)) Via.refl F2 d12_30 (pc' := 33) rfl ?_
      refine g_icmp_n C d12_33 (Jvm.Free.XT.ii_ne_f (by decide)) (pc' := 36) rfl ?_
      refine g_aload_n C d12_36 (v := (.ref a1)) rfl rfl (pc' := 37) rfl ?_
      refine g_getfield C (host := "") (v := (.ref b1)) (Or.inl (own_w hw 32 rfl)) Via.refl G1 d12_37 (pc' := 40) rfl ?_
      refine g_aload_n C d12_40 (v := (.ref a2)) rfl rfl (pc' := 41) rfl ?_
      refine g_getfield C (host := "") (v := (.ref b2)) (Or.inl (own_w hw 32 rfl)) Via.refl G2 d12_41 (pc' := 44) rfl ?_
      refine g_static C (own_w hw 71 rfl) (own_w hw 72 rfl) (own_w hw 73 rfl) (own_w hw 74 rfl) (by decide) (rm_leq_0_1 l Z a0 hw n0 b1 b2 y0 h0 Z0 A1 A2) (st := []) [(.ref b1), (.ref b2)] rfl rfl own_pd_8_equals rfl rfl (by decide) (W := 0) (Nat.le_of_eq rfl) (by decide) (by decide) (by decide) d12_44 (pc' := 47) rfl ?_
      intro v_9 h_7 q_8
      obtain ⟨r_11, rfl, ⟨e_12, rfl⟩ | ⟨e_12, rfl⟩, rfl⟩ := q_8
      · show Go B n0 _ h0 0 0 47 #[.val (.ref a1), .val (.ref a2), .val (.ref a2)] [(.int (1 : Int32))]
        refine g_if_n C d12_47 (Jvm.Free.XT.i0_eq_f (by decide)) (pc' := 50) rfl ?_
        refine g_iconst C d12_50 (v := (1 : Int32)) rfl (pc' := 51) rfl ?_
        refine g_goto C d12_51 (pc' := 55) (by decide) (by decide) ?_
        refine g_ret C (eN hN) (v := (.int (1 : Int32))) (ty := .boolean) rfl rfl (Or.inl ⟨rfl, Or.inr (Or.inl rfl), _, rfl⟩) d12_55 (by decide) (by decide) ?_
        exact ⟨_, rfl, Or.inl ⟨e_12, rfl⟩, rfl⟩
      · show Go B n0 _ h0 0 0 47 #[.val (.ref a1), .val (.ref a2), .val (.ref a2)] [(.int (0 : Int32))]
        refine g_if_y C d12_47 (Jvm.Free.XT.i0_eq_t (by decide)) (pc' := 54) (by decide) (by decide) ?_
        refine g_iconst C d12_54 (v := (0 : Int32)) rfl (pc' := 55) rfl ?_
        refine g_ret C (eN hN) (v := (.int (0 : Int32))) (ty := .boolean) rfl rfl (Or.inl ⟨rfl, Or.inr (Or.inl rfl), _, rfl⟩) d12_55 (by decide) (by decide) ?_
        exact ⟨_, rfl, Or.inr ⟨e_12, rfl⟩, rfl⟩
    · show Go B n0 _ h0 0 0 0 #[.val (.ref a1), .val (.ref a2), .unset] []
      refine g_aload_n C d12_0 (v := (.ref a1)) rfl rfl (pc' := 1) rfl ?_
      refine g_aload_n C d12_1 (v := (.ref a2)) rfl rfl (pc' := 2) rfl ?_
      refine g_acmp_y C d12_2 rfl rfl (Jvm.Free.XT.aa_ne_t (fun q => nq (Value.ref.inj q))) (pc' := 7) (by decide) (by decide) ?_
      refine g_aload_n C d12_7 (v := (.ref a2)) rfl rfl (pc' := 8) rfl ?_
      refine g_instanceof_y C (own_w hw 70 rfl) (Ins.self E2) d12_8 (pc' := 11) rfl ?_
      refine g_if_n C d12_11 (Jvm.Free.XT.i0_eq_f (by decide)) (pc' := 14) rfl ?_
      refine g_aload_n C d12_14 (v := (.ref a2)) rfl rfl (pc' := 15) rfl ?_
      refine g_checkcast C (own_w hw 70 rfl) (Ins.self E2) d12_15 (pc' := 18) rfl ?_
      refine g_astore_n C d12_18 (v := (.ref a2)) (L' := #[.val (.ref a1), .val (.ref a2), .val (.ref a2)]) rfl rfl (pc' := 19) rfl ?_
      refine g_getstatic C (host := "") (v := (.int cz)) (Or.inl (own_w hw 18 rfl)) Via.refl (Scz.ext O.2) d12_19 (pc' := 22) rfl ?_
      refine g_if_n C d12_22 (Jvm.Free.XT.i0_eq_f hcz) (pc' := 25) rfl ?_
      refine g_aload_n C d12_25 (v := (.ref a1)) rfl rfl (pc' := 26) rfl ?_
      refine g_getfield C (host := "") (v := (.int (0 : Int32))) (Or.inl (own_w hw 30 rfl)) Via.refl F1 d12_26 (pc' := 29) rfl ?_
      refine g_aload_n C d12_29 (v := (.ref a2)) rfl rfl (pc' := 30) rfl ?_
      refine g_getfield C (host := "") (v := (.int (0 : Int32))) (Or.inl (own_w hw 30 rfl)) Via.refl F2 d12_30 (pc' := 33) rfl ?_
      refine g_icmp_n C d12_33 (Jvm.Free.XT.ii_ne_f (by decide)) (pc' := 36) rfl ?_
      refine g_aload_n C d12_36 (v := (.ref a1)) rfl rfl (pc' := 37) rfl ?_
      refine g_getfield C (host := "") (v := (.ref b1)) (Or.inl (own_w hw 32 rfl)) Via.refl G1 d12_37 (pc' := 40) rfl ?_
      refine g_aload_n C d12_40 (v := (.ref a2)) rfl rfl (pc' := 41) rfl ?_
      refine g_getfield C (host := "") (v := (.ref b2)) (Or.inl (own_w hw 32 rfl)) Via.refl G2 d12_41 (pc' := 44) rfl ?_
      refine g_static C (own_w hw 71 rfl) (own_w hw 72 rfl) (own_w hw 73 rfl) (own_w hw 74 rfl) (by decide) (rm_leq_0_2 l Z a0 hw n0 b1 b2 y0 y1 h0 Z0 A1 A2) (st := []) [(.ref b1), (.ref b2)] rfl rfl own_pd_8_equals rfl rfl (by decide) (W := 0) (Nat.le_of_eq rfl) (by decide) (by decide) (by decide) d12_44 (pc' := 47) rfl ?_
      intro v_15 h_13 q_14
      obtain ⟨r_17, rfl, ⟨e_18, rfl⟩ | ⟨e_18, rfl⟩, rfl⟩ := q_14
      · show Go B n0 _ h0 0 0 47 #[.val (.ref a1), .val (.ref a2), .val (.ref a2)] [(.int (1 : Int32))]
        refine g_if_n C d12_47 (Jvm.Free.XT.i0_eq_f (by decide)) (pc' := 50) rfl ?_
        refine g_iconst C d12_50 (v := (1 : Int32)) rfl (pc' := 51) rfl ?_
        refine g_goto C d12_51 (pc' := 55) (by decide) (by decide) ?_
        refine g_ret C (eN hN) (v := (.int (1 : Int32))) (ty := .boolean) rfl rfl (Or.inl ⟨rfl, Or.inr (Or.inl rfl), _, rfl⟩) d12_55 (by decide) (by decide) ?_
        exact ⟨_, rfl, Or.inl ⟨e_18, rfl⟩, rfl⟩
      · show Go B n0 _ h0 0 0 47 #[.val (.ref a1), .val (.ref a2), .val (.ref a2)] [(.int (0 : Int32))]
        refine g_if_y C d12_47 (Jvm.Free.XT.i0_eq_t (by decide)) (pc' := 54) (by decide) (by decide) ?_
        refine g_iconst C d12_54 (v := (0 : Int32)) rfl (pc' := 55) rfl ?_
        refine g_ret C (eN hN) (v := (.int (0 : Int32))) (ty := .boolean) rfl rfl (Or.inl ⟨rfl, Or.inr (Or.inl rfl), _, rfl⟩) d12_55 (by decide) (by decide) ?_
        exact ⟨_, rfl, Or.inr ⟨e_18, rfl⟩, rfl⟩
  · rcases sw with rfl | ⟨y0, rfl⟩ | ⟨y0, y1, rfl⟩
    · show Go B n0 _ h0 0 0 0 #[.val (.ref a1), .val (.ref a2), .unset] []
      refine g_aload_n C d12_0 (v := (.ref a1)) rfl rfl (pc' := 1) rfl ?_
      refine g_aload_n C d12_1 (v := (.ref a2)) rfl rfl (pc' := 2) rfl ?_
      refine g_acmp_y C d12_2 rfl rfl (Jvm.Free.XT.aa_ne_t (fun q => nq (Value.ref.inj q))) (pc' := 7) (by decide) (by decide) ?_
      refine g_aload_n C d12_7 (v := (.ref a2)) rfl rfl (pc' := 8) rfl ?_
      refine g_instanceof_y C (own_w hw 70 rfl) (Ins.self E2) d12_8 (pc' := 11) rfl ?_
      refine g_if_n C d12_11 (Jvm.Free.XT.i0_eq_f (by decide)) (pc' := 14) rfl ?_
      refine g_aload_n C d12_14 (v := (.ref a2)) rfl rfl (pc' := 15) rfl ?_
      refine g_checkcast C (own_w hw 70 rfl) (Ins.self E2) d12_15 (pc' := 18) rfl ?_
      refine g_astore_n C d12_18 (v := (.ref a2)) (L' := #[.val (.ref a1), .val (.ref a2), .val (.ref a2)]) rfl rfl (pc' := 19) rfl ?_
      refine g_getstatic C (host := "") (v := (.int cz)) (Or.inl (own_w hw 18 rfl)) Via.refl (Scz.ext O.2) d12_19 (pc' := 22) rfl ?_
      refine g_if_n C d12_22 (Jvm.Free.XT.i0_eq_f hcz) (pc' := 25) rfl ?_
      refine g_aload_n C d12_25 (v := (.ref a1)) rfl rfl (pc' := 26) rfl ?_
      refine g_getfield C (host := "") (v := (.int (0 : Int32))) (Or.inl (own_w hw 30 rfl)) Via.refl F1 d12_26 (pc' := 29) rfl ?_
      refine g_aload_n C d12_29 (v := (.ref a2)) rfl rfl (pc' := 30) rfl ?_
      refine g_getfield C (host := "") (v := (.int (0 : Int32))) (Or.inl (own_w hw 30 rfl)) Via.refl F2 d12_30 (pc' := 33) rfl ?_
      refine g_icmp_n C d12_33 (Jvm.Free.XT.ii_ne_f (by decide)) (pc' := 36) rfl ?_
      refine g_aload_n C d12_36 (v := (.ref a1)) rfl rfl (pc' := 37) rfl ?_
      refine g_getfield C (host := "") (v := (.ref b1)) (Or.inl (own_w hw 32 rfl)) Via.refl G1 d12_37 (pc' := 40) rfl ?_
      refine g_aload_n C d12_40 (v := (.ref a2)) rfl rfl (pc' := 41) rfl ?_
      refine g_getfield C (host := "") (v := (.ref b2)) (Or.inl (own_w hw 32 rfl)) Via.refl G2 d12_41 (pc' := 44) rfl ?_
      refine g_static C (own_w hw 71 rfl) (own_w hw 72 rfl) (own_w hw 73 rfl) (own_w hw 74 rfl) (by decide) (rm_leq_1_0 l Z a0 hw n0 b1 b2 x0 h0 Z0 A1 A2) (st := []) [(.ref b1), (.ref b2)] rfl rfl own_pd_8_equals rfl rfl (by decide) (W := 0) (Nat.le_of_eq rfl) (by decide) (by decide) (by decide) d12_44 (pc' := 47) rfl ?_
      intro v_21 h_19 q_20
      obtain ⟨r_23, rfl, ⟨e_24, rfl⟩ | ⟨e_24, rfl⟩, rfl⟩ := q_20
      · show Go B n0 _ h0 0 0 47 #[.val (.ref a1), .val (.ref a2), .val (.ref a2)] [(.int (1 : Int32))]
        refine g_if_n C d12_47 (Jvm.Free.XT.i0_eq_f (by decide)) (pc' := 50) rfl ?_
        refine g_iconst C d12_50 (v := (1 : Int32)) rfl (pc' := 51) rfl ?_
        refine g_goto C d12_51 (pc' := 55) (by decide) (by decide) ?_
        refine g_ret C (eN hN) (v := (.int (1 : Int32))) (ty := .boolean) rfl rfl (Or.inl ⟨rfl, Or.inr (Or.inl rfl), _, rfl⟩) d12_55 (by decide) (by decide) ?_
        exact ⟨_, rfl, Or.inl ⟨e_24, rfl⟩, rfl⟩
      · show Go B n0 _ h0 0 0 47 #[.val (.ref a1), .val (.ref a2), .val (.ref a2)] [(.int (0 : Int32))]
        refine g_if_y C d12_47 (Jvm.Free.XT.i0_eq_t (by decide)) (pc' := 54) (by decide) (by decide) ?_
        refine g_iconst C d12_54 (v := (0 : Int32)) rfl (pc' := 55) rfl ?_
        refine g_ret C (eN hN) (v := (.int (0 : Int32))) (ty := .boolean) rfl rfl (Or.inl ⟨rfl, Or.inr (Or.inl rfl), _, rfl⟩) d12_55 (by decide) (by decide) ?_
        exact ⟨_, rfl, Or.inr ⟨e_24, rfl⟩, rfl⟩
    · show Go B n0 _ h0 0 0 0 #[.val (.ref a1), .val (.ref a2), .unset] []
      refine g_aload_n C d12_0 (v := (.ref a1)) rfl rfl (pc' := 1) rfl ?_
      refine g_aload_n C d12_1 (v := (.ref a2)) rfl rfl (pc' := 2) rfl ?_
      refine g_acmp_y C d12_2 rfl rfl (Jvm.Free.XT.aa_ne_t (fun q => nq (Value.ref.inj q))) (pc' := 7) (by decide) (by decide) ?_
      refine g_aload_n C d12_7 (v := (.ref a2)) rfl rfl (pc' := 8) rfl ?_
      refine g_instanceof_y C (own_w hw 70 rfl) (Ins.self E2) d12_8 (pc' := 11) rfl ?_
      refine g_if_n C d12_11 (Jvm.Free.XT.i0_eq_f (by decide)) (pc' := 14) rfl ?_
      refine g_aload_n C d12_14 (v := (.ref a2)) rfl rfl (pc' := 15) rfl ?_
      refine g_checkcast C (own_w hw 70 rfl) (Ins.self E2) d12_15 (pc' := 18) rfl ?_
      refine g_astore_n C d12_18 (v := (.ref a2)) (L' := #[.val (.ref a1), .val (.ref a2), .val (.ref a2)]) rfl rfl (pc' := 19) rfl ?_
      refine g_getstatic C (host := "") (v := (.int cz)) (Or.inl (own_w hw 18 rfl)) Via.refl (Scz.ext O.2) d12_19 (pc' := 22) rfl ?_
      refine g_if_n C d12_22 (Jvm.Free.XT.i0_eq_f hcz) (pc' := 25) rfl ?_
      refine g_aload_n C d12_25 (v := (.ref a1)) rfl rfl (pc' := 26) rfl ?_
      refine g_getfield C (host := "") (v := (.int (0 : Int32))) (Or.inl (own_w hw 30 rfl)) Via.refl F1 d12_26 (pc' := 29) rfl ?_
      refine g_aload_n C d12_29 (v := (.ref a2)) rfl rfl (pc' := 30) rfl ?_
      refine g_getfield C (host := "") (v := (.int (0 : Int32))) (Or.inl (own_w hw 30 rfl)) Via.refl F2 d12_30 (pc' := 33) rfl ?_
      refine g_icmp_n C d12_33 (Jvm.Free.XT.ii_ne_f (by decide)) (pc' := 36) rfl ?_
      refine g_aload_n C d12_36 (v := (.ref a1)) rfl rfl (pc' := 37) rfl ?_
      refine g_getfield C (host := "") (v := (.ref b1)) (Or.inl (own_w hw 32 rfl)) Via.refl G1 d12_37 (pc' := 40) rfl ?_
      refine g_aload_n C d12_40 (v := (.ref a2)) rfl rfl (pc' := 41) rfl ?_
      refine g_getfield C (host := "") (v := (.ref b2)) (Or.inl (own_w hw 32 rfl)) Via.refl G2 d12_41 (pc' := 44) rfl ?_
      refine g_static C (own_w hw 71 rfl) (own_w hw 72 rfl) (own_w hw 73 rfl) (own_w hw 74 rfl) (by decide) (rm_leq_1_1 l Z a0 hw n0 b1 b2 x0 y0 h0 Z0 A1 A2) (st := []) [(.ref b1), (.ref b2)] rfl rfl own_pd_8_equals rfl rfl (by decide) (W := 0) (Nat.le_of_eq rfl) (by decide) (by decide) (by decide) d12_44 (pc' := 47) rfl ?_
      intro v_27 h_25 q_26
      obtain ⟨r_29, rfl, ⟨e_30, rfl⟩ | ⟨e_30, rfl⟩, rfl⟩ := q_26
      · show Go B n0 _ h0 0 0 47 #[.val (.ref a1), .val (.ref a2), .val (.ref a2)] [(.int (1 : Int32))]
        refine g_if_n C d12_47 (Jvm.Free.XT.i0_eq_f (by decide)) (pc' := 50) rfl ?_
        refine g_iconst C d12_50 (v := (1 : Int32)) rfl (pc' := 51) rfl ?_
        refine g_goto C d12_51 (pc' := 55) (by decide) (by decide) ?_
        refine g_ret C (eN hN) (v := (.int (1 : Int32))) (ty := .boolean) rfl rfl (Or.inl ⟨rfl, Or.inr (Or.inl rfl), _, rfl⟩) d12_55 (by decide) (by decide) ?_
        exact ⟨_, rfl, Or.inl ⟨e_30, rfl⟩, rfl⟩
      · show Go B n0 _ h0 0 0 47 #[.val (.ref a1), .val (.ref a2), .val (.ref a2)] [(.int (0 : Int32))]
        refine g_if_y C d12_47 (Jvm.Free.XT.i0_eq_t (by decide)) (pc' := 54) (by decide) (by decide) ?_
        refine g_iconst C d12_54 (v := (0 : Int32)) rfl (pc' := 55) rfl ?_
        refine g_ret C (eN hN) (v := (.int (0 : Int32))) (ty := .boolean) rfl rfl (Or.inl ⟨rfl, Or.inr (Or.inl rfl), _, rfl⟩) d12_55 (by decide) (by decide) ?_
        exact ⟨_, rfl, Or.inr ⟨e_30, rfl⟩, rfl⟩
    · show Go B n0 _ h0 0 0 0 #[.val (.ref a1), .val (.ref a2), .unset] []
      refine g_aload_n C d12_0 (v := (.ref a1)) rfl rfl (pc' := 1) rfl ?_
      refine g_aload_n C d12_1 (v := (.ref a2)) rfl rfl (pc' := 2) rfl ?_
      refine g_acmp_y C d12_2 rfl rfl (Jvm.Free.XT.aa_ne_t (fun q => nq (Value.ref.inj q))) (pc' := 7) (by decide) (by decide) ?_
      refine g_aload_n C d12_7 (v := (.ref a2)) rfl rfl (pc' := 8) rfl ?_
      refine g_instanceof_y C (own_w hw 70 rfl) (Ins.self E2) d12_8 (pc' := 11) rfl ?_
      refine g_if_n C d12_11 (Jvm.Free.XT.i0_eq_f (by decide)) (pc' := 14) rfl ?_
      refine g_aload_n C d12_14 (v := (.ref a2)) rfl rfl (pc' := 15) rfl ?_
      refine g_checkcast C (own_w hw 70 rfl) (Ins.self E2) d12_15 (pc' := 18) rfl ?_
      refine g_astore_n C d12_18 (v := (.ref a2)) (L' := #[.val (.ref a1), .val (.ref a2), .val (.ref a2)]) rfl rfl (pc' := 19) rfl ?_
      refine g_getstatic C (host := "") (v := (.int cz)) (Or.inl (own_w hw 18 rfl)) Via.refl (Scz.ext O.2) d12_19 (pc' := 22) rfl ?_
      refine g_if_n C d12_22 (Jvm.Free.XT.i0_eq_f hcz) (pc' := 25) rfl ?_
      refine g_aload_n C d12_25 (v := (.ref a1)) rfl rfl (pc' := 26) rfl ?_
      refine g_getfield C (host := "") (v := (.int (0 : Int32))) (Or.inl (own_w hw 30 rfl)) Via.refl F1 d12_26 (pc' := 29) rfl ?_
      refine g_aload_n C d12_29 (v := (.ref a2)) rfl rfl (pc' := 30) rfl ?_
      refine g_getfield C (host := "") (v := (.int (0 : Int32))) (Or.inl (own_w hw 30 rfl)) Via.refl F2 d12_30 (pc' := 33) rfl ?_
      refine g_icmp_n C d12_33 (Jvm.Free.XT.ii_ne_f (by decide)) (pc' := 36) rfl ?_
      refine g_aload_n C d12_36 (v := (.ref a1)) rfl rfl (pc' := 37) rfl ?_
      refine g_getfield C (host := "") (v := (.ref b1)) (Or.inl (own_w hw 32 rfl)) Via.refl G1 d12_37 (pc' := 40) rfl ?_
      refine g_aload_n C d12_40 (v := (.ref a2)) rfl rfl (pc' := 41) rfl ?_
      refine g_getfield C (host := "") (v := (.ref b2)) (Or.inl (own_w hw 32 rfl)) Via.refl G2 d12_41 (pc' := 44) rfl ?_
      refine g_static C (own_w hw 71 rfl) (own_w hw 72 rfl) (own_w hw 73 rfl) (own_w hw 74 rfl) (by decide) (rm_leq_1_2 l Z a0 hw n0 b1 b2 x0 y0 y1 h0 Z0 A1 A2) (st := []) [(.ref b1), (.ref b2)] rfl rfl own_pd_8_equals rfl rfl (by decide) (W := 0) (Nat.le_of_eq rfl) (by decide) (by decide) (by decide) d12_44 (pc' := 47) rfl ?_
      intro v_33 h_31 q_32
      obtain ⟨r_35, rfl, ⟨e_36, rfl⟩ | ⟨e_36, rfl⟩, rfl⟩ := q_32
      · show Go B n0 _ h0 0 0 47 #[.val (.ref a1), .val (.ref a2), .val (.ref a2)] [(.int (1 : Int32))]
        refine g_if_n C d12_47 (Jvm.Free.XT.i0_eq_f (by decide)) (pc' := 50) rfl ?_
        refine g_iconst C d12_50 (v := (1 : Int32)) rfl (pc' := 51) rfl ?_
        refine g_goto C d12_51 (pc' := 55) (by decide) (by decide) ?_
        refine g_ret C (eN hN) (v := (.int (1 : Int32))) (ty := .boolean) rfl rfl (Or.inl ⟨rfl, Or.inr (Or.inl rfl), _, rfl⟩) d12_55 (by decide) (by decide) ?_
        exact ⟨_, rfl, Or.inl ⟨e_36, rfl⟩, rfl⟩
      · show Go B n0 _ h0 0 0 47 #[.val (.ref a1), .val (.ref a2), .val (.ref a2)] [(.int (0 : Int32))]
        refine g_if_y C d12_47 (Jvm.Free.XT.i0_eq_t (by decide)) (pc' := 54) (by decide) (by decide) ?_
        refine g_iconst C d12_54 (v := (0 : Int32)) rfl (pc' := 55) rfl ?_
        refine g_ret C (eN hN) (v := (.int (0 : Int32))) (ty := .boolean) rfl rfl (Or.inl ⟨rfl, Or.inr (Or.inl rfl), _, rfl⟩) d12_55 (by decide) (by decide) ?_
        exact ⟨_, rfl, Or.inr ⟨e_36, rfl⟩, rfl⟩
  · rcases sw with rfl | ⟨y0, rfl⟩ | ⟨y0, y1, rfl⟩
    · show Go B n0 _ h0 0 0 0 #[.val (.ref a1), .val (.ref a2), .unset] []
      refine g_aload_n C d12_0 (v := (.ref a1)) rfl rfl (pc' := 1) rfl ?_
      refine g_aload_n C d12_1 (v := (.ref a2)) rfl rfl (pc' := 2) rfl ?_
      refine g_acmp_y C d12_2 rfl rfl (Jvm.Free.XT.aa_ne_t (fun q => nq (Value.ref.inj q))) (pc' := 7) (by decide) (by decide) ?_
      refine g_aload_n C d12_7 (v := (.ref a2)) rfl rfl (pc' := 8) rfl ?_
      refine g_instanceof_y C (own_w hw 70 rfl) (Ins.self E2) d12_8 (pc' := 11) rfl ?_
      refine g_if_n C d12_11 (Jvm.Free.XT.i0_eq_f (by decide)) (pc' := 14) rfl ?_
      refine g_aload_n C d12_14 (v := (.ref a2)) rfl rfl (pc' := 15) rfl ?_
      refine g_checkcast C (own_w hw 70 rfl) (Ins.self E2) d12_15 (pc' := 18) rfl ?_
      refine g_astore_n C d12_18 (v := (.ref a2)) (L' := #[.val (.ref a1), .val (.ref a2), .val (.ref a2)]) rfl rfl (pc' := 19) rfl ?_
      refine g_getstatic C (host := "") (v := (.int cz)) (Or.inl (own_w hw 18 rfl)) Via.refl (Scz.ext O.2) d12_19 (pc' := 22) rfl ?_
      refine g_if_n C d12_22 (Jvm.Free.XT.i0_eq_f hcz) (pc' := 25) rfl ?_
      refine g_aload_n C d12_25 (v := (.ref a1)) rfl rfl (pc' := 26) rfl ?_
      refine g_getfield C (host := "") (v := (.int (0 : Int32))) (Or.inl (own_w hw 30 rfl)) Via.refl F1 d12_26 (pc' := 29) rfl ?_
      refine g_aload_n C d12_29 (v := (.ref a2)) rfl rfl (pc' := 30) rfl ?_
      refine g_getfield C (host := "") (v := (.int (0 : Int32))) (Or.inl (own_w hw 30 rfl)) Via.refl F2 d12_30 (pc' := 33) rfl ?_
      refine g_icmp_n C d12_33 (Jvm.Free.XT.ii_ne_f (by decide)) (pc' := 36) rfl ?_
      refine g_aload_n C d12_36 (v := (.ref a1)) rfl rfl (pc' := 37) rfl ?_
      refine g_getfield C (host := "") (v := (.ref b1)) (Or.inl (own_w hw 32 rfl)) Via.refl G1 d12_37 (pc' := 40) rfl ?_
      refine g_aload_n C d12_40 (v := (.ref a2)) rfl rfl (pc' := 41) rfl ?_
      refine g_getfield C (host := "") (v := (.ref b2)) (Or.inl (own_w hw 32 rfl)) Via.refl G2 d12_41 (pc' := 44) rfl ?_
      refine g_static C (own_w hw 71 rfl) (own_w hw 72 rfl) (own_w hw 73 rfl) (own_w hw 74 rfl) (by decide) (rm_leq_2_0 l Z a0 hw n0 b1 b2 x0 x1 h0 Z0 A1 A2) (st := []) [(.ref b1), (.ref b2)] rfl rfl own_pd_8_equals rfl rfl (by decide) (W := 0) (Nat.le_of_eq rfl) (by decide) (by decide) (by decide) d12_44 (pc' := 47) rfl ?_
      intro v_39 h_37 q_38
      obtain ⟨r_41, rfl, ⟨e_42, rfl⟩ | ⟨e_42, rfl⟩, rfl⟩ := q_38
      · show Go B n0 _ h0 0 0 47 #[.val (.ref a1), .val (.ref a2), .val (.ref a2)] [(.int (1 : Int32))]
        refine g_if_n C d12_47 (Jvm.Free.XT.i0_eq_f (by decide)) (pc' := 50) rfl ?_
        refine g_iconst C d12_50 (v := (1 : Int32)) rfl (pc' := 51) rfl ?_
        refine g_goto C d12_51 (pc' := 55) (by decide) (by decide) ?_
        refine g_ret C (eN hN) (v := (.int (1 : Int32))) (ty := .boolean) rfl rfl (Or.inl ⟨rfl, Or.inr (Or.inl rfl), _, rfl⟩) d12_55 (by decide) (by decide) ?_
        exact ⟨_, rfl, Or.inl ⟨e_42, rfl⟩, rfl⟩
      · show Go B n0 _ h0 0 0 47 #[.val (.ref a1), .val (.ref a2), .val (.ref a2)] [(.int (0 : Int32))]
        refine g_if_y C d12_47 (Jvm.Free.XT.i0_eq_t (by decide)) (pc' := 54) (by decide) (by decide) ?_
        refine g_iconst C d12_54 (v := (0 : Int32)) rfl (pc' := 55) rfl ?_
        refine g_ret C (eN hN) (v := (.int (0 : Int32))) (ty := .boolean) rfl rfl (Or.inl ⟨rfl, Or.inr (Or.inl rfl), _, rfl⟩) d12_55 (by decide) (by decide) ?_
        exact ⟨_, rfl, Or.inr ⟨e_42, rfl⟩, rfl⟩
    · show Go B n0 _ h0 0 0 0 #[.val (.ref a1), .val (.ref a2), .unset] []
      refine g_aload_n C d12_0 (v := (.ref a1)) rfl rfl (pc' := 1) rfl ?_
      refine g_aload_n C d12_1 (v := (.ref a2)) rfl rfl (pc' := 2) rfl ?_
      refine g_acmp_y C d12_2 rfl rfl (Jvm.Free.XT.aa_ne_t (fun q => nq (Value.ref.inj q))) (pc' := 7) (by decide) (by decide) ?_
      refine g_aload_n C d12_7 (v := (.ref a2)) rfl rfl (pc' := 8) rfl ?_
      refine g_instanceof_y C (own_w hw 70 rfl) (Ins.self E2) d12_8 (pc' := 11) rfl ?_
      refine g_if_n C d12_11 (Jvm.Free.XT.i0_eq_f (by decide)) (pc' := 14) rfl ?_
      refine g_aload_n C d12_14 (v := (.ref a2)) rfl rfl (pc' := 15) rfl ?_
      refine g_checkcast C (own_w hw 70 rfl) (Ins.self E2) d12_15 (pc' := 18) rfl ?_
      refine g_astore_n C d12_18 (v := (.ref a2)) (L' := #[.val (.ref a1), .val (.ref a2), .val (.ref a2)]) rfl rfl (pc' := 19) rfl ?_
      refine g_getstatic C (host := "") (v := (.int cz)) (Or.inl (own_w hw 18 rfl)) Via.refl (Scz.ext O.2) d12_19 (pc' := 22) rfl ?_
      refine g_if_n C d12_22 (Jvm.Free.XT.i0_eq_f hcz) (pc' := 25) rfl ?_
      refine g_aload_n C d12_25 (v := (.ref a1)) rfl rfl (pc' := 26) rfl ?_
      refine g_getfield C (host := "") (v := (.int (0 : Int32))) (Or.inl (own_w hw 30 rfl)) Via.refl F1 d12_26 (pc' := 29) rfl ?_
      refine g_aload_n C d12_29 (v := (.ref a2)) rfl rfl (pc' := 30) rfl ?_
      refine g_getfield C (host := "") (v := (.int (0 : Int32))) (Or.inl (own_w hw 30 rfl)) Via.refl F2 d12_30 (pc' := 33) rfl ?_
      refine g_icmp_n C d12_33 (Jvm.Free.XT.ii_ne_f (by decide)) (pc' := 36) rfl ?_
      refine g_aload_n C d12_36 (v := (.ref a1)) rfl rfl (pc' := 37) rfl ?_
      refine g_getfield C (host := "") (v := (.ref b1)) (Or.inl (own_w hw 32 rfl)) Via.refl G1 d12_37 (pc' := 40) rfl ?_
      refine g_aload_n C d12_40 (v := (.ref a2)) rfl rfl (pc' := 41) rfl ?_
      refine g_getfield C (host := "") (v := (.ref b2)) (Or.inl (own_w hw 32 rfl)) Via.refl G2 d12_41 (pc' := 44) rfl ?_
      refine g_static C (own_w hw 71 rfl) (own_w hw 72 rfl) (own_w hw 73 rfl) (own_w hw 74 rfl) (by decide) (rm_leq_2_1 l Z a0 hw n0 b1 b2 x0 x1 y0 h0 Z0 A1 A2) (st := []) [(.ref b1), (.ref b2)] rfl rfl own_pd_8_equals rfl rfl (by decide) (W := 0) (Nat.le_of_eq rfl) (by decide) (by decide) (by decide) d12_44 (pc' := 47) rfl ?_
      intro v_45 h_43 q_44
      obtain ⟨r_47, rfl, ⟨e_48, rfl⟩ | ⟨e_48, rfl⟩, rfl⟩ := q_44
      · show Go B n0 _ h0 0 0 47 #[.val (.ref a1), .val (.ref a2), .val (.ref a2)] [(.int (1 : Int32))]
        refine g_if_n C d12_47 (Jvm.Free.XT.i0_eq_f (by decide)) (pc' := 50) rfl ?_
        refine g_iconst C d12_50 (v := (1 : Int32)) rfl (pc' := 51) rfl ?_
        refine g_goto C d12_51 (pc' := 55) (by decide) (by decide) ?_
        refine g_ret C (eN hN) (v := (.int (1 : Int32))) (ty := .boolean) rfl rfl (Or.inl ⟨rfl, Or.inr (Or.inl rfl), _, rfl⟩) d12_55 (by decide) (by decide) ?_
        exact ⟨_, rfl, Or.inl ⟨e_48, rfl⟩, rfl⟩
      · show Go B n0 _ h0 0 0 47 #[.val (.ref a1), .val (.ref a2), .val (.ref a2)] [(.int (0 : Int32))]
        refine g_if_y C d12_47 (Jvm.Free.XT.i0_eq_t (by decide)) (pc' := 54) (by decide) (by decide) ?_
        refine g_iconst C d12_54 (v := (0 : Int32)) rfl (pc' := 55) rfl ?_
        refine g_ret C (eN hN) (v := (.int (0 : Int32))) (ty := .boolean) rfl rfl (Or.inl ⟨rfl, Or.inr (Or.inl rfl), _, rfl⟩) d12_55 (by decide) (by decide) ?_
        exact ⟨_, rfl, Or.inr ⟨e_48, rfl⟩, rfl⟩
    · show Go B n0 _ h0 0 0 0 #[.val (.ref a1), .val (.ref a2), .unset] []
      refine g_aload_n C d12_0 (v := (.ref a1)) rfl rfl (pc' := 1) rfl ?_
      refine g_aload_n C d12_1 (v := (.ref a2)) rfl rfl (pc' := 2) rfl ?_
      refine g_acmp_y C d12_2 rfl rfl (Jvm.Free.XT.aa_ne_t (fun q => nq (Value.ref.inj q))) (pc' := 7) (by decide) (by decide) ?_
      refine g_aload_n C d12_7 (v := (.ref a2)) rfl rfl (pc' := 8) rfl ?_
      refine g_instanceof_y C (own_w hw 70 rfl) (Ins.self E2) d12_8 (pc' := 11) rfl ?_
      refine g_if_n C d12_11 (Jvm.Free.XT.i0_eq_f (by decide)) (pc' := 14) rfl ?_
      refine g_aload_n C d12_14 (v := (.ref a2)) rfl rfl (pc' := 15) rfl ?_
      refine g_checkcast C (own_w hw 70 rfl) (Ins.self E2) d12_15 (pc' := 18) rfl ?_
      refine g_astore_n C d12_18 (v := (.ref a2)) (L' := #[.val (.ref a1), .val (.ref a2), .val (.ref a2)]) rfl rfl (pc' := 19) rfl ?_
      refine g_getstatic C (host := "") (v := (.int cz)) (Or.inl (own_w hw 18 rfl)) Via.refl (Scz.ext O.2) d12_19 (pc' := 22) rfl ?_
      refine g_if_n C d12_22 (Jvm.Free.XT.i0_eq_f hcz) (pc' := 25) rfl ?_
      refine g_aload_n C d12_25 (v := (.ref a1)) rfl rfl (pc' := 26) rfl ?_
      refine g_getfield C (host := "") (v := (.int (0 : Int32))) (Or.inl (own_w hw 30 rfl)) Via.refl F1 d12_26 (pc' := 29) rfl ?_
      refine g_aload_n C d12_29 (v := (.ref a2)) rfl rfl (pc' := 30) rfl ?_
      refine g_getfield C (host := "") (v := (.int (0 : Int32))) (Or.inl (own_w hw 30 rfl)) Via.refl F2 d12_30 (pc' := 33) rfl ?_
      refine g_icmp_n C d12_33 (Jvm.Free.XT.ii_ne_f (by decide)) (pc' := 36) rfl ?_
      refine g_aload_n C d12_36 (v := (.ref a1)) rfl rfl (pc' := 37) rfl ?_
      refine g_getfield C (host := "") (v := (.ref b1)) (Or.inl (own_w hw 32 rfl)) Via.refl G1 d12_37 (pc' := 40) rfl ?_
      refine g_aload_n C d12_40 (v := (.ref a2)) rfl rfl (pc' := 41) rfl ?_
      refine g_getfield C (host := "") (v := (.ref b2)) (Or.inl (own_w hw 32 rfl)) Via.refl G2 d12_41 (pc' := 44) rfl ?_
      refine g_static C (own_w hw 71 rfl) (own_w hw 72 rfl) (own_w hw 73 rfl) (own_w hw 74 rfl) (by decide) (rm_leq_2_2 l Z a0 hw n0 b1 b2 x0 x1 y0 y1 h0 Z0 A1 A2) (st := []) [(.ref b1), (.ref b2)] rfl rfl own_pd_8_equals rfl rfl (by decide) (W := 0) (Nat.le_of_eq rfl) (by decide) (by decide) (by decide) d12_44 (pc' := 47) rfl ?_
      intro v_51 h_49 q_50
      obtain ⟨r_53, rfl, ⟨e_54, rfl⟩ | ⟨e_54, rfl⟩, rfl⟩ := q_50
      · show Go B n0 _ h0 0 0 47 #[.val (.ref a1), .val (.ref a2), .val (.ref a2)] [(.int (1 : Int32))]
        refine g_if_n C d12_47 (Jvm.Free.XT.i0_eq_f (by decide)) (pc' := 50) rfl ?_
        refine g_iconst C d12_50 (v := (1 : Int32)) rfl (pc' := 51) rfl ?_
        refine g_goto C d12_51 (pc' := 55) (by decide) (by decide) ?_
        refine g_ret C (eN hN) (v := (.int (1 : Int32))) (ty := .boolean) rfl rfl (Or.inl ⟨rfl, Or.inr (Or.inl rfl), _, rfl⟩) d12_55 (by decide) (by decide) ?_
        exact ⟨_, rfl, Or.inl ⟨e_54, rfl⟩, rfl⟩
      · show Go B n0 _ h0 0 0 47 #[.val (.ref a1), .val (.ref a2), .val (.ref a2)] [(.int (0 : Int32))]
        refine g_if_y C d12_47 (Jvm.Free.XT.i0_eq_t (by decide)) (pc' := 54) (by decide) (by decide) ?_
        refine g_iconst C d12_54 (v := (0 : Int32)) rfl (pc' := 55) rfl ?_
        refine g_ret C (eN hN) (v := (.int (0 : Int32))) (ty := .boolean) rfl rfl (Or.inl ⟨rfl, Or.inr (Or.inl rfl), _, rfl⟩) d12_55 (by decide) (by decide) ?_
        exact ⟨_, rfl, Or.inr ⟨e_54, rfl⟩, rfl⟩
theorem own_notMN {Z : State} {a0 : Array Value} {k : Nat} (w1 : (Jvm.Cond.superclass "java/lang/String" "java/lang/Object").before a0 Z = true) (w3 : (Jvm.Cond.noSuperclass "java/lang/Object").before a0 Z = true) (wi : (Jvm.Cond.instantiable "com/example/chiton/chiton/model/MethodName" k).before a0 Z = true) : ∃ c t, Z.vm.findClass "java/lang/String" = some c ∧ Z.vm.findClass "com/example/chiton/chiton/model/MethodName" = some t ∧ Z.vm.assignable c t = false := by
  obtain ⟨t, kt, g1, g2, g3, g4, -⟩ := Cond.instantiable_spec wi
  have gi : kt.isInterface = false := by simp only [Bool.or_eq_false_iff] at g4; exact g4.1
  have r0 : NS Z "java/lang/Object" "com/example/chiton/chiton/model/MethodName" := by
    obtain ⟨c, k0, h1, h2, h3, -, -⟩ := Cond.noSuperclass_spec w3
    have ne := ids_ne h1 g1 (by decide)
    refine ⟨c, t, h1, g1, fun fuel => ?_⟩
    cases fuel with
    | zero => rfl
    | succ f => simp [Vm.isSubclassAux, ne, h2, h3]
  obtain ⟨c, t', h0, g0, n3⟩ := NS.step w1 r0 (by decide)
  cases g1.symm.trans g0
  obtain ⟨p, k', kp, h1, h2, h3, h4, h5, -, h7⟩ := Cond.superclass_spec h0 w1
  have ne := ids_ne h0 g1 (by decide)
  refine ⟨c, t, h0, g1, ?_⟩
  show Z.vm.assignableAux (255 + 1) c t = false
  simp [Vm.assignableAux, ne, h2, g2, h5, g3, gi, Vm.isSubclass, n3]
theorem d11_0 : decode prog_19_method_4_code 0 = .ok (.aload_n 1, 1) := by decide +kernel
theorem d11_1 : decode prog_19_method_4_code 1 = .ok (.instanceof 18, 3) := by decide +kernel
theorem d11_4 : decode prog_19_method_4_code 4 = .ok (.ifCond .eq 11, 3) := by decide +kernel
theorem d11_15 : decode prog_19_method_4_code 15 = .ok (.iconst 0, 1) := by decide +kernel
theorem d11_16 : decode prog_19_method_4_code 16 = .ok (.ireturn, 1) := by decide +kernel
set_option maxRecDepth 65536 in
set_option maxHeartbeats 40000000 in
theorem rm_mneqN (l : Launch) (Z : State) (a0 : Array Value) (hw : ∀ d ∈ tables_1, d.before a0 Z = true) (n0 : Nat) (a1 : Addr) (h0 : Heap) (Z0 : n0 ≤ h0.size)  :
    Met1 l Z (⟨"com/example/chiton/chiton/model/MethodName", "equals", "(Ljava/lang/Object;)Z"⟩ : MethodName) prog_19_method_4_code 3 (some .boolean) ({ frames := 0, cells := 0, slots := 0, locals := 0 } : Room) n0 #[(.ref a1), .null] h0 (fun v h => v = some (.int (0 : Int32)) ∧ h0 = h) := by
  refine met_of (plainFor_of_name own_pn_com_example_chiton_chiton_model_MethodName) (L0 := #[.val (.ref a1), .val .null, .unset]) (by first | (simp [argsToLocals, Value.category]; done) | rfl) ?_
  intro B C hN
  change Ctx B l _ _ "com/example/chiton/chiton/model/MethodName" "equals" _ _ Z at C
  refine g_aload_n C d11_0 (v := .null) rfl rfl (pc' := 1) rfl ?_
  refine g_instanceof_null C d11_1 (pc' := 4) rfl ?_
  refine g_if_y C d11_4 (Jvm.Free.XT.i0_eq_t (by decide)) (pc' := 15) (by decide) (by decide) ?_
  refine g_iconst C d11_15 (v := (0 : Int32)) rfl (pc' := 16) rfl ?_
  refine g_ret C (eN hN) (v := (.int (0 : Int32))) (ty := .boolean) rfl rfl (Or.inl ⟨rfl, Or.inr (Or.inl rfl), _, rfl⟩) d11_16 (by decide) (by decide) ?_
  exact ⟨rfl, rfl⟩
set_option maxRecDepth 65536 in
set_option maxHeartbeats 40000000 in
theorem rm_mneqT (l : Launch) (Z : State) (a0 : Array Value) (hw : ∀ d ∈ tables_1, d.before a0 Z = true) (n0 : Nat) (a1 a2 : Addr) (h0 : Heap) (Z0 : n0 ≤ h0.size) (E2 : Exa Z h0 a2 "java/lang/String") :
    Met1 l Z (⟨"com/example/chiton/chiton/model/MethodName", "equals", "(Ljava/lang/Object;)Z"⟩ : MethodName) prog_19_method_4_code 3 (some .boolean) ({ frames := 0, cells := 0, slots := 0, locals := 0 } : Room) n0 #[(.ref a1), (.ref a2)] h0 (fun v h => v = some (.int (0 : Int32)) ∧ h0 = h) := by
  refine met_of (plainFor_of_name own_pn_com_example_chiton_chiton_model_MethodName) (L0 := #[.val (.ref a1), .val (.ref a2), .unset]) (by first | (simp [argsToLocals, Value.category]; done) | rfl) ?_
  intro B C hN
  change Ctx B l _ _ "com/example/chiton/chiton/model/MethodName" "equals" _ _ Z at C
  refine g_aload_n C d11_0 (v := (.ref a2)) rfl rfl (pc' := 1) rfl ?_
  refine g_instanceof_n C (own_w hw 63 rfl) E2 (own_notMN (own_w hw 75 rfl) (own_w hw 76 rfl) (own_w hw 35 rfl)) d11_1 (pc' := 4) rfl ?_
  refine g_if_y C d11_4 (Jvm.Free.XT.i0_eq_t (by decide)) (pc' := 15) (by decide) (by decide) ?_
  refine g_iconst C d11_15 (v := (0 : Int32)) rfl (pc' := 16) rfl ?_
  refine g_ret C (eN hN) (v := (.int (0 : Int32))) (ty := .boolean) rfl rfl (Or.inl ⟨rfl, Or.inr (Or.inl rfl), _, rfl⟩) d11_16 (by decide) (by decide) ?_
  exact ⟨rfl, rfl⟩
theorem own_pd_4_equals : parseMethodDescriptor "(Ljava/lang/Object;)Z" = some ⟨[(.object "java/lang/Object")], (some .boolean)⟩ := by decide +kernel
theorem d11_7 : decode prog_19_method_4_code 7 = .ok (.aload_n 1, 1) := by decide +kernel
theorem d11_8 : decode prog_19_method_4_code 8 = .ok (.checkcast 18, 3) := by decide +kernel
theorem d11_11 : decode prog_19_method_4_code 11 = .ok (.astore_n 2, 1) := by decide +kernel
theorem d11_12 : decode prog_19_method_4_code 12 = .ok (.goto 5, 3) := by decide +kernel
theorem d11_17 : decode prog_19_method_4_code 17 = .ok (.aload_n 0, 1) := by decide +kernel
theorem d11_18 : decode prog_19_method_4_code 18 = .ok (.getfield 17, 3) := by decide +kernel
theorem d11_21 : decode prog_19_method_4_code 21 = .ok (.aload_n 2, 1) := by decide +kernel
theorem d11_22 : decode prog_19_method_4_code 22 = .ok (.getfield 17, 3) := by decide +kernel
theorem d11_25 : decode prog_19_method_4_code 25 = .ok (.invokevirtual 28, 3) := by decide +kernel
theorem d11_28 : decode prog_19_method_4_code 28 = .ok (.ifCond .eq 21, 3) := by decide +kernel
theorem d11_31 : decode prog_19_method_4_code 31 = .ok (.aload_n 0, 1) := by decide +kernel
theorem d11_32 : decode prog_19_method_4_code 32 = .ok (.getfield 25, 3) := by decide +kernel
theorem d11_35 : decode prog_19_method_4_code 35 = .ok (.aload_n 2, 1) := by decide +kernel
theorem d11_36 : decode prog_19_method_4_code 36 = .ok (.getfield 25, 3) := by decide +kernel
theorem d11_39 : decode prog_19_method_4_code 39 = .ok (.invokevirtual 28, 3) := by decide +kernel
theorem d11_42 : decode prog_19_method_4_code 42 = .ok (.ifCond .eq 7, 3) := by decide +kernel
theorem d11_45 : decode prog_19_method_4_code 45 = .ok (.iconst 1, 1) := by decide +kernel
theorem d11_46 : decode prog_19_method_4_code 46 = .ok (.goto 4, 3) := by decide +kernel
theorem d11_50 : decode prog_19_method_4_code 50 = .ok (.ireturn, 1) := by decide +kernel
set_option maxRecDepth 65536 in
set_option maxHeartbeats 40000000 in
theorem rm_mneqS (l : Launch) (Z : State) (a0 : Array Value) (hw : ∀ d ∈ tables_1, d.before a0 Z = true) (n0 : Nat) (a1 s1 t1 : Addr) (h0 : Heap) (Z0 : n0 ≤ h0.size) (E1 : Exa Z h0 a1 "com/example/chiton/chiton/model/MethodName") (C1 : Fld Z h0 a1 "com/example/chiton/chiton/model/MethodName" "className" "Ljava/lang/String;" (.ref s1)) (M1 : Fld Z h0 a1 "com/example/chiton/chiton/model/MethodName" "methodName" "Ljava/lang/String;" (.ref t1)) (Q1 : Exa Z h0 s1 "java/lang/String") (R1 : Exa Z h0 t1 "java/lang/String") :
    Met1 l Z (⟨"com/example/chiton/chiton/model/MethodName", "equals", "(Ljava/lang/Object;)Z"⟩ : MethodName) prog_19_method_4_code 3 (some .boolean) ({ frames := 1, cells := 0, slots := 0, locals := 14 } : Room) n0 #[(.ref a1), (.ref a1)] h0 (fun v h => v = some (.int (1 : Int32)) ∧ h0 = h) := by
  refine met_of (plainFor_of_name own_pn_com_example_chiton_chiton_model_MethodName) (L0 := #[.val (.ref a1), .val (.ref a1), .unset]) (by first | (simp [argsToLocals, Value.category]; done) | rfl) ?_
  intro B C hN
  change Ctx B l _ _ "com/example/chiton/chiton/model/MethodName" "equals" _ _ Z at C
  refine g_aload_n C d11_0 (v := (.ref a1)) rfl rfl (pc' := 1) rfl ?_
  refine g_instanceof_y C (own_w hw 63 rfl) (Ins.self E1) d11_1 (pc' := 4) rfl ?_
  refine g_if_n C d11_4 (Jvm.Free.XT.i0_eq_f (by decide)) (pc' := 7) rfl ?_
  refine g_aload_n C d11_7 (v := (.ref a1)) rfl rfl (pc' := 8) rfl ?_
  refine g_checkcast C (own_w hw 63 rfl) (Ins.self E1) d11_8 (pc' := 11) rfl ?_
  refine g_astore_n C d11_11 (v := (.ref a1)) (L' := #[.val (.ref a1), .val (.ref a1), .val (.ref a1)]) rfl rfl (pc' := 12) rfl ?_
  refine g_goto C d11_12 (pc' := 17) (by decide) (by decide) ?_
  refine g_aload_n C d11_17 (v := (.ref a1)) rfl rfl (pc' := 18) rfl ?_
  refine g_getfield C (host := "") (v := (.ref s1)) (Or.inl (own_w hw 50 rfl)) Via.refl C1 d11_18 (pc' := 21) rfl ?_
  refine g_aload_n C d11_21 (v := (.ref a1)) rfl rfl (pc' := 22) rfl ?_
  refine g_getfield C (host := "") (v := (.ref s1)) (Or.inl (own_w hw 50 rfl)) Via.refl C1 d11_22 (pc' := 25) rfl ?_
  refine g_virtual C (own_w hw 65 rfl) (own_w hw 66 rfl) (own_w hw 68 rfl) (own_w hw 67 rfl) (own_w hw 6 rfl) (own_w hw 69 rfl) (notFace_of_selects (args := #[]) (mvT C.2.2.2.2.1 (own_w hw 68 rfl))) (by decide) Q1 (rm_seqS l Z a0 hw n0 s1 h0 Z0 ) (st := []) [(.ref s1)] rfl rfl own_pd_4_equals rfl rfl (by decide) (W := 0) (Nat.le_of_eq rfl) (by decide) (by decide) (by decide) d11_25 (pc' := 28) rfl ?_
  intro v_3 h_1 q_2
  obtain ⟨rfl, rfl⟩ := q_2
  show Go B n0 _ h0 0 0 28 #[.val (.ref a1), .val (.ref a1), .val (.ref a1)] [(.int (1 : Int32))]
  refine g_if_n C d11_28 (Jvm.Free.XT.i0_eq_f (by decide)) (pc' := 31) rfl ?_
  refine g_aload_n C d11_31 (v := (.ref a1)) rfl rfl (pc' := 32) rfl ?_
  refine g_getfield C (host := "") (v := (.ref t1)) (Or.inl (own_w hw 53 rfl)) Via.refl M1 d11_32 (pc' := 35) rfl ?_
  refine g_aload_n C d11_35 (v := (.ref a1)) rfl rfl (pc' := 36) rfl ?_
  refine g_getfield C (host := "") (v := (.ref t1)) (Or.inl (own_w hw 53 rfl)) Via.refl M1 d11_36 (pc' := 39) rfl ?_
  refine g_virtual C (own_w hw 65 rfl) (own_w hw 66 rfl) (own_w hw 68 rfl) (own_w hw 67 rfl) (own_w hw 6 rfl) (own_w hw 69 rfl) (notFace_of_selects (args := #[]) (mvT C.2.2.2.2.1 (own_w hw 68 rfl))) (by decide) R1 (rm_seqS l Z a0 hw n0 t1 h0 Z0 ) (st := []) [(.ref t1)] rfl rfl own_pd_4_equals rfl rfl (by decide) (W := 0) (Nat.le_of_eq rfl) (by decide) (by decide) (by decide) d11_39 (pc' := 42) rfl ?_
  intro v_7 h_5 q_6
  obtain ⟨rfl, rfl⟩ := q_6
  show Go B n0 _ h0 0 0 42 #[.val (.ref a1), .val (.ref a1), .val (.ref a1)] [(.int (1 : Int32))]
  refine g_if_n C d11_42 (Jvm.Free.XT.i0_eq_f (by decide)) (pc' := 45) rfl ?_
  refine g_iconst C d11_45 (v := (1 : Int32)) rfl (pc' := 46) rfl ?_
  refine g_goto C d11_46 (pc' := 50) (by decide) (by decide) ?_
  refine g_ret C (eN hN) (v := (.int (1 : Int32))) (ty := .boolean) rfl rfl (Or.inl ⟨rfl, Or.inr (Or.inl rfl), _, rfl⟩) d11_50 (by decide) (by decide) ?_
  exact ⟨rfl, rfl⟩
theorem d11_49 : decode prog_19_method_4_code 49 = .ok (.iconst 0, 1) := by decide +kernel
set_option maxRecDepth 65536 in
set_option maxHeartbeats 40000000 in
theorem rm_mneqD (l : Launch) (Z : State) (a0 : Array Value) (hw : ∀ d ∈ tables_1, d.before a0 Z = true) (n0 : Nat) (a1 a2 s1 s2 t1 t2 b1 b2 d1 d2 : Addr) (vs ws vt wt : List Value) (h0 : Heap) (Z0 : n0 ≤ h0.size) (cm : Cmp Z) (O : Old Z n0 h0) (E1 : Exa Z h0 a1 "com/example/chiton/chiton/model/MethodName") (C1 : Fld Z h0 a1 "com/example/chiton/chiton/model/MethodName" "className" "Ljava/lang/String;" (.ref s1)) (M1 : Fld Z h0 a1 "com/example/chiton/chiton/model/MethodName" "methodName" "Ljava/lang/String;" (.ref t1)) (E2 : Exa Z h0 a2 "com/example/chiton/chiton/model/MethodName") (C2 : Fld Z h0 a2 "com/example/chiton/chiton/model/MethodName" "className" "Ljava/lang/String;" (.ref s2)) (M2 : Fld Z h0 a2 "com/example/chiton/chiton/model/MethodName" "methodName" "Ljava/lang/String;" (.ref t2)) (Es1 : Exa Z h0 s1 "java/lang/String") (Gs1 : Fld Z h0 s1 "java/lang/String" "value" "[B" (.ref b1)) (Fs1 : Fld Z h0 s1 "java/lang/String" "coder" "B" (.int (0 : Int32))) (As1 : Ary Z h0 b1 .byte vs) (hs1 : Sh vs) (Es2 : Exa Z h0 s2 "java/lang/String") (Gs2 : Fld Z h0 s2 "java/lang/String" "value" "[B" (.ref b2)) (Fs2 : Fld Z h0 s2 "java/lang/String" "coder" "B" (.int (0 : Int32))) (As2 : Ary Z h0 b2 .byte ws) (hs2 : Sh ws) (Et1 : Exa Z h0 t1 "java/lang/String") (Gt1 : Fld Z h0 t1 "java/lang/String" "value" "[B" (.ref d1)) (Ft1 : Fld Z h0 t1 "java/lang/String" "coder" "B" (.int (0 : Int32))) (At1 : Ary Z h0 d1 .byte vt) (ht1 : Sh vt) (Et2 : Exa Z h0 t2 "java/lang/String") (Gt2 : Fld Z h0 t2 "java/lang/String" "value" "[B" (.ref d2)) (Ft2 : Fld Z h0 t2 "java/lang/String" "coder" "B" (.int (0 : Int32))) (At2 : Ary Z h0 d2 .byte wt) (ht2 : Sh wt) (ns : s1 ≠ s2) (nt : t1 ≠ t2) :
    Met1 l Z (⟨"com/example/chiton/chiton/model/MethodName", "equals", "(Ljava/lang/Object;)Z"⟩ : MethodName) prog_19_method_4_code 3 (some .boolean) ({ frames := 2, cells := 0, slots := 0, locals := 28 } : Room) n0 #[(.ref a1), (.ref a2)] h0 (fun v h => ∃ r : Int32, v = some (.int r) ∧ ((vs = ws ∧ vt = wt) ∧ r = (1 : Int32) ∨ ¬ (vs = ws ∧ vt = wt) ∧ r = (0 : Int32)) ∧ h0 = h) := by
  refine met_of (plainFor_of_name own_pn_com_example_chiton_chiton_model_MethodName) (L0 := #[.val (.ref a1), .val (.ref a2), .unset]) (by first | (simp [argsToLocals, Value.category]; done) | rfl) ?_
  intro B C hN
  change Ctx B l _ _ "com/example/chiton/chiton/model/MethodName" "equals" _ _ Z at C
  have cm' := cm
  obtain ⟨cz, Scz, hcz⟩ := cm'
  refine g_aload_n C d11_0 (v := (.ref a2)) rfl rfl (pc' := 1) rfl ?_
  refine g_instanceof_y C (own_w hw 63 rfl) (Ins.self E2) d11_1 (pc' := 4) rfl ?_
  refine g_if_n C d11_4 (Jvm.Free.XT.i0_eq_f (by decide)) (pc' := 7) rfl ?_
  refine g_aload_n C d11_7 (v := (.ref a2)) rfl rfl (pc' := 8) rfl ?_
  refine g_checkcast C (own_w hw 63 rfl) (Ins.self E2) d11_8 (pc' := 11) rfl ?_
  refine g_astore_n C d11_11 (v := (.ref a2)) (L' := #[.val (.ref a1), .val (.ref a2), .val (.ref a2)]) rfl rfl (pc' := 12) rfl ?_
  refine g_goto C d11_12 (pc' := 17) (by decide) (by decide) ?_
  refine g_aload_n C d11_17 (v := (.ref a1)) rfl rfl (pc' := 18) rfl ?_
  refine g_getfield C (host := "") (v := (.ref s1)) (Or.inl (own_w hw 50 rfl)) Via.refl C1 d11_18 (pc' := 21) rfl ?_
  refine g_aload_n C d11_21 (v := (.ref a2)) rfl rfl (pc' := 22) rfl ?_
  refine g_getfield C (host := "") (v := (.ref s2)) (Or.inl (own_w hw 50 rfl)) Via.refl C2 d11_22 (pc' := 25) rfl ?_
  refine g_virtual C (own_w hw 65 rfl) (own_w hw 66 rfl) (own_w hw 68 rfl) (own_w hw 67 rfl) (own_w hw 6 rfl) (own_w hw 69 rfl) (notFace_of_selects (args := #[]) (mvT C.2.2.2.2.1 (own_w hw 68 rfl))) (by decide) Es1 (rm_seq l Z a0 hw n0 s1 s2 b1 b2 vs ws h0 Z0 cm O Es1 Gs1 Fs1 As1 Es2 Gs2 Fs2 As2 ns hs1 hs2) (st := []) [(.ref s2)] rfl rfl own_pd_4_equals rfl rfl (by decide) (W := 0) (Nat.le_of_eq rfl) (by decide) (by decide) (by decide) d11_25 (pc' := 28) rfl ?_
  intro v_3 h_1 q_2
  obtain ⟨r_5, rfl, ⟨e_6, rfl⟩ | ⟨e_6, rfl⟩, rfl⟩ := q_2
  · show Go B n0 _ h0 0 0 28 #[.val (.ref a1), .val (.ref a2), .val (.ref a2)] [(.int (1 : Int32))]
    refine g_if_n C d11_28 (Jvm.Free.XT.i0_eq_f (by decide)) (pc' := 31) rfl ?_
    refine g_aload_n C d11_31 (v := (.ref a1)) rfl rfl (pc' := 32) rfl ?_
    refine g_getfield C (host := "") (v := (.ref t1)) (Or.inl (own_w hw 53 rfl)) Via.refl M1 d11_32 (pc' := 35) rfl ?_
    refine g_aload_n C d11_35 (v := (.ref a2)) rfl rfl (pc' := 36) rfl ?_
    refine g_getfield C (host := "") (v := (.ref t2)) (Or.inl (own_w hw 53 rfl)) Via.refl M2 d11_36 (pc' := 39) rfl ?_
    refine g_virtual C (own_w hw 65 rfl) (own_w hw 66 rfl) (own_w hw 68 rfl) (own_w hw 67 rfl) (own_w hw 6 rfl) (own_w hw 69 rfl) (notFace_of_selects (args := #[]) (mvT C.2.2.2.2.1 (own_w hw 68 rfl))) (by decide) Et1 (rm_seq l Z a0 hw n0 t1 t2 d1 d2 vt wt h0 Z0 cm O Et1 Gt1 Ft1 At1 Et2 Gt2 Ft2 At2 nt ht1 ht2) (st := []) [(.ref t2)] rfl rfl own_pd_4_equals rfl rfl (by decide) (W := 0) (Nat.le_of_eq rfl) (by decide) (by decide) (by decide) d11_39 (pc' := 42) rfl ?_
    intro v_9 h_7 q_8
    obtain ⟨r_11, rfl, ⟨e_12, rfl⟩ | ⟨e_12, rfl⟩, rfl⟩ := q_8
    · show Go B n0 _ h0 0 0 42 #[.val (.ref a1), .val (.ref a2), .val (.ref a2)] [(.int (1 : Int32))]
      refine g_if_n C d11_42 (Jvm.Free.XT.i0_eq_f (by decide)) (pc' := 45) rfl ?_
      refine g_iconst C d11_45 (v := (1 : Int32)) rfl (pc' := 46) rfl ?_
      refine g_goto C d11_46 (pc' := 50) (by decide) (by decide) ?_
      refine g_ret C (eN hN) (v := (.int (1 : Int32))) (ty := .boolean) rfl rfl (Or.inl ⟨rfl, Or.inr (Or.inl rfl), _, rfl⟩) d11_50 (by decide) (by decide) ?_
      exact ⟨_, rfl, Or.inl ⟨⟨e_6, e_12⟩, rfl⟩, rfl⟩
    · show Go B n0 _ h0 0 0 42 #[.val (.ref a1), .val (.ref a2), .val (.ref a2)] [(.int (0 : Int32))]
      refine g_if_y C d11_42 (Jvm.Free.XT.i0_eq_t (by decide)) (pc' := 49) (by decide) (by decide) ?_
      refine g_iconst C d11_49 (v := (0 : Int32)) rfl (pc' := 50) rfl ?_
      refine g_ret C (eN hN) (v := (.int (0 : Int32))) (ty := .boolean) rfl rfl (Or.inl ⟨rfl, Or.inr (Or.inl rfl), _, rfl⟩) d11_50 (by decide) (by decide) ?_
      exact ⟨_, rfl, Or.inr ⟨(fun z => e_12 z.2), rfl⟩, rfl⟩
  · show Go B n0 _ h0 0 0 28 #[.val (.ref a1), .val (.ref a2), .val (.ref a2)] [(.int (0 : Int32))]
    refine g_if_y C d11_28 (Jvm.Free.XT.i0_eq_t (by decide)) (pc' := 49) (by decide) (by decide) ?_
    refine g_iconst C d11_49 (v := (0 : Int32)) rfl (pc' := 50) rfl ?_
    refine g_ret C (eN hN) (v := (.int (0 : Int32))) (ty := .boolean) rfl rfl (Or.inl ⟨rfl, Or.inr (Or.inl rfl), _, rfl⟩) d11_50 (by decide) (by decide) ?_
    exact ⟨_, rfl, Or.inr ⟨(fun z => e_6 z.1), rfl⟩, rfl⟩
theorem d10_0 : decode method_3_code 0 = .ok (.iload_n 0, 1) := by decide +kernel
theorem d10_1 : decode method_3_code 1 = .ok (.iload_n 3, 1) := by decide +kernel
theorem d10_2 : decode method_3_code 2 = .ok (.if_icmp .eq 5, 3) := by decide +kernel
theorem d10_5 : decode method_3_code 5 = .ok (.iconst 0, 1) := by decide +kernel
theorem d10_6 : decode method_3_code 6 = .ok (.ireturn, 1) := by decide +kernel
theorem d10_7 : decode method_3_code 7 = .ok (.iload_n 0, 1) := by decide +kernel
theorem d10_8 : decode method_3_code 8 = .ok (.iconst 1, 1) := by decide +kernel
theorem d10_9 : decode method_3_code 9 = .ok (.if_icmp .lt 11, 3) := by decide +kernel
theorem d10_12 : decode method_3_code 12 = .ok (.iload_n 1, 1) := by decide +kernel
theorem d10_13 : decode method_3_code 13 = .ok (.iload 4, 2) := by decide +kernel
theorem d10_15 : decode method_3_code 15 = .ok (.if_icmp .eq 5, 3) := by decide +kernel
theorem d10_18 : decode method_3_code 18 = .ok (.iconst 0, 1) := by decide +kernel
theorem d10_19 : decode method_3_code 19 = .ok (.ireturn, 1) := by decide +kernel
theorem d10_20 : decode method_3_code 20 = .ok (.iload_n 0, 1) := by decide +kernel
theorem d10_21 : decode method_3_code 21 = .ok (.iconst 2, 1) := by decide +kernel
theorem d10_22 : decode method_3_code 22 = .ok (.if_icmp .lt 11, 3) := by decide +kernel
theorem d10_25 : decode method_3_code 25 = .ok (.iload_n 2, 1) := by decide +kernel
theorem d10_26 : decode method_3_code 26 = .ok (.iload 5, 2) := by decide +kernel
theorem d10_28 : decode method_3_code 28 = .ok (.if_icmp .eq 5, 3) := by decide +kernel
theorem d10_31 : decode method_3_code 31 = .ok (.iconst 0, 1) := by decide +kernel
theorem d10_32 : decode method_3_code 32 = .ok (.ireturn, 1) := by decide +kernel
theorem d10_33 : decode method_3_code 33 = .ok (.iconst 1, 1) := by decide +kernel
theorem d10_34 : decode method_3_code 34 = .ok (.ireturn, 1) := by decide +kernel
set_option maxRecDepth 65536 in
set_option maxHeartbeats 40000000 in
theorem rm_same (l : Launch) (Z : State) (a0 : Array Value) (hw : ∀ d ∈ tables_1, d.before a0 Z = true) (n0 : Nat) (nn c1 c2 mm d1 d2 : Int32) (h0 : Heap) (Z0 : n0 ≤ h0.size) (rn : (nn = (0 : Int32) ∨ nn = (1 : Int32) ∨ nn = (2 : Int32))) (rm : (mm = (0 : Int32) ∨ mm = (1 : Int32) ∨ mm = (2 : Int32))) (k1 : Ch c1) (k2 : Ch c2) (j1 : Ch d1) (j2 : Ch d2) :
    Met1 l Z (⟨"com/example/chiton/chiton/model/MethodNameEqualsPinLaw", "same", "(IIIIII)Z"⟩ : MethodName) method_3_code 6 (some .boolean) ({ frames := 0, cells := 0, slots := 0, locals := 0 } : Room) n0 #[(.int nn), (.int c1), (.int c2), (.int mm), (.int d1), (.int d2)] h0 (fun v h => ∃ r : Int32, v = some (.int r) ∧ ((own_str nn c1 c2 = own_str mm d1 d2) ∧ r = (1 : Int32) ∨ ¬ (own_str nn c1 c2 = own_str mm d1 d2) ∧ r = (0 : Int32)) ∧ h0 = h) := by
  refine met_of (plainFor_of_name own_pn_com_example_chiton_chiton_model_MethodNameEqualsPinLaw) (L0 := #[.val (.int nn), .val (.int c1), .val (.int c2), .val (.int mm), .val (.int d1), .val (.int d2)]) (by first | (simp [argsToLocals, Value.category]; done) | rfl) ?_
  intro B C hN
  change Ctx B l _ _ "com/example/chiton/chiton/model/MethodNameEqualsPinLaw" "same" _ _ Z at C
  refine g_iload_n C d10_0 (v := nn) rfl (pc' := 1) rfl ?_
  refine g_iload_n C d10_1 (v := mm) rfl (pc' := 2) rfl ?_
  by_cases hb_1 : nn = mm
  · refine g_icmp_y C d10_2 (Jvm.Free.XT.ii_eq_t hb_1) (pc' := 7) (by decide) (by decide) ?_
    refine g_iload_n C d10_7 (v := nn) rfl (pc' := 8) rfl ?_
    refine g_iconst C d10_8 (v := (1 : Int32)) rfl (pc' := 9) rfl ?_
    by_cases hb_2 : nn < (1 : Int32)
    · refine g_icmp_y C d10_9 (Jvm.Free.XT.ii_lt_t hb_2) (pc' := 20) (by decide) (by decide) ?_
      refine g_iload_n C d10_20 (v := nn) rfl (pc' := 21) rfl ?_
      refine g_iconst C d10_21 (v := (2 : Int32)) rfl (pc' := 22) rfl ?_
      by_cases hb_3 : nn < (2 : Int32)
      · refine g_icmp_y C d10_22 (Jvm.Free.XT.ii_lt_t hb_3) (pc' := 33) (by decide) (by decide) ?_
        refine g_iconst C d10_33 (v := (1 : Int32)) rfl (pc' := 34) rfl ?_
        refine g_ret C (eN hN) (v := (.int (1 : Int32))) (ty := .boolean) rfl rfl (Or.inl ⟨rfl, Or.inr (Or.inl rfl), _, rfl⟩) d10_34 (by decide) (by decide) ?_
        exact ⟨_, rfl, Or.inl ⟨(by rcases rn with rfl | rfl | rfl <;> rcases rm with rfl | rfl | rfl <;> simp_all [own_str, own_byinj k1 j1, own_byinj k2 j2]), rfl⟩, rfl⟩
      · refine g_icmp_n C d10_22 (Jvm.Free.XT.ii_lt_f hb_3) (pc' := 25) rfl ?_
        refine g_iload_n C d10_25 (v := c2) rfl (pc' := 26) rfl ?_
        refine g_iload C d10_26 (v := d2) rfl (pc' := 28) rfl ?_
        by_cases hb_4 : c2 = d2
        · refine g_icmp_y C d10_28 (Jvm.Free.XT.ii_eq_t hb_4) (pc' := 33) (by decide) (by decide) ?_
          refine g_iconst C d10_33 (v := (1 : Int32)) rfl (pc' := 34) rfl ?_
          refine g_ret C (eN hN) (v := (.int (1 : Int32))) (ty := .boolean) rfl rfl (Or.inl ⟨rfl, Or.inr (Or.inl rfl), _, rfl⟩) d10_34 (by decide) (by decide) ?_
          exact ⟨_, rfl, Or.inl ⟨(by rcases rn with rfl | rfl | rfl <;> rcases rm with rfl | rfl | rfl <;> simp_all [own_str, own_byinj k1 j1, own_byinj k2 j2]), rfl⟩, rfl⟩
        · refine g_icmp_n C d10_28 (Jvm.Free.XT.ii_eq_f hb_4) (pc' := 31) rfl ?_
          refine g_iconst C d10_31 (v := (0 : Int32)) rfl (pc' := 32) rfl ?_
          refine g_ret C (eN hN) (v := (.int (0 : Int32))) (ty := .boolean) rfl rfl (Or.inl ⟨rfl, Or.inr (Or.inl rfl), _, rfl⟩) d10_32 (by decide) (by decide) ?_
          exact ⟨_, rfl, Or.inr ⟨(by rcases rn with rfl | rfl | rfl <;> rcases rm with rfl | rfl | rfl <;> simp_all [own_str, own_byinj k1 j1, own_byinj k2 j2]), rfl⟩, rfl⟩
    · refine g_icmp_n C d10_9 (Jvm.Free.XT.ii_lt_f hb_2) (pc' := 12) rfl ?_
      refine g_iload_n C d10_12 (v := c1) rfl (pc' := 13) rfl ?_
      refine g_iload C d10_13 (v := d1) rfl (pc' := 15) rfl ?_
      by_cases hb_5 : c1 = d1
      · refine g_icmp_y C d10_15 (Jvm.Free.XT.ii_eq_t hb_5) (pc' := 20) (by decide) (by decide) ?_
        refine g_iload_n C d10_20 (v := nn) rfl (pc' := 21) rfl ?_
        refine g_iconst C d10_21 (v := (2 : Int32)) rfl (pc' := 22) rfl ?_
        by_cases hb_6 : nn < (2 : Int32)
        · refine g_icmp_y C d10_22 (Jvm.Free.XT.ii_lt_t hb_6) (pc' := 33) (by decide) (by decide) ?_
          refine g_iconst C d10_33 (v := (1 : Int32)) rfl (pc' := 34) rfl ?_
          refine g_ret C (eN hN) (v := (.int (1 : Int32))) (ty := .boolean) rfl rfl (Or.inl ⟨rfl, Or.inr (Or.inl rfl), _, rfl⟩) d10_34 (by decide) (by decide) ?_
          exact ⟨_, rfl, Or.inl ⟨(by rcases rn with rfl | rfl | rfl <;> rcases rm with rfl | rfl | rfl <;> simp_all [own_str, own_byinj k1 j1, own_byinj k2 j2]), rfl⟩, rfl⟩
        · refine g_icmp_n C d10_22 (Jvm.Free.XT.ii_lt_f hb_6) (pc' := 25) rfl ?_
          refine g_iload_n C d10_25 (v := c2) rfl (pc' := 26) rfl ?_
          refine g_iload C d10_26 (v := d2) rfl (pc' := 28) rfl ?_
          by_cases hb_7 : c2 = d2
          · refine g_icmp_y C d10_28 (Jvm.Free.XT.ii_eq_t hb_7) (pc' := 33) (by decide) (by decide) ?_
            refine g_iconst C d10_33 (v := (1 : Int32)) rfl (pc' := 34) rfl ?_
            refine g_ret C (eN hN) (v := (.int (1 : Int32))) (ty := .boolean) rfl rfl (Or.inl ⟨rfl, Or.inr (Or.inl rfl), _, rfl⟩) d10_34 (by decide) (by decide) ?_
            exact ⟨_, rfl, Or.inl ⟨(by rcases rn with rfl | rfl | rfl <;> rcases rm with rfl | rfl | rfl <;> simp_all [own_str, own_byinj k1 j1, own_byinj k2 j2]), rfl⟩, rfl⟩
          · refine g_icmp_n C d10_28 (Jvm.Free.XT.ii_eq_f hb_7) (pc' := 31) rfl ?_
            refine g_iconst C d10_31 (v := (0 : Int32)) rfl (pc' := 32) rfl ?_
            refine g_ret C (eN hN) (v := (.int (0 : Int32))) (ty := .boolean) rfl rfl (Or.inl ⟨rfl, Or.inr (Or.inl rfl), _, rfl⟩) d10_32 (by decide) (by decide) ?_
            exact ⟨_, rfl, Or.inr ⟨(by rcases rn with rfl | rfl | rfl <;> rcases rm with rfl | rfl | rfl <;> simp_all [own_str, own_byinj k1 j1, own_byinj k2 j2]), rfl⟩, rfl⟩
      · refine g_icmp_n C d10_15 (Jvm.Free.XT.ii_eq_f hb_5) (pc' := 18) rfl ?_
        refine g_iconst C d10_18 (v := (0 : Int32)) rfl (pc' := 19) rfl ?_
        refine g_ret C (eN hN) (v := (.int (0 : Int32))) (ty := .boolean) rfl rfl (Or.inl ⟨rfl, Or.inr (Or.inl rfl), _, rfl⟩) d10_19 (by decide) (by decide) ?_
        exact ⟨_, rfl, Or.inr ⟨(by rcases rn with rfl | rfl | rfl <;> rcases rm with rfl | rfl | rfl <;> simp_all [own_str, own_byinj k1 j1, own_byinj k2 j2]), rfl⟩, rfl⟩
  · refine g_icmp_n C d10_2 (Jvm.Free.XT.ii_eq_f hb_1) (pc' := 5) rfl ?_
    refine g_iconst C d10_5 (v := (0 : Int32)) rfl (pc' := 6) rfl ?_
    refine g_ret C (eN hN) (v := (.int (0 : Int32))) (ty := .boolean) rfl rfl (Or.inl ⟨rfl, Or.inr (Or.inl rfl), _, rfl⟩) d10_6 (by decide) (by decide) ?_
    exact ⟨_, rfl, Or.inr ⟨(by rcases rn with rfl | rfl | rfl <;> rcases rm with rfl | rfl | rfl <;> simp_all [own_str, own_byinj k1 j1, own_byinj k2 j2]), rfl⟩, rfl⟩
theorem own_neA {Z : State} {a0 : Array Value} {h : Heap} {x b : Addr} {C0 : String} {ty : FieldType} {vs : List Value} {nn : Nat} (E : Exa Z h x C0) (A : Ary Z h b ty vs) (w : (Jvm.Cond.instantiable C0 nn).before a0 Z = true) : b ≠ x := fun e => by
  subst e
  obtain ⟨c1, k1, e1, f1, g1, -⟩ := E
  obtain ⟨c2, ⟨e2, hA, -⟩, -⟩ := A
  cases e1.symm.trans e2
  obtain ⟨t, kt, q1, q2, q3, -⟩ := Cond.instantiable_spec w
  cases f1.symm.trans q1
  obtain ⟨-, kk, hk, comp, hkind⟩ := hA
  cases q2.symm.trans hk
  rw [hkind] at q3; cases q3
theorem own_pd_1_str : parseMethodDescriptor "(III)Ljava/lang/String;" = some ⟨[.int, .int, .int], (some (.object "java/lang/String"))⟩ := by decide +kernel
theorem own_pd_6_init : parseMethodDescriptor "(Ljava/lang/String;Ljava/lang/String;)V" = some ⟨[(.object "java/lang/String"), (.object "java/lang/String")], none⟩ := by decide +kernel
theorem own_split4 (i : Int32) (h0 : 0 ≤ i.toInt) (h1 : i.toInt < 4) : i = (0 : Int32) ∨ i = (1 : Int32) ∨ i = (2 : Int32) ∨ i = (3 : Int32) := by
  simp only [← Int32.toInt_inj, Int32.reduceToInt]; omega
theorem own_pd_3_same : parseMethodDescriptor "(IIIIII)Z" = some ⟨[.int, .int, .int, .int, .int, .int], (some .boolean)⟩ := by decide +kernel
set_option maxRecDepth 65536 in
set_option maxHeartbeats 40000000 in
theorem rm_law (l : Launch) (Z : State) (a0 : Array Value) (hw : ∀ d ∈ tables_1, d.before a0 Z = true) (n0 : Nat) (p0 p1 p2 p3 : Int32) (h0 : Heap) (Z0 : n0 ≤ h0.size) (cm : Cmp Z) (O : Old Z n0 h0) (ch0 : Jvm.Lit.constHeld Z "java/lang/String" 7) (ch1 : Jvm.Lit.constHeld Z "com/example/chiton/chiton/model/MethodName" 7) (ch2 : Jvm.Lit.constHeld Z "com/example/chiton/chiton/model/MethodName" 23) (cw : Jvm.Lit.compactW.before a0 Z = true) :
    Met1V l Z x code maxLocals ret room_1 n0 #[(.int p0), (.int p1), (.int p2), (.int p3)] h0 (fun vm => InvK own_K Z vm h0) (fun _ _ => True) (fun v h => v = some (.int 1)) := by
  refine met_ofV (plainFor_of_name own_pn_com_example_chiton_chiton_model_MethodNameEqualsPinLaw) (L0 := #[.val (.int p0), .val (.int p1), .val (.int p2), .val (.int p3), .unset, .unset, .unset, .unset, .unset, .unset, .unset, .unset, .unset, .unset, .unset, .unset, .unset, .unset, .unset, .unset, .unset]) (by first | (simp [argsToLocals, Value.category, maxLocals]; done) | rfl) ?_
  intro B C hW hP
  change Ctx B l room_1 code "com/example/chiton/chiton/model/MethodNameEqualsPinLaw" "law" 21 (some .boolean) Z at C
  have cm' := cm
  obtain ⟨cz, Scz, hcz⟩ := cm'
  have I0 : InvK own_K Z B.s.vm h0 := hP
  refine g_iload_n C at_0 (v := p0) rfl (pc' := 1) rfl ?_
  refine g_sipush C at_1 (v := (255 : Int32)) rfl (pc' := 4) rfl ?_
  refine g_iand C (x := p0) (y := (255 : Int32)) at_4  (pc' := 5) rfl ?_
  obtain ⟨ca, eca⟩ : ∃ z : Int32, z = (p0 &&& (255 : Int32)) := ⟨_, rfl⟩
  rw [← eca]
  have kca : Ch ca := by rw [eca]; exact own_chM _
  refine g_istore C at_5 (v := ca) (L' := #[.val (.int p0), .val (.int p1), .val (.int p2), .val (.int p3), .val (.int ca), .unset, .unset, .unset, .unset, .unset, .unset, .unset, .unset, .unset, .unset, .unset, .unset, .unset, .unset, .unset, .unset]) rfl (pc' := 7) rfl ?_
  refine g_iload_n C at_7 (v := p0) rfl (pc' := 8) rfl ?_
  refine g_bipush C at_8 (v := (8 : Int32)) rfl (pc' := 10) rfl ?_
  refine g_iushr C (x := p0) (y := (8 : Int32)) at_10  (pc' := 11) rfl ?_
  refine g_sipush C at_11 (v := (255 : Int32)) rfl (pc' := 14) rfl ?_
  refine g_iand C (x := (Jvm.Free.XT.ushr p0 (8 : Int32))) (y := (255 : Int32)) at_14  (pc' := 15) rfl ?_
  obtain ⟨cb, ecb⟩ : ∃ z : Int32, z = ((Jvm.Free.XT.ushr p0 (8 : Int32)) &&& (255 : Int32)) := ⟨_, rfl⟩
  rw [← ecb]
  have kcb : Ch cb := by rw [ecb]; exact own_chM _
  refine g_istore C at_15 (v := cb) (L' := #[.val (.int p0), .val (.int p1), .val (.int p2), .val (.int p3), .val (.int ca), .val (.int cb), .unset, .unset, .unset, .unset, .unset, .unset, .unset, .unset, .unset, .unset, .unset, .unset, .unset, .unset, .unset]) rfl (pc' := 17) rfl ?_
  refine g_iload_n C at_17 (v := p0) rfl (pc' := 18) rfl ?_
  refine g_bipush C at_18 (v := (16 : Int32)) rfl (pc' := 20) rfl ?_
  refine g_iushr C (x := p0) (y := (16 : Int32)) at_20  (pc' := 21) rfl ?_
  refine g_sipush C at_21 (v := (255 : Int32)) rfl (pc' := 24) rfl ?_
  refine g_iand C (x := (Jvm.Free.XT.ushr p0 (16 : Int32))) (y := (255 : Int32)) at_24  (pc' := 25) rfl ?_
  obtain ⟨cc, ecc⟩ : ∃ z : Int32, z = ((Jvm.Free.XT.ushr p0 (16 : Int32)) &&& (255 : Int32)) := ⟨_, rfl⟩
  rw [← ecc]
  have kcc : Ch cc := by rw [ecc]; exact own_chM _
  refine g_istore C at_25 (v := cc) (L' := #[.val (.int p0), .val (.int p1), .val (.int p2), .val (.int p3), .val (.int ca), .val (.int cb), .val (.int cc), .unset, .unset, .unset, .unset, .unset, .unset, .unset, .unset, .unset, .unset, .unset, .unset, .unset, .unset]) rfl (pc' := 27) rfl ?_
  refine g_iload_n C at_27 (v := p0) rfl (pc' := 28) rfl ?_
  refine g_bipush C at_28 (v := (24 : Int32)) rfl (pc' := 30) rfl ?_
  refine g_iushr C (x := p0) (y := (24 : Int32)) at_30  (pc' := 31) rfl ?_
  refine g_sipush C at_31 (v := (255 : Int32)) rfl (pc' := 34) rfl ?_
  refine g_iand C (x := (Jvm.Free.XT.ushr p0 (24 : Int32))) (y := (255 : Int32)) at_34  (pc' := 35) rfl ?_
  obtain ⟨cd, ecd⟩ : ∃ z : Int32, z = ((Jvm.Free.XT.ushr p0 (24 : Int32)) &&& (255 : Int32)) := ⟨_, rfl⟩
  rw [← ecd]
  have kcd : Ch cd := by rw [ecd]; exact own_chM _
  refine g_istore C at_35 (v := cd) (L' := #[.val (.int p0), .val (.int p1), .val (.int p2), .val (.int p3), .val (.int ca), .val (.int cb), .val (.int cc), .val (.int cd), .unset, .unset, .unset, .unset, .unset, .unset, .unset, .unset, .unset, .unset, .unset, .unset, .unset]) rfl (pc' := 37) rfl ?_
  refine g_iload_n C at_37 (v := p2) rfl (pc' := 38) rfl ?_
  refine g_iconst C at_38 (v := (3 : Int32)) rfl (pc' := 39) rfl ?_
  refine g_iand C (x := p2) (y := (3 : Int32)) at_39  (pc' := 40) rfl ?_
  refine g_iconst C at_40 (v := (3 : Int32)) rfl (pc' := 41) rfl ?_
  refine g_irem C (x := (p2 &&& (3 : Int32))) (y := (3 : Int32)) at_41 (by decide) (pc' := 42) rfl ?_
  obtain ⟨la, ela⟩ : ∃ z : Int32, z = ((p2 &&& (3 : Int32)) - ((p2 &&& (3 : Int32)) / (3 : Int32)) * (3 : Int32)) := ⟨_, rfl⟩
  rw [← ela]
  have rla := own_r3 _ ela
  refine g_istore C at_42 (v := la) (L' := #[.val (.int p0), .val (.int p1), .val (.int p2), .val (.int p3), .val (.int ca), .val (.int cb), .val (.int cc), .val (.int cd), .val (.int la), .unset, .unset, .unset, .unset, .unset, .unset, .unset, .unset, .unset, .unset, .unset, .unset]) rfl (pc' := 44) rfl ?_
  refine g_iload_n C at_44 (v := p2) rfl (pc' := 45) rfl ?_
  refine g_iconst C at_45 (v := (2 : Int32)) rfl (pc' := 46) rfl ?_
  refine g_iushr C (x := p2) (y := (2 : Int32)) at_46  (pc' := 47) rfl ?_
  refine g_iconst C at_47 (v := (3 : Int32)) rfl (pc' := 48) rfl ?_
  refine g_iand C (x := (Jvm.Free.XT.ushr p2 (2 : Int32))) (y := (3 : Int32)) at_48  (pc' := 49) rfl ?_
  refine g_iconst C at_49 (v := (3 : Int32)) rfl (pc' := 50) rfl ?_
  refine g_irem C (x := ((Jvm.Free.XT.ushr p2 (2 : Int32)) &&& (3 : Int32))) (y := (3 : Int32)) at_50 (by decide) (pc' := 51) rfl ?_
  obtain ⟨lb, elb⟩ : ∃ z : Int32, z = (((Jvm.Free.XT.ushr p2 (2 : Int32)) &&& (3 : Int32)) - (((Jvm.Free.XT.ushr p2 (2 : Int32)) &&& (3 : Int32)) / (3 : Int32)) * (3 : Int32)) := ⟨_, rfl⟩
  rw [← elb]
  have rlb := own_r3 _ elb
  refine g_istore C at_51 (v := lb) (L' := #[.val (.int p0), .val (.int p1), .val (.int p2), .val (.int p3), .val (.int ca), .val (.int cb), .val (.int cc), .val (.int cd), .val (.int la), .val (.int lb), .unset, .unset, .unset, .unset, .unset, .unset, .unset, .unset, .unset, .unset, .unset]) rfl (pc' := 53) rfl ?_
  refine g_iload_n C at_53 (v := p2) rfl (pc' := 54) rfl ?_
  refine g_iconst C at_54 (v := (4 : Int32)) rfl (pc' := 55) rfl ?_
  refine g_iushr C (x := p2) (y := (4 : Int32)) at_55  (pc' := 56) rfl ?_
  refine g_iconst C at_56 (v := (3 : Int32)) rfl (pc' := 57) rfl ?_
  refine g_iand C (x := (Jvm.Free.XT.ushr p2 (4 : Int32))) (y := (3 : Int32)) at_57  (pc' := 58) rfl ?_
  refine g_iconst C at_58 (v := (3 : Int32)) rfl (pc' := 59) rfl ?_
  refine g_irem C (x := ((Jvm.Free.XT.ushr p2 (4 : Int32)) &&& (3 : Int32))) (y := (3 : Int32)) at_59 (by decide) (pc' := 60) rfl ?_
  obtain ⟨lc, elc⟩ : ∃ z : Int32, z = (((Jvm.Free.XT.ushr p2 (4 : Int32)) &&& (3 : Int32)) - (((Jvm.Free.XT.ushr p2 (4 : Int32)) &&& (3 : Int32)) / (3 : Int32)) * (3 : Int32)) := ⟨_, rfl⟩
  rw [← elc]
  have rlc := own_r3 _ elc
  refine g_istore C at_60 (v := lc) (L' := #[.val (.int p0), .val (.int p1), .val (.int p2), .val (.int p3), .val (.int ca), .val (.int cb), .val (.int cc), .val (.int cd), .val (.int la), .val (.int lb), .val (.int lc), .unset, .unset, .unset, .unset, .unset, .unset, .unset, .unset, .unset, .unset]) rfl (pc' := 62) rfl ?_
  refine g_iload_n C at_62 (v := p2) rfl (pc' := 63) rfl ?_
  refine g_bipush C at_63 (v := (6 : Int32)) rfl (pc' := 65) rfl ?_
  refine g_iushr C (x := p2) (y := (6 : Int32)) at_65  (pc' := 66) rfl ?_
  refine g_iconst C at_66 (v := (3 : Int32)) rfl (pc' := 67) rfl ?_
  refine g_iand C (x := (Jvm.Free.XT.ushr p2 (6 : Int32))) (y := (3 : Int32)) at_67  (pc' := 68) rfl ?_
  refine g_iconst C at_68 (v := (3 : Int32)) rfl (pc' := 69) rfl ?_
  refine g_irem C (x := ((Jvm.Free.XT.ushr p2 (6 : Int32)) &&& (3 : Int32))) (y := (3 : Int32)) at_69 (by decide) (pc' := 70) rfl ?_
  obtain ⟨ld, eld⟩ : ∃ z : Int32, z = (((Jvm.Free.XT.ushr p2 (6 : Int32)) &&& (3 : Int32)) - (((Jvm.Free.XT.ushr p2 (6 : Int32)) &&& (3 : Int32)) / (3 : Int32)) * (3 : Int32)) := ⟨_, rfl⟩
  rw [← eld]
  have rld := own_r3 _ eld
  refine g_istore C at_70 (v := ld) (L' := #[.val (.int p0), .val (.int p1), .val (.int p2), .val (.int p3), .val (.int ca), .val (.int cb), .val (.int cc), .val (.int cd), .val (.int la), .val (.int lb), .val (.int lc), .val (.int ld), .unset, .unset, .unset, .unset, .unset, .unset, .unset, .unset, .unset]) rfl (pc' := 72) rfl ?_
  refine g_iload_n C at_72 (v := p3) rfl (pc' := 73) rfl ?_
  refine g_iconst C at_73 (v := (1 : Int32)) rfl (pc' := 74) rfl ?_
  refine g_iand C (x := p3) (y := (1 : Int32)) at_74  (pc' := 75) rfl ?_
  by_cases hb_1 : (p3 &&& (1 : Int32)) = (0 : Int32)
  · refine g_if_y C at_75 (Jvm.Free.XT.i0_eq_t hb_1) (pc' := 82) (by decide) (by decide) ?_
    refine g_iload_n C at_82 (v := p3) rfl (pc' := 83) rfl ?_
    refine g_iconst C at_83 (v := (2 : Int32)) rfl (pc' := 84) rfl ?_
    refine g_iand C (x := p3) (y := (2 : Int32)) at_84  (pc' := 85) rfl ?_
    by_cases hb_2 : (p3 &&& (2 : Int32)) = (0 : Int32)
    · refine g_if_y C at_85 (Jvm.Free.XT.i0_eq_t hb_2) (pc' := 92) (by decide) (by decide) ?_
      refine g_iload_n C at_92 (v := p3) rfl (pc' := 93) rfl ?_
      refine g_iconst C at_93 (v := (4 : Int32)) rfl (pc' := 94) rfl ?_
      refine g_iand C (x := p3) (y := (4 : Int32)) at_94  (pc' := 95) rfl ?_
      by_cases hb_3 : (p3 &&& (4 : Int32)) = (0 : Int32)
      · refine g_if_y C at_95 (Jvm.Free.XT.i0_eq_t hb_3) (pc' := 139) (by decide) (by decide) ?_
        refine g_iload_n C at_139 (v := p1) rfl (pc' := 140) rfl ?_
        refine g_sipush C at_140 (v := (255 : Int32)) rfl (pc' := 143) rfl ?_
        refine g_iand C (x := p1) (y := (255 : Int32)) at_143  (pc' := 144) rfl ?_
        obtain ⟨da, eda⟩ : ∃ z : Int32, z = (p1 &&& (255 : Int32)) := ⟨_, rfl⟩
        rw [← eda]
        have kda : Ch da := by rw [eda]; exact own_chM _
        refine g_istore C at_144 (v := da) (L' := #[.val (.int p0), .val (.int p1), .val (.int p2), .val (.int p3), .val (.int ca), .val (.int cb), .val (.int cc), .val (.int cd), .val (.int la), .val (.int lb), .val (.int lc), .val (.int ld), .val (.int da), .unset, .unset, .unset, .unset, .unset, .unset, .unset, .unset]) rfl (pc' := 146) rfl ?_
        refine g_iload_n C at_146 (v := p1) rfl (pc' := 147) rfl ?_
        refine g_bipush C at_147 (v := (8 : Int32)) rfl (pc' := 149) rfl ?_
        refine g_iushr C (x := p1) (y := (8 : Int32)) at_149  (pc' := 150) rfl ?_
        refine g_sipush C at_150 (v := (255 : Int32)) rfl (pc' := 153) rfl ?_
        refine g_iand C (x := (Jvm.Free.XT.ushr p1 (8 : Int32))) (y := (255 : Int32)) at_153  (pc' := 154) rfl ?_
        obtain ⟨db, edb⟩ : ∃ z : Int32, z = ((Jvm.Free.XT.ushr p1 (8 : Int32)) &&& (255 : Int32)) := ⟨_, rfl⟩
        rw [← edb]
        have kdb : Ch db := by rw [edb]; exact own_chM _
        refine g_istore C at_154 (v := db) (L' := #[.val (.int p0), .val (.int p1), .val (.int p2), .val (.int p3), .val (.int ca), .val (.int cb), .val (.int cc), .val (.int cd), .val (.int la), .val (.int lb), .val (.int lc), .val (.int ld), .val (.int da), .val (.int db), .unset, .unset, .unset, .unset, .unset, .unset, .unset]) rfl (pc' := 156) rfl ?_
        refine g_iload_n C at_156 (v := p1) rfl (pc' := 157) rfl ?_
        refine g_bipush C at_157 (v := (16 : Int32)) rfl (pc' := 159) rfl ?_
        refine g_iushr C (x := p1) (y := (16 : Int32)) at_159  (pc' := 160) rfl ?_
        refine g_sipush C at_160 (v := (255 : Int32)) rfl (pc' := 163) rfl ?_
        refine g_iand C (x := (Jvm.Free.XT.ushr p1 (16 : Int32))) (y := (255 : Int32)) at_163  (pc' := 164) rfl ?_
        obtain ⟨dc, edc⟩ : ∃ z : Int32, z = ((Jvm.Free.XT.ushr p1 (16 : Int32)) &&& (255 : Int32)) := ⟨_, rfl⟩
        rw [← edc]
        have kdc : Ch dc := by rw [edc]; exact own_chM _
        refine g_istore C at_164 (v := dc) (L' := #[.val (.int p0), .val (.int p1), .val (.int p2), .val (.int p3), .val (.int ca), .val (.int cb), .val (.int cc), .val (.int cd), .val (.int la), .val (.int lb), .val (.int lc), .val (.int ld), .val (.int da), .val (.int db), .val (.int dc), .unset, .unset, .unset, .unset, .unset, .unset]) rfl (pc' := 166) rfl ?_
        refine g_iload_n C at_166 (v := p1) rfl (pc' := 167) rfl ?_
        refine g_bipush C at_167 (v := (24 : Int32)) rfl (pc' := 169) rfl ?_
        refine g_iushr C (x := p1) (y := (24 : Int32)) at_169  (pc' := 170) rfl ?_
        refine g_sipush C at_170 (v := (255 : Int32)) rfl (pc' := 173) rfl ?_
        refine g_iand C (x := (Jvm.Free.XT.ushr p1 (24 : Int32))) (y := (255 : Int32)) at_173  (pc' := 174) rfl ?_
        obtain ⟨dd, edd⟩ : ∃ z : Int32, z = ((Jvm.Free.XT.ushr p1 (24 : Int32)) &&& (255 : Int32)) := ⟨_, rfl⟩
        rw [← edd]
        have kdd : Ch dd := by rw [edd]; exact own_chM _
        refine g_istore C at_174 (v := dd) (L' := #[.val (.int p0), .val (.int p1), .val (.int p2), .val (.int p3), .val (.int ca), .val (.int cb), .val (.int cc), .val (.int cd), .val (.int la), .val (.int lb), .val (.int lc), .val (.int ld), .val (.int da), .val (.int db), .val (.int dc), .val (.int dd), .unset, .unset, .unset, .unset, .unset]) rfl (pc' := 176) rfl ?_
        refine g_iload C at_176 (v := la) rfl (pc' := 178) rfl ?_
        refine g_iload C at_178 (v := ca) rfl (pc' := 180) rfl ?_
        refine g_iload C at_180 (v := cb) rfl (pc' := 182) rfl ?_
        refine g_staticV C hW (own_w hw 0 rfl) (own_w hw 1 rfl) (own_w hw 2 rfl) (own_w hw 3 rfl) (by decide) (rm_str l Z a0 hw n0 la ca cb h0 Z0 cm O ch0 ch1 ch2 cw kca kcb) (fun vm' hw' => InvK.warm I0 hw') (st := []) [(.int la), (.int ca), (.int cb)] rfl rfl own_pd_1_str rfl rfl (by decide) (W := 0) (Nat.le_of_eq rfl) (by decide) (by decide) (by decide) at_182 (pc' := 185) rfl ?_
        intro B C hW v_6 h_4 q_5 I_7
        obtain ⟨a_8, b_9, rfl, le_10, K_11, E_12, f_13, f_14, f_15⟩ := q_5
        have ge_a_8 : n0 ≤ a_8 := Nat.le_trans Z0 le_10
        have gs_a_8 : h0.size ≤ a_8 := Nat.le_trans (Nat.le_refl h0.size) le_10
        show Go B n0 _ h_4 4 8 185 #[.val (.int p0), .val (.int p1), .val (.int p2), .val (.int p3), .val (.int ca), .val (.int cb), .val (.int cc), .val (.int cd), .val (.int la), .val (.int lb), .val (.int lc), .val (.int ld), .val (.int da), .val (.int db), .val (.int dc), .val (.int dd), .unset, .unset, .unset, .unset, .unset] [(.ref a_8)]
        refine g_astore C at_185 (v := (.ref a_8)) (L' := #[.val (.int p0), .val (.int p1), .val (.int p2), .val (.int p3), .val (.int ca), .val (.int cb), .val (.int cc), .val (.int cd), .val (.int la), .val (.int lb), .val (.int lc), .val (.int ld), .val (.int da), .val (.int db), .val (.int dc), .val (.int dd), .val (.ref a_8), .unset, .unset, .unset, .unset]) rfl rfl (pc' := 187) rfl ?_
        refine g_new C (own_w hw 34 rfl) (own_w hw 35 rfl) (own_w hw 36 rfl) (by decide) (by decide) at_187 (pc' := 190) rfl ?_
        intro h_16 a_17 g_18 E_19 A_20 D_21
        have ne_22 : a_8 ≠ a_17 := ne_new E_12.lt g_18
        have ne_23 : b_9 ≠ a_17 := ne_new f_15.lt g_18
        have f_24 := (Nat.le_trans Z0 K_11.1)
        have ge_a_17 : n0 ≤ a_17 := Nat.le_trans f_24 (Nat.le_of_eq g_18.symm)
        have f_25 := (Nat.le_trans (Nat.le_refl h0.size) K_11.1)
        have gs_a_17 : h0.size ≤ a_17 := Nat.le_trans f_25 (Nat.le_of_eq g_18.symm)
        have f_26 : Fld Z h_16 a_17 "com/example/chiton/chiton/model/MethodName" "className" "Ljava/lang/String;" .null := D_21 (Or.inr (own_w hw 51 rfl)) (ty := (.object "java/lang/String")) (by decide)
        have f_27 : Fld Z h_16 a_17 "com/example/chiton/chiton/model/MethodName" "methodName" "Ljava/lang/String;" .null := D_21 (Or.inr (own_w hw 54 rfl)) (ty := (.object "java/lang/String")) (by decide)
        show Go B n0 _ h_16 5 10 190 #[.val (.int p0), .val (.int p1), .val (.int p2), .val (.int p3), .val (.int ca), .val (.int cb), .val (.int cc), .val (.int cd), .val (.int la), .val (.int lb), .val (.int lc), .val (.int ld), .val (.int da), .val (.int db), .val (.int dc), .val (.int dd), .val (.ref a_8), .unset, .unset, .unset, .unset] [(.ref a_17)]
        refine g_dup C at_190 rfl (pc' := 191) rfl ?_
        refine g_aload C at_191 (v := (.ref a_8)) rfl rfl (pc' := 193) rfl ?_
        refine g_iload C at_193 (v := lb) rfl (pc' := 195) rfl ?_
        refine g_iload C at_195 (v := cc) rfl (pc' := 197) rfl ?_
        refine g_iload C at_197 (v := cd) rfl (pc' := 199) rfl ?_
        have f_28 := ((O.keep K_11 all0).ext E_19)
        have f_29 := (Nat.le_trans f_24 E_19.1)
        have f_30 := (I_7.ext E_19)
        have f_31 := (E_12.ext E_19)
        have f_32 := (f_15.ext E_19)
        have f_33 := (Nat.le_trans f_25 E_19.1)
        refine g_staticV C hW (own_w hw 0 rfl) (own_w hw 1 rfl) (own_w hw 2 rfl) (own_w hw 3 rfl) (by decide) (rm_str l Z a0 hw n0 lb cc cd h_16 f_29 cm f_28 ch0 ch1 ch2 cw kcc kcd) (fun vm' hw' => InvK.warm f_30 hw') (st := [(.ref a_8), (.ref a_17), (.ref a_17)]) [(.int lb), (.int cc), (.int cd)] rfl rfl own_pd_1_str rfl rfl (by decide) (W := 3) (Nat.le_of_eq rfl) (by decide) (by decide) (by decide) at_199 (pc' := 202) rfl ?_
        intro B C hW v_36 h_34 q_35 I_37
        obtain ⟨a_38, b_39, rfl, le_40, K_41, E_42, f_43, f_44, f_45⟩ := q_35
        have ne_46 : a_17 ≠ a_38 := ne_ge A_20.lt le_40
        have ne_47 : a_8 ≠ a_38 := ne_ge f_31.lt le_40
        have ne_48 : b_9 ≠ a_38 := ne_ge f_32.lt le_40
        have ge_a_38 : n0 ≤ a_38 := Nat.le_trans f_29 le_40
        have gs_a_38 : h0.size ≤ a_38 := Nat.le_trans f_33 le_40
        show Go B n0 _ h_34 9 18 202 #[.val (.int p0), .val (.int p1), .val (.int p2), .val (.int p3), .val (.int ca), .val (.int cb), .val (.int cc), .val (.int cd), .val (.int la), .val (.int lb), .val (.int lc), .val (.int ld), .val (.int da), .val (.int db), .val (.int dc), .val (.int dd), .val (.ref a_8), .unset, .unset, .unset, .unset] [(.ref a_38), (.ref a_8), (.ref a_17), (.ref a_17)]
        have f_50 := (A_20.keep K_41)
        have f_51 := (f_32.keep K_41 nin0)
        have ne_49 : b_9 ≠ a_17 := own_neA f_50 f_51 (own_w hw 35 rfl)
        have ne_52 : b_39 ≠ a_17 := own_neA f_50 f_45 (own_w hw 35 rfl)
        have f_53 := (f_28.keep K_41 all0)
        have f_54 := (f_26.keep K_41 nin0)
        have f_55 := (f_27.keep K_41 nin0)
        have f_56 := (f_31.keep K_41)
        have f_57 := (Nat.le_trans f_29 K_41.1)
        refine g_specialV C hW (a := a_17) rfl (own_w hw 40 rfl) (own_w hw 41 rfl) (own_w hw 36 rfl) (own_w hw 42 rfl) (by decide) (rm_mninit l Z a0 hw n0 a_17 a_8 a_38 h_34 f_57 cm f_53 ch0 ch1 ch2 cw f_50 f_54 f_55 ge_a_17 f_56 E_42) (fun vm' hw' => InvK.warm I_37 hw') (st := [(.ref a_17)]) [(.ref a_8), (.ref a_38)] rfl rfl own_pd_6_init rfl rfl (by decide) (W := 1) (Nat.le_of_eq rfl) (by decide) (by decide) (by decide) at_202 (pc' := 205) rfl ?_
        intro B C hW v_60 h_58 q_59 I_61
        obtain ⟨rfl, K_62, f_63, f_64⟩ := q_59
        show Go B n0 _ h_58 13 166 205 #[.val (.int p0), .val (.int p1), .val (.int p2), .val (.int p3), .val (.int ca), .val (.int cb), .val (.int cc), .val (.int cd), .val (.int la), .val (.int lb), .val (.int lc), .val (.int ld), .val (.int da), .val (.int db), .val (.int dc), .val (.int dd), .val (.ref a_8), .unset, .unset, .unset, .unset] [(.ref a_17)]
        refine g_astore C at_205 (v := (.ref a_17)) (L' := #[.val (.int p0), .val (.int p1), .val (.int p2), .val (.int p3), .val (.int ca), .val (.int cb), .val (.int cc), .val (.int cd), .val (.int la), .val (.int lb), .val (.int lc), .val (.int ld), .val (.int da), .val (.int db), .val (.int dc), .val (.int dd), .val (.ref a_8), .val (.ref a_17), .unset, .unset, .unset]) rfl rfl (pc' := 207) rfl ?_
        have f_65 := (f_50.keep K_62)
        have f_66 := (E_42.keep K_62)
        have f_67 := (f_56.keep K_62)
        have f_68 := (f_45.keep K_62 (ninS ne_52 nin0))
        have f_69 := (f_51.keep K_62 (ninS ne_49 nin0))
        refine g_new C (own_w hw 34 rfl) (own_w hw 35 rfl) (own_w hw 36 rfl) (by decide) (by decide) at_207 (pc' := 210) rfl ?_
        intro h_70 a_71 g_72 E_73 A_74 D_75
        have ne_76 : a_17 ≠ a_71 := ne_new f_65.lt g_72
        have ne_77 : a_38 ≠ a_71 := ne_new f_66.lt g_72
        have ne_78 : a_8 ≠ a_71 := ne_new f_67.lt g_72
        have ne_79 : b_39 ≠ a_71 := ne_new f_68.lt g_72
        have ne_80 : b_9 ≠ a_71 := ne_new f_69.lt g_72
        have f_81 := (Nat.le_trans f_57 K_62.1)
        have ge_a_71 : n0 ≤ a_71 := Nat.le_trans f_81 (Nat.le_of_eq g_72.symm)
        have f_82 := (Nat.le_trans (Nat.le_trans f_33 K_41.1) K_62.1)
        have gs_a_71 : h0.size ≤ a_71 := Nat.le_trans f_82 (Nat.le_of_eq g_72.symm)
        have f_83 : Fld Z h_70 a_71 "com/example/chiton/chiton/model/MethodName" "className" "Ljava/lang/String;" .null := D_75 (Or.inr (own_w hw 51 rfl)) (ty := (.object "java/lang/String")) (by decide)
        have f_84 : Fld Z h_70 a_71 "com/example/chiton/chiton/model/MethodName" "methodName" "Ljava/lang/String;" .null := D_75 (Or.inr (own_w hw 54 rfl)) (ty := (.object "java/lang/String")) (by decide)
        show Go B n0 _ h_70 14 168 210 #[.val (.int p0), .val (.int p1), .val (.int p2), .val (.int p3), .val (.int ca), .val (.int cb), .val (.int cc), .val (.int cd), .val (.int la), .val (.int lb), .val (.int lc), .val (.int ld), .val (.int da), .val (.int db), .val (.int dc), .val (.int dd), .val (.ref a_8), .val (.ref a_17), .unset, .unset, .unset] [(.ref a_71)]
        refine g_dup C at_210 rfl (pc' := 211) rfl ?_
        refine g_iload C at_211 (v := lc) rfl (pc' := 213) rfl ?_
        refine g_iload C at_213 (v := da) rfl (pc' := 215) rfl ?_
        refine g_iload C at_215 (v := db) rfl (pc' := 217) rfl ?_
        have f_85 := ((f_53.keep K_62 (allS ge_a_17 all0)).ext E_73)
        have f_86 := (Nat.le_trans f_81 E_73.1)
        have f_87 := (I_61.ext E_73)
        have f_88 := (f_65.ext E_73)
        have f_89 := (f_66.ext E_73)
        have f_90 := (f_67.ext E_73)
        have f_91 := (f_68.ext E_73)
        have f_92 := (f_69.ext E_73)
        have f_93 := (Nat.le_trans f_82 E_73.1)
        refine g_staticV C hW (own_w hw 0 rfl) (own_w hw 1 rfl) (own_w hw 2 rfl) (own_w hw 3 rfl) (by decide) (rm_str l Z a0 hw n0 lc da db h_70 f_86 cm f_85 ch0 ch1 ch2 cw kda kdb) (fun vm' hw' => InvK.warm f_87 hw') (st := [(.ref a_71), (.ref a_71)]) [(.int lc), (.int da), (.int db)] rfl rfl own_pd_1_str rfl rfl (by decide) (W := 2) (Nat.le_of_eq rfl) (by decide) (by decide) (by decide) at_217 (pc' := 220) rfl ?_
        intro B C hW v_96 h_94 q_95 I_97
        obtain ⟨a_98, b_99, rfl, le_100, K_101, E_102, f_103, f_104, f_105⟩ := q_95
        have ne_106 : a_17 ≠ a_98 := ne_ge f_88.lt le_100
        have ne_107 : a_38 ≠ a_98 := ne_ge f_89.lt le_100
        have ne_108 : a_71 ≠ a_98 := ne_ge A_74.lt le_100
        have ne_109 : a_8 ≠ a_98 := ne_ge f_90.lt le_100
        have ne_110 : b_39 ≠ a_98 := ne_ge f_91.lt le_100
        have ne_111 : b_9 ≠ a_98 := ne_ge f_92.lt le_100
        have ge_a_98 : n0 ≤ a_98 := Nat.le_trans f_86 le_100
        have gs_a_98 : h0.size ≤ a_98 := Nat.le_trans f_93 le_100
        show Go B n0 _ h_94 18 176 220 #[.val (.int p0), .val (.int p1), .val (.int p2), .val (.int p3), .val (.int ca), .val (.int cb), .val (.int cc), .val (.int cd), .val (.int la), .val (.int lb), .val (.int lc), .val (.int ld), .val (.int da), .val (.int db), .val (.int dc), .val (.int dd), .val (.ref a_8), .val (.ref a_17), .unset, .unset, .unset] [(.ref a_98), (.ref a_71), (.ref a_71)]
        refine g_iload C at_220 (v := ld) rfl (pc' := 222) rfl ?_
        refine g_iload C at_222 (v := dc) rfl (pc' := 224) rfl ?_
        refine g_iload C at_224 (v := dd) rfl (pc' := 226) rfl ?_
        have f_112 := (f_85.keep K_101 all0)
        have f_113 := (Nat.le_trans f_86 K_101.1)
        have f_114 := (f_88.keep K_101)
        have f_115 := (f_89.keep K_101)
        have f_116 := (A_74.keep K_101)
        have f_117 := (f_90.keep K_101)
        have f_118 := (f_91.keep K_101 nin0)
        have f_119 := (f_92.keep K_101 nin0)
        have f_120 := (Nat.le_trans f_93 K_101.1)
        refine g_staticV C hW (own_w hw 0 rfl) (own_w hw 1 rfl) (own_w hw 2 rfl) (own_w hw 3 rfl) (by decide) (rm_str l Z a0 hw n0 ld dc dd h_94 f_113 cm f_112 ch0 ch1 ch2 cw kdc kdd) (fun vm' hw' => InvK.warm I_97 hw') (st := [(.ref a_98), (.ref a_71), (.ref a_71)]) [(.int ld), (.int dc), (.int dd)] rfl rfl own_pd_1_str rfl rfl (by decide) (W := 3) (Nat.le_of_eq rfl) (by decide) (by decide) (by decide) at_226 (pc' := 229) rfl ?_
        intro B C hW v_123 h_121 q_122 I_124
        obtain ⟨a_125, b_126, rfl, le_127, K_128, E_129, f_130, f_131, f_132⟩ := q_122
        have ne_133 : a_17 ≠ a_125 := ne_ge f_114.lt le_127
        have ne_134 : a_38 ≠ a_125 := ne_ge f_115.lt le_127
        have ne_135 : a_71 ≠ a_125 := ne_ge f_116.lt le_127
        have ne_136 : a_8 ≠ a_125 := ne_ge f_117.lt le_127
        have ne_137 : a_98 ≠ a_125 := ne_ge E_102.lt le_127
        have ne_138 : b_39 ≠ a_125 := ne_ge f_118.lt le_127
        have ne_139 : b_9 ≠ a_125 := ne_ge f_119.lt le_127
        have ne_140 : b_99 ≠ a_125 := ne_ge f_105.lt le_127
        have ge_a_125 : n0 ≤ a_125 := Nat.le_trans f_113 le_127
        have gs_a_125 : h0.size ≤ a_125 := Nat.le_trans f_120 le_127
        show Go B n0 _ h_121 22 184 229 #[.val (.int p0), .val (.int p1), .val (.int p2), .val (.int p3), .val (.int ca), .val (.int cb), .val (.int cc), .val (.int cd), .val (.int la), .val (.int lb), .val (.int lc), .val (.int ld), .val (.int da), .val (.int db), .val (.int dc), .val (.int dd), .val (.ref a_8), .val (.ref a_17), .unset, .unset, .unset] [(.ref a_125), (.ref a_98), (.ref a_71), (.ref a_71)]
        have f_142 := (f_116.keep K_128)
        have f_143 := (f_105.keep K_128 nin0)
        have ne_141 : b_99 ≠ a_71 := own_neA f_142 f_143 (own_w hw 35 rfl)
        have ne_144 : b_126 ≠ a_71 := own_neA f_142 f_132 (own_w hw 35 rfl)
        have f_145 := (f_112.keep K_128 all0)
        have f_146 := ((f_83.keep K_101 nin0).keep K_128 nin0)
        have f_147 := ((f_84.keep K_101 nin0).keep K_128 nin0)
        have f_148 := (E_102.keep K_128)
        have f_149 := (Nat.le_trans f_113 K_128.1)
        refine g_specialV C hW (a := a_71) rfl (own_w hw 40 rfl) (own_w hw 41 rfl) (own_w hw 36 rfl) (own_w hw 42 rfl) (by decide) (rm_mninit l Z a0 hw n0 a_71 a_98 a_125 h_121 f_149 cm f_145 ch0 ch1 ch2 cw f_142 f_146 f_147 ge_a_71 f_148 E_129) (fun vm' hw' => InvK.warm I_124 hw') (st := [(.ref a_71)]) [(.ref a_98), (.ref a_125)] rfl rfl own_pd_6_init rfl rfl (by decide) (W := 1) (Nat.le_of_eq rfl) (by decide) (by decide) (by decide) at_229 (pc' := 232) rfl ?_
        intro B C hW v_152 h_150 q_151 I_153
        obtain ⟨rfl, K_154, f_155, f_156⟩ := q_151
        show Go B n0 _ h_150 26 332 232 #[.val (.int p0), .val (.int p1), .val (.int p2), .val (.int p3), .val (.int ca), .val (.int cb), .val (.int cc), .val (.int cd), .val (.int la), .val (.int lb), .val (.int lc), .val (.int ld), .val (.int da), .val (.int db), .val (.int dc), .val (.int dd), .val (.ref a_8), .val (.ref a_17), .unset, .unset, .unset] [(.ref a_71)]
        refine g_astore C at_232 (v := (.ref a_71)) (L' := #[.val (.int p0), .val (.int p1), .val (.int p2), .val (.int p3), .val (.int ca), .val (.int cb), .val (.int cc), .val (.int cd), .val (.int la), .val (.int lb), .val (.int lc), .val (.int ld), .val (.int da), .val (.int db), .val (.int dc), .val (.int dd), .val (.ref a_8), .val (.ref a_17), .val (.ref a_71), .unset, .unset]) rfl rfl (pc' := 234) rfl ?_
        refine g_iload_n C at_234 (v := p2) rfl (pc' := 235) rfl ?_
        refine g_bipush C at_235 (v := (8 : Int32)) rfl (pc' := 237) rfl ?_
        refine g_iushr C (x := p2) (y := (8 : Int32)) at_237  (pc' := 238) rfl ?_
        refine g_iconst C at_238 (v := (3 : Int32)) rfl (pc' := 239) rfl ?_
        refine g_iand C (x := (Jvm.Free.XT.ushr p2 (8 : Int32))) (y := (3 : Int32)) at_239  (pc' := 240) rfl ?_
        obtain ⟨i_157, hi_158⟩ : ∃ z : Int32, z = ((Jvm.Free.XT.ushr p2 (8 : Int32)) &&& (3 : Int32)) := ⟨_, rfl⟩
        rw [← hi_158]
        rcases own_split4 i_157 (by rw [hi_158]; exact (own_m3 _).1) (by rw [hi_158]; exact (own_m3 _).2) with i_157e | i_157e | i_157e | i_157e
        · subst i_157e
          show Go B n0 _ h_150 26 332 240 #[.val (.int p0), .val (.int p1), .val (.int p2), .val (.int p3), .val (.int ca), .val (.int cb), .val (.int cc), .val (.int cd), .val (.int la), .val (.int lb), .val (.int lc), .val (.int ld), .val (.int da), .val (.int db), .val (.int dc), .val (.int dd), .val (.ref a_8), .val (.ref a_17), .val (.ref a_71), .unset, .unset] [(.int (0 : Int32))]
          refine g_istore C at_240 (v := (0 : Int32)) (L' := #[.val (.int p0), .val (.int p1), .val (.int p2), .val (.int p3), .val (.int ca), .val (.int cb), .val (.int cc), .val (.int cd), .val (.int la), .val (.int lb), .val (.int lc), .val (.int ld), .val (.int da), .val (.int db), .val (.int dc), .val (.int dd), .val (.ref a_8), .val (.ref a_17), .val (.ref a_71), .val (.int (0 : Int32)), .unset]) rfl (pc' := 242) rfl ?_
          refine g_iload C at_242 (v := (0 : Int32)) rfl (pc' := 244) rfl ?_
          refine g_iconst C at_244 (v := (1 : Int32)) rfl (pc' := 245) rfl ?_
          refine g_icmp_y C at_245 (Jvm.Free.XT.ii_ne_t (by decide)) (pc' := 263) (by decide) (by decide) ?_
          refine g_iload C at_263 (v := (0 : Int32)) rfl (pc' := 265) rfl ?_
          refine g_iconst C at_265 (v := (2 : Int32)) rfl (pc' := 266) rfl ?_
          refine g_icmp_y C at_266 (Jvm.Free.XT.ii_ne_t (by decide)) (pc' := 285) (by decide) (by decide) ?_
          refine g_iload C at_285 (v := (0 : Int32)) rfl (pc' := 287) rfl ?_
          refine g_iconst C at_287 (v := (3 : Int32)) rfl (pc' := 288) rfl ?_
          refine g_icmp_y C at_288 (Jvm.Free.XT.ii_ne_t (by decide)) (pc' := 299) (by decide) (by decide) ?_
          refine g_iload C at_299 (v := la) rfl (pc' := 301) rfl ?_
          refine g_iload C at_301 (v := ca) rfl (pc' := 303) rfl ?_
          refine g_iload C at_303 (v := cb) rfl (pc' := 305) rfl ?_
          refine g_iload C at_305 (v := lc) rfl (pc' := 307) rfl ?_
          refine g_iload C at_307 (v := da) rfl (pc' := 309) rfl ?_
          refine g_iload C at_309 (v := db) rfl (pc' := 311) rfl ?_
          have f_159 := (Nat.le_trans f_149 K_154.1)
          refine g_static C (own_w hw 55 rfl) (own_w hw 56 rfl) (own_w hw 2 rfl) (own_w hw 57 rfl) (by decide) (rm_same l Z a0 hw n0 la ca cb lc da db h_150 f_159 rla rlc kca kcb kda kdb) (st := []) [(.int la), (.int ca), (.int cb), (.int lc), (.int da), (.int db)] rfl rfl own_pd_3_same rfl rfl (by decide) (W := 0) (Nat.le_of_eq rfl) (by decide) (by decide) (by decide) at_311 (pc' := 314) rfl ?_
          intro v_162 h_160 q_161
          obtain ⟨r_164, rfl, ⟨e_165, rfl⟩ | ⟨e_165, rfl⟩, rfl⟩ := q_161
          · show Go B n0 _ h_150 26 332 314 #[.val (.int p0), .val (.int p1), .val (.int p2), .val (.int p3), .val (.int ca), .val (.int cb), .val (.int cc), .val (.int cd), .val (.int la), .val (.int lb), .val (.int lc), .val (.int ld), .val (.int da), .val (.int db), .val (.int dc), .val (.int dd), .val (.ref a_8), .val (.ref a_17), .val (.ref a_71), .val (.int (0 : Int32)), .unset] [(.int (1 : Int32))]
            refine g_if_n C at_314 (Jvm.Free.XT.i0_eq_f (by decide)) (pc' := 317) rfl ?_
            refine g_iload C at_317 (v := lb) rfl (pc' := 319) rfl ?_
            refine g_iload C at_319 (v := cc) rfl (pc' := 321) rfl ?_
            refine g_iload C at_321 (v := cd) rfl (pc' := 323) rfl ?_
            refine g_iload C at_323 (v := ld) rfl (pc' := 325) rfl ?_
            refine g_iload C at_325 (v := dc) rfl (pc' := 327) rfl ?_
            refine g_iload C at_327 (v := dd) rfl (pc' := 329) rfl ?_
            refine g_static C (own_w hw 55 rfl) (own_w hw 56 rfl) (own_w hw 2 rfl) (own_w hw 57 rfl) (by decide) (rm_same l Z a0 hw n0 lb cc cd ld dc dd h_150 f_159 rlb rld kcc kcd kdc kdd) (st := []) [(.int lb), (.int cc), (.int cd), (.int ld), (.int dc), (.int dd)] rfl rfl own_pd_3_same rfl rfl (by decide) (W := 0) (Nat.le_of_eq rfl) (by decide) (by decide) (by decide) at_329 (pc' := 332) rfl ?_
            intro v_168 h_166 q_167
            obtain ⟨r_170, rfl, ⟨e_171, rfl⟩ | ⟨e_171, rfl⟩, rfl⟩ := q_167
            · show Go B n0 _ h_150 26 332 332 #[.val (.int p0), .val (.int p1), .val (.int p2), .val (.int p3), .val (.int ca), .val (.int cb), .val (.int cc), .val (.int cd), .val (.int la), .val (.int lb), .val (.int lc), .val (.int ld), .val (.int da), .val (.int db), .val (.int dc), .val (.int dd), .val (.ref a_8), .val (.ref a_17), .val (.ref a_71), .val (.int (0 : Int32)), .unset] [(.int (1 : Int32))]
              refine g_if_n C at_332 (Jvm.Free.XT.i0_eq_f (by decide)) (pc' := 335) rfl ?_
              refine g_iconst C at_335 (v := (1 : Int32)) rfl (pc' := 336) rfl ?_
              refine g_goto C at_336 (pc' := 340) (by decide) (by decide) ?_
              refine g_istore C at_340 (v := (1 : Int32)) (L' := #[.val (.int p0), .val (.int p1), .val (.int p2), .val (.int p3), .val (.int ca), .val (.int cb), .val (.int cc), .val (.int cd), .val (.int la), .val (.int lb), .val (.int lc), .val (.int ld), .val (.int da), .val (.int db), .val (.int dc), .val (.int dd), .val (.ref a_8), .val (.ref a_17), .val (.ref a_71), .val (.int (0 : Int32)), .val (.int (1 : Int32))]) rfl (pc' := 342) rfl ?_
              refine g_aload C at_342 (v := (.ref a_17)) rfl rfl (pc' := 344) rfl ?_
              refine g_aload C at_344 (v := (.ref a_71)) rfl rfl (pc' := 346) rfl ?_
              have f_172 := (f_145.keep K_154 (allS ge_a_71 all0))
              have f_173 := ((f_114.keep K_128).keep K_154)
              have f_174 := ((((f_63.ext E_73).keep K_101 nin0).keep K_128 nin0).keep K_154 (ninS ne_76 nin0))
              have f_175 := ((((f_64.ext E_73).keep K_101 nin0).keep K_128 nin0).keep K_154 (ninS ne_76 nin0))
              have f_176 := (f_142.keep K_154)
              have f_177 := ((f_117.keep K_128).keep K_154)
              have f_178 := (((((((f_13.ext E_19).keep K_41 nin0).keep K_62 (ninS ne_22 nin0)).ext E_73).keep K_101 nin0).keep K_128 nin0).keep K_154 (ninS ne_78 nin0))
              have f_179 := (((((((f_14.ext E_19).keep K_41 nin0).keep K_62 (ninS ne_22 nin0)).ext E_73).keep K_101 nin0).keep K_128 nin0).keep K_154 (ninS ne_78 nin0))
              have f_180 := ((f_119.keep K_128 nin0).keep K_154 (ninS ne_80 nin0))
              have f_181 := (f_148.keep K_154)
              have f_182 := ((f_103.keep K_128 nin0).keep K_154 (ninS (Ne.symm ne_108) nin0))
              have f_183 := ((f_104.keep K_128 nin0).keep K_154 (ninS (Ne.symm ne_108) nin0))
              have f_184 := (f_143.keep K_154 (ninS ne_141 nin0))
              have f_185 := ((f_115.keep K_128).keep K_154)
              have f_186 := (((((f_43.keep K_62 (ninS (Ne.symm ne_46) nin0)).ext E_73).keep K_101 nin0).keep K_128 nin0).keep K_154 (ninS ne_77 nin0))
              have f_187 := (((((f_44.keep K_62 (ninS (Ne.symm ne_46) nin0)).ext E_73).keep K_101 nin0).keep K_128 nin0).keep K_154 (ninS ne_77 nin0))
              have f_188 := ((f_118.keep K_128 nin0).keep K_154 (ninS ne_79 nin0))
              have f_189 := (E_129.keep K_154)
              have f_190 := (f_130.keep K_154 (ninS (Ne.symm ne_135) nin0))
              have f_191 := (f_131.keep K_154 (ninS (Ne.symm ne_135) nin0))
              have f_192 := (f_132.keep K_154 (ninS ne_144 nin0))
              refine g_virtual C (own_w hw 58 rfl) (own_w hw 59 rfl) (own_w hw 61 rfl) (own_w hw 60 rfl) (own_w hw 36 rfl) (own_w hw 62 rfl) (notFace_of_selects (args := #[]) (mvT C.2.2.2.2.1 (own_w hw 61 rfl))) (by decide) f_173 (rm_mneqD l Z a0 hw n0 a_17 a_71 a_8 a_98 a_38 a_125 b_9 b_99 b_39 b_126 (own_str la ca cb) (own_str lc da db) (own_str lb cc cd) (own_str ld dc dd) h_150 f_159 cm f_172 f_173 f_174 f_175 f_176 f_155 f_156 f_177 f_178 f_179 f_180 (own_sh _ _ _) f_181 f_182 f_183 f_184 (own_sh _ _ _) f_185 f_186 f_187 f_188 (own_sh _ _ _) f_189 f_190 f_191 f_192 (own_sh _ _ _) ne_109 ne_134) (st := []) [(.ref a_71)] rfl rfl own_pd_4_equals rfl rfl (by decide) (W := 0) (Nat.le_of_eq rfl) (by decide) (by decide) (by decide) at_346 (pc' := 349) rfl ?_
              intro v_195 h_193 q_194
              obtain ⟨r_197, rfl, ⟨e_198, rfl⟩ | ⟨e_198, rfl⟩, rfl⟩ := q_194
              · show Go B n0 _ h_150 26 332 349 #[.val (.int p0), .val (.int p1), .val (.int p2), .val (.int p3), .val (.int ca), .val (.int cb), .val (.int cc), .val (.int cd), .val (.int la), .val (.int lb), .val (.int lc), .val (.int ld), .val (.int da), .val (.int db), .val (.int dc), .val (.int dd), .val (.ref a_8), .val (.ref a_17), .val (.ref a_71), .val (.int (0 : Int32)), .val (.int (1 : Int32))] [(.int (1 : Int32))]
                refine g_iload C at_349 (v := (1 : Int32)) rfl (pc' := 351) rfl ?_
                refine g_icmp_n C at_351 (Jvm.Free.XT.ii_ne_f (by decide)) (pc' := 354) rfl ?_
                refine g_aload C at_354 (v := (.ref a_71)) rfl rfl (pc' := 356) rfl ?_
                refine g_aload C at_356 (v := (.ref a_17)) rfl rfl (pc' := 358) rfl ?_
                refine g_virtual C (own_w hw 58 rfl) (own_w hw 59 rfl) (own_w hw 61 rfl) (own_w hw 60 rfl) (own_w hw 36 rfl) (own_w hw 62 rfl) (notFace_of_selects (args := #[]) (mvT C.2.2.2.2.1 (own_w hw 61 rfl))) (by decide) f_176 (rm_mneqD l Z a0 hw n0 a_71 a_17 a_98 a_8 a_125 a_38 b_99 b_9 b_126 b_39 (own_str lc da db) (own_str la ca cb) (own_str ld dc dd) (own_str lb cc cd) h_150 f_159 cm f_172 f_176 f_155 f_156 f_173 f_174 f_175 f_181 f_182 f_183 f_184 (own_sh _ _ _) f_177 f_178 f_179 f_180 (own_sh _ _ _) f_189 f_190 f_191 f_192 (own_sh _ _ _) f_185 f_186 f_187 f_188 (own_sh _ _ _) (Ne.symm ne_109) (Ne.symm ne_134)) (st := []) [(.ref a_17)] rfl rfl own_pd_4_equals rfl rfl (by decide) (W := 0) (Nat.le_of_eq rfl) (by decide) (by decide) (by decide) at_358 (pc' := 361) rfl ?_
                intro v_201 h_199 q_200
                obtain ⟨r_203, rfl, ⟨e_204, rfl⟩ | ⟨e_204, rfl⟩, rfl⟩ := q_200
                · show Go B n0 _ h_150 26 332 361 #[.val (.int p0), .val (.int p1), .val (.int p2), .val (.int p3), .val (.int ca), .val (.int cb), .val (.int cc), .val (.int cd), .val (.int la), .val (.int lb), .val (.int lc), .val (.int ld), .val (.int da), .val (.int db), .val (.int dc), .val (.int dd), .val (.ref a_8), .val (.ref a_17), .val (.ref a_71), .val (.int (0 : Int32)), .val (.int (1 : Int32))] [(.int (1 : Int32))]
                  refine g_iload C at_361 (v := (1 : Int32)) rfl (pc' := 363) rfl ?_
                  refine g_icmp_n C at_363 (Jvm.Free.XT.ii_ne_f (by decide)) (pc' := 366) rfl ?_
                  refine g_iconst C at_366 (v := (1 : Int32)) rfl (pc' := 367) rfl ?_
                  refine g_goto C at_367 (pc' := 371) (by decide) (by decide) ?_
                  refine g_ret C (eW hW fun vm' hw' => trivial) (v := (.int (1 : Int32))) (ty := .boolean) rfl rfl (Or.inl ⟨rfl, Or.inr (Or.inl rfl), _, rfl⟩) at_371 (by decide) (by decide) ?_
                  rfl
                · exact absurd ⟨e_165.symm, e_171.symm⟩ e_204
              · exact absurd ⟨e_165, e_171⟩ e_198
            · show Go B n0 _ h_150 26 332 332 #[.val (.int p0), .val (.int p1), .val (.int p2), .val (.int p3), .val (.int ca), .val (.int cb), .val (.int cc), .val (.int cd), .val (.int la), .val (.int lb), .val (.int lc), .val (.int ld), .val (.int da), .val (.int db), .val (.int dc), .val (.int dd), .val (.ref a_8), .val (.ref a_17), .val (.ref a_71), .val (.int (0 : Int32)), .unset] [(.int (0 : Int32))]
              refine g_if_y C at_332 (Jvm.Free.XT.i0_eq_t (by decide)) (pc' := 339) (by decide) (by decide) ?_
              refine g_iconst C at_339 (v := (0 : Int32)) rfl (pc' := 340) rfl ?_
              refine g_istore C at_340 (v := (0 : Int32)) (L' := #[.val (.int p0), .val (.int p1), .val (.int p2), .val (.int p3), .val (.int ca), .val (.int cb), .val (.int cc), .val (.int cd), .val (.int la), .val (.int lb), .val (.int lc), .val (.int ld), .val (.int da), .val (.int db), .val (.int dc), .val (.int dd), .val (.ref a_8), .val (.ref a_17), .val (.ref a_71), .val (.int (0 : Int32)), .val (.int (0 : Int32))]) rfl (pc' := 342) rfl ?_
              refine g_aload C at_342 (v := (.ref a_17)) rfl rfl (pc' := 344) rfl ?_
              refine g_aload C at_344 (v := (.ref a_71)) rfl rfl (pc' := 346) rfl ?_
              have f_205 := (f_145.keep K_154 (allS ge_a_71 all0))
              have f_206 := ((f_114.keep K_128).keep K_154)
              have f_207 := ((((f_63.ext E_73).keep K_101 nin0).keep K_128 nin0).keep K_154 (ninS ne_76 nin0))
              have f_208 := ((((f_64.ext E_73).keep K_101 nin0).keep K_128 nin0).keep K_154 (ninS ne_76 nin0))
              have f_209 := (f_142.keep K_154)
              have f_210 := ((f_117.keep K_128).keep K_154)
              have f_211 := (((((((f_13.ext E_19).keep K_41 nin0).keep K_62 (ninS ne_22 nin0)).ext E_73).keep K_101 nin0).keep K_128 nin0).keep K_154 (ninS ne_78 nin0))
              have f_212 := (((((((f_14.ext E_19).keep K_41 nin0).keep K_62 (ninS ne_22 nin0)).ext E_73).keep K_101 nin0).keep K_128 nin0).keep K_154 (ninS ne_78 nin0))
              have f_213 := ((f_119.keep K_128 nin0).keep K_154 (ninS ne_80 nin0))
              have f_214 := (f_148.keep K_154)
              have f_215 := ((f_103.keep K_128 nin0).keep K_154 (ninS (Ne.symm ne_108) nin0))
              have f_216 := ((f_104.keep K_128 nin0).keep K_154 (ninS (Ne.symm ne_108) nin0))
              have f_217 := (f_143.keep K_154 (ninS ne_141 nin0))
              have f_218 := ((f_115.keep K_128).keep K_154)
              have f_219 := (((((f_43.keep K_62 (ninS (Ne.symm ne_46) nin0)).ext E_73).keep K_101 nin0).keep K_128 nin0).keep K_154 (ninS ne_77 nin0))
              have f_220 := (((((f_44.keep K_62 (ninS (Ne.symm ne_46) nin0)).ext E_73).keep K_101 nin0).keep K_128 nin0).keep K_154 (ninS ne_77 nin0))
              have f_221 := ((f_118.keep K_128 nin0).keep K_154 (ninS ne_79 nin0))
              have f_222 := (E_129.keep K_154)
              have f_223 := (f_130.keep K_154 (ninS (Ne.symm ne_135) nin0))
              have f_224 := (f_131.keep K_154 (ninS (Ne.symm ne_135) nin0))
              have f_225 := (f_132.keep K_154 (ninS ne_144 nin0))
              refine g_virtual C (own_w hw 58 rfl) (own_w hw 59 rfl) (own_w hw 61 rfl) (own_w hw 60 rfl) (own_w hw 36 rfl) (own_w hw 62 rfl) (notFace_of_selects (args := #[]) (mvT C.2.2.2.2.1 (own_w hw 61 rfl))) (by decide) f_206 (rm_mneqD l Z a0 hw n0 a_17 a_71 a_8 a_98 a_38 a_125 b_9 b_99 b_39 b_126 (own_str la ca cb) (own_str lc da db) (own_str lb cc cd) (own_str ld dc dd) h_150 f_159 cm f_205 f_206 f_207 f_208 f_209 f_155 f_156 f_210 f_211 f_212 f_213 (own_sh _ _ _) f_214 f_215 f_216 f_217 (own_sh _ _ _) f_218 f_219 f_220 f_221 (own_sh _ _ _) f_222 f_223 f_224 f_225 (own_sh _ _ _) ne_109 ne_134) (st := []) [(.ref a_71)] rfl rfl own_pd_4_equals rfl rfl (by decide) (W := 0) (Nat.le_of_eq rfl) (by decide) (by decide) (by decide) at_346 (pc' := 349) rfl ?_
              intro v_228 h_226 q_227
              obtain ⟨r_230, rfl, ⟨e_231, rfl⟩ | ⟨e_231, rfl⟩, rfl⟩ := q_227
              · exact absurd (e_231.2) e_171
              · show Go B n0 _ h_150 26 332 349 #[.val (.int p0), .val (.int p1), .val (.int p2), .val (.int p3), .val (.int ca), .val (.int cb), .val (.int cc), .val (.int cd), .val (.int la), .val (.int lb), .val (.int lc), .val (.int ld), .val (.int da), .val (.int db), .val (.int dc), .val (.int dd), .val (.ref a_8), .val (.ref a_17), .val (.ref a_71), .val (.int (0 : Int32)), .val (.int (0 : Int32))] [(.int (0 : Int32))]
                refine g_iload C at_349 (v := (0 : Int32)) rfl (pc' := 351) rfl ?_
                refine g_icmp_n C at_351 (Jvm.Free.XT.ii_ne_f (by decide)) (pc' := 354) rfl ?_
                refine g_aload C at_354 (v := (.ref a_71)) rfl rfl (pc' := 356) rfl ?_
                refine g_aload C at_356 (v := (.ref a_17)) rfl rfl (pc' := 358) rfl ?_
                refine g_virtual C (own_w hw 58 rfl) (own_w hw 59 rfl) (own_w hw 61 rfl) (own_w hw 60 rfl) (own_w hw 36 rfl) (own_w hw 62 rfl) (notFace_of_selects (args := #[]) (mvT C.2.2.2.2.1 (own_w hw 61 rfl))) (by decide) f_209 (rm_mneqD l Z a0 hw n0 a_71 a_17 a_98 a_8 a_125 a_38 b_99 b_9 b_126 b_39 (own_str lc da db) (own_str la ca cb) (own_str ld dc dd) (own_str lb cc cd) h_150 f_159 cm f_205 f_209 f_155 f_156 f_206 f_207 f_208 f_214 f_215 f_216 f_217 (own_sh _ _ _) f_210 f_211 f_212 f_213 (own_sh _ _ _) f_222 f_223 f_224 f_225 (own_sh _ _ _) f_218 f_219 f_220 f_221 (own_sh _ _ _) (Ne.symm ne_109) (Ne.symm ne_134)) (st := []) [(.ref a_17)] rfl rfl own_pd_4_equals rfl rfl (by decide) (W := 0) (Nat.le_of_eq rfl) (by decide) (by decide) (by decide) at_358 (pc' := 361) rfl ?_
                intro v_234 h_232 q_233
                obtain ⟨r_236, rfl, ⟨e_237, rfl⟩ | ⟨e_237, rfl⟩, rfl⟩ := q_233
                · exact absurd (e_237.2.symm) e_171
                · show Go B n0 _ h_150 26 332 361 #[.val (.int p0), .val (.int p1), .val (.int p2), .val (.int p3), .val (.int ca), .val (.int cb), .val (.int cc), .val (.int cd), .val (.int la), .val (.int lb), .val (.int lc), .val (.int ld), .val (.int da), .val (.int db), .val (.int dc), .val (.int dd), .val (.ref a_8), .val (.ref a_17), .val (.ref a_71), .val (.int (0 : Int32)), .val (.int (0 : Int32))] [(.int (0 : Int32))]
                  refine g_iload C at_361 (v := (0 : Int32)) rfl (pc' := 363) rfl ?_
                  refine g_icmp_n C at_363 (Jvm.Free.XT.ii_ne_f (by decide)) (pc' := 366) rfl ?_
                  refine g_iconst C at_366 (v := (1 : Int32)) rfl (pc' := 367) rfl ?_
                  refine g_goto C at_367 (pc' := 371) (by decide) (by decide) ?_
                  refine g_ret C (eW hW fun vm' hw' => trivial) (v := (.int (1 : Int32))) (ty := .boolean) rfl rfl (Or.inl ⟨rfl, Or.inr (Or.inl rfl), _, rfl⟩) at_371 (by decide) (by decide) ?_
                  rfl
          · show Go B n0 _ h_150 26 332 314 #[.val (.int p0), .val (.int p1), .val (.int p2), .val (.int p3), .val (.int ca), .val (.int cb), .val (.int cc), .val (.int cd), .val (.int la), .val (.int lb), .val (.int lc), .val (.int ld), .val (.int da), .val (.int db), .val (.int dc), .val (.int dd), .val (.ref a_8), .val (.ref a_17), .val (.ref a_71), .val (.int (0 : Int32)), .unset] [(.int (0 : Int32))]
            refine g_if_y C at_314 (Jvm.Free.XT.i0_eq_t (by decide)) (pc' := 339) (by decide) (by decide) ?_
            refine g_iconst C at_339 (v := (0 : Int32)) rfl (pc' := 340) rfl ?_
            refine g_istore C at_340 (v := (0 : Int32)) (L' := #[.val (.int p0), .val (.int p1), .val (.int p2), .val (.int p3), .val (.int ca), .val (.int cb), .val (.int cc), .val (.int cd), .val (.int la), .val (.int lb), .val (.int lc), .val (.int ld), .val (.int da), .val (.int db), .val (.int dc), .val (.int dd), .val (.ref a_8), .val (.ref a_17), .val (.ref a_71), .val (.int (0 : Int32)), .val (.int (0 : Int32))]) rfl (pc' := 342) rfl ?_
            refine g_aload C at_342 (v := (.ref a_17)) rfl rfl (pc' := 344) rfl ?_
            refine g_aload C at_344 (v := (.ref a_71)) rfl rfl (pc' := 346) rfl ?_
            have f_238 := (f_145.keep K_154 (allS ge_a_71 all0))
            have f_239 := ((f_114.keep K_128).keep K_154)
            have f_240 := ((((f_63.ext E_73).keep K_101 nin0).keep K_128 nin0).keep K_154 (ninS ne_76 nin0))
            have f_241 := ((((f_64.ext E_73).keep K_101 nin0).keep K_128 nin0).keep K_154 (ninS ne_76 nin0))
            have f_242 := (f_142.keep K_154)
            have f_243 := ((f_117.keep K_128).keep K_154)
            have f_244 := (((((((f_13.ext E_19).keep K_41 nin0).keep K_62 (ninS ne_22 nin0)).ext E_73).keep K_101 nin0).keep K_128 nin0).keep K_154 (ninS ne_78 nin0))
            have f_245 := (((((((f_14.ext E_19).keep K_41 nin0).keep K_62 (ninS ne_22 nin0)).ext E_73).keep K_101 nin0).keep K_128 nin0).keep K_154 (ninS ne_78 nin0))
            have f_246 := ((f_119.keep K_128 nin0).keep K_154 (ninS ne_80 nin0))
            have f_247 := (f_148.keep K_154)
            have f_248 := ((f_103.keep K_128 nin0).keep K_154 (ninS (Ne.symm ne_108) nin0))
            have f_249 := ((f_104.keep K_128 nin0).keep K_154 (ninS (Ne.symm ne_108) nin0))
            have f_250 := (f_143.keep K_154 (ninS ne_141 nin0))
            have f_251 := ((f_115.keep K_128).keep K_154)
            have f_252 := (((((f_43.keep K_62 (ninS (Ne.symm ne_46) nin0)).ext E_73).keep K_101 nin0).keep K_128 nin0).keep K_154 (ninS ne_77 nin0))
            have f_253 := (((((f_44.keep K_62 (ninS (Ne.symm ne_46) nin0)).ext E_73).keep K_101 nin0).keep K_128 nin0).keep K_154 (ninS ne_77 nin0))
            have f_254 := ((f_118.keep K_128 nin0).keep K_154 (ninS ne_79 nin0))
            have f_255 := (E_129.keep K_154)
            have f_256 := (f_130.keep K_154 (ninS (Ne.symm ne_135) nin0))
            have f_257 := (f_131.keep K_154 (ninS (Ne.symm ne_135) nin0))
            have f_258 := (f_132.keep K_154 (ninS ne_144 nin0))
            refine g_virtual C (own_w hw 58 rfl) (own_w hw 59 rfl) (own_w hw 61 rfl) (own_w hw 60 rfl) (own_w hw 36 rfl) (own_w hw 62 rfl) (notFace_of_selects (args := #[]) (mvT C.2.2.2.2.1 (own_w hw 61 rfl))) (by decide) f_239 (rm_mneqD l Z a0 hw n0 a_17 a_71 a_8 a_98 a_38 a_125 b_9 b_99 b_39 b_126 (own_str la ca cb) (own_str lc da db) (own_str lb cc cd) (own_str ld dc dd) h_150 f_159 cm f_238 f_239 f_240 f_241 f_242 f_155 f_156 f_243 f_244 f_245 f_246 (own_sh _ _ _) f_247 f_248 f_249 f_250 (own_sh _ _ _) f_251 f_252 f_253 f_254 (own_sh _ _ _) f_255 f_256 f_257 f_258 (own_sh _ _ _) ne_109 ne_134) (st := []) [(.ref a_71)] rfl rfl own_pd_4_equals rfl rfl (by decide) (W := 0) (Nat.le_of_eq rfl) (by decide) (by decide) (by decide) at_346 (pc' := 349) rfl ?_
            intro v_261 h_259 q_260
            obtain ⟨r_263, rfl, ⟨e_264, rfl⟩ | ⟨e_264, rfl⟩, rfl⟩ := q_260
            · exact absurd (e_264.1) e_165
            · show Go B n0 _ h_150 26 332 349 #[.val (.int p0), .val (.int p1), .val (.int p2), .val (.int p3), .val (.int ca), .val (.int cb), .val (.int cc), .val (.int cd), .val (.int la), .val (.int lb), .val (.int lc), .val (.int ld), .val (.int da), .val (.int db), .val (.int dc), .val (.int dd), .val (.ref a_8), .val (.ref a_17), .val (.ref a_71), .val (.int (0 : Int32)), .val (.int (0 : Int32))] [(.int (0 : Int32))]
              refine g_iload C at_349 (v := (0 : Int32)) rfl (pc' := 351) rfl ?_
              refine g_icmp_n C at_351 (Jvm.Free.XT.ii_ne_f (by decide)) (pc' := 354) rfl ?_
              refine g_aload C at_354 (v := (.ref a_71)) rfl rfl (pc' := 356) rfl ?_
              refine g_aload C at_356 (v := (.ref a_17)) rfl rfl (pc' := 358) rfl ?_
              refine g_virtual C (own_w hw 58 rfl) (own_w hw 59 rfl) (own_w hw 61 rfl) (own_w hw 60 rfl) (own_w hw 36 rfl) (own_w hw 62 rfl) (notFace_of_selects (args := #[]) (mvT C.2.2.2.2.1 (own_w hw 61 rfl))) (by decide) f_242 (rm_mneqD l Z a0 hw n0 a_71 a_17 a_98 a_8 a_125 a_38 b_99 b_9 b_126 b_39 (own_str lc da db) (own_str la ca cb) (own_str ld dc dd) (own_str lb cc cd) h_150 f_159 cm f_238 f_242 f_155 f_156 f_239 f_240 f_241 f_247 f_248 f_249 f_250 (own_sh _ _ _) f_243 f_244 f_245 f_246 (own_sh _ _ _) f_255 f_256 f_257 f_258 (own_sh _ _ _) f_251 f_252 f_253 f_254 (own_sh _ _ _) (Ne.symm ne_109) (Ne.symm ne_134)) (st := []) [(.ref a_17)] rfl rfl own_pd_4_equals rfl rfl (by decide) (W := 0) (Nat.le_of_eq rfl) (by decide) (by decide) (by decide) at_358 (pc' := 361) rfl ?_
              intro v_267 h_265 q_266
              obtain ⟨r_269, rfl, ⟨e_270, rfl⟩ | ⟨e_270, rfl⟩, rfl⟩ := q_266
              · exact absurd (e_270.1.symm) e_165
              · show Go B n0 _ h_150 26 332 361 #[.val (.int p0), .val (.int p1), .val (.int p2), .val (.int p3), .val (.int ca), .val (.int cb), .val (.int cc), .val (.int cd), .val (.int la), .val (.int lb), .val (.int lc), .val (.int ld), .val (.int da), .val (.int db), .val (.int dc), .val (.int dd), .val (.ref a_8), .val (.ref a_17), .val (.ref a_71), .val (.int (0 : Int32)), .val (.int (0 : Int32))] [(.int (0 : Int32))]
                refine g_iload C at_361 (v := (0 : Int32)) rfl (pc' := 363) rfl ?_
                refine g_icmp_n C at_363 (Jvm.Free.XT.ii_ne_f (by decide)) (pc' := 366) rfl ?_
                refine g_iconst C at_366 (v := (1 : Int32)) rfl (pc' := 367) rfl ?_
                refine g_goto C at_367 (pc' := 371) (by decide) (by decide) ?_
                refine g_ret C (eW hW fun vm' hw' => trivial) (v := (.int (1 : Int32))) (ty := .boolean) rfl rfl (Or.inl ⟨rfl, Or.inr (Or.inl rfl), _, rfl⟩) at_371 (by decide) (by decide) ?_
                rfl
        · subst i_157e
          show Go B n0 _ h_150 26 332 240 #[.val (.int p0), .val (.int p1), .val (.int p2), .val (.int p3), .val (.int ca), .val (.int cb), .val (.int cc), .val (.int cd), .val (.int la), .val (.int lb), .val (.int lc), .val (.int ld), .val (.int da), .val (.int db), .val (.int dc), .val (.int dd), .val (.ref a_8), .val (.ref a_17), .val (.ref a_71), .unset, .unset] [(.int (1 : Int32))]
          refine g_istore C at_240 (v := (1 : Int32)) (L' := #[.val (.int p0), .val (.int p1), .val (.int p2), .val (.int p3), .val (.int ca), .val (.int cb), .val (.int cc), .val (.int cd), .val (.int la), .val (.int lb), .val (.int lc), .val (.int ld), .val (.int da), .val (.int db), .val (.int dc), .val (.int dd), .val (.ref a_8), .val (.ref a_17), .val (.ref a_71), .val (.int (1 : Int32)), .unset]) rfl (pc' := 242) rfl ?_
          refine g_iload C at_242 (v := (1 : Int32)) rfl (pc' := 244) rfl ?_
          refine g_iconst C at_244 (v := (1 : Int32)) rfl (pc' := 245) rfl ?_
          refine g_icmp_n C at_245 (Jvm.Free.XT.ii_ne_f (by decide)) (pc' := 248) rfl ?_
          refine g_aload C at_248 (v := (.ref a_17)) rfl rfl (pc' := 250) rfl ?_
          refine g_aconst_null C at_250 (pc' := 251) rfl ?_
          have f_271 := (Nat.le_trans f_149 K_154.1)
          have f_272 := ((f_114.keep K_128).keep K_154)
          refine g_virtual C (own_w hw 58 rfl) (own_w hw 59 rfl) (own_w hw 61 rfl) (own_w hw 60 rfl) (own_w hw 36 rfl) (own_w hw 62 rfl) (notFace_of_selects (args := #[]) (mvT C.2.2.2.2.1 (own_w hw 61 rfl))) (by decide) f_272 (rm_mneqN l Z a0 hw n0 a_17 h_150 f_271 ) (st := []) [.null] rfl rfl own_pd_4_equals rfl rfl (by decide) (W := 0) (Nat.le_of_eq rfl) (by decide) (by decide) (by decide) at_251 (pc' := 254) rfl ?_
          intro v_275 h_273 q_274
          obtain ⟨rfl, rfl⟩ := q_274
          show Go B n0 _ h_150 26 332 254 #[.val (.int p0), .val (.int p1), .val (.int p2), .val (.int p3), .val (.int ca), .val (.int cb), .val (.int cc), .val (.int cd), .val (.int la), .val (.int lb), .val (.int lc), .val (.int ld), .val (.int da), .val (.int db), .val (.int dc), .val (.int dd), .val (.ref a_8), .val (.ref a_17), .val (.ref a_71), .val (.int (1 : Int32)), .unset] [(.int (0 : Int32))]
          refine g_if_n C at_254 (Jvm.Free.XT.i0_ne_f (by decide)) (pc' := 257) rfl ?_
          refine g_iconst C at_257 (v := (1 : Int32)) rfl (pc' := 258) rfl ?_
          refine g_goto C at_258 (pc' := 262) (by decide) (by decide) ?_
          refine g_ret C (eW hW fun vm' hw' => trivial) (v := (.int (1 : Int32))) (ty := .boolean) rfl rfl (Or.inl ⟨rfl, Or.inr (Or.inl rfl), _, rfl⟩) at_262 (by decide) (by decide) ?_
          rfl
        · subst i_157e
          show Go B n0 _ h_150 26 332 240 #[.val (.int p0), .val (.int p1), .val (.int p2), .val (.int p3), .val (.int ca), .val (.int cb), .val (.int cc), .val (.int cd), .val (.int la), .val (.int lb), .val (.int lc), .val (.int ld), .val (.int da), .val (.int db), .val (.int dc), .val (.int dd), .val (.ref a_8), .val (.ref a_17), .val (.ref a_71), .unset, .unset] [(.int (2 : Int32))]
          refine g_istore C at_240 (v := (2 : Int32)) (L' := #[.val (.int p0), .val (.int p1), .val (.int p2), .val (.int p3), .val (.int ca), .val (.int cb), .val (.int cc), .val (.int cd), .val (.int la), .val (.int lb), .val (.int lc), .val (.int ld), .val (.int da), .val (.int db), .val (.int dc), .val (.int dd), .val (.ref a_8), .val (.ref a_17), .val (.ref a_71), .val (.int (2 : Int32)), .unset]) rfl (pc' := 242) rfl ?_
          refine g_iload C at_242 (v := (2 : Int32)) rfl (pc' := 244) rfl ?_
          refine g_iconst C at_244 (v := (1 : Int32)) rfl (pc' := 245) rfl ?_
          refine g_icmp_y C at_245 (Jvm.Free.XT.ii_ne_t (by decide)) (pc' := 263) (by decide) (by decide) ?_
          refine g_iload C at_263 (v := (2 : Int32)) rfl (pc' := 265) rfl ?_
          refine g_iconst C at_265 (v := (2 : Int32)) rfl (pc' := 266) rfl ?_
          refine g_icmp_n C at_266 (Jvm.Free.XT.ii_ne_f (by decide)) (pc' := 269) rfl ?_
          refine g_aload C at_269 (v := (.ref a_17)) rfl rfl (pc' := 271) rfl ?_
          refine g_aload C at_271 (v := (.ref a_8)) rfl rfl (pc' := 273) rfl ?_
          have f_277 := ((f_117.keep K_128).keep K_154)
          have f_278 := (Nat.le_trans f_149 K_154.1)
          have f_279 := ((f_114.keep K_128).keep K_154)
          refine g_virtual C (own_w hw 58 rfl) (own_w hw 59 rfl) (own_w hw 61 rfl) (own_w hw 60 rfl) (own_w hw 36 rfl) (own_w hw 62 rfl) (notFace_of_selects (args := #[]) (mvT C.2.2.2.2.1 (own_w hw 61 rfl))) (by decide) f_279 (rm_mneqT l Z a0 hw n0 a_17 a_8 h_150 f_278 f_277) (st := []) [(.ref a_8)] rfl rfl own_pd_4_equals rfl rfl (by decide) (W := 0) (Nat.le_of_eq rfl) (by decide) (by decide) (by decide) at_273 (pc' := 276) rfl ?_
          intro v_282 h_280 q_281
          obtain ⟨rfl, rfl⟩ := q_281
          show Go B n0 _ h_150 26 332 276 #[.val (.int p0), .val (.int p1), .val (.int p2), .val (.int p3), .val (.int ca), .val (.int cb), .val (.int cc), .val (.int cd), .val (.int la), .val (.int lb), .val (.int lc), .val (.int ld), .val (.int da), .val (.int db), .val (.int dc), .val (.int dd), .val (.ref a_8), .val (.ref a_17), .val (.ref a_71), .val (.int (2 : Int32)), .unset] [(.int (0 : Int32))]
          refine g_if_n C at_276 (Jvm.Free.XT.i0_ne_f (by decide)) (pc' := 279) rfl ?_
          refine g_iconst C at_279 (v := (1 : Int32)) rfl (pc' := 280) rfl ?_
          refine g_goto C at_280 (pc' := 284) (by decide) (by decide) ?_
          refine g_ret C (eW hW fun vm' hw' => trivial) (v := (.int (1 : Int32))) (ty := .boolean) rfl rfl (Or.inl ⟨rfl, Or.inr (Or.inl rfl), _, rfl⟩) at_284 (by decide) (by decide) ?_
          rfl
        · subst i_157e
          show Go B n0 _ h_150 26 332 240 #[.val (.int p0), .val (.int p1), .val (.int p2), .val (.int p3), .val (.int ca), .val (.int cb), .val (.int cc), .val (.int cd), .val (.int la), .val (.int lb), .val (.int lc), .val (.int ld), .val (.int da), .val (.int db), .val (.int dc), .val (.int dd), .val (.ref a_8), .val (.ref a_17), .val (.ref a_71), .unset, .unset] [(.int (3 : Int32))]
          refine g_istore C at_240 (v := (3 : Int32)) (L' := #[.val (.int p0), .val (.int p1), .val (.int p2), .val (.int p3), .val (.int ca), .val (.int cb), .val (.int cc), .val (.int cd), .val (.int la), .val (.int lb), .val (.int lc), .val (.int ld), .val (.int da), .val (.int db), .val (.int dc), .val (.int dd), .val (.ref a_8), .val (.ref a_17), .val (.ref a_71), .val (.int (3 : Int32)), .unset]) rfl (pc' := 242) rfl ?_
          refine g_iload C at_242 (v := (3 : Int32)) rfl (pc' := 244) rfl ?_
          refine g_iconst C at_244 (v := (1 : Int32)) rfl (pc' := 245) rfl ?_
          refine g_icmp_y C at_245 (Jvm.Free.XT.ii_ne_t (by decide)) (pc' := 263) (by decide) (by decide) ?_
          refine g_iload C at_263 (v := (3 : Int32)) rfl (pc' := 265) rfl ?_
          refine g_iconst C at_265 (v := (2 : Int32)) rfl (pc' := 266) rfl ?_
          refine g_icmp_y C at_266 (Jvm.Free.XT.ii_ne_t (by decide)) (pc' := 285) (by decide) (by decide) ?_
          refine g_iload C at_285 (v := (3 : Int32)) rfl (pc' := 287) rfl ?_
          refine g_iconst C at_287 (v := (3 : Int32)) rfl (pc' := 288) rfl ?_
          refine g_icmp_n C at_288 (Jvm.Free.XT.ii_ne_f (by decide)) (pc' := 291) rfl ?_
          refine g_aload C at_291 (v := (.ref a_17)) rfl rfl (pc' := 293) rfl ?_
          refine g_aload C at_293 (v := (.ref a_17)) rfl rfl (pc' := 295) rfl ?_
          have f_284 := ((f_114.keep K_128).keep K_154)
          have f_285 := ((((f_63.ext E_73).keep K_101 nin0).keep K_128 nin0).keep K_154 (ninS ne_76 nin0))
          have f_286 := ((((f_64.ext E_73).keep K_101 nin0).keep K_128 nin0).keep K_154 (ninS ne_76 nin0))
          have f_287 := ((f_117.keep K_128).keep K_154)
          have f_288 := ((f_115.keep K_128).keep K_154)
          have f_289 := (Nat.le_trans f_149 K_154.1)
          refine g_virtual C (own_w hw 58 rfl) (own_w hw 59 rfl) (own_w hw 61 rfl) (own_w hw 60 rfl) (own_w hw 36 rfl) (own_w hw 62 rfl) (notFace_of_selects (args := #[]) (mvT C.2.2.2.2.1 (own_w hw 61 rfl))) (by decide) f_284 (rm_mneqS l Z a0 hw n0 a_17 a_8 a_38 h_150 f_289 f_284 f_285 f_286 f_287 f_288) (st := []) [(.ref a_17)] rfl rfl own_pd_4_equals rfl rfl (by decide) (W := 0) (Nat.le_of_eq rfl) (by decide) (by decide) (by decide) at_295 (pc' := 298) rfl ?_
          intro v_292 h_290 q_291
          obtain ⟨rfl, rfl⟩ := q_291
          show Go B n0 _ h_150 26 332 298 #[.val (.int p0), .val (.int p1), .val (.int p2), .val (.int p3), .val (.int ca), .val (.int cb), .val (.int cc), .val (.int cd), .val (.int la), .val (.int lb), .val (.int lc), .val (.int ld), .val (.int da), .val (.int db), .val (.int dc), .val (.int dd), .val (.ref a_8), .val (.ref a_17), .val (.ref a_71), .val (.int (3 : Int32)), .unset] [(.int (1 : Int32))]
          refine g_ret C (eW hW fun vm' hw' => trivial) (v := (.int (1 : Int32))) (ty := .boolean) rfl rfl (Or.inl ⟨rfl, Or.inr (Or.inl rfl), _, rfl⟩) at_298 (by decide) (by decide) ?_
          rfl
      · refine g_if_n C at_95 (Jvm.Free.XT.i0_eq_f hb_3) (pc' := 98) rfl ?_
        refine g_iload C at_98 (v := ca) rfl (pc' := 100) rfl ?_
        refine g_iload_n C at_100 (v := p1) rfl (pc' := 101) rfl ?_
        refine g_iconst C at_101 (v := (1 : Int32)) rfl (pc' := 102) rfl ?_
        refine g_iand C (x := p1) (y := (1 : Int32)) at_102  (pc' := 103) rfl ?_
        refine g_ixor C (x := ca) (y := (p1 &&& (1 : Int32))) at_103  (pc' := 104) rfl ?_
        obtain ⟨da, eda⟩ : ∃ z : Int32, z = (ca ^^^ (p1 &&& (1 : Int32))) := ⟨_, rfl⟩
        rw [← eda]
        have kda : Ch da := by rw [eda]; exact own_chX kca _
        refine g_istore C at_104 (v := da) (L' := #[.val (.int p0), .val (.int p1), .val (.int p2), .val (.int p3), .val (.int ca), .val (.int cb), .val (.int cc), .val (.int cd), .val (.int la), .val (.int lb), .val (.int lc), .val (.int ld), .val (.int da), .unset, .unset, .unset, .unset, .unset, .unset, .unset, .unset]) rfl (pc' := 106) rfl ?_
        refine g_iload C at_106 (v := cb) rfl (pc' := 108) rfl ?_
        refine g_iload_n C at_108 (v := p1) rfl (pc' := 109) rfl ?_
        refine g_iconst C at_109 (v := (1 : Int32)) rfl (pc' := 110) rfl ?_
        refine g_iushr C (x := p1) (y := (1 : Int32)) at_110  (pc' := 111) rfl ?_
        refine g_iconst C at_111 (v := (1 : Int32)) rfl (pc' := 112) rfl ?_
        refine g_iand C (x := (Jvm.Free.XT.ushr p1 (1 : Int32))) (y := (1 : Int32)) at_112  (pc' := 113) rfl ?_
        refine g_ixor C (x := cb) (y := ((Jvm.Free.XT.ushr p1 (1 : Int32)) &&& (1 : Int32))) at_113  (pc' := 114) rfl ?_
        obtain ⟨db, edb⟩ : ∃ z : Int32, z = (cb ^^^ ((Jvm.Free.XT.ushr p1 (1 : Int32)) &&& (1 : Int32))) := ⟨_, rfl⟩
        rw [← edb]
        have kdb : Ch db := by rw [edb]; exact own_chX kcb _
        refine g_istore C at_114 (v := db) (L' := #[.val (.int p0), .val (.int p1), .val (.int p2), .val (.int p3), .val (.int ca), .val (.int cb), .val (.int cc), .val (.int cd), .val (.int la), .val (.int lb), .val (.int lc), .val (.int ld), .val (.int da), .val (.int db), .unset, .unset, .unset, .unset, .unset, .unset, .unset]) rfl (pc' := 116) rfl ?_
        refine g_iload C at_116 (v := cc) rfl (pc' := 118) rfl ?_
        refine g_iload_n C at_118 (v := p1) rfl (pc' := 119) rfl ?_
        refine g_iconst C at_119 (v := (2 : Int32)) rfl (pc' := 120) rfl ?_
        refine g_iushr C (x := p1) (y := (2 : Int32)) at_120  (pc' := 121) rfl ?_
        refine g_iconst C at_121 (v := (1 : Int32)) rfl (pc' := 122) rfl ?_
        refine g_iand C (x := (Jvm.Free.XT.ushr p1 (2 : Int32))) (y := (1 : Int32)) at_122  (pc' := 123) rfl ?_
        refine g_ixor C (x := cc) (y := ((Jvm.Free.XT.ushr p1 (2 : Int32)) &&& (1 : Int32))) at_123  (pc' := 124) rfl ?_
        obtain ⟨dc, edc⟩ : ∃ z : Int32, z = (cc ^^^ ((Jvm.Free.XT.ushr p1 (2 : Int32)) &&& (1 : Int32))) := ⟨_, rfl⟩
        rw [← edc]
        have kdc : Ch dc := by rw [edc]; exact own_chX kcc _
        refine g_istore C at_124 (v := dc) (L' := #[.val (.int p0), .val (.int p1), .val (.int p2), .val (.int p3), .val (.int ca), .val (.int cb), .val (.int cc), .val (.int cd), .val (.int la), .val (.int lb), .val (.int lc), .val (.int ld), .val (.int da), .val (.int db), .val (.int dc), .unset, .unset, .unset, .unset, .unset, .unset]) rfl (pc' := 126) rfl ?_
        refine g_iload C at_126 (v := cd) rfl (pc' := 128) rfl ?_
        refine g_iload_n C at_128 (v := p1) rfl (pc' := 129) rfl ?_
        refine g_iconst C at_129 (v := (3 : Int32)) rfl (pc' := 130) rfl ?_
        refine g_iushr C (x := p1) (y := (3 : Int32)) at_130  (pc' := 131) rfl ?_
        refine g_iconst C at_131 (v := (1 : Int32)) rfl (pc' := 132) rfl ?_
        refine g_iand C (x := (Jvm.Free.XT.ushr p1 (3 : Int32))) (y := (1 : Int32)) at_132  (pc' := 133) rfl ?_
        refine g_ixor C (x := cd) (y := ((Jvm.Free.XT.ushr p1 (3 : Int32)) &&& (1 : Int32))) at_133  (pc' := 134) rfl ?_
        obtain ⟨dd, edd⟩ : ∃ z : Int32, z = (cd ^^^ ((Jvm.Free.XT.ushr p1 (3 : Int32)) &&& (1 : Int32))) := ⟨_, rfl⟩
        rw [← edd]
        have kdd : Ch dd := by rw [edd]; exact own_chX kcd _
        refine g_istore C at_134 (v := dd) (L' := #[.val (.int p0), .val (.int p1), .val (.int p2), .val (.int p3), .val (.int ca), .val (.int cb), .val (.int cc), .val (.int cd), .val (.int la), .val (.int lb), .val (.int lc), .val (.int ld), .val (.int da), .val (.int db), .val (.int dc), .val (.int dd), .unset, .unset, .unset, .unset, .unset]) rfl (pc' := 136) rfl ?_
        refine g_goto C at_136 (pc' := 176) (by decide) (by decide) ?_
        refine g_iload C at_176 (v := la) rfl (pc' := 178) rfl ?_
        refine g_iload C at_178 (v := ca) rfl (pc' := 180) rfl ?_
        refine g_iload C at_180 (v := cb) rfl (pc' := 182) rfl ?_
        refine g_staticV C hW (own_w hw 0 rfl) (own_w hw 1 rfl) (own_w hw 2 rfl) (own_w hw 3 rfl) (by decide) (rm_str l Z a0 hw n0 la ca cb h0 Z0 cm O ch0 ch1 ch2 cw kca kcb) (fun vm' hw' => InvK.warm I0 hw') (st := []) [(.int la), (.int ca), (.int cb)] rfl rfl own_pd_1_str rfl rfl (by decide) (W := 0) (Nat.le_of_eq rfl) (by decide) (by decide) (by decide) at_182 (pc' := 185) rfl ?_
        intro B C hW v_296 h_294 q_295 I_297
        obtain ⟨a_298, b_299, rfl, le_300, K_301, E_302, f_303, f_304, f_305⟩ := q_295
        have ge_a_298 : n0 ≤ a_298 := Nat.le_trans Z0 le_300
        have gs_a_298 : h0.size ≤ a_298 := Nat.le_trans (Nat.le_refl h0.size) le_300
        show Go B n0 _ h_294 4 8 185 #[.val (.int p0), .val (.int p1), .val (.int p2), .val (.int p3), .val (.int ca), .val (.int cb), .val (.int cc), .val (.int cd), .val (.int la), .val (.int lb), .val (.int lc), .val (.int ld), .val (.int da), .val (.int db), .val (.int dc), .val (.int dd), .unset, .unset, .unset, .unset, .unset] [(.ref a_298)]
        refine g_astore C at_185 (v := (.ref a_298)) (L' := #[.val (.int p0), .val (.int p1), .val (.int p2), .val (.int p3), .val (.int ca), .val (.int cb), .val (.int cc), .val (.int cd), .val (.int la), .val (.int lb), .val (.int lc), .val (.int ld), .val (.int da), .val (.int db), .val (.int dc), .val (.int dd), .val (.ref a_298), .unset, .unset, .unset, .unset]) rfl rfl (pc' := 187) rfl ?_
        refine g_new C (own_w hw 34 rfl) (own_w hw 35 rfl) (own_w hw 36 rfl) (by decide) (by decide) at_187 (pc' := 190) rfl ?_
        intro h_306 a_307 g_308 E_309 A_310 D_311
        have ne_312 : a_298 ≠ a_307 := ne_new E_302.lt g_308
        have ne_313 : b_299 ≠ a_307 := ne_new f_305.lt g_308
        have f_314 := (Nat.le_trans Z0 K_301.1)
        have ge_a_307 : n0 ≤ a_307 := Nat.le_trans f_314 (Nat.le_of_eq g_308.symm)
        have f_315 := (Nat.le_trans (Nat.le_refl h0.size) K_301.1)
        have gs_a_307 : h0.size ≤ a_307 := Nat.le_trans f_315 (Nat.le_of_eq g_308.symm)
        have f_316 : Fld Z h_306 a_307 "com/example/chiton/chiton/model/MethodName" "className" "Ljava/lang/String;" .null := D_311 (Or.inr (own_w hw 51 rfl)) (ty := (.object "java/lang/String")) (by decide)
        have f_317 : Fld Z h_306 a_307 "com/example/chiton/chiton/model/MethodName" "methodName" "Ljava/lang/String;" .null := D_311 (Or.inr (own_w hw 54 rfl)) (ty := (.object "java/lang/String")) (by decide)
        show Go B n0 _ h_306 5 10 190 #[.val (.int p0), .val (.int p1), .val (.int p2), .val (.int p3), .val (.int ca), .val (.int cb), .val (.int cc), .val (.int cd), .val (.int la), .val (.int lb), .val (.int lc), .val (.int ld), .val (.int da), .val (.int db), .val (.int dc), .val (.int dd), .val (.ref a_298), .unset, .unset, .unset, .unset] [(.ref a_307)]
        refine g_dup C at_190 rfl (pc' := 191) rfl ?_
        refine g_aload C at_191 (v := (.ref a_298)) rfl rfl (pc' := 193) rfl ?_
        refine g_iload C at_193 (v := lb) rfl (pc' := 195) rfl ?_
        refine g_iload C at_195 (v := cc) rfl (pc' := 197) rfl ?_
        refine g_iload C at_197 (v := cd) rfl (pc' := 199) rfl ?_
        have f_318 := ((O.keep K_301 all0).ext E_309)
        have f_319 := (Nat.le_trans f_314 E_309.1)
        have f_320 := (I_297.ext E_309)
        have f_321 := (E_302.ext E_309)
        have f_322 := (f_305.ext E_309)
        have f_323 := (Nat.le_trans f_315 E_309.1)
        refine g_staticV C hW (own_w hw 0 rfl) (own_w hw 1 rfl) (own_w hw 2 rfl) (own_w hw 3 rfl) (by decide) (rm_str l Z a0 hw n0 lb cc cd h_306 f_319 cm f_318 ch0 ch1 ch2 cw kcc kcd) (fun vm' hw' => InvK.warm f_320 hw') (st := [(.ref a_298), (.ref a_307), (.ref a_307)]) [(.int lb), (.int cc), (.int cd)] rfl rfl own_pd_1_str rfl rfl (by decide) (W := 3) (Nat.le_of_eq rfl) (by decide) (by decide) (by decide) at_199 (pc' := 202) rfl ?_
        intro B C hW v_326 h_324 q_325 I_327
        obtain ⟨a_328, b_329, rfl, le_330, K_331, E_332, f_333, f_334, f_335⟩ := q_325
        have ne_336 : a_298 ≠ a_328 := ne_ge f_321.lt le_330
        have ne_337 : a_307 ≠ a_328 := ne_ge A_310.lt le_330
        have ne_338 : b_299 ≠ a_328 := ne_ge f_322.lt le_330
        have ge_a_328 : n0 ≤ a_328 := Nat.le_trans f_319 le_330
        have gs_a_328 : h0.size ≤ a_328 := Nat.le_trans f_323 le_330
        show Go B n0 _ h_324 9 18 202 #[.val (.int p0), .val (.int p1), .val (.int p2), .val (.int p3), .val (.int ca), .val (.int cb), .val (.int cc), .val (.int cd), .val (.int la), .val (.int lb), .val (.int lc), .val (.int ld), .val (.int da), .val (.int db), .val (.int dc), .val (.int dd), .val (.ref a_298), .unset, .unset, .unset, .unset] [(.ref a_328), (.ref a_298), (.ref a_307), (.ref a_307)]
        have f_340 := (A_310.keep K_331)
        have f_341 := (f_322.keep K_331 nin0)
        have ne_339 : b_299 ≠ a_307 := own_neA f_340 f_341 (own_w hw 35 rfl)
        have ne_342 : b_329 ≠ a_307 := own_neA f_340 f_335 (own_w hw 35 rfl)
        have f_343 := (f_318.keep K_331 all0)
        have f_344 := (f_316.keep K_331 nin0)
        have f_345 := (f_317.keep K_331 nin0)
        have f_346 := (f_321.keep K_331)
        have f_347 := (Nat.le_trans f_319 K_331.1)
        refine g_specialV C hW (a := a_307) rfl (own_w hw 40 rfl) (own_w hw 41 rfl) (own_w hw 36 rfl) (own_w hw 42 rfl) (by decide) (rm_mninit l Z a0 hw n0 a_307 a_298 a_328 h_324 f_347 cm f_343 ch0 ch1 ch2 cw f_340 f_344 f_345 ge_a_307 f_346 E_332) (fun vm' hw' => InvK.warm I_327 hw') (st := [(.ref a_307)]) [(.ref a_298), (.ref a_328)] rfl rfl own_pd_6_init rfl rfl (by decide) (W := 1) (Nat.le_of_eq rfl) (by decide) (by decide) (by decide) at_202 (pc' := 205) rfl ?_
        intro B C hW v_350 h_348 q_349 I_351
        obtain ⟨rfl, K_352, f_353, f_354⟩ := q_349
        show Go B n0 _ h_348 13 166 205 #[.val (.int p0), .val (.int p1), .val (.int p2), .val (.int p3), .val (.int ca), .val (.int cb), .val (.int cc), .val (.int cd), .val (.int la), .val (.int lb), .val (.int lc), .val (.int ld), .val (.int da), .val (.int db), .val (.int dc), .val (.int dd), .val (.ref a_298), .unset, .unset, .unset, .unset] [(.ref a_307)]
        refine g_astore C at_205 (v := (.ref a_307)) (L' := #[.val (.int p0), .val (.int p1), .val (.int p2), .val (.int p3), .val (.int ca), .val (.int cb), .val (.int cc), .val (.int cd), .val (.int la), .val (.int lb), .val (.int lc), .val (.int ld), .val (.int da), .val (.int db), .val (.int dc), .val (.int dd), .val (.ref a_298), .val (.ref a_307), .unset, .unset, .unset]) rfl rfl (pc' := 207) rfl ?_
        have f_355 := (f_346.keep K_352)
        have f_356 := (f_340.keep K_352)
        have f_357 := (E_332.keep K_352)
        have f_358 := (f_341.keep K_352 (ninS ne_339 nin0))
        have f_359 := (f_335.keep K_352 (ninS ne_342 nin0))
        refine g_new C (own_w hw 34 rfl) (own_w hw 35 rfl) (own_w hw 36 rfl) (by decide) (by decide) at_207 (pc' := 210) rfl ?_
        intro h_360 a_361 g_362 E_363 A_364 D_365
        have ne_366 : a_298 ≠ a_361 := ne_new f_355.lt g_362
        have ne_367 : a_307 ≠ a_361 := ne_new f_356.lt g_362
        have ne_368 : a_328 ≠ a_361 := ne_new f_357.lt g_362
        have ne_369 : b_299 ≠ a_361 := ne_new f_358.lt g_362
        have ne_370 : b_329 ≠ a_361 := ne_new f_359.lt g_362
        have f_371 := (Nat.le_trans f_347 K_352.1)
        have ge_a_361 : n0 ≤ a_361 := Nat.le_trans f_371 (Nat.le_of_eq g_362.symm)
        have f_372 := (Nat.le_trans (Nat.le_trans f_323 K_331.1) K_352.1)
        have gs_a_361 : h0.size ≤ a_361 := Nat.le_trans f_372 (Nat.le_of_eq g_362.symm)
        have f_373 : Fld Z h_360 a_361 "com/example/chiton/chiton/model/MethodName" "className" "Ljava/lang/String;" .null := D_365 (Or.inr (own_w hw 51 rfl)) (ty := (.object "java/lang/String")) (by decide)
        have f_374 : Fld Z h_360 a_361 "com/example/chiton/chiton/model/MethodName" "methodName" "Ljava/lang/String;" .null := D_365 (Or.inr (own_w hw 54 rfl)) (ty := (.object "java/lang/String")) (by decide)
        show Go B n0 _ h_360 14 168 210 #[.val (.int p0), .val (.int p1), .val (.int p2), .val (.int p3), .val (.int ca), .val (.int cb), .val (.int cc), .val (.int cd), .val (.int la), .val (.int lb), .val (.int lc), .val (.int ld), .val (.int da), .val (.int db), .val (.int dc), .val (.int dd), .val (.ref a_298), .val (.ref a_307), .unset, .unset, .unset] [(.ref a_361)]
        refine g_dup C at_210 rfl (pc' := 211) rfl ?_
        refine g_iload C at_211 (v := lc) rfl (pc' := 213) rfl ?_
        refine g_iload C at_213 (v := da) rfl (pc' := 215) rfl ?_
        refine g_iload C at_215 (v := db) rfl (pc' := 217) rfl ?_
        have f_375 := ((f_343.keep K_352 (allS ge_a_307 all0)).ext E_363)
        have f_376 := (Nat.le_trans f_371 E_363.1)
        have f_377 := (I_351.ext E_363)
        have f_378 := (f_355.ext E_363)
        have f_379 := (f_356.ext E_363)
        have f_380 := (f_357.ext E_363)
        have f_381 := (f_358.ext E_363)
        have f_382 := (f_359.ext E_363)
        have f_383 := (Nat.le_trans f_372 E_363.1)
        refine g_staticV C hW (own_w hw 0 rfl) (own_w hw 1 rfl) (own_w hw 2 rfl) (own_w hw 3 rfl) (by decide) (rm_str l Z a0 hw n0 lc da db h_360 f_376 cm f_375 ch0 ch1 ch2 cw kda kdb) (fun vm' hw' => InvK.warm f_377 hw') (st := [(.ref a_361), (.ref a_361)]) [(.int lc), (.int da), (.int db)] rfl rfl own_pd_1_str rfl rfl (by decide) (W := 2) (Nat.le_of_eq rfl) (by decide) (by decide) (by decide) at_217 (pc' := 220) rfl ?_
        intro B C hW v_386 h_384 q_385 I_387
        obtain ⟨a_388, b_389, rfl, le_390, K_391, E_392, f_393, f_394, f_395⟩ := q_385
        have ne_396 : a_298 ≠ a_388 := ne_ge f_378.lt le_390
        have ne_397 : a_307 ≠ a_388 := ne_ge f_379.lt le_390
        have ne_398 : a_328 ≠ a_388 := ne_ge f_380.lt le_390
        have ne_399 : a_361 ≠ a_388 := ne_ge A_364.lt le_390
        have ne_400 : b_299 ≠ a_388 := ne_ge f_381.lt le_390
        have ne_401 : b_329 ≠ a_388 := ne_ge f_382.lt le_390
        have ge_a_388 : n0 ≤ a_388 := Nat.le_trans f_376 le_390
        have gs_a_388 : h0.size ≤ a_388 := Nat.le_trans f_383 le_390
        show Go B n0 _ h_384 18 176 220 #[.val (.int p0), .val (.int p1), .val (.int p2), .val (.int p3), .val (.int ca), .val (.int cb), .val (.int cc), .val (.int cd), .val (.int la), .val (.int lb), .val (.int lc), .val (.int ld), .val (.int da), .val (.int db), .val (.int dc), .val (.int dd), .val (.ref a_298), .val (.ref a_307), .unset, .unset, .unset] [(.ref a_388), (.ref a_361), (.ref a_361)]
        refine g_iload C at_220 (v := ld) rfl (pc' := 222) rfl ?_
        refine g_iload C at_222 (v := dc) rfl (pc' := 224) rfl ?_
        refine g_iload C at_224 (v := dd) rfl (pc' := 226) rfl ?_
        have f_402 := (f_375.keep K_391 all0)
        have f_403 := (Nat.le_trans f_376 K_391.1)
        have f_404 := (f_378.keep K_391)
        have f_405 := (f_379.keep K_391)
        have f_406 := (f_380.keep K_391)
        have f_407 := (A_364.keep K_391)
        have f_408 := (f_381.keep K_391 nin0)
        have f_409 := (f_382.keep K_391 nin0)
        have f_410 := (Nat.le_trans f_383 K_391.1)
        refine g_staticV C hW (own_w hw 0 rfl) (own_w hw 1 rfl) (own_w hw 2 rfl) (own_w hw 3 rfl) (by decide) (rm_str l Z a0 hw n0 ld dc dd h_384 f_403 cm f_402 ch0 ch1 ch2 cw kdc kdd) (fun vm' hw' => InvK.warm I_387 hw') (st := [(.ref a_388), (.ref a_361), (.ref a_361)]) [(.int ld), (.int dc), (.int dd)] rfl rfl own_pd_1_str rfl rfl (by decide) (W := 3) (Nat.le_of_eq rfl) (by decide) (by decide) (by decide) at_226 (pc' := 229) rfl ?_
        intro B C hW v_413 h_411 q_412 I_414
        obtain ⟨a_415, b_416, rfl, le_417, K_418, E_419, f_420, f_421, f_422⟩ := q_412
        have ne_423 : a_298 ≠ a_415 := ne_ge f_404.lt le_417
        have ne_424 : a_307 ≠ a_415 := ne_ge f_405.lt le_417
        have ne_425 : a_328 ≠ a_415 := ne_ge f_406.lt le_417
        have ne_426 : a_361 ≠ a_415 := ne_ge f_407.lt le_417
        have ne_427 : a_388 ≠ a_415 := ne_ge E_392.lt le_417
        have ne_428 : b_299 ≠ a_415 := ne_ge f_408.lt le_417
        have ne_429 : b_329 ≠ a_415 := ne_ge f_409.lt le_417
        have ne_430 : b_389 ≠ a_415 := ne_ge f_395.lt le_417
        have ge_a_415 : n0 ≤ a_415 := Nat.le_trans f_403 le_417
        have gs_a_415 : h0.size ≤ a_415 := Nat.le_trans f_410 le_417
        show Go B n0 _ h_411 22 184 229 #[.val (.int p0), .val (.int p1), .val (.int p2), .val (.int p3), .val (.int ca), .val (.int cb), .val (.int cc), .val (.int cd), .val (.int la), .val (.int lb), .val (.int lc), .val (.int ld), .val (.int da), .val (.int db), .val (.int dc), .val (.int dd), .val (.ref a_298), .val (.ref a_307), .unset, .unset, .unset] [(.ref a_415), (.ref a_388), (.ref a_361), (.ref a_361)]
        have f_432 := (f_407.keep K_418)
        have f_433 := (f_395.keep K_418 nin0)
        have ne_431 : b_389 ≠ a_361 := own_neA f_432 f_433 (own_w hw 35 rfl)
        have ne_434 : b_416 ≠ a_361 := own_neA f_432 f_422 (own_w hw 35 rfl)
        have f_435 := (f_402.keep K_418 all0)
        have f_436 := ((f_373.keep K_391 nin0).keep K_418 nin0)
        have f_437 := ((f_374.keep K_391 nin0).keep K_418 nin0)
        have f_438 := (E_392.keep K_418)
        have f_439 := (Nat.le_trans f_403 K_418.1)
        refine g_specialV C hW (a := a_361) rfl (own_w hw 40 rfl) (own_w hw 41 rfl) (own_w hw 36 rfl) (own_w hw 42 rfl) (by decide) (rm_mninit l Z a0 hw n0 a_361 a_388 a_415 h_411 f_439 cm f_435 ch0 ch1 ch2 cw f_432 f_436 f_437 ge_a_361 f_438 E_419) (fun vm' hw' => InvK.warm I_414 hw') (st := [(.ref a_361)]) [(.ref a_388), (.ref a_415)] rfl rfl own_pd_6_init rfl rfl (by decide) (W := 1) (Nat.le_of_eq rfl) (by decide) (by decide) (by decide) at_229 (pc' := 232) rfl ?_
        intro B C hW v_442 h_440 q_441 I_443
        obtain ⟨rfl, K_444, f_445, f_446⟩ := q_441
        show Go B n0 _ h_440 26 332 232 #[.val (.int p0), .val (.int p1), .val (.int p2), .val (.int p3), .val (.int ca), .val (.int cb), .val (.int cc), .val (.int cd), .val (.int la), .val (.int lb), .val (.int lc), .val (.int ld), .val (.int da), .val (.int db), .val (.int dc), .val (.int dd), .val (.ref a_298), .val (.ref a_307), .unset, .unset, .unset] [(.ref a_361)]
        refine g_astore C at_232 (v := (.ref a_361)) (L' := #[.val (.int p0), .val (.int p1), .val (.int p2), .val (.int p3), .val (.int ca), .val (.int cb), .val (.int cc), .val (.int cd), .val (.int la), .val (.int lb), .val (.int lc), .val (.int ld), .val (.int da), .val (.int db), .val (.int dc), .val (.int dd), .val (.ref a_298), .val (.ref a_307), .val (.ref a_361), .unset, .unset]) rfl rfl (pc' := 234) rfl ?_
        refine g_iload_n C at_234 (v := p2) rfl (pc' := 235) rfl ?_
        refine g_bipush C at_235 (v := (8 : Int32)) rfl (pc' := 237) rfl ?_
        refine g_iushr C (x := p2) (y := (8 : Int32)) at_237  (pc' := 238) rfl ?_
        refine g_iconst C at_238 (v := (3 : Int32)) rfl (pc' := 239) rfl ?_
        refine g_iand C (x := (Jvm.Free.XT.ushr p2 (8 : Int32))) (y := (3 : Int32)) at_239  (pc' := 240) rfl ?_
        obtain ⟨i_447, hi_448⟩ : ∃ z : Int32, z = ((Jvm.Free.XT.ushr p2 (8 : Int32)) &&& (3 : Int32)) := ⟨_, rfl⟩
        rw [← hi_448]
        rcases own_split4 i_447 (by rw [hi_448]; exact (own_m3 _).1) (by rw [hi_448]; exact (own_m3 _).2) with i_447e | i_447e | i_447e | i_447e
        · subst i_447e
          show Go B n0 _ h_440 26 332 240 #[.val (.int p0), .val (.int p1), .val (.int p2), .val (.int p3), .val (.int ca), .val (.int cb), .val (.int cc), .val (.int cd), .val (.int la), .val (.int lb), .val (.int lc), .val (.int ld), .val (.int da), .val (.int db), .val (.int dc), .val (.int dd), .val (.ref a_298), .val (.ref a_307), .val (.ref a_361), .unset, .unset] [(.int (0 : Int32))]
          refine g_istore C at_240 (v := (0 : Int32)) (L' := #[.val (.int p0), .val (.int p1), .val (.int p2), .val (.int p3), .val (.int ca), .val (.int cb), .val (.int cc), .val (.int cd), .val (.int la), .val (.int lb), .val (.int lc), .val (.int ld), .val (.int da), .val (.int db), .val (.int dc), .val (.int dd), .val (.ref a_298), .val (.ref a_307), .val (.ref a_361), .val (.int (0 : Int32)), .unset]) rfl (pc' := 242) rfl ?_
          refine g_iload C at_242 (v := (0 : Int32)) rfl (pc' := 244) rfl ?_
          refine g_iconst C at_244 (v := (1 : Int32)) rfl (pc' := 245) rfl ?_
          refine g_icmp_y C at_245 (Jvm.Free.XT.ii_ne_t (by decide)) (pc' := 263) (by decide) (by decide) ?_
          refine g_iload C at_263 (v := (0 : Int32)) rfl (pc' := 265) rfl ?_
          refine g_iconst C at_265 (v := (2 : Int32)) rfl (pc' := 266) rfl ?_
          refine g_icmp_y C at_266 (Jvm.Free.XT.ii_ne_t (by decide)) (pc' := 285) (by decide) (by decide) ?_
          refine g_iload C at_285 (v := (0 : Int32)) rfl (pc' := 287) rfl ?_
          refine g_iconst C at_287 (v := (3 : Int32)) rfl (pc' := 288) rfl ?_
          refine g_icmp_y C at_288 (Jvm.Free.XT.ii_ne_t (by decide)) (pc' := 299) (by decide) (by decide) ?_
          refine g_iload C at_299 (v := la) rfl (pc' := 301) rfl ?_
          refine g_iload C at_301 (v := ca) rfl (pc' := 303) rfl ?_
          refine g_iload C at_303 (v := cb) rfl (pc' := 305) rfl ?_
          refine g_iload C at_305 (v := lc) rfl (pc' := 307) rfl ?_
          refine g_iload C at_307 (v := da) rfl (pc' := 309) rfl ?_
          refine g_iload C at_309 (v := db) rfl (pc' := 311) rfl ?_
          have f_449 := (Nat.le_trans f_439 K_444.1)
          refine g_static C (own_w hw 55 rfl) (own_w hw 56 rfl) (own_w hw 2 rfl) (own_w hw 57 rfl) (by decide) (rm_same l Z a0 hw n0 la ca cb lc da db h_440 f_449 rla rlc kca kcb kda kdb) (st := []) [(.int la), (.int ca), (.int cb), (.int lc), (.int da), (.int db)] rfl rfl own_pd_3_same rfl rfl (by decide) (W := 0) (Nat.le_of_eq rfl) (by decide) (by decide) (by decide) at_311 (pc' := 314) rfl ?_
          intro v_452 h_450 q_451
          obtain ⟨r_454, rfl, ⟨e_455, rfl⟩ | ⟨e_455, rfl⟩, rfl⟩ := q_451
          · show Go B n0 _ h_440 26 332 314 #[.val (.int p0), .val (.int p1), .val (.int p2), .val (.int p3), .val (.int ca), .val (.int cb), .val (.int cc), .val (.int cd), .val (.int la), .val (.int lb), .val (.int lc), .val (.int ld), .val (.int da), .val (.int db), .val (.int dc), .val (.int dd), .val (.ref a_298), .val (.ref a_307), .val (.ref a_361), .val (.int (0 : Int32)), .unset] [(.int (1 : Int32))]
            refine g_if_n C at_314 (Jvm.Free.XT.i0_eq_f (by decide)) (pc' := 317) rfl ?_
            refine g_iload C at_317 (v := lb) rfl (pc' := 319) rfl ?_
            refine g_iload C at_319 (v := cc) rfl (pc' := 321) rfl ?_
            refine g_iload C at_321 (v := cd) rfl (pc' := 323) rfl ?_
            refine g_iload C at_323 (v := ld) rfl (pc' := 325) rfl ?_
            refine g_iload C at_325 (v := dc) rfl (pc' := 327) rfl ?_
            refine g_iload C at_327 (v := dd) rfl (pc' := 329) rfl ?_
            refine g_static C (own_w hw 55 rfl) (own_w hw 56 rfl) (own_w hw 2 rfl) (own_w hw 57 rfl) (by decide) (rm_same l Z a0 hw n0 lb cc cd ld dc dd h_440 f_449 rlb rld kcc kcd kdc kdd) (st := []) [(.int lb), (.int cc), (.int cd), (.int ld), (.int dc), (.int dd)] rfl rfl own_pd_3_same rfl rfl (by decide) (W := 0) (Nat.le_of_eq rfl) (by decide) (by decide) (by decide) at_329 (pc' := 332) rfl ?_
            intro v_458 h_456 q_457
            obtain ⟨r_460, rfl, ⟨e_461, rfl⟩ | ⟨e_461, rfl⟩, rfl⟩ := q_457
            · show Go B n0 _ h_440 26 332 332 #[.val (.int p0), .val (.int p1), .val (.int p2), .val (.int p3), .val (.int ca), .val (.int cb), .val (.int cc), .val (.int cd), .val (.int la), .val (.int lb), .val (.int lc), .val (.int ld), .val (.int da), .val (.int db), .val (.int dc), .val (.int dd), .val (.ref a_298), .val (.ref a_307), .val (.ref a_361), .val (.int (0 : Int32)), .unset] [(.int (1 : Int32))]
              refine g_if_n C at_332 (Jvm.Free.XT.i0_eq_f (by decide)) (pc' := 335) rfl ?_
              refine g_iconst C at_335 (v := (1 : Int32)) rfl (pc' := 336) rfl ?_
              refine g_goto C at_336 (pc' := 340) (by decide) (by decide) ?_
              refine g_istore C at_340 (v := (1 : Int32)) (L' := #[.val (.int p0), .val (.int p1), .val (.int p2), .val (.int p3), .val (.int ca), .val (.int cb), .val (.int cc), .val (.int cd), .val (.int la), .val (.int lb), .val (.int lc), .val (.int ld), .val (.int da), .val (.int db), .val (.int dc), .val (.int dd), .val (.ref a_298), .val (.ref a_307), .val (.ref a_361), .val (.int (0 : Int32)), .val (.int (1 : Int32))]) rfl (pc' := 342) rfl ?_
              refine g_aload C at_342 (v := (.ref a_307)) rfl rfl (pc' := 344) rfl ?_
              refine g_aload C at_344 (v := (.ref a_361)) rfl rfl (pc' := 346) rfl ?_
              have f_462 := (f_435.keep K_444 (allS ge_a_361 all0))
              have f_463 := ((f_405.keep K_418).keep K_444)
              have f_464 := ((((f_353.ext E_363).keep K_391 nin0).keep K_418 nin0).keep K_444 (ninS ne_367 nin0))
              have f_465 := ((((f_354.ext E_363).keep K_391 nin0).keep K_418 nin0).keep K_444 (ninS ne_367 nin0))
              have f_466 := (f_432.keep K_444)
              have f_467 := ((f_404.keep K_418).keep K_444)
              have f_468 := (((((((f_303.ext E_309).keep K_331 nin0).keep K_352 (ninS ne_312 nin0)).ext E_363).keep K_391 nin0).keep K_418 nin0).keep K_444 (ninS ne_366 nin0))
              have f_469 := (((((((f_304.ext E_309).keep K_331 nin0).keep K_352 (ninS ne_312 nin0)).ext E_363).keep K_391 nin0).keep K_418 nin0).keep K_444 (ninS ne_366 nin0))
              have f_470 := ((f_408.keep K_418 nin0).keep K_444 (ninS ne_369 nin0))
              have f_471 := (f_438.keep K_444)
              have f_472 := ((f_393.keep K_418 nin0).keep K_444 (ninS (Ne.symm ne_399) nin0))
              have f_473 := ((f_394.keep K_418 nin0).keep K_444 (ninS (Ne.symm ne_399) nin0))
              have f_474 := (f_433.keep K_444 (ninS ne_431 nin0))
              have f_475 := ((f_406.keep K_418).keep K_444)
              have f_476 := (((((f_333.keep K_352 (ninS (Ne.symm ne_337) nin0)).ext E_363).keep K_391 nin0).keep K_418 nin0).keep K_444 (ninS ne_368 nin0))
              have f_477 := (((((f_334.keep K_352 (ninS (Ne.symm ne_337) nin0)).ext E_363).keep K_391 nin0).keep K_418 nin0).keep K_444 (ninS ne_368 nin0))
              have f_478 := ((f_409.keep K_418 nin0).keep K_444 (ninS ne_370 nin0))
              have f_479 := (E_419.keep K_444)
              have f_480 := (f_420.keep K_444 (ninS (Ne.symm ne_426) nin0))
              have f_481 := (f_421.keep K_444 (ninS (Ne.symm ne_426) nin0))
              have f_482 := (f_422.keep K_444 (ninS ne_434 nin0))
              refine g_virtual C (own_w hw 58 rfl) (own_w hw 59 rfl) (own_w hw 61 rfl) (own_w hw 60 rfl) (own_w hw 36 rfl) (own_w hw 62 rfl) (notFace_of_selects (args := #[]) (mvT C.2.2.2.2.1 (own_w hw 61 rfl))) (by decide) f_463 (rm_mneqD l Z a0 hw n0 a_307 a_361 a_298 a_388 a_328 a_415 b_299 b_389 b_329 b_416 (own_str la ca cb) (own_str lc da db) (own_str lb cc cd) (own_str ld dc dd) h_440 f_449 cm f_462 f_463 f_464 f_465 f_466 f_445 f_446 f_467 f_468 f_469 f_470 (own_sh _ _ _) f_471 f_472 f_473 f_474 (own_sh _ _ _) f_475 f_476 f_477 f_478 (own_sh _ _ _) f_479 f_480 f_481 f_482 (own_sh _ _ _) ne_396 ne_425) (st := []) [(.ref a_361)] rfl rfl own_pd_4_equals rfl rfl (by decide) (W := 0) (Nat.le_of_eq rfl) (by decide) (by decide) (by decide) at_346 (pc' := 349) rfl ?_
              intro v_485 h_483 q_484
              obtain ⟨r_487, rfl, ⟨e_488, rfl⟩ | ⟨e_488, rfl⟩, rfl⟩ := q_484
              · show Go B n0 _ h_440 26 332 349 #[.val (.int p0), .val (.int p1), .val (.int p2), .val (.int p3), .val (.int ca), .val (.int cb), .val (.int cc), .val (.int cd), .val (.int la), .val (.int lb), .val (.int lc), .val (.int ld), .val (.int da), .val (.int db), .val (.int dc), .val (.int dd), .val (.ref a_298), .val (.ref a_307), .val (.ref a_361), .val (.int (0 : Int32)), .val (.int (1 : Int32))] [(.int (1 : Int32))]
                refine g_iload C at_349 (v := (1 : Int32)) rfl (pc' := 351) rfl ?_
                refine g_icmp_n C at_351 (Jvm.Free.XT.ii_ne_f (by decide)) (pc' := 354) rfl ?_
                refine g_aload C at_354 (v := (.ref a_361)) rfl rfl (pc' := 356) rfl ?_
                refine g_aload C at_356 (v := (.ref a_307)) rfl rfl (pc' := 358) rfl ?_
                refine g_virtual C (own_w hw 58 rfl) (own_w hw 59 rfl) (own_w hw 61 rfl) (own_w hw 60 rfl) (own_w hw 36 rfl) (own_w hw 62 rfl) (notFace_of_selects (args := #[]) (mvT C.2.2.2.2.1 (own_w hw 61 rfl))) (by decide) f_466 (rm_mneqD l Z a0 hw n0 a_361 a_307 a_388 a_298 a_415 a_328 b_389 b_299 b_416 b_329 (own_str lc da db) (own_str la ca cb) (own_str ld dc dd) (own_str lb cc cd) h_440 f_449 cm f_462 f_466 f_445 f_446 f_463 f_464 f_465 f_471 f_472 f_473 f_474 (own_sh _ _ _) f_467 f_468 f_469 f_470 (own_sh _ _ _) f_479 f_480 f_481 f_482 (own_sh _ _ _) f_475 f_476 f_477 f_478 (own_sh _ _ _) (Ne.symm ne_396) (Ne.symm ne_425)) (st := []) [(.ref a_307)] rfl rfl own_pd_4_equals rfl rfl (by decide) (W := 0) (Nat.le_of_eq rfl) (by decide) (by decide) (by decide) at_358 (pc' := 361) rfl ?_
                intro v_491 h_489 q_490
                obtain ⟨r_493, rfl, ⟨e_494, rfl⟩ | ⟨e_494, rfl⟩, rfl⟩ := q_490
                · show Go B n0 _ h_440 26 332 361 #[.val (.int p0), .val (.int p1), .val (.int p2), .val (.int p3), .val (.int ca), .val (.int cb), .val (.int cc), .val (.int cd), .val (.int la), .val (.int lb), .val (.int lc), .val (.int ld), .val (.int da), .val (.int db), .val (.int dc), .val (.int dd), .val (.ref a_298), .val (.ref a_307), .val (.ref a_361), .val (.int (0 : Int32)), .val (.int (1 : Int32))] [(.int (1 : Int32))]
                  refine g_iload C at_361 (v := (1 : Int32)) rfl (pc' := 363) rfl ?_
                  refine g_icmp_n C at_363 (Jvm.Free.XT.ii_ne_f (by decide)) (pc' := 366) rfl ?_
                  refine g_iconst C at_366 (v := (1 : Int32)) rfl (pc' := 367) rfl ?_
                  refine g_goto C at_367 (pc' := 371) (by decide) (by decide) ?_
                  refine g_ret C (eW hW fun vm' hw' => trivial) (v := (.int (1 : Int32))) (ty := .boolean) rfl rfl (Or.inl ⟨rfl, Or.inr (Or.inl rfl), _, rfl⟩) at_371 (by decide) (by decide) ?_
                  rfl
                · exact absurd ⟨e_455.symm, e_461.symm⟩ e_494
              · exact absurd ⟨e_455, e_461⟩ e_488
            · show Go B n0 _ h_440 26 332 332 #[.val (.int p0), .val (.int p1), .val (.int p2), .val (.int p3), .val (.int ca), .val (.int cb), .val (.int cc), .val (.int cd), .val (.int la), .val (.int lb), .val (.int lc), .val (.int ld), .val (.int da), .val (.int db), .val (.int dc), .val (.int dd), .val (.ref a_298), .val (.ref a_307), .val (.ref a_361), .val (.int (0 : Int32)), .unset] [(.int (0 : Int32))]
              refine g_if_y C at_332 (Jvm.Free.XT.i0_eq_t (by decide)) (pc' := 339) (by decide) (by decide) ?_
              refine g_iconst C at_339 (v := (0 : Int32)) rfl (pc' := 340) rfl ?_
              refine g_istore C at_340 (v := (0 : Int32)) (L' := #[.val (.int p0), .val (.int p1), .val (.int p2), .val (.int p3), .val (.int ca), .val (.int cb), .val (.int cc), .val (.int cd), .val (.int la), .val (.int lb), .val (.int lc), .val (.int ld), .val (.int da), .val (.int db), .val (.int dc), .val (.int dd), .val (.ref a_298), .val (.ref a_307), .val (.ref a_361), .val (.int (0 : Int32)), .val (.int (0 : Int32))]) rfl (pc' := 342) rfl ?_
              refine g_aload C at_342 (v := (.ref a_307)) rfl rfl (pc' := 344) rfl ?_
              refine g_aload C at_344 (v := (.ref a_361)) rfl rfl (pc' := 346) rfl ?_
              have f_495 := (f_435.keep K_444 (allS ge_a_361 all0))
              have f_496 := ((f_405.keep K_418).keep K_444)
              have f_497 := ((((f_353.ext E_363).keep K_391 nin0).keep K_418 nin0).keep K_444 (ninS ne_367 nin0))
              have f_498 := ((((f_354.ext E_363).keep K_391 nin0).keep K_418 nin0).keep K_444 (ninS ne_367 nin0))
              have f_499 := (f_432.keep K_444)
              have f_500 := ((f_404.keep K_418).keep K_444)
              have f_501 := (((((((f_303.ext E_309).keep K_331 nin0).keep K_352 (ninS ne_312 nin0)).ext E_363).keep K_391 nin0).keep K_418 nin0).keep K_444 (ninS ne_366 nin0))
              have f_502 := (((((((f_304.ext E_309).keep K_331 nin0).keep K_352 (ninS ne_312 nin0)).ext E_363).keep K_391 nin0).keep K_418 nin0).keep K_444 (ninS ne_366 nin0))
              have f_503 := ((f_408.keep K_418 nin0).keep K_444 (ninS ne_369 nin0))
              have f_504 := (f_438.keep K_444)
              have f_505 := ((f_393.keep K_418 nin0).keep K_444 (ninS (Ne.symm ne_399) nin0))
              have f_506 := ((f_394.keep K_418 nin0).keep K_444 (ninS (Ne.symm ne_399) nin0))
              have f_507 := (f_433.keep K_444 (ninS ne_431 nin0))
              have f_508 := ((f_406.keep K_418).keep K_444)
              have f_509 := (((((f_333.keep K_352 (ninS (Ne.symm ne_337) nin0)).ext E_363).keep K_391 nin0).keep K_418 nin0).keep K_444 (ninS ne_368 nin0))
              have f_510 := (((((f_334.keep K_352 (ninS (Ne.symm ne_337) nin0)).ext E_363).keep K_391 nin0).keep K_418 nin0).keep K_444 (ninS ne_368 nin0))
              have f_511 := ((f_409.keep K_418 nin0).keep K_444 (ninS ne_370 nin0))
              have f_512 := (E_419.keep K_444)
              have f_513 := (f_420.keep K_444 (ninS (Ne.symm ne_426) nin0))
              have f_514 := (f_421.keep K_444 (ninS (Ne.symm ne_426) nin0))
              have f_515 := (f_422.keep K_444 (ninS ne_434 nin0))
              refine g_virtual C (own_w hw 58 rfl) (own_w hw 59 rfl) (own_w hw 61 rfl) (own_w hw 60 rfl) (own_w hw 36 rfl) (own_w hw 62 rfl) (notFace_of_selects (args := #[]) (mvT C.2.2.2.2.1 (own_w hw 61 rfl))) (by decide) f_496 (rm_mneqD l Z a0 hw n0 a_307 a_361 a_298 a_388 a_328 a_415 b_299 b_389 b_329 b_416 (own_str la ca cb) (own_str lc da db) (own_str lb cc cd) (own_str ld dc dd) h_440 f_449 cm f_495 f_496 f_497 f_498 f_499 f_445 f_446 f_500 f_501 f_502 f_503 (own_sh _ _ _) f_504 f_505 f_506 f_507 (own_sh _ _ _) f_508 f_509 f_510 f_511 (own_sh _ _ _) f_512 f_513 f_514 f_515 (own_sh _ _ _) ne_396 ne_425) (st := []) [(.ref a_361)] rfl rfl own_pd_4_equals rfl rfl (by decide) (W := 0) (Nat.le_of_eq rfl) (by decide) (by decide) (by decide) at_346 (pc' := 349) rfl ?_
              intro v_518 h_516 q_517
              obtain ⟨r_520, rfl, ⟨e_521, rfl⟩ | ⟨e_521, rfl⟩, rfl⟩ := q_517
              · exact absurd (e_521.2) e_461
              · show Go B n0 _ h_440 26 332 349 #[.val (.int p0), .val (.int p1), .val (.int p2), .val (.int p3), .val (.int ca), .val (.int cb), .val (.int cc), .val (.int cd), .val (.int la), .val (.int lb), .val (.int lc), .val (.int ld), .val (.int da), .val (.int db), .val (.int dc), .val (.int dd), .val (.ref a_298), .val (.ref a_307), .val (.ref a_361), .val (.int (0 : Int32)), .val (.int (0 : Int32))] [(.int (0 : Int32))]
                refine g_iload C at_349 (v := (0 : Int32)) rfl (pc' := 351) rfl ?_
                refine g_icmp_n C at_351 (Jvm.Free.XT.ii_ne_f (by decide)) (pc' := 354) rfl ?_
                refine g_aload C at_354 (v := (.ref a_361)) rfl rfl (pc' := 356) rfl ?_
                refine g_aload C at_356 (v := (.ref a_307)) rfl rfl (pc' := 358) rfl ?_
                refine g_virtual C (own_w hw 58 rfl) (own_w hw 59 rfl) (own_w hw 61 rfl) (own_w hw 60 rfl) (own_w hw 36 rfl) (own_w hw 62 rfl) (notFace_of_selects (args := #[]) (mvT C.2.2.2.2.1 (own_w hw 61 rfl))) (by decide) f_499 (rm_mneqD l Z a0 hw n0 a_361 a_307 a_388 a_298 a_415 a_328 b_389 b_299 b_416 b_329 (own_str lc da db) (own_str la ca cb) (own_str ld dc dd) (own_str lb cc cd) h_440 f_449 cm f_495 f_499 f_445 f_446 f_496 f_497 f_498 f_504 f_505 f_506 f_507 (own_sh _ _ _) f_500 f_501 f_502 f_503 (own_sh _ _ _) f_512 f_513 f_514 f_515 (own_sh _ _ _) f_508 f_509 f_510 f_511 (own_sh _ _ _) (Ne.symm ne_396) (Ne.symm ne_425)) (st := []) [(.ref a_307)] rfl rfl own_pd_4_equals rfl rfl (by decide) (W := 0) (Nat.le_of_eq rfl) (by decide) (by decide) (by decide) at_358 (pc' := 361) rfl ?_
                intro v_524 h_522 q_523
                obtain ⟨r_526, rfl, ⟨e_527, rfl⟩ | ⟨e_527, rfl⟩, rfl⟩ := q_523
                · exact absurd (e_527.2.symm) e_461
                · show Go B n0 _ h_440 26 332 361 #[.val (.int p0), .val (.int p1), .val (.int p2), .val (.int p3), .val (.int ca), .val (.int cb), .val (.int cc), .val (.int cd), .val (.int la), .val (.int lb), .val (.int lc), .val (.int ld), .val (.int da), .val (.int db), .val (.int dc), .val (.int dd), .val (.ref a_298), .val (.ref a_307), .val (.ref a_361), .val (.int (0 : Int32)), .val (.int (0 : Int32))] [(.int (0 : Int32))]
                  refine g_iload C at_361 (v := (0 : Int32)) rfl (pc' := 363) rfl ?_
                  refine g_icmp_n C at_363 (Jvm.Free.XT.ii_ne_f (by decide)) (pc' := 366) rfl ?_
                  refine g_iconst C at_366 (v := (1 : Int32)) rfl (pc' := 367) rfl ?_
                  refine g_goto C at_367 (pc' := 371) (by decide) (by decide) ?_
                  refine g_ret C (eW hW fun vm' hw' => trivial) (v := (.int (1 : Int32))) (ty := .boolean) rfl rfl (Or.inl ⟨rfl, Or.inr (Or.inl rfl), _, rfl⟩) at_371 (by decide) (by decide) ?_
                  rfl
          · show Go B n0 _ h_440 26 332 314 #[.val (.int p0), .val (.int p1), .val (.int p2), .val (.int p3), .val (.int ca), .val (.int cb), .val (.int cc), .val (.int cd), .val (.int la), .val (.int lb), .val (.int lc), .val (.int ld), .val (.int da), .val (.int db), .val (.int dc), .val (.int dd), .val (.ref a_298), .val (.ref a_307), .val (.ref a_361), .val (.int (0 : Int32)), .unset] [(.int (0 : Int32))]
            refine g_if_y C at_314 (Jvm.Free.XT.i0_eq_t (by decide)) (pc' := 339) (by decide) (by decide) ?_
            refine g_iconst C at_339 (v := (0 : Int32)) rfl (pc' := 340) rfl ?_
            refine g_istore C at_340 (v := (0 : Int32)) (L' := #[.val (.int p0), .val (.int p1), .val (.int p2), .val (.int p3), .val (.int ca), .val (.int cb), .val (.int cc), .val (.int cd), .val (.int la), .val (.int lb), .val (.int lc), .val (.int ld), .val (.int da), .val (.int db), .val (.int dc), .val (.int dd), .val (.ref a_298), .val (.ref a_307), .val (.ref a_361), .val (.int (0 : Int32)), .val (.int (0 : Int32))]) rfl (pc' := 342) rfl ?_
            refine g_aload C at_342 (v := (.ref a_307)) rfl rfl (pc' := 344) rfl ?_
            refine g_aload C at_344 (v := (.ref a_361)) rfl rfl (pc' := 346) rfl ?_
            have f_528 := (f_435.keep K_444 (allS ge_a_361 all0))
            have f_529 := ((f_405.keep K_418).keep K_444)
            have f_530 := ((((f_353.ext E_363).keep K_391 nin0).keep K_418 nin0).keep K_444 (ninS ne_367 nin0))
            have f_531 := ((((f_354.ext E_363).keep K_391 nin0).keep K_418 nin0).keep K_444 (ninS ne_367 nin0))
            have f_532 := (f_432.keep K_444)
            have f_533 := ((f_404.keep K_418).keep K_444)
            have f_534 := (((((((f_303.ext E_309).keep K_331 nin0).keep K_352 (ninS ne_312 nin0)).ext E_363).keep K_391 nin0).keep K_418 nin0).keep K_444 (ninS ne_366 nin0))
            have f_535 := (((((((f_304.ext E_309).keep K_331 nin0).keep K_352 (ninS ne_312 nin0)).ext E_363).keep K_391 nin0).keep K_418 nin0).keep K_444 (ninS ne_366 nin0))
            have f_536 := ((f_408.keep K_418 nin0).keep K_444 (ninS ne_369 nin0))
            have f_537 := (f_438.keep K_444)
            have f_538 := ((f_393.keep K_418 nin0).keep K_444 (ninS (Ne.symm ne_399) nin0))
            have f_539 := ((f_394.keep K_418 nin0).keep K_444 (ninS (Ne.symm ne_399) nin0))
            have f_540 := (f_433.keep K_444 (ninS ne_431 nin0))
            have f_541 := ((f_406.keep K_418).keep K_444)
            have f_542 := (((((f_333.keep K_352 (ninS (Ne.symm ne_337) nin0)).ext E_363).keep K_391 nin0).keep K_418 nin0).keep K_444 (ninS ne_368 nin0))
            have f_543 := (((((f_334.keep K_352 (ninS (Ne.symm ne_337) nin0)).ext E_363).keep K_391 nin0).keep K_418 nin0).keep K_444 (ninS ne_368 nin0))
            have f_544 := ((f_409.keep K_418 nin0).keep K_444 (ninS ne_370 nin0))
            have f_545 := (E_419.keep K_444)
            have f_546 := (f_420.keep K_444 (ninS (Ne.symm ne_426) nin0))
            have f_547 := (f_421.keep K_444 (ninS (Ne.symm ne_426) nin0))
            have f_548 := (f_422.keep K_444 (ninS ne_434 nin0))
            refine g_virtual C (own_w hw 58 rfl) (own_w hw 59 rfl) (own_w hw 61 rfl) (own_w hw 60 rfl) (own_w hw 36 rfl) (own_w hw 62 rfl) (notFace_of_selects (args := #[]) (mvT C.2.2.2.2.1 (own_w hw 61 rfl))) (by decide) f_529 (rm_mneqD l Z a0 hw n0 a_307 a_361 a_298 a_388 a_328 a_415 b_299 b_389 b_329 b_416 (own_str la ca cb) (own_str lc da db) (own_str lb cc cd) (own_str ld dc dd) h_440 f_449 cm f_528 f_529 f_530 f_531 f_532 f_445 f_446 f_533 f_534 f_535 f_536 (own_sh _ _ _) f_537 f_538 f_539 f_540 (own_sh _ _ _) f_541 f_542 f_543 f_544 (own_sh _ _ _) f_545 f_546 f_547 f_548 (own_sh _ _ _) ne_396 ne_425) (st := []) [(.ref a_361)] rfl rfl own_pd_4_equals rfl rfl (by decide) (W := 0) (Nat.le_of_eq rfl) (by decide) (by decide) (by decide) at_346 (pc' := 349) rfl ?_
            intro v_551 h_549 q_550
            obtain ⟨r_553, rfl, ⟨e_554, rfl⟩ | ⟨e_554, rfl⟩, rfl⟩ := q_550
            · exact absurd (e_554.1) e_455
            · show Go B n0 _ h_440 26 332 349 #[.val (.int p0), .val (.int p1), .val (.int p2), .val (.int p3), .val (.int ca), .val (.int cb), .val (.int cc), .val (.int cd), .val (.int la), .val (.int lb), .val (.int lc), .val (.int ld), .val (.int da), .val (.int db), .val (.int dc), .val (.int dd), .val (.ref a_298), .val (.ref a_307), .val (.ref a_361), .val (.int (0 : Int32)), .val (.int (0 : Int32))] [(.int (0 : Int32))]
              refine g_iload C at_349 (v := (0 : Int32)) rfl (pc' := 351) rfl ?_
              refine g_icmp_n C at_351 (Jvm.Free.XT.ii_ne_f (by decide)) (pc' := 354) rfl ?_
              refine g_aload C at_354 (v := (.ref a_361)) rfl rfl (pc' := 356) rfl ?_
              refine g_aload C at_356 (v := (.ref a_307)) rfl rfl (pc' := 358) rfl ?_
              refine g_virtual C (own_w hw 58 rfl) (own_w hw 59 rfl) (own_w hw 61 rfl) (own_w hw 60 rfl) (own_w hw 36 rfl) (own_w hw 62 rfl) (notFace_of_selects (args := #[]) (mvT C.2.2.2.2.1 (own_w hw 61 rfl))) (by decide) f_532 (rm_mneqD l Z a0 hw n0 a_361 a_307 a_388 a_298 a_415 a_328 b_389 b_299 b_416 b_329 (own_str lc da db) (own_str la ca cb) (own_str ld dc dd) (own_str lb cc cd) h_440 f_449 cm f_528 f_532 f_445 f_446 f_529 f_530 f_531 f_537 f_538 f_539 f_540 (own_sh _ _ _) f_533 f_534 f_535 f_536 (own_sh _ _ _) f_545 f_546 f_547 f_548 (own_sh _ _ _) f_541 f_542 f_543 f_544 (own_sh _ _ _) (Ne.symm ne_396) (Ne.symm ne_425)) (st := []) [(.ref a_307)] rfl rfl own_pd_4_equals rfl rfl (by decide) (W := 0) (Nat.le_of_eq rfl) (by decide) (by decide) (by decide) at_358 (pc' := 361) rfl ?_
              intro v_557 h_555 q_556
              obtain ⟨r_559, rfl, ⟨e_560, rfl⟩ | ⟨e_560, rfl⟩, rfl⟩ := q_556
              · exact absurd (e_560.1.symm) e_455
              · show Go B n0 _ h_440 26 332 361 #[.val (.int p0), .val (.int p1), .val (.int p2), .val (.int p3), .val (.int ca), .val (.int cb), .val (.int cc), .val (.int cd), .val (.int la), .val (.int lb), .val (.int lc), .val (.int ld), .val (.int da), .val (.int db), .val (.int dc), .val (.int dd), .val (.ref a_298), .val (.ref a_307), .val (.ref a_361), .val (.int (0 : Int32)), .val (.int (0 : Int32))] [(.int (0 : Int32))]
                refine g_iload C at_361 (v := (0 : Int32)) rfl (pc' := 363) rfl ?_
                refine g_icmp_n C at_363 (Jvm.Free.XT.ii_ne_f (by decide)) (pc' := 366) rfl ?_
                refine g_iconst C at_366 (v := (1 : Int32)) rfl (pc' := 367) rfl ?_
                refine g_goto C at_367 (pc' := 371) (by decide) (by decide) ?_
                refine g_ret C (eW hW fun vm' hw' => trivial) (v := (.int (1 : Int32))) (ty := .boolean) rfl rfl (Or.inl ⟨rfl, Or.inr (Or.inl rfl), _, rfl⟩) at_371 (by decide) (by decide) ?_
                rfl
        · subst i_447e
          show Go B n0 _ h_440 26 332 240 #[.val (.int p0), .val (.int p1), .val (.int p2), .val (.int p3), .val (.int ca), .val (.int cb), .val (.int cc), .val (.int cd), .val (.int la), .val (.int lb), .val (.int lc), .val (.int ld), .val (.int da), .val (.int db), .val (.int dc), .val (.int dd), .val (.ref a_298), .val (.ref a_307), .val (.ref a_361), .unset, .unset] [(.int (1 : Int32))]
          refine g_istore C at_240 (v := (1 : Int32)) (L' := #[.val (.int p0), .val (.int p1), .val (.int p2), .val (.int p3), .val (.int ca), .val (.int cb), .val (.int cc), .val (.int cd), .val (.int la), .val (.int lb), .val (.int lc), .val (.int ld), .val (.int da), .val (.int db), .val (.int dc), .val (.int dd), .val (.ref a_298), .val (.ref a_307), .val (.ref a_361), .val (.int (1 : Int32)), .unset]) rfl (pc' := 242) rfl ?_
          refine g_iload C at_242 (v := (1 : Int32)) rfl (pc' := 244) rfl ?_
          refine g_iconst C at_244 (v := (1 : Int32)) rfl (pc' := 245) rfl ?_
          refine g_icmp_n C at_245 (Jvm.Free.XT.ii_ne_f (by decide)) (pc' := 248) rfl ?_
          refine g_aload C at_248 (v := (.ref a_307)) rfl rfl (pc' := 250) rfl ?_
          refine g_aconst_null C at_250 (pc' := 251) rfl ?_
          have f_561 := (Nat.le_trans f_439 K_444.1)
          have f_562 := ((f_405.keep K_418).keep K_444)
          refine g_virtual C (own_w hw 58 rfl) (own_w hw 59 rfl) (own_w hw 61 rfl) (own_w hw 60 rfl) (own_w hw 36 rfl) (own_w hw 62 rfl) (notFace_of_selects (args := #[]) (mvT C.2.2.2.2.1 (own_w hw 61 rfl))) (by decide) f_562 (rm_mneqN l Z a0 hw n0 a_307 h_440 f_561 ) (st := []) [.null] rfl rfl own_pd_4_equals rfl rfl (by decide) (W := 0) (Nat.le_of_eq rfl) (by decide) (by decide) (by decide) at_251 (pc' := 254) rfl ?_
          intro v_565 h_563 q_564
          obtain ⟨rfl, rfl⟩ := q_564
          show Go B n0 _ h_440 26 332 254 #[.val (.int p0), .val (.int p1), .val (.int p2), .val (.int p3), .val (.int ca), .val (.int cb), .val (.int cc), .val (.int cd), .val (.int la), .val (.int lb), .val (.int lc), .val (.int ld), .val (.int da), .val (.int db), .val (.int dc), .val (.int dd), .val (.ref a_298), .val (.ref a_307), .val (.ref a_361), .val (.int (1 : Int32)), .unset] [(.int (0 : Int32))]
          refine g_if_n C at_254 (Jvm.Free.XT.i0_ne_f (by decide)) (pc' := 257) rfl ?_
          refine g_iconst C at_257 (v := (1 : Int32)) rfl (pc' := 258) rfl ?_
          refine g_goto C at_258 (pc' := 262) (by decide) (by decide) ?_
          refine g_ret C (eW hW fun vm' hw' => trivial) (v := (.int (1 : Int32))) (ty := .boolean) rfl rfl (Or.inl ⟨rfl, Or.inr (Or.inl rfl), _, rfl⟩) at_262 (by decide) (by decide) ?_
          rfl
        · subst i_447e
          show Go B n0 _ h_440 26 332 240 #[.val (.int p0), .val (.int p1), .val (.int p2), .val (.int p3), .val (.int ca), .val (.int cb), .val (.int cc), .val (.int cd), .val (.int la), .val (.int lb), .val (.int lc), .val (.int ld), .val (.int da), .val (.int db), .val (.int dc), .val (.int dd), .val (.ref a_298), .val (.ref a_307), .val (.ref a_361), .unset, .unset] [(.int (2 : Int32))]
          refine g_istore C at_240 (v := (2 : Int32)) (L' := #[.val (.int p0), .val (.int p1), .val (.int p2), .val (.int p3), .val (.int ca), .val (.int cb), .val (.int cc), .val (.int cd), .val (.int la), .val (.int lb), .val (.int lc), .val (.int ld), .val (.int da), .val (.int db), .val (.int dc), .val (.int dd), .val (.ref a_298), .val (.ref a_307), .val (.ref a_361), .val (.int (2 : Int32)), .unset]) rfl (pc' := 242) rfl ?_
          refine g_iload C at_242 (v := (2 : Int32)) rfl (pc' := 244) rfl ?_
          refine g_iconst C at_244 (v := (1 : Int32)) rfl (pc' := 245) rfl ?_
          refine g_icmp_y C at_245 (Jvm.Free.XT.ii_ne_t (by decide)) (pc' := 263) (by decide) (by decide) ?_
          refine g_iload C at_263 (v := (2 : Int32)) rfl (pc' := 265) rfl ?_
          refine g_iconst C at_265 (v := (2 : Int32)) rfl (pc' := 266) rfl ?_
          refine g_icmp_n C at_266 (Jvm.Free.XT.ii_ne_f (by decide)) (pc' := 269) rfl ?_
          refine g_aload C at_269 (v := (.ref a_307)) rfl rfl (pc' := 271) rfl ?_
          refine g_aload C at_271 (v := (.ref a_298)) rfl rfl (pc' := 273) rfl ?_
          have f_567 := ((f_404.keep K_418).keep K_444)
          have f_568 := (Nat.le_trans f_439 K_444.1)
          have f_569 := ((f_405.keep K_418).keep K_444)
          refine g_virtual C (own_w hw 58 rfl) (own_w hw 59 rfl) (own_w hw 61 rfl) (own_w hw 60 rfl) (own_w hw 36 rfl) (own_w hw 62 rfl) (notFace_of_selects (args := #[]) (mvT C.2.2.2.2.1 (own_w hw 61 rfl))) (by decide) f_569 (rm_mneqT l Z a0 hw n0 a_307 a_298 h_440 f_568 f_567) (st := []) [(.ref a_298)] rfl rfl own_pd_4_equals rfl rfl (by decide) (W := 0) (Nat.le_of_eq rfl) (by decide) (by decide) (by decide) at_273 (pc' := 276) rfl ?_
          intro v_572 h_570 q_571
          obtain ⟨rfl, rfl⟩ := q_571
          show Go B n0 _ h_440 26 332 276 #[.val (.int p0), .val (.int p1), .val (.int p2), .val (.int p3), .val (.int ca), .val (.int cb), .val (.int cc), .val (.int cd), .val (.int la), .val (.int lb), .val (.int lc), .val (.int ld), .val (.int da), .val (.int db), .val (.int dc), .val (.int dd), .val (.ref a_298), .val (.ref a_307), .val (.ref a_361), .val (.int (2 : Int32)), .unset] [(.int (0 : Int32))]
          refine g_if_n C at_276 (Jvm.Free.XT.i0_ne_f (by decide)) (pc' := 279) rfl ?_
          refine g_iconst C at_279 (v := (1 : Int32)) rfl (pc' := 280) rfl ?_
          refine g_goto C at_280 (pc' := 284) (by decide) (by decide) ?_
          refine g_ret C (eW hW fun vm' hw' => trivial) (v := (.int (1 : Int32))) (ty := .boolean) rfl rfl (Or.inl ⟨rfl, Or.inr (Or.inl rfl), _, rfl⟩) at_284 (by decide) (by decide) ?_
          rfl
        · subst i_447e
          show Go B n0 _ h_440 26 332 240 #[.val (.int p0), .val (.int p1), .val (.int p2), .val (.int p3), .val (.int ca), .val (.int cb), .val (.int cc), .val (.int cd), .val (.int la), .val (.int lb), .val (.int lc), .val (.int ld), .val (.int da), .val (.int db), .val (.int dc), .val (.int dd), .val (.ref a_298), .val (.ref a_307), .val (.ref a_361), .unset, .unset] [(.int (3 : Int32))]
          refine g_istore C at_240 (v := (3 : Int32)) (L' := #[.val (.int p0), .val (.int p1), .val (.int p2), .val (.int p3), .val (.int ca), .val (.int cb), .val (.int cc), .val (.int cd), .val (.int la), .val (.int lb), .val (.int lc), .val (.int ld), .val (.int da), .val (.int db), .val (.int dc), .val (.int dd), .val (.ref a_298), .val (.ref a_307), .val (.ref a_361), .val (.int (3 : Int32)), .unset]) rfl (pc' := 242) rfl ?_
          refine g_iload C at_242 (v := (3 : Int32)) rfl (pc' := 244) rfl ?_
          refine g_iconst C at_244 (v := (1 : Int32)) rfl (pc' := 245) rfl ?_
          refine g_icmp_y C at_245 (Jvm.Free.XT.ii_ne_t (by decide)) (pc' := 263) (by decide) (by decide) ?_
          refine g_iload C at_263 (v := (3 : Int32)) rfl (pc' := 265) rfl ?_
          refine g_iconst C at_265 (v := (2 : Int32)) rfl (pc' := 266) rfl ?_
          refine g_icmp_y C at_266 (Jvm.Free.XT.ii_ne_t (by decide)) (pc' := 285) (by decide) (by decide) ?_
          refine g_iload C at_285 (v := (3 : Int32)) rfl (pc' := 287) rfl ?_
          refine g_iconst C at_287 (v := (3 : Int32)) rfl (pc' := 288) rfl ?_
          refine g_icmp_n C at_288 (Jvm.Free.XT.ii_ne_f (by decide)) (pc' := 291) rfl ?_
          refine g_aload C at_291 (v := (.ref a_307)) rfl rfl (pc' := 293) rfl ?_
          refine g_aload C at_293 (v := (.ref a_307)) rfl rfl (pc' := 295) rfl ?_
          have f_574 := ((f_405.keep K_418).keep K_444)
          have f_575 := ((((f_353.ext E_363).keep K_391 nin0).keep K_418 nin0).keep K_444 (ninS ne_367 nin0))
          have f_576 := ((((f_354.ext E_363).keep K_391 nin0).keep K_418 nin0).keep K_444 (ninS ne_367 nin0))
          have f_577 := ((f_404.keep K_418).keep K_444)
          have f_578 := ((f_406.keep K_418).keep K_444)
          have f_579 := (Nat.le_trans f_439 K_444.1)
          refine g_virtual C (own_w hw 58 rfl) (own_w hw 59 rfl) (own_w hw 61 rfl) (own_w hw 60 rfl) (own_w hw 36 rfl) (own_w hw 62 rfl) (notFace_of_selects (args := #[]) (mvT C.2.2.2.2.1 (own_w hw 61 rfl))) (by decide) f_574 (rm_mneqS l Z a0 hw n0 a_307 a_298 a_328 h_440 f_579 f_574 f_575 f_576 f_577 f_578) (st := []) [(.ref a_307)] rfl rfl own_pd_4_equals rfl rfl (by decide) (W := 0) (Nat.le_of_eq rfl) (by decide) (by decide) (by decide) at_295 (pc' := 298) rfl ?_
          intro v_582 h_580 q_581
          obtain ⟨rfl, rfl⟩ := q_581
          show Go B n0 _ h_440 26 332 298 #[.val (.int p0), .val (.int p1), .val (.int p2), .val (.int p3), .val (.int ca), .val (.int cb), .val (.int cc), .val (.int cd), .val (.int la), .val (.int lb), .val (.int lc), .val (.int ld), .val (.int da), .val (.int db), .val (.int dc), .val (.int dd), .val (.ref a_298), .val (.ref a_307), .val (.ref a_361), .val (.int (3 : Int32)), .unset] [(.int (1 : Int32))]
          refine g_ret C (eW hW fun vm' hw' => trivial) (v := (.int (1 : Int32))) (ty := .boolean) rfl rfl (Or.inl ⟨rfl, Or.inr (Or.inl rfl), _, rfl⟩) at_298 (by decide) (by decide) ?_
          rfl
    · refine g_if_n C at_85 (Jvm.Free.XT.i0_eq_f hb_2) (pc' := 88) rfl ?_
      refine g_iload C at_88 (v := lb) rfl (pc' := 90) rfl ?_
      refine g_istore C at_90 (v := lb) (L' := #[.val (.int p0), .val (.int p1), .val (.int p2), .val (.int p3), .val (.int ca), .val (.int cb), .val (.int cc), .val (.int cd), .val (.int la), .val (.int lb), .val (.int lc), .val (.int lb), .unset, .unset, .unset, .unset, .unset, .unset, .unset, .unset, .unset]) rfl (pc' := 92) rfl ?_
      refine g_iload_n C at_92 (v := p3) rfl (pc' := 93) rfl ?_
      refine g_iconst C at_93 (v := (4 : Int32)) rfl (pc' := 94) rfl ?_
      refine g_iand C (x := p3) (y := (4 : Int32)) at_94  (pc' := 95) rfl ?_
      by_cases hb_584 : (p3 &&& (4 : Int32)) = (0 : Int32)
      · refine g_if_y C at_95 (Jvm.Free.XT.i0_eq_t hb_584) (pc' := 139) (by decide) (by decide) ?_
        refine g_iload_n C at_139 (v := p1) rfl (pc' := 140) rfl ?_
        refine g_sipush C at_140 (v := (255 : Int32)) rfl (pc' := 143) rfl ?_
        refine g_iand C (x := p1) (y := (255 : Int32)) at_143  (pc' := 144) rfl ?_
        obtain ⟨da, eda⟩ : ∃ z : Int32, z = (p1 &&& (255 : Int32)) := ⟨_, rfl⟩
        rw [← eda]
        have kda : Ch da := by rw [eda]; exact own_chM _
        refine g_istore C at_144 (v := da) (L' := #[.val (.int p0), .val (.int p1), .val (.int p2), .val (.int p3), .val (.int ca), .val (.int cb), .val (.int cc), .val (.int cd), .val (.int la), .val (.int lb), .val (.int lc), .val (.int lb), .val (.int da), .unset, .unset, .unset, .unset, .unset, .unset, .unset, .unset]) rfl (pc' := 146) rfl ?_
        refine g_iload_n C at_146 (v := p1) rfl (pc' := 147) rfl ?_
        refine g_bipush C at_147 (v := (8 : Int32)) rfl (pc' := 149) rfl ?_
        refine g_iushr C (x := p1) (y := (8 : Int32)) at_149  (pc' := 150) rfl ?_
        refine g_sipush C at_150 (v := (255 : Int32)) rfl (pc' := 153) rfl ?_
        refine g_iand C (x := (Jvm.Free.XT.ushr p1 (8 : Int32))) (y := (255 : Int32)) at_153  (pc' := 154) rfl ?_
        obtain ⟨db, edb⟩ : ∃ z : Int32, z = ((Jvm.Free.XT.ushr p1 (8 : Int32)) &&& (255 : Int32)) := ⟨_, rfl⟩
        rw [← edb]
        have kdb : Ch db := by rw [edb]; exact own_chM _
        refine g_istore C at_154 (v := db) (L' := #[.val (.int p0), .val (.int p1), .val (.int p2), .val (.int p3), .val (.int ca), .val (.int cb), .val (.int cc), .val (.int cd), .val (.int la), .val (.int lb), .val (.int lc), .val (.int lb), .val (.int da), .val (.int db), .unset, .unset, .unset, .unset, .unset, .unset, .unset]) rfl (pc' := 156) rfl ?_
        refine g_iload_n C at_156 (v := p1) rfl (pc' := 157) rfl ?_
        refine g_bipush C at_157 (v := (16 : Int32)) rfl (pc' := 159) rfl ?_
        refine g_iushr C (x := p1) (y := (16 : Int32)) at_159  (pc' := 160) rfl ?_
        refine g_sipush C at_160 (v := (255 : Int32)) rfl (pc' := 163) rfl ?_
        refine g_iand C (x := (Jvm.Free.XT.ushr p1 (16 : Int32))) (y := (255 : Int32)) at_163  (pc' := 164) rfl ?_
        obtain ⟨dc, edc⟩ : ∃ z : Int32, z = ((Jvm.Free.XT.ushr p1 (16 : Int32)) &&& (255 : Int32)) := ⟨_, rfl⟩
        rw [← edc]
        have kdc : Ch dc := by rw [edc]; exact own_chM _
        refine g_istore C at_164 (v := dc) (L' := #[.val (.int p0), .val (.int p1), .val (.int p2), .val (.int p3), .val (.int ca), .val (.int cb), .val (.int cc), .val (.int cd), .val (.int la), .val (.int lb), .val (.int lc), .val (.int lb), .val (.int da), .val (.int db), .val (.int dc), .unset, .unset, .unset, .unset, .unset, .unset]) rfl (pc' := 166) rfl ?_
        refine g_iload_n C at_166 (v := p1) rfl (pc' := 167) rfl ?_
        refine g_bipush C at_167 (v := (24 : Int32)) rfl (pc' := 169) rfl ?_
        refine g_iushr C (x := p1) (y := (24 : Int32)) at_169  (pc' := 170) rfl ?_
        refine g_sipush C at_170 (v := (255 : Int32)) rfl (pc' := 173) rfl ?_
        refine g_iand C (x := (Jvm.Free.XT.ushr p1 (24 : Int32))) (y := (255 : Int32)) at_173  (pc' := 174) rfl ?_
        obtain ⟨dd, edd⟩ : ∃ z : Int32, z = ((Jvm.Free.XT.ushr p1 (24 : Int32)) &&& (255 : Int32)) := ⟨_, rfl⟩
        rw [← edd]
        have kdd : Ch dd := by rw [edd]; exact own_chM _
        refine g_istore C at_174 (v := dd) (L' := #[.val (.int p0), .val (.int p1), .val (.int p2), .val (.int p3), .val (.int ca), .val (.int cb), .val (.int cc), .val (.int cd), .val (.int la), .val (.int lb), .val (.int lc), .val (.int lb), .val (.int da), .val (.int db), .val (.int dc), .val (.int dd), .unset, .unset, .unset, .unset, .unset]) rfl (pc' := 176) rfl ?_
        refine g_iload C at_176 (v := la) rfl (pc' := 178) rfl ?_
        refine g_iload C at_178 (v := ca) rfl (pc' := 180) rfl ?_
        refine g_iload C at_180 (v := cb) rfl (pc' := 182) rfl ?_
        refine g_staticV C hW (own_w hw 0 rfl) (own_w hw 1 rfl) (own_w hw 2 rfl) (own_w hw 3 rfl) (by decide) (rm_str l Z a0 hw n0 la ca cb h0 Z0 cm O ch0 ch1 ch2 cw kca kcb) (fun vm' hw' => InvK.warm I0 hw') (st := []) [(.int la), (.int ca), (.int cb)] rfl rfl own_pd_1_str rfl rfl (by decide) (W := 0) (Nat.le_of_eq rfl) (by decide) (by decide) (by decide) at_182 (pc' := 185) rfl ?_
        intro B C hW v_587 h_585 q_586 I_588
        obtain ⟨a_589, b_590, rfl, le_591, K_592, E_593, f_594, f_595, f_596⟩ := q_586
        have ge_a_589 : n0 ≤ a_589 := Nat.le_trans Z0 le_591
        have gs_a_589 : h0.size ≤ a_589 := Nat.le_trans (Nat.le_refl h0.size) le_591
        show Go B n0 _ h_585 4 8 185 #[.val (.int p0), .val (.int p1), .val (.int p2), .val (.int p3), .val (.int ca), .val (.int cb), .val (.int cc), .val (.int cd), .val (.int la), .val (.int lb), .val (.int lc), .val (.int lb), .val (.int da), .val (.int db), .val (.int dc), .val (.int dd), .unset, .unset, .unset, .unset, .unset] [(.ref a_589)]
        refine g_astore C at_185 (v := (.ref a_589)) (L' := #[.val (.int p0), .val (.int p1), .val (.int p2), .val (.int p3), .val (.int ca), .val (.int cb), .val (.int cc), .val (.int cd), .val (.int la), .val (.int lb), .val (.int lc), .val (.int lb), .val (.int da), .val (.int db), .val (.int dc), .val (.int dd), .val (.ref a_589), .unset, .unset, .unset, .unset]) rfl rfl (pc' := 187) rfl ?_
        refine g_new C (own_w hw 34 rfl) (own_w hw 35 rfl) (own_w hw 36 rfl) (by decide) (by decide) at_187 (pc' := 190) rfl ?_
        intro h_597 a_598 g_599 E_600 A_601 D_602
        have ne_603 : a_589 ≠ a_598 := ne_new E_593.lt g_599
        have ne_604 : b_590 ≠ a_598 := ne_new f_596.lt g_599
        have f_605 := (Nat.le_trans Z0 K_592.1)
        have ge_a_598 : n0 ≤ a_598 := Nat.le_trans f_605 (Nat.le_of_eq g_599.symm)
        have f_606 := (Nat.le_trans (Nat.le_refl h0.size) K_592.1)
        have gs_a_598 : h0.size ≤ a_598 := Nat.le_trans f_606 (Nat.le_of_eq g_599.symm)
        have f_607 : Fld Z h_597 a_598 "com/example/chiton/chiton/model/MethodName" "className" "Ljava/lang/String;" .null := D_602 (Or.inr (own_w hw 51 rfl)) (ty := (.object "java/lang/String")) (by decide)
        have f_608 : Fld Z h_597 a_598 "com/example/chiton/chiton/model/MethodName" "methodName" "Ljava/lang/String;" .null := D_602 (Or.inr (own_w hw 54 rfl)) (ty := (.object "java/lang/String")) (by decide)
        show Go B n0 _ h_597 5 10 190 #[.val (.int p0), .val (.int p1), .val (.int p2), .val (.int p3), .val (.int ca), .val (.int cb), .val (.int cc), .val (.int cd), .val (.int la), .val (.int lb), .val (.int lc), .val (.int lb), .val (.int da), .val (.int db), .val (.int dc), .val (.int dd), .val (.ref a_589), .unset, .unset, .unset, .unset] [(.ref a_598)]
        refine g_dup C at_190 rfl (pc' := 191) rfl ?_
        refine g_aload C at_191 (v := (.ref a_589)) rfl rfl (pc' := 193) rfl ?_
        refine g_iload C at_193 (v := lb) rfl (pc' := 195) rfl ?_
        refine g_iload C at_195 (v := cc) rfl (pc' := 197) rfl ?_
        refine g_iload C at_197 (v := cd) rfl (pc' := 199) rfl ?_
        have f_609 := ((O.keep K_592 all0).ext E_600)
        have f_610 := (Nat.le_trans f_605 E_600.1)
        have f_611 := (I_588.ext E_600)
        have f_612 := (E_593.ext E_600)
        have f_613 := (f_596.ext E_600)
        have f_614 := (Nat.le_trans f_606 E_600.1)
        refine g_staticV C hW (own_w hw 0 rfl) (own_w hw 1 rfl) (own_w hw 2 rfl) (own_w hw 3 rfl) (by decide) (rm_str l Z a0 hw n0 lb cc cd h_597 f_610 cm f_609 ch0 ch1 ch2 cw kcc kcd) (fun vm' hw' => InvK.warm f_611 hw') (st := [(.ref a_589), (.ref a_598), (.ref a_598)]) [(.int lb), (.int cc), (.int cd)] rfl rfl own_pd_1_str rfl rfl (by decide) (W := 3) (Nat.le_of_eq rfl) (by decide) (by decide) (by decide) at_199 (pc' := 202) rfl ?_
        intro B C hW v_617 h_615 q_616 I_618
        obtain ⟨a_619, b_620, rfl, le_621, K_622, E_623, f_624, f_625, f_626⟩ := q_616
        have ne_627 : a_589 ≠ a_619 := ne_ge f_612.lt le_621
        have ne_628 : a_598 ≠ a_619 := ne_ge A_601.lt le_621
        have ne_629 : b_590 ≠ a_619 := ne_ge f_613.lt le_621
        have ge_a_619 : n0 ≤ a_619 := Nat.le_trans f_610 le_621
        have gs_a_619 : h0.size ≤ a_619 := Nat.le_trans f_614 le_621
        show Go B n0 _ h_615 9 18 202 #[.val (.int p0), .val (.int p1), .val (.int p2), .val (.int p3), .val (.int ca), .val (.int cb), .val (.int cc), .val (.int cd), .val (.int la), .val (.int lb), .val (.int lc), .val (.int lb), .val (.int da), .val (.int db), .val (.int dc), .val (.int dd), .val (.ref a_589), .unset, .unset, .unset, .unset] [(.ref a_619), (.ref a_589), (.ref a_598), (.ref a_598)]
        have f_631 := (A_601.keep K_622)
        have f_632 := (f_613.keep K_622 nin0)
        have ne_630 : b_590 ≠ a_598 := own_neA f_631 f_632 (own_w hw 35 rfl)
        have ne_633 : b_620 ≠ a_598 := own_neA f_631 f_626 (own_w hw 35 rfl)
        have f_634 := (f_609.keep K_622 all0)
        have f_635 := (f_607.keep K_622 nin0)
        have f_636 := (f_608.keep K_622 nin0)
        have f_637 := (f_612.keep K_622)
        have f_638 := (Nat.le_trans f_610 K_622.1)
        refine g_specialV C hW (a := a_598) rfl (own_w hw 40 rfl) (own_w hw 41 rfl) (own_w hw 36 rfl) (own_w hw 42 rfl) (by decide) (rm_mninit l Z a0 hw n0 a_598 a_589 a_619 h_615 f_638 cm f_634 ch0 ch1 ch2 cw f_631 f_635 f_636 ge_a_598 f_637 E_623) (fun vm' hw' => InvK.warm I_618 hw') (st := [(.ref a_598)]) [(.ref a_589), (.ref a_619)] rfl rfl own_pd_6_init rfl rfl (by decide) (W := 1) (Nat.le_of_eq rfl) (by decide) (by decide) (by decide) at_202 (pc' := 205) rfl ?_
        intro B C hW v_641 h_639 q_640 I_642
        obtain ⟨rfl, K_643, f_644, f_645⟩ := q_640
        show Go B n0 _ h_639 13 166 205 #[.val (.int p0), .val (.int p1), .val (.int p2), .val (.int p3), .val (.int ca), .val (.int cb), .val (.int cc), .val (.int cd), .val (.int la), .val (.int lb), .val (.int lc), .val (.int lb), .val (.int da), .val (.int db), .val (.int dc), .val (.int dd), .val (.ref a_589), .unset, .unset, .unset, .unset] [(.ref a_598)]
        refine g_astore C at_205 (v := (.ref a_598)) (L' := #[.val (.int p0), .val (.int p1), .val (.int p2), .val (.int p3), .val (.int ca), .val (.int cb), .val (.int cc), .val (.int cd), .val (.int la), .val (.int lb), .val (.int lc), .val (.int lb), .val (.int da), .val (.int db), .val (.int dc), .val (.int dd), .val (.ref a_589), .val (.ref a_598), .unset, .unset, .unset]) rfl rfl (pc' := 207) rfl ?_
        have f_646 := (f_637.keep K_643)
        have f_647 := (f_631.keep K_643)
        have f_648 := (E_623.keep K_643)
        have f_649 := (f_632.keep K_643 (ninS ne_630 nin0))
        have f_650 := (f_626.keep K_643 (ninS ne_633 nin0))
        refine g_new C (own_w hw 34 rfl) (own_w hw 35 rfl) (own_w hw 36 rfl) (by decide) (by decide) at_207 (pc' := 210) rfl ?_
        intro h_651 a_652 g_653 E_654 A_655 D_656
        have ne_657 : a_589 ≠ a_652 := ne_new f_646.lt g_653
        have ne_658 : a_598 ≠ a_652 := ne_new f_647.lt g_653
        have ne_659 : a_619 ≠ a_652 := ne_new f_648.lt g_653
        have ne_660 : b_590 ≠ a_652 := ne_new f_649.lt g_653
        have ne_661 : b_620 ≠ a_652 := ne_new f_650.lt g_653
        have f_662 := (Nat.le_trans f_638 K_643.1)
        have ge_a_652 : n0 ≤ a_652 := Nat.le_trans f_662 (Nat.le_of_eq g_653.symm)
        have f_663 := (Nat.le_trans (Nat.le_trans f_614 K_622.1) K_643.1)
        have gs_a_652 : h0.size ≤ a_652 := Nat.le_trans f_663 (Nat.le_of_eq g_653.symm)
        have f_664 : Fld Z h_651 a_652 "com/example/chiton/chiton/model/MethodName" "className" "Ljava/lang/String;" .null := D_656 (Or.inr (own_w hw 51 rfl)) (ty := (.object "java/lang/String")) (by decide)
        have f_665 : Fld Z h_651 a_652 "com/example/chiton/chiton/model/MethodName" "methodName" "Ljava/lang/String;" .null := D_656 (Or.inr (own_w hw 54 rfl)) (ty := (.object "java/lang/String")) (by decide)
        show Go B n0 _ h_651 14 168 210 #[.val (.int p0), .val (.int p1), .val (.int p2), .val (.int p3), .val (.int ca), .val (.int cb), .val (.int cc), .val (.int cd), .val (.int la), .val (.int lb), .val (.int lc), .val (.int lb), .val (.int da), .val (.int db), .val (.int dc), .val (.int dd), .val (.ref a_589), .val (.ref a_598), .unset, .unset, .unset] [(.ref a_652)]
        refine g_dup C at_210 rfl (pc' := 211) rfl ?_
        refine g_iload C at_211 (v := lc) rfl (pc' := 213) rfl ?_
        refine g_iload C at_213 (v := da) rfl (pc' := 215) rfl ?_
        refine g_iload C at_215 (v := db) rfl (pc' := 217) rfl ?_
        have f_666 := ((f_634.keep K_643 (allS ge_a_598 all0)).ext E_654)
        have f_667 := (Nat.le_trans f_662 E_654.1)
        have f_668 := (I_642.ext E_654)
        have f_669 := (f_646.ext E_654)
        have f_670 := (f_647.ext E_654)
        have f_671 := (f_648.ext E_654)
        have f_672 := (f_649.ext E_654)
        have f_673 := (f_650.ext E_654)
        have f_674 := (Nat.le_trans f_663 E_654.1)
        refine g_staticV C hW (own_w hw 0 rfl) (own_w hw 1 rfl) (own_w hw 2 rfl) (own_w hw 3 rfl) (by decide) (rm_str l Z a0 hw n0 lc da db h_651 f_667 cm f_666 ch0 ch1 ch2 cw kda kdb) (fun vm' hw' => InvK.warm f_668 hw') (st := [(.ref a_652), (.ref a_652)]) [(.int lc), (.int da), (.int db)] rfl rfl own_pd_1_str rfl rfl (by decide) (W := 2) (Nat.le_of_eq rfl) (by decide) (by decide) (by decide) at_217 (pc' := 220) rfl ?_
        intro B C hW v_677 h_675 q_676 I_678
        obtain ⟨a_679, b_680, rfl, le_681, K_682, E_683, f_684, f_685, f_686⟩ := q_676
        have ne_687 : a_589 ≠ a_679 := ne_ge f_669.lt le_681
        have ne_688 : a_598 ≠ a_679 := ne_ge f_670.lt le_681
        have ne_689 : a_619 ≠ a_679 := ne_ge f_671.lt le_681
        have ne_690 : a_652 ≠ a_679 := ne_ge A_655.lt le_681
        have ne_691 : b_590 ≠ a_679 := ne_ge f_672.lt le_681
        have ne_692 : b_620 ≠ a_679 := ne_ge f_673.lt le_681
        have ge_a_679 : n0 ≤ a_679 := Nat.le_trans f_667 le_681
        have gs_a_679 : h0.size ≤ a_679 := Nat.le_trans f_674 le_681
        show Go B n0 _ h_675 18 176 220 #[.val (.int p0), .val (.int p1), .val (.int p2), .val (.int p3), .val (.int ca), .val (.int cb), .val (.int cc), .val (.int cd), .val (.int la), .val (.int lb), .val (.int lc), .val (.int lb), .val (.int da), .val (.int db), .val (.int dc), .val (.int dd), .val (.ref a_589), .val (.ref a_598), .unset, .unset, .unset] [(.ref a_679), (.ref a_652), (.ref a_652)]
        refine g_iload C at_220 (v := lb) rfl (pc' := 222) rfl ?_
        refine g_iload C at_222 (v := dc) rfl (pc' := 224) rfl ?_
        refine g_iload C at_224 (v := dd) rfl (pc' := 226) rfl ?_
        have f_693 := (f_666.keep K_682 all0)
        have f_694 := (Nat.le_trans f_667 K_682.1)
        have f_695 := (f_669.keep K_682)
        have f_696 := (f_670.keep K_682)
        have f_697 := (f_671.keep K_682)
        have f_698 := (A_655.keep K_682)
        have f_699 := (f_672.keep K_682 nin0)
        have f_700 := (f_673.keep K_682 nin0)
        have f_701 := (Nat.le_trans f_674 K_682.1)
        refine g_staticV C hW (own_w hw 0 rfl) (own_w hw 1 rfl) (own_w hw 2 rfl) (own_w hw 3 rfl) (by decide) (rm_str l Z a0 hw n0 lb dc dd h_675 f_694 cm f_693 ch0 ch1 ch2 cw kdc kdd) (fun vm' hw' => InvK.warm I_678 hw') (st := [(.ref a_679), (.ref a_652), (.ref a_652)]) [(.int lb), (.int dc), (.int dd)] rfl rfl own_pd_1_str rfl rfl (by decide) (W := 3) (Nat.le_of_eq rfl) (by decide) (by decide) (by decide) at_226 (pc' := 229) rfl ?_
        intro B C hW v_704 h_702 q_703 I_705
        obtain ⟨a_706, b_707, rfl, le_708, K_709, E_710, f_711, f_712, f_713⟩ := q_703
        have ne_714 : a_589 ≠ a_706 := ne_ge f_695.lt le_708
        have ne_715 : a_598 ≠ a_706 := ne_ge f_696.lt le_708
        have ne_716 : a_619 ≠ a_706 := ne_ge f_697.lt le_708
        have ne_717 : a_652 ≠ a_706 := ne_ge f_698.lt le_708
        have ne_718 : a_679 ≠ a_706 := ne_ge E_683.lt le_708
        have ne_719 : b_590 ≠ a_706 := ne_ge f_699.lt le_708
        have ne_720 : b_620 ≠ a_706 := ne_ge f_700.lt le_708
        have ne_721 : b_680 ≠ a_706 := ne_ge f_686.lt le_708
        have ge_a_706 : n0 ≤ a_706 := Nat.le_trans f_694 le_708
        have gs_a_706 : h0.size ≤ a_706 := Nat.le_trans f_701 le_708
        show Go B n0 _ h_702 22 184 229 #[.val (.int p0), .val (.int p1), .val (.int p2), .val (.int p3), .val (.int ca), .val (.int cb), .val (.int cc), .val (.int cd), .val (.int la), .val (.int lb), .val (.int lc), .val (.int lb), .val (.int da), .val (.int db), .val (.int dc), .val (.int dd), .val (.ref a_589), .val (.ref a_598), .unset, .unset, .unset] [(.ref a_706), (.ref a_679), (.ref a_652), (.ref a_652)]
        have f_723 := (f_698.keep K_709)
        have f_724 := (f_686.keep K_709 nin0)
        have ne_722 : b_680 ≠ a_652 := own_neA f_723 f_724 (own_w hw 35 rfl)
        have ne_725 : b_707 ≠ a_652 := own_neA f_723 f_713 (own_w hw 35 rfl)
        have f_726 := (f_693.keep K_709 all0)
        have f_727 := ((f_664.keep K_682 nin0).keep K_709 nin0)
        have f_728 := ((f_665.keep K_682 nin0).keep K_709 nin0)
        have f_729 := (E_683.keep K_709)
        have f_730 := (Nat.le_trans f_694 K_709.1)
        refine g_specialV C hW (a := a_652) rfl (own_w hw 40 rfl) (own_w hw 41 rfl) (own_w hw 36 rfl) (own_w hw 42 rfl) (by decide) (rm_mninit l Z a0 hw n0 a_652 a_679 a_706 h_702 f_730 cm f_726 ch0 ch1 ch2 cw f_723 f_727 f_728 ge_a_652 f_729 E_710) (fun vm' hw' => InvK.warm I_705 hw') (st := [(.ref a_652)]) [(.ref a_679), (.ref a_706)] rfl rfl own_pd_6_init rfl rfl (by decide) (W := 1) (Nat.le_of_eq rfl) (by decide) (by decide) (by decide) at_229 (pc' := 232) rfl ?_
        intro B C hW v_733 h_731 q_732 I_734
        obtain ⟨rfl, K_735, f_736, f_737⟩ := q_732
        show Go B n0 _ h_731 26 332 232 #[.val (.int p0), .val (.int p1), .val (.int p2), .val (.int p3), .val (.int ca), .val (.int cb), .val (.int cc), .val (.int cd), .val (.int la), .val (.int lb), .val (.int lc), .val (.int lb), .val (.int da), .val (.int db), .val (.int dc), .val (.int dd), .val (.ref a_589), .val (.ref a_598), .unset, .unset, .unset] [(.ref a_652)]
        refine g_astore C at_232 (v := (.ref a_652)) (L' := #[.val (.int p0), .val (.int p1), .val (.int p2), .val (.int p3), .val (.int ca), .val (.int cb), .val (.int cc), .val (.int cd), .val (.int la), .val (.int lb), .val (.int lc), .val (.int lb), .val (.int da), .val (.int db), .val (.int dc), .val (.int dd), .val (.ref a_589), .val (.ref a_598), .val (.ref a_652), .unset, .unset]) rfl rfl (pc' := 234) rfl ?_
        refine g_iload_n C at_234 (v := p2) rfl (pc' := 235) rfl ?_
        refine g_bipush C at_235 (v := (8 : Int32)) rfl (pc' := 237) rfl ?_
        refine g_iushr C (x := p2) (y := (8 : Int32)) at_237  (pc' := 238) rfl ?_
        refine g_iconst C at_238 (v := (3 : Int32)) rfl (pc' := 239) rfl ?_
        refine g_iand C (x := (Jvm.Free.XT.ushr p2 (8 : Int32))) (y := (3 : Int32)) at_239  (pc' := 240) rfl ?_
        obtain ⟨i_738, hi_739⟩ : ∃ z : Int32, z = ((Jvm.Free.XT.ushr p2 (8 : Int32)) &&& (3 : Int32)) := ⟨_, rfl⟩
        rw [← hi_739]
        rcases own_split4 i_738 (by rw [hi_739]; exact (own_m3 _).1) (by rw [hi_739]; exact (own_m3 _).2) with i_738e | i_738e | i_738e | i_738e
        · subst i_738e
          show Go B n0 _ h_731 26 332 240 #[.val (.int p0), .val (.int p1), .val (.int p2), .val (.int p3), .val (.int ca), .val (.int cb), .val (.int cc), .val (.int cd), .val (.int la), .val (.int lb), .val (.int lc), .val (.int lb), .val (.int da), .val (.int db), .val (.int dc), .val (.int dd), .val (.ref a_589), .val (.ref a_598), .val (.ref a_652), .unset, .unset] [(.int (0 : Int32))]
          refine g_istore C at_240 (v := (0 : Int32)) (L' := #[.val (.int p0), .val (.int p1), .val (.int p2), .val (.int p3), .val (.int ca), .val (.int cb), .val (.int cc), .val (.int cd), .val (.int la), .val (.int lb), .val (.int lc), .val (.int lb), .val (.int da), .val (.int db), .val (.int dc), .val (.int dd), .val (.ref a_589), .val (.ref a_598), .val (.ref a_652), .val (.int (0 : Int32)), .unset]) rfl (pc' := 242) rfl ?_
          refine g_iload C at_242 (v := (0 : Int32)) rfl (pc' := 244) rfl ?_
          refine g_iconst C at_244 (v := (1 : Int32)) rfl (pc' := 245) rfl ?_
          refine g_icmp_y C at_245 (Jvm.Free.XT.ii_ne_t (by decide)) (pc' := 263) (by decide) (by decide) ?_
          refine g_iload C at_263 (v := (0 : Int32)) rfl (pc' := 265) rfl ?_
          refine g_iconst C at_265 (v := (2 : Int32)) rfl (pc' := 266) rfl ?_
          refine g_icmp_y C at_266 (Jvm.Free.XT.ii_ne_t (by decide)) (pc' := 285) (by decide) (by decide) ?_
          refine g_iload C at_285 (v := (0 : Int32)) rfl (pc' := 287) rfl ?_
          refine g_iconst C at_287 (v := (3 : Int32)) rfl (pc' := 288) rfl ?_
          refine g_icmp_y C at_288 (Jvm.Free.XT.ii_ne_t (by decide)) (pc' := 299) (by decide) (by decide) ?_
          refine g_iload C at_299 (v := la) rfl (pc' := 301) rfl ?_
          refine g_iload C at_301 (v := ca) rfl (pc' := 303) rfl ?_
          refine g_iload C at_303 (v := cb) rfl (pc' := 305) rfl ?_
          refine g_iload C at_305 (v := lc) rfl (pc' := 307) rfl ?_
          refine g_iload C at_307 (v := da) rfl (pc' := 309) rfl ?_
          refine g_iload C at_309 (v := db) rfl (pc' := 311) rfl ?_
          have f_740 := (Nat.le_trans f_730 K_735.1)
          refine g_static C (own_w hw 55 rfl) (own_w hw 56 rfl) (own_w hw 2 rfl) (own_w hw 57 rfl) (by decide) (rm_same l Z a0 hw n0 la ca cb lc da db h_731 f_740 rla rlc kca kcb kda kdb) (st := []) [(.int la), (.int ca), (.int cb), (.int lc), (.int da), (.int db)] rfl rfl own_pd_3_same rfl rfl (by decide) (W := 0) (Nat.le_of_eq rfl) (by decide) (by decide) (by decide) at_311 (pc' := 314) rfl ?_
          intro v_743 h_741 q_742
          obtain ⟨r_745, rfl, ⟨e_746, rfl⟩ | ⟨e_746, rfl⟩, rfl⟩ := q_742
          · show Go B n0 _ h_731 26 332 314 #[.val (.int p0), .val (.int p1), .val (.int p2), .val (.int p3), .val (.int ca), .val (.int cb), .val (.int cc), .val (.int cd), .val (.int la), .val (.int lb), .val (.int lc), .val (.int lb), .val (.int da), .val (.int db), .val (.int dc), .val (.int dd), .val (.ref a_589), .val (.ref a_598), .val (.ref a_652), .val (.int (0 : Int32)), .unset] [(.int (1 : Int32))]
            refine g_if_n C at_314 (Jvm.Free.XT.i0_eq_f (by decide)) (pc' := 317) rfl ?_
            refine g_iload C at_317 (v := lb) rfl (pc' := 319) rfl ?_
            refine g_iload C at_319 (v := cc) rfl (pc' := 321) rfl ?_
            refine g_iload C at_321 (v := cd) rfl (pc' := 323) rfl ?_
            refine g_iload C at_323 (v := lb) rfl (pc' := 325) rfl ?_
            refine g_iload C at_325 (v := dc) rfl (pc' := 327) rfl ?_
            refine g_iload C at_327 (v := dd) rfl (pc' := 329) rfl ?_
            refine g_static C (own_w hw 55 rfl) (own_w hw 56 rfl) (own_w hw 2 rfl) (own_w hw 57 rfl) (by decide) (rm_same l Z a0 hw n0 lb cc cd lb dc dd h_731 f_740 rlb rlb kcc kcd kdc kdd) (st := []) [(.int lb), (.int cc), (.int cd), (.int lb), (.int dc), (.int dd)] rfl rfl own_pd_3_same rfl rfl (by decide) (W := 0) (Nat.le_of_eq rfl) (by decide) (by decide) (by decide) at_329 (pc' := 332) rfl ?_
            intro v_749 h_747 q_748
            obtain ⟨r_751, rfl, ⟨e_752, rfl⟩ | ⟨e_752, rfl⟩, rfl⟩ := q_748
            · show Go B n0 _ h_731 26 332 332 #[.val (.int p0), .val (.int p1), .val (.int p2), .val (.int p3), .val (.int ca), .val (.int cb), .val (.int cc), .val (.int cd), .val (.int la), .val (.int lb), .val (.int lc), .val (.int lb), .val (.int da), .val (.int db), .val (.int dc), .val (.int dd), .val (.ref a_589), .val (.ref a_598), .val (.ref a_652), .val (.int (0 : Int32)), .unset] [(.int (1 : Int32))]
              refine g_if_n C at_332 (Jvm.Free.XT.i0_eq_f (by decide)) (pc' := 335) rfl ?_
              refine g_iconst C at_335 (v := (1 : Int32)) rfl (pc' := 336) rfl ?_
              refine g_goto C at_336 (pc' := 340) (by decide) (by decide) ?_
              refine g_istore C at_340 (v := (1 : Int32)) (L' := #[.val (.int p0), .val (.int p1), .val (.int p2), .val (.int p3), .val (.int ca), .val (.int cb), .val (.int cc), .val (.int cd), .val (.int la), .val (.int lb), .val (.int lc), .val (.int lb), .val (.int da), .val (.int db), .val (.int dc), .val (.int dd), .val (.ref a_589), .val (.ref a_598), .val (.ref a_652), .val (.int (0 : Int32)), .val (.int (1 : Int32))]) rfl (pc' := 342) rfl ?_
              refine g_aload C at_342 (v := (.ref a_598)) rfl rfl (pc' := 344) rfl ?_
              refine g_aload C at_344 (v := (.ref a_652)) rfl rfl (pc' := 346) rfl ?_
              have f_753 := (f_726.keep K_735 (allS ge_a_652 all0))
              have f_754 := ((f_696.keep K_709).keep K_735)
              have f_755 := ((((f_644.ext E_654).keep K_682 nin0).keep K_709 nin0).keep K_735 (ninS ne_658 nin0))
              have f_756 := ((((f_645.ext E_654).keep K_682 nin0).keep K_709 nin0).keep K_735 (ninS ne_658 nin0))
              have f_757 := (f_723.keep K_735)
              have f_758 := ((f_695.keep K_709).keep K_735)
              have f_759 := (((((((f_594.ext E_600).keep K_622 nin0).keep K_643 (ninS ne_603 nin0)).ext E_654).keep K_682 nin0).keep K_709 nin0).keep K_735 (ninS ne_657 nin0))
              have f_760 := (((((((f_595.ext E_600).keep K_622 nin0).keep K_643 (ninS ne_603 nin0)).ext E_654).keep K_682 nin0).keep K_709 nin0).keep K_735 (ninS ne_657 nin0))
              have f_761 := ((f_699.keep K_709 nin0).keep K_735 (ninS ne_660 nin0))
              have f_762 := (f_729.keep K_735)
              have f_763 := ((f_684.keep K_709 nin0).keep K_735 (ninS (Ne.symm ne_690) nin0))
              have f_764 := ((f_685.keep K_709 nin0).keep K_735 (ninS (Ne.symm ne_690) nin0))
              have f_765 := (f_724.keep K_735 (ninS ne_722 nin0))
              have f_766 := ((f_697.keep K_709).keep K_735)
              have f_767 := (((((f_624.keep K_643 (ninS (Ne.symm ne_628) nin0)).ext E_654).keep K_682 nin0).keep K_709 nin0).keep K_735 (ninS ne_659 nin0))
              have f_768 := (((((f_625.keep K_643 (ninS (Ne.symm ne_628) nin0)).ext E_654).keep K_682 nin0).keep K_709 nin0).keep K_735 (ninS ne_659 nin0))
              have f_769 := ((f_700.keep K_709 nin0).keep K_735 (ninS ne_661 nin0))
              have f_770 := (E_710.keep K_735)
              have f_771 := (f_711.keep K_735 (ninS (Ne.symm ne_717) nin0))
              have f_772 := (f_712.keep K_735 (ninS (Ne.symm ne_717) nin0))
              have f_773 := (f_713.keep K_735 (ninS ne_725 nin0))
              refine g_virtual C (own_w hw 58 rfl) (own_w hw 59 rfl) (own_w hw 61 rfl) (own_w hw 60 rfl) (own_w hw 36 rfl) (own_w hw 62 rfl) (notFace_of_selects (args := #[]) (mvT C.2.2.2.2.1 (own_w hw 61 rfl))) (by decide) f_754 (rm_mneqD l Z a0 hw n0 a_598 a_652 a_589 a_679 a_619 a_706 b_590 b_680 b_620 b_707 (own_str la ca cb) (own_str lc da db) (own_str lb cc cd) (own_str lb dc dd) h_731 f_740 cm f_753 f_754 f_755 f_756 f_757 f_736 f_737 f_758 f_759 f_760 f_761 (own_sh _ _ _) f_762 f_763 f_764 f_765 (own_sh _ _ _) f_766 f_767 f_768 f_769 (own_sh _ _ _) f_770 f_771 f_772 f_773 (own_sh _ _ _) ne_687 ne_716) (st := []) [(.ref a_652)] rfl rfl own_pd_4_equals rfl rfl (by decide) (W := 0) (Nat.le_of_eq rfl) (by decide) (by decide) (by decide) at_346 (pc' := 349) rfl ?_
              intro v_776 h_774 q_775
              obtain ⟨r_778, rfl, ⟨e_779, rfl⟩ | ⟨e_779, rfl⟩, rfl⟩ := q_775
              · show Go B n0 _ h_731 26 332 349 #[.val (.int p0), .val (.int p1), .val (.int p2), .val (.int p3), .val (.int ca), .val (.int cb), .val (.int cc), .val (.int cd), .val (.int la), .val (.int lb), .val (.int lc), .val (.int lb), .val (.int da), .val (.int db), .val (.int dc), .val (.int dd), .val (.ref a_589), .val (.ref a_598), .val (.ref a_652), .val (.int (0 : Int32)), .val (.int (1 : Int32))] [(.int (1 : Int32))]
                refine g_iload C at_349 (v := (1 : Int32)) rfl (pc' := 351) rfl ?_
                refine g_icmp_n C at_351 (Jvm.Free.XT.ii_ne_f (by decide)) (pc' := 354) rfl ?_
                refine g_aload C at_354 (v := (.ref a_652)) rfl rfl (pc' := 356) rfl ?_
                refine g_aload C at_356 (v := (.ref a_598)) rfl rfl (pc' := 358) rfl ?_
                refine g_virtual C (own_w hw 58 rfl) (own_w hw 59 rfl) (own_w hw 61 rfl) (own_w hw 60 rfl) (own_w hw 36 rfl) (own_w hw 62 rfl) (notFace_of_selects (args := #[]) (mvT C.2.2.2.2.1 (own_w hw 61 rfl))) (by decide) f_757 (rm_mneqD l Z a0 hw n0 a_652 a_598 a_679 a_589 a_706 a_619 b_680 b_590 b_707 b_620 (own_str lc da db) (own_str la ca cb) (own_str lb dc dd) (own_str lb cc cd) h_731 f_740 cm f_753 f_757 f_736 f_737 f_754 f_755 f_756 f_762 f_763 f_764 f_765 (own_sh _ _ _) f_758 f_759 f_760 f_761 (own_sh _ _ _) f_770 f_771 f_772 f_773 (own_sh _ _ _) f_766 f_767 f_768 f_769 (own_sh _ _ _) (Ne.symm ne_687) (Ne.symm ne_716)) (st := []) [(.ref a_598)] rfl rfl own_pd_4_equals rfl rfl (by decide) (W := 0) (Nat.le_of_eq rfl) (by decide) (by decide) (by decide) at_358 (pc' := 361) rfl ?_
                intro v_782 h_780 q_781
                obtain ⟨r_784, rfl, ⟨e_785, rfl⟩ | ⟨e_785, rfl⟩, rfl⟩ := q_781
                · show Go B n0 _ h_731 26 332 361 #[.val (.int p0), .val (.int p1), .val (.int p2), .val (.int p3), .val (.int ca), .val (.int cb), .val (.int cc), .val (.int cd), .val (.int la), .val (.int lb), .val (.int lc), .val (.int lb), .val (.int da), .val (.int db), .val (.int dc), .val (.int dd), .val (.ref a_589), .val (.ref a_598), .val (.ref a_652), .val (.int (0 : Int32)), .val (.int (1 : Int32))] [(.int (1 : Int32))]
                  refine g_iload C at_361 (v := (1 : Int32)) rfl (pc' := 363) rfl ?_
                  refine g_icmp_n C at_363 (Jvm.Free.XT.ii_ne_f (by decide)) (pc' := 366) rfl ?_
                  refine g_iconst C at_366 (v := (1 : Int32)) rfl (pc' := 367) rfl ?_
                  refine g_goto C at_367 (pc' := 371) (by decide) (by decide) ?_
                  refine g_ret C (eW hW fun vm' hw' => trivial) (v := (.int (1 : Int32))) (ty := .boolean) rfl rfl (Or.inl ⟨rfl, Or.inr (Or.inl rfl), _, rfl⟩) at_371 (by decide) (by decide) ?_
                  rfl
                · exact absurd ⟨e_746.symm, e_752.symm⟩ e_785
              · exact absurd ⟨e_746, e_752⟩ e_779
            · show Go B n0 _ h_731 26 332 332 #[.val (.int p0), .val (.int p1), .val (.int p2), .val (.int p3), .val (.int ca), .val (.int cb), .val (.int cc), .val (.int cd), .val (.int la), .val (.int lb), .val (.int lc), .val (.int lb), .val (.int da), .val (.int db), .val (.int dc), .val (.int dd), .val (.ref a_589), .val (.ref a_598), .val (.ref a_652), .val (.int (0 : Int32)), .unset] [(.int (0 : Int32))]
              refine g_if_y C at_332 (Jvm.Free.XT.i0_eq_t (by decide)) (pc' := 339) (by decide) (by decide) ?_
              refine g_iconst C at_339 (v := (0 : Int32)) rfl (pc' := 340) rfl ?_
              refine g_istore C at_340 (v := (0 : Int32)) (L' := #[.val (.int p0), .val (.int p1), .val (.int p2), .val (.int p3), .val (.int ca), .val (.int cb), .val (.int cc), .val (.int cd), .val (.int la), .val (.int lb), .val (.int lc), .val (.int lb), .val (.int da), .val (.int db), .val (.int dc), .val (.int dd), .val (.ref a_589), .val (.ref a_598), .val (.ref a_652), .val (.int (0 : Int32)), .val (.int (0 : Int32))]) rfl (pc' := 342) rfl ?_
              refine g_aload C at_342 (v := (.ref a_598)) rfl rfl (pc' := 344) rfl ?_
              refine g_aload C at_344 (v := (.ref a_652)) rfl rfl (pc' := 346) rfl ?_
              have f_786 := (f_726.keep K_735 (allS ge_a_652 all0))
              have f_787 := ((f_696.keep K_709).keep K_735)
              have f_788 := ((((f_644.ext E_654).keep K_682 nin0).keep K_709 nin0).keep K_735 (ninS ne_658 nin0))
              have f_789 := ((((f_645.ext E_654).keep K_682 nin0).keep K_709 nin0).keep K_735 (ninS ne_658 nin0))
              have f_790 := (f_723.keep K_735)
              have f_791 := ((f_695.keep K_709).keep K_735)
              have f_792 := (((((((f_594.ext E_600).keep K_622 nin0).keep K_643 (ninS ne_603 nin0)).ext E_654).keep K_682 nin0).keep K_709 nin0).keep K_735 (ninS ne_657 nin0))
              have f_793 := (((((((f_595.ext E_600).keep K_622 nin0).keep K_643 (ninS ne_603 nin0)).ext E_654).keep K_682 nin0).keep K_709 nin0).keep K_735 (ninS ne_657 nin0))
              have f_794 := ((f_699.keep K_709 nin0).keep K_735 (ninS ne_660 nin0))
              have f_795 := (f_729.keep K_735)
              have f_796 := ((f_684.keep K_709 nin0).keep K_735 (ninS (Ne.symm ne_690) nin0))
              have f_797 := ((f_685.keep K_709 nin0).keep K_735 (ninS (Ne.symm ne_690) nin0))
              have f_798 := (f_724.keep K_735 (ninS ne_722 nin0))
              have f_799 := ((f_697.keep K_709).keep K_735)
              have f_800 := (((((f_624.keep K_643 (ninS (Ne.symm ne_628) nin0)).ext E_654).keep K_682 nin0).keep K_709 nin0).keep K_735 (ninS ne_659 nin0))
              have f_801 := (((((f_625.keep K_643 (ninS (Ne.symm ne_628) nin0)).ext E_654).keep K_682 nin0).keep K_709 nin0).keep K_735 (ninS ne_659 nin0))
              have f_802 := ((f_700.keep K_709 nin0).keep K_735 (ninS ne_661 nin0))
              have f_803 := (E_710.keep K_735)
              have f_804 := (f_711.keep K_735 (ninS (Ne.symm ne_717) nin0))
              have f_805 := (f_712.keep K_735 (ninS (Ne.symm ne_717) nin0))
              have f_806 := (f_713.keep K_735 (ninS ne_725 nin0))
              refine g_virtual C (own_w hw 58 rfl) (own_w hw 59 rfl) (own_w hw 61 rfl) (own_w hw 60 rfl) (own_w hw 36 rfl) (own_w hw 62 rfl) (notFace_of_selects (args := #[]) (mvT C.2.2.2.2.1 (own_w hw 61 rfl))) (by decide) f_787 (rm_mneqD l Z a0 hw n0 a_598 a_652 a_589 a_679 a_619 a_706 b_590 b_680 b_620 b_707 (own_str la ca cb) (own_str lc da db) (own_str lb cc cd) (own_str lb dc dd) h_731 f_740 cm f_786 f_787 f_788 f_789 f_790 f_736 f_737 f_791 f_792 f_793 f_794 (own_sh _ _ _) f_795 f_796 f_797 f_798 (own_sh _ _ _) f_799 f_800 f_801 f_802 (own_sh _ _ _) f_803 f_804 f_805 f_806 (own_sh _ _ _) ne_687 ne_716) (st := []) [(.ref a_652)] rfl rfl own_pd_4_equals rfl rfl (by decide) (W := 0) (Nat.le_of_eq rfl) (by decide) (by decide) (by decide) at_346 (pc' := 349) rfl ?_
              intro v_809 h_807 q_808
              obtain ⟨r_811, rfl, ⟨e_812, rfl⟩ | ⟨e_812, rfl⟩, rfl⟩ := q_808
              · exact absurd (e_812.2) e_752
              · show Go B n0 _ h_731 26 332 349 #[.val (.int p0), .val (.int p1), .val (.int p2), .val (.int p3), .val (.int ca), .val (.int cb), .val (.int cc), .val (.int cd), .val (.int la), .val (.int lb), .val (.int lc), .val (.int lb), .val (.int da), .val (.int db), .val (.int dc), .val (.int dd), .val (.ref a_589), .val (.ref a_598), .val (.ref a_652), .val (.int (0 : Int32)), .val (.int (0 : Int32))] [(.int (0 : Int32))]
                refine g_iload C at_349 (v := (0 : Int32)) rfl (pc' := 351) rfl ?_
                refine g_icmp_n C at_351 (Jvm.Free.XT.ii_ne_f (by decide)) (pc' := 354) rfl ?_
                refine g_aload C at_354 (v := (.ref a_652)) rfl rfl (pc' := 356) rfl ?_
                refine g_aload C at_356 (v := (.ref a_598)) rfl rfl (pc' := 358) rfl ?_
                refine g_virtual C (own_w hw 58 rfl) (own_w hw 59 rfl) (own_w hw 61 rfl) (own_w hw 60 rfl) (own_w hw 36 rfl) (own_w hw 62 rfl) (notFace_of_selects (args := #[]) (mvT C.2.2.2.2.1 (own_w hw 61 rfl))) (by decide) f_790 (rm_mneqD l Z a0 hw n0 a_652 a_598 a_679 a_589 a_706 a_619 b_680 b_590 b_707 b_620 (own_str lc da db) (own_str la ca cb) (own_str lb dc dd) (own_str lb cc cd) h_731 f_740 cm f_786 f_790 f_736 f_737 f_787 f_788 f_789 f_795 f_796 f_797 f_798 (own_sh _ _ _) f_791 f_792 f_793 f_794 (own_sh _ _ _) f_803 f_804 f_805 f_806 (own_sh _ _ _) f_799 f_800 f_801 f_802 (own_sh _ _ _) (Ne.symm ne_687) (Ne.symm ne_716)) (st := []) [(.ref a_598)] rfl rfl own_pd_4_equals rfl rfl (by decide) (W := 0) (Nat.le_of_eq rfl) (by decide) (by decide) (by decide) at_358 (pc' := 361) rfl ?_
                intro v_815 h_813 q_814
                obtain ⟨r_817, rfl, ⟨e_818, rfl⟩ | ⟨e_818, rfl⟩, rfl⟩ := q_814
                · exact absurd (e_818.2.symm) e_752
                · show Go B n0 _ h_731 26 332 361 #[.val (.int p0), .val (.int p1), .val (.int p2), .val (.int p3), .val (.int ca), .val (.int cb), .val (.int cc), .val (.int cd), .val (.int la), .val (.int lb), .val (.int lc), .val (.int lb), .val (.int da), .val (.int db), .val (.int dc), .val (.int dd), .val (.ref a_589), .val (.ref a_598), .val (.ref a_652), .val (.int (0 : Int32)), .val (.int (0 : Int32))] [(.int (0 : Int32))]
                  refine g_iload C at_361 (v := (0 : Int32)) rfl (pc' := 363) rfl ?_
                  refine g_icmp_n C at_363 (Jvm.Free.XT.ii_ne_f (by decide)) (pc' := 366) rfl ?_
                  refine g_iconst C at_366 (v := (1 : Int32)) rfl (pc' := 367) rfl ?_
                  refine g_goto C at_367 (pc' := 371) (by decide) (by decide) ?_
                  refine g_ret C (eW hW fun vm' hw' => trivial) (v := (.int (1 : Int32))) (ty := .boolean) rfl rfl (Or.inl ⟨rfl, Or.inr (Or.inl rfl), _, rfl⟩) at_371 (by decide) (by decide) ?_
                  rfl
          · show Go B n0 _ h_731 26 332 314 #[.val (.int p0), .val (.int p1), .val (.int p2), .val (.int p3), .val (.int ca), .val (.int cb), .val (.int cc), .val (.int cd), .val (.int la), .val (.int lb), .val (.int lc), .val (.int lb), .val (.int da), .val (.int db), .val (.int dc), .val (.int dd), .val (.ref a_589), .val (.ref a_598), .val (.ref a_652), .val (.int (0 : Int32)), .unset] [(.int (0 : Int32))]
            refine g_if_y C at_314 (Jvm.Free.XT.i0_eq_t (by decide)) (pc' := 339) (by decide) (by decide) ?_
            refine g_iconst C at_339 (v := (0 : Int32)) rfl (pc' := 340) rfl ?_
            refine g_istore C at_340 (v := (0 : Int32)) (L' := #[.val (.int p0), .val (.int p1), .val (.int p2), .val (.int p3), .val (.int ca), .val (.int cb), .val (.int cc), .val (.int cd), .val (.int la), .val (.int lb), .val (.int lc), .val (.int lb), .val (.int da), .val (.int db), .val (.int dc), .val (.int dd), .val (.ref a_589), .val (.ref a_598), .val (.ref a_652), .val (.int (0 : Int32)), .val (.int (0 : Int32))]) rfl (pc' := 342) rfl ?_
            refine g_aload C at_342 (v := (.ref a_598)) rfl rfl (pc' := 344) rfl ?_
            refine g_aload C at_344 (v := (.ref a_652)) rfl rfl (pc' := 346) rfl ?_
            have f_819 := (f_726.keep K_735 (allS ge_a_652 all0))
            have f_820 := ((f_696.keep K_709).keep K_735)
            have f_821 := ((((f_644.ext E_654).keep K_682 nin0).keep K_709 nin0).keep K_735 (ninS ne_658 nin0))
            have f_822 := ((((f_645.ext E_654).keep K_682 nin0).keep K_709 nin0).keep K_735 (ninS ne_658 nin0))
            have f_823 := (f_723.keep K_735)
            have f_824 := ((f_695.keep K_709).keep K_735)
            have f_825 := (((((((f_594.ext E_600).keep K_622 nin0).keep K_643 (ninS ne_603 nin0)).ext E_654).keep K_682 nin0).keep K_709 nin0).keep K_735 (ninS ne_657 nin0))
            have f_826 := (((((((f_595.ext E_600).keep K_622 nin0).keep K_643 (ninS ne_603 nin0)).ext E_654).keep K_682 nin0).keep K_709 nin0).keep K_735 (ninS ne_657 nin0))
            have f_827 := ((f_699.keep K_709 nin0).keep K_735 (ninS ne_660 nin0))
            have f_828 := (f_729.keep K_735)
            have f_829 := ((f_684.keep K_709 nin0).keep K_735 (ninS (Ne.symm ne_690) nin0))
            have f_830 := ((f_685.keep K_709 nin0).keep K_735 (ninS (Ne.symm ne_690) nin0))
            have f_831 := (f_724.keep K_735 (ninS ne_722 nin0))
            have f_832 := ((f_697.keep K_709).keep K_735)
            have f_833 := (((((f_624.keep K_643 (ninS (Ne.symm ne_628) nin0)).ext E_654).keep K_682 nin0).keep K_709 nin0).keep K_735 (ninS ne_659 nin0))
            have f_834 := (((((f_625.keep K_643 (ninS (Ne.symm ne_628) nin0)).ext E_654).keep K_682 nin0).keep K_709 nin0).keep K_735 (ninS ne_659 nin0))
            have f_835 := ((f_700.keep K_709 nin0).keep K_735 (ninS ne_661 nin0))
            have f_836 := (E_710.keep K_735)
            have f_837 := (f_711.keep K_735 (ninS (Ne.symm ne_717) nin0))
            have f_838 := (f_712.keep K_735 (ninS (Ne.symm ne_717) nin0))
            have f_839 := (f_713.keep K_735 (ninS ne_725 nin0))
            refine g_virtual C (own_w hw 58 rfl) (own_w hw 59 rfl) (own_w hw 61 rfl) (own_w hw 60 rfl) (own_w hw 36 rfl) (own_w hw 62 rfl) (notFace_of_selects (args := #[]) (mvT C.2.2.2.2.1 (own_w hw 61 rfl))) (by decide) f_820 (rm_mneqD l Z a0 hw n0 a_598 a_652 a_589 a_679 a_619 a_706 b_590 b_680 b_620 b_707 (own_str la ca cb) (own_str lc da db) (own_str lb cc cd) (own_str lb dc dd) h_731 f_740 cm f_819 f_820 f_821 f_822 f_823 f_736 f_737 f_824 f_825 f_826 f_827 (own_sh _ _ _) f_828 f_829 f_830 f_831 (own_sh _ _ _) f_832 f_833 f_834 f_835 (own_sh _ _ _) f_836 f_837 f_838 f_839 (own_sh _ _ _) ne_687 ne_716) (st := []) [(.ref a_652)] rfl rfl own_pd_4_equals rfl rfl (by decide) (W := 0) (Nat.le_of_eq rfl) (by decide) (by decide) (by decide) at_346 (pc' := 349) rfl ?_
            intro v_842 h_840 q_841
            obtain ⟨r_844, rfl, ⟨e_845, rfl⟩ | ⟨e_845, rfl⟩, rfl⟩ := q_841
            · exact absurd (e_845.1) e_746
            · show Go B n0 _ h_731 26 332 349 #[.val (.int p0), .val (.int p1), .val (.int p2), .val (.int p3), .val (.int ca), .val (.int cb), .val (.int cc), .val (.int cd), .val (.int la), .val (.int lb), .val (.int lc), .val (.int lb), .val (.int da), .val (.int db), .val (.int dc), .val (.int dd), .val (.ref a_589), .val (.ref a_598), .val (.ref a_652), .val (.int (0 : Int32)), .val (.int (0 : Int32))] [(.int (0 : Int32))]
              refine g_iload C at_349 (v := (0 : Int32)) rfl (pc' := 351) rfl ?_
              refine g_icmp_n C at_351 (Jvm.Free.XT.ii_ne_f (by decide)) (pc' := 354) rfl ?_
              refine g_aload C at_354 (v := (.ref a_652)) rfl rfl (pc' := 356) rfl ?_
              refine g_aload C at_356 (v := (.ref a_598)) rfl rfl (pc' := 358) rfl ?_
              refine g_virtual C (own_w hw 58 rfl) (own_w hw 59 rfl) (own_w hw 61 rfl) (own_w hw 60 rfl) (own_w hw 36 rfl) (own_w hw 62 rfl) (notFace_of_selects (args := #[]) (mvT C.2.2.2.2.1 (own_w hw 61 rfl))) (by decide) f_823 (rm_mneqD l Z a0 hw n0 a_652 a_598 a_679 a_589 a_706 a_619 b_680 b_590 b_707 b_620 (own_str lc da db) (own_str la ca cb) (own_str lb dc dd) (own_str lb cc cd) h_731 f_740 cm f_819 f_823 f_736 f_737 f_820 f_821 f_822 f_828 f_829 f_830 f_831 (own_sh _ _ _) f_824 f_825 f_826 f_827 (own_sh _ _ _) f_836 f_837 f_838 f_839 (own_sh _ _ _) f_832 f_833 f_834 f_835 (own_sh _ _ _) (Ne.symm ne_687) (Ne.symm ne_716)) (st := []) [(.ref a_598)] rfl rfl own_pd_4_equals rfl rfl (by decide) (W := 0) (Nat.le_of_eq rfl) (by decide) (by decide) (by decide) at_358 (pc' := 361) rfl ?_
              intro v_848 h_846 q_847
              obtain ⟨r_850, rfl, ⟨e_851, rfl⟩ | ⟨e_851, rfl⟩, rfl⟩ := q_847
              · exact absurd (e_851.1.symm) e_746
              · show Go B n0 _ h_731 26 332 361 #[.val (.int p0), .val (.int p1), .val (.int p2), .val (.int p3), .val (.int ca), .val (.int cb), .val (.int cc), .val (.int cd), .val (.int la), .val (.int lb), .val (.int lc), .val (.int lb), .val (.int da), .val (.int db), .val (.int dc), .val (.int dd), .val (.ref a_589), .val (.ref a_598), .val (.ref a_652), .val (.int (0 : Int32)), .val (.int (0 : Int32))] [(.int (0 : Int32))]
                refine g_iload C at_361 (v := (0 : Int32)) rfl (pc' := 363) rfl ?_
                refine g_icmp_n C at_363 (Jvm.Free.XT.ii_ne_f (by decide)) (pc' := 366) rfl ?_
                refine g_iconst C at_366 (v := (1 : Int32)) rfl (pc' := 367) rfl ?_
                refine g_goto C at_367 (pc' := 371) (by decide) (by decide) ?_
                refine g_ret C (eW hW fun vm' hw' => trivial) (v := (.int (1 : Int32))) (ty := .boolean) rfl rfl (Or.inl ⟨rfl, Or.inr (Or.inl rfl), _, rfl⟩) at_371 (by decide) (by decide) ?_
                rfl
        · subst i_738e
          show Go B n0 _ h_731 26 332 240 #[.val (.int p0), .val (.int p1), .val (.int p2), .val (.int p3), .val (.int ca), .val (.int cb), .val (.int cc), .val (.int cd), .val (.int la), .val (.int lb), .val (.int lc), .val (.int lb), .val (.int da), .val (.int db), .val (.int dc), .val (.int dd), .val (.ref a_589), .val (.ref a_598), .val (.ref a_652), .unset, .unset] [(.int (1 : Int32))]
          refine g_istore C at_240 (v := (1 : Int32)) (L' := #[.val (.int p0), .val (.int p1), .val (.int p2), .val (.int p3), .val (.int ca), .val (.int cb), .val (.int cc), .val (.int cd), .val (.int la), .val (.int lb), .val (.int lc), .val (.int lb), .val (.int da), .val (.int db), .val (.int dc), .val (.int dd), .val (.ref a_589), .val (.ref a_598), .val (.ref a_652), .val (.int (1 : Int32)), .unset]) rfl (pc' := 242) rfl ?_
          refine g_iload C at_242 (v := (1 : Int32)) rfl (pc' := 244) rfl ?_
          refine g_iconst C at_244 (v := (1 : Int32)) rfl (pc' := 245) rfl ?_
          refine g_icmp_n C at_245 (Jvm.Free.XT.ii_ne_f (by decide)) (pc' := 248) rfl ?_
          refine g_aload C at_248 (v := (.ref a_598)) rfl rfl (pc' := 250) rfl ?_
          refine g_aconst_null C at_250 (pc' := 251) rfl ?_
          have f_852 := (Nat.le_trans f_730 K_735.1)
          have f_853 := ((f_696.keep K_709).keep K_735)
          refine g_virtual C (own_w hw 58 rfl) (own_w hw 59 rfl) (own_w hw 61 rfl) (own_w hw 60 rfl) (own_w hw 36 rfl) (own_w hw 62 rfl) (notFace_of_selects (args := #[]) (mvT C.2.2.2.2.1 (own_w hw 61 rfl))) (by decide) f_853 (rm_mneqN l Z a0 hw n0 a_598 h_731 f_852 ) (st := []) [.null] rfl rfl own_pd_4_equals rfl rfl (by decide) (W := 0) (Nat.le_of_eq rfl) (by decide) (by decide) (by decide) at_251 (pc' := 254) rfl ?_
          intro v_856 h_854 q_855
          obtain ⟨rfl, rfl⟩ := q_855
          show Go B n0 _ h_731 26 332 254 #[.val (.int p0), .val (.int p1), .val (.int p2), .val (.int p3), .val (.int ca), .val (.int cb), .val (.int cc), .val (.int cd), .val (.int la), .val (.int lb), .val (.int lc), .val (.int lb), .val (.int da), .val (.int db), .val (.int dc), .val (.int dd), .val (.ref a_589), .val (.ref a_598), .val (.ref a_652), .val (.int (1 : Int32)), .unset] [(.int (0 : Int32))]
          refine g_if_n C at_254 (Jvm.Free.XT.i0_ne_f (by decide)) (pc' := 257) rfl ?_
          refine g_iconst C at_257 (v := (1 : Int32)) rfl (pc' := 258) rfl ?_
          refine g_goto C at_258 (pc' := 262) (by decide) (by decide) ?_
          refine g_ret C (eW hW fun vm' hw' => trivial) (v := (.int (1 : Int32))) (ty := .boolean) rfl rfl (Or.inl ⟨rfl, Or.inr (Or.inl rfl), _, rfl⟩) at_262 (by decide) (by decide) ?_
          rfl
        · subst i_738e
          show Go B n0 _ h_731 26 332 240 #[.val (.int p0), .val (.int p1), .val (.int p2), .val (.int p3), .val (.int ca), .val (.int cb), .val (.int cc), .val (.int cd), .val (.int la), .val (.int lb), .val (.int lc), .val (.int lb), .val (.int da), .val (.int db), .val (.int dc), .val (.int dd), .val (.ref a_589), .val (.ref a_598), .val (.ref a_652), .unset, .unset] [(.int (2 : Int32))]
          refine g_istore C at_240 (v := (2 : Int32)) (L' := #[.val (.int p0), .val (.int p1), .val (.int p2), .val (.int p3), .val (.int ca), .val (.int cb), .val (.int cc), .val (.int cd), .val (.int la), .val (.int lb), .val (.int lc), .val (.int lb), .val (.int da), .val (.int db), .val (.int dc), .val (.int dd), .val (.ref a_589), .val (.ref a_598), .val (.ref a_652), .val (.int (2 : Int32)), .unset]) rfl (pc' := 242) rfl ?_
          refine g_iload C at_242 (v := (2 : Int32)) rfl (pc' := 244) rfl ?_
          refine g_iconst C at_244 (v := (1 : Int32)) rfl (pc' := 245) rfl ?_
          refine g_icmp_y C at_245 (Jvm.Free.XT.ii_ne_t (by decide)) (pc' := 263) (by decide) (by decide) ?_
          refine g_iload C at_263 (v := (2 : Int32)) rfl (pc' := 265) rfl ?_
          refine g_iconst C at_265 (v := (2 : Int32)) rfl (pc' := 266) rfl ?_
          refine g_icmp_n C at_266 (Jvm.Free.XT.ii_ne_f (by decide)) (pc' := 269) rfl ?_
          refine g_aload C at_269 (v := (.ref a_598)) rfl rfl (pc' := 271) rfl ?_
          refine g_aload C at_271 (v := (.ref a_589)) rfl rfl (pc' := 273) rfl ?_
          have f_858 := ((f_695.keep K_709).keep K_735)
          have f_859 := (Nat.le_trans f_730 K_735.1)
          have f_860 := ((f_696.keep K_709).keep K_735)
          refine g_virtual C (own_w hw 58 rfl) (own_w hw 59 rfl) (own_w hw 61 rfl) (own_w hw 60 rfl) (own_w hw 36 rfl) (own_w hw 62 rfl) (notFace_of_selects (args := #[]) (mvT C.2.2.2.2.1 (own_w hw 61 rfl))) (by decide) f_860 (rm_mneqT l Z a0 hw n0 a_598 a_589 h_731 f_859 f_858) (st := []) [(.ref a_589)] rfl rfl own_pd_4_equals rfl rfl (by decide) (W := 0) (Nat.le_of_eq rfl) (by decide) (by decide) (by decide) at_273 (pc' := 276) rfl ?_
          intro v_863 h_861 q_862
          obtain ⟨rfl, rfl⟩ := q_862
          show Go B n0 _ h_731 26 332 276 #[.val (.int p0), .val (.int p1), .val (.int p2), .val (.int p3), .val (.int ca), .val (.int cb), .val (.int cc), .val (.int cd), .val (.int la), .val (.int lb), .val (.int lc), .val (.int lb), .val (.int da), .val (.int db), .val (.int dc), .val (.int dd), .val (.ref a_589), .val (.ref a_598), .val (.ref a_652), .val (.int (2 : Int32)), .unset] [(.int (0 : Int32))]
          refine g_if_n C at_276 (Jvm.Free.XT.i0_ne_f (by decide)) (pc' := 279) rfl ?_
          refine g_iconst C at_279 (v := (1 : Int32)) rfl (pc' := 280) rfl ?_
          refine g_goto C at_280 (pc' := 284) (by decide) (by decide) ?_
          refine g_ret C (eW hW fun vm' hw' => trivial) (v := (.int (1 : Int32))) (ty := .boolean) rfl rfl (Or.inl ⟨rfl, Or.inr (Or.inl rfl), _, rfl⟩) at_284 (by decide) (by decide) ?_
          rfl
        · subst i_738e
          show Go B n0 _ h_731 26 332 240 #[.val (.int p0), .val (.int p1), .val (.int p2), .val (.int p3), .val (.int ca), .val (.int cb), .val (.int cc), .val (.int cd), .val (.int la), .val (.int lb), .val (.int lc), .val (.int lb), .val (.int da), .val (.int db), .val (.int dc), .val (.int dd), .val (.ref a_589), .val (.ref a_598), .val (.ref a_652), .unset, .unset] [(.int (3 : Int32))]
          refine g_istore C at_240 (v := (3 : Int32)) (L' := #[.val (.int p0), .val (.int p1), .val (.int p2), .val (.int p3), .val (.int ca), .val (.int cb), .val (.int cc), .val (.int cd), .val (.int la), .val (.int lb), .val (.int lc), .val (.int lb), .val (.int da), .val (.int db), .val (.int dc), .val (.int dd), .val (.ref a_589), .val (.ref a_598), .val (.ref a_652), .val (.int (3 : Int32)), .unset]) rfl (pc' := 242) rfl ?_
          refine g_iload C at_242 (v := (3 : Int32)) rfl (pc' := 244) rfl ?_
          refine g_iconst C at_244 (v := (1 : Int32)) rfl (pc' := 245) rfl ?_
          refine g_icmp_y C at_245 (Jvm.Free.XT.ii_ne_t (by decide)) (pc' := 263) (by decide) (by decide) ?_
          refine g_iload C at_263 (v := (3 : Int32)) rfl (pc' := 265) rfl ?_
          refine g_iconst C at_265 (v := (2 : Int32)) rfl (pc' := 266) rfl ?_
          refine g_icmp_y C at_266 (Jvm.Free.XT.ii_ne_t (by decide)) (pc' := 285) (by decide) (by decide) ?_
          refine g_iload C at_285 (v := (3 : Int32)) rfl (pc' := 287) rfl ?_
          refine g_iconst C at_287 (v := (3 : Int32)) rfl (pc' := 288) rfl ?_
          refine g_icmp_n C at_288 (Jvm.Free.XT.ii_ne_f (by decide)) (pc' := 291) rfl ?_
          refine g_aload C at_291 (v := (.ref a_598)) rfl rfl (pc' := 293) rfl ?_
          refine g_aload C at_293 (v := (.ref a_598)) rfl rfl (pc' := 295) rfl ?_
          have f_865 := ((f_696.keep K_709).keep K_735)
          have f_866 := ((((f_644.ext E_654).keep K_682 nin0).keep K_709 nin0).keep K_735 (ninS ne_658 nin0))
          have f_867 := ((((f_645.ext E_654).keep K_682 nin0).keep K_709 nin0).keep K_735 (ninS ne_658 nin0))
          have f_868 := ((f_695.keep K_709).keep K_735)
          have f_869 := ((f_697.keep K_709).keep K_735)
          have f_870 := (Nat.le_trans f_730 K_735.1)
          refine g_virtual C (own_w hw 58 rfl) (own_w hw 59 rfl) (own_w hw 61 rfl) (own_w hw 60 rfl) (own_w hw 36 rfl) (own_w hw 62 rfl) (notFace_of_selects (args := #[]) (mvT C.2.2.2.2.1 (own_w hw 61 rfl))) (by decide) f_865 (rm_mneqS l Z a0 hw n0 a_598 a_589 a_619 h_731 f_870 f_865 f_866 f_867 f_868 f_869) (st := []) [(.ref a_598)] rfl rfl own_pd_4_equals rfl rfl (by decide) (W := 0) (Nat.le_of_eq rfl) (by decide) (by decide) (by decide) at_295 (pc' := 298) rfl ?_
          intro v_873 h_871 q_872
          obtain ⟨rfl, rfl⟩ := q_872
          show Go B n0 _ h_731 26 332 298 #[.val (.int p0), .val (.int p1), .val (.int p2), .val (.int p3), .val (.int ca), .val (.int cb), .val (.int cc), .val (.int cd), .val (.int la), .val (.int lb), .val (.int lc), .val (.int lb), .val (.int da), .val (.int db), .val (.int dc), .val (.int dd), .val (.ref a_589), .val (.ref a_598), .val (.ref a_652), .val (.int (3 : Int32)), .unset] [(.int (1 : Int32))]
          refine g_ret C (eW hW fun vm' hw' => trivial) (v := (.int (1 : Int32))) (ty := .boolean) rfl rfl (Or.inl ⟨rfl, Or.inr (Or.inl rfl), _, rfl⟩) at_298 (by decide) (by decide) ?_
          rfl
      · refine g_if_n C at_95 (Jvm.Free.XT.i0_eq_f hb_584) (pc' := 98) rfl ?_
        refine g_iload C at_98 (v := ca) rfl (pc' := 100) rfl ?_
        refine g_iload_n C at_100 (v := p1) rfl (pc' := 101) rfl ?_
        refine g_iconst C at_101 (v := (1 : Int32)) rfl (pc' := 102) rfl ?_
        refine g_iand C (x := p1) (y := (1 : Int32)) at_102  (pc' := 103) rfl ?_
        refine g_ixor C (x := ca) (y := (p1 &&& (1 : Int32))) at_103  (pc' := 104) rfl ?_
        obtain ⟨da, eda⟩ : ∃ z : Int32, z = (ca ^^^ (p1 &&& (1 : Int32))) := ⟨_, rfl⟩
        rw [← eda]
        have kda : Ch da := by rw [eda]; exact own_chX kca _
        refine g_istore C at_104 (v := da) (L' := #[.val (.int p0), .val (.int p1), .val (.int p2), .val (.int p3), .val (.int ca), .val (.int cb), .val (.int cc), .val (.int cd), .val (.int la), .val (.int lb), .val (.int lc), .val (.int lb), .val (.int da), .unset, .unset, .unset, .unset, .unset, .unset, .unset, .unset]) rfl (pc' := 106) rfl ?_
        refine g_iload C at_106 (v := cb) rfl (pc' := 108) rfl ?_
        refine g_iload_n C at_108 (v := p1) rfl (pc' := 109) rfl ?_
        refine g_iconst C at_109 (v := (1 : Int32)) rfl (pc' := 110) rfl ?_
        refine g_iushr C (x := p1) (y := (1 : Int32)) at_110  (pc' := 111) rfl ?_
        refine g_iconst C at_111 (v := (1 : Int32)) rfl (pc' := 112) rfl ?_
        refine g_iand C (x := (Jvm.Free.XT.ushr p1 (1 : Int32))) (y := (1 : Int32)) at_112  (pc' := 113) rfl ?_
        refine g_ixor C (x := cb) (y := ((Jvm.Free.XT.ushr p1 (1 : Int32)) &&& (1 : Int32))) at_113  (pc' := 114) rfl ?_
        obtain ⟨db, edb⟩ : ∃ z : Int32, z = (cb ^^^ ((Jvm.Free.XT.ushr p1 (1 : Int32)) &&& (1 : Int32))) := ⟨_, rfl⟩
        rw [← edb]
        have kdb : Ch db := by rw [edb]; exact own_chX kcb _
        refine g_istore C at_114 (v := db) (L' := #[.val (.int p0), .val (.int p1), .val (.int p2), .val (.int p3), .val (.int ca), .val (.int cb), .val (.int cc), .val (.int cd), .val (.int la), .val (.int lb), .val (.int lc), .val (.int lb), .val (.int da), .val (.int db), .unset, .unset, .unset, .unset, .unset, .unset, .unset]) rfl (pc' := 116) rfl ?_
        refine g_iload C at_116 (v := cc) rfl (pc' := 118) rfl ?_
        refine g_iload_n C at_118 (v := p1) rfl (pc' := 119) rfl ?_
        refine g_iconst C at_119 (v := (2 : Int32)) rfl (pc' := 120) rfl ?_
        refine g_iushr C (x := p1) (y := (2 : Int32)) at_120  (pc' := 121) rfl ?_
        refine g_iconst C at_121 (v := (1 : Int32)) rfl (pc' := 122) rfl ?_
        refine g_iand C (x := (Jvm.Free.XT.ushr p1 (2 : Int32))) (y := (1 : Int32)) at_122  (pc' := 123) rfl ?_
        refine g_ixor C (x := cc) (y := ((Jvm.Free.XT.ushr p1 (2 : Int32)) &&& (1 : Int32))) at_123  (pc' := 124) rfl ?_
        obtain ⟨dc, edc⟩ : ∃ z : Int32, z = (cc ^^^ ((Jvm.Free.XT.ushr p1 (2 : Int32)) &&& (1 : Int32))) := ⟨_, rfl⟩
        rw [← edc]
        have kdc : Ch dc := by rw [edc]; exact own_chX kcc _
        refine g_istore C at_124 (v := dc) (L' := #[.val (.int p0), .val (.int p1), .val (.int p2), .val (.int p3), .val (.int ca), .val (.int cb), .val (.int cc), .val (.int cd), .val (.int la), .val (.int lb), .val (.int lc), .val (.int lb), .val (.int da), .val (.int db), .val (.int dc), .unset, .unset, .unset, .unset, .unset, .unset]) rfl (pc' := 126) rfl ?_
        refine g_iload C at_126 (v := cd) rfl (pc' := 128) rfl ?_
        refine g_iload_n C at_128 (v := p1) rfl (pc' := 129) rfl ?_
        refine g_iconst C at_129 (v := (3 : Int32)) rfl (pc' := 130) rfl ?_
        refine g_iushr C (x := p1) (y := (3 : Int32)) at_130  (pc' := 131) rfl ?_
        refine g_iconst C at_131 (v := (1 : Int32)) rfl (pc' := 132) rfl ?_
        refine g_iand C (x := (Jvm.Free.XT.ushr p1 (3 : Int32))) (y := (1 : Int32)) at_132  (pc' := 133) rfl ?_
        refine g_ixor C (x := cd) (y := ((Jvm.Free.XT.ushr p1 (3 : Int32)) &&& (1 : Int32))) at_133  (pc' := 134) rfl ?_
        obtain ⟨dd, edd⟩ : ∃ z : Int32, z = (cd ^^^ ((Jvm.Free.XT.ushr p1 (3 : Int32)) &&& (1 : Int32))) := ⟨_, rfl⟩
        rw [← edd]
        have kdd : Ch dd := by rw [edd]; exact own_chX kcd _
        refine g_istore C at_134 (v := dd) (L' := #[.val (.int p0), .val (.int p1), .val (.int p2), .val (.int p3), .val (.int ca), .val (.int cb), .val (.int cc), .val (.int cd), .val (.int la), .val (.int lb), .val (.int lc), .val (.int lb), .val (.int da), .val (.int db), .val (.int dc), .val (.int dd), .unset, .unset, .unset, .unset, .unset]) rfl (pc' := 136) rfl ?_
        refine g_goto C at_136 (pc' := 176) (by decide) (by decide) ?_
        refine g_iload C at_176 (v := la) rfl (pc' := 178) rfl ?_
        refine g_iload C at_178 (v := ca) rfl (pc' := 180) rfl ?_
        refine g_iload C at_180 (v := cb) rfl (pc' := 182) rfl ?_
        refine g_staticV C hW (own_w hw 0 rfl) (own_w hw 1 rfl) (own_w hw 2 rfl) (own_w hw 3 rfl) (by decide) (rm_str l Z a0 hw n0 la ca cb h0 Z0 cm O ch0 ch1 ch2 cw kca kcb) (fun vm' hw' => InvK.warm I0 hw') (st := []) [(.int la), (.int ca), (.int cb)] rfl rfl own_pd_1_str rfl rfl (by decide) (W := 0) (Nat.le_of_eq rfl) (by decide) (by decide) (by decide) at_182 (pc' := 185) rfl ?_
        intro B C hW v_877 h_875 q_876 I_878
        obtain ⟨a_879, b_880, rfl, le_881, K_882, E_883, f_884, f_885, f_886⟩ := q_876
        have ge_a_879 : n0 ≤ a_879 := Nat.le_trans Z0 le_881
        have gs_a_879 : h0.size ≤ a_879 := Nat.le_trans (Nat.le_refl h0.size) le_881
        show Go B n0 _ h_875 4 8 185 #[.val (.int p0), .val (.int p1), .val (.int p2), .val (.int p3), .val (.int ca), .val (.int cb), .val (.int cc), .val (.int cd), .val (.int la), .val (.int lb), .val (.int lc), .val (.int lb), .val (.int da), .val (.int db), .val (.int dc), .val (.int dd), .unset, .unset, .unset, .unset, .unset] [(.ref a_879)]
        refine g_astore C at_185 (v := (.ref a_879)) (L' := #[.val (.int p0), .val (.int p1), .val (.int p2), .val (.int p3), .val (.int ca), .val (.int cb), .val (.int cc), .val (.int cd), .val (.int la), .val (.int lb), .val (.int lc), .val (.int lb), .val (.int da), .val (.int db), .val (.int dc), .val (.int dd), .val (.ref a_879), .unset, .unset, .unset, .unset]) rfl rfl (pc' := 187) rfl ?_
        refine g_new C (own_w hw 34 rfl) (own_w hw 35 rfl) (own_w hw 36 rfl) (by decide) (by decide) at_187 (pc' := 190) rfl ?_
        intro h_887 a_888 g_889 E_890 A_891 D_892
        have ne_893 : a_879 ≠ a_888 := ne_new E_883.lt g_889
        have ne_894 : b_880 ≠ a_888 := ne_new f_886.lt g_889
        have f_895 := (Nat.le_trans Z0 K_882.1)
        have ge_a_888 : n0 ≤ a_888 := Nat.le_trans f_895 (Nat.le_of_eq g_889.symm)
        have f_896 := (Nat.le_trans (Nat.le_refl h0.size) K_882.1)
        have gs_a_888 : h0.size ≤ a_888 := Nat.le_trans f_896 (Nat.le_of_eq g_889.symm)
        have f_897 : Fld Z h_887 a_888 "com/example/chiton/chiton/model/MethodName" "className" "Ljava/lang/String;" .null := D_892 (Or.inr (own_w hw 51 rfl)) (ty := (.object "java/lang/String")) (by decide)
        have f_898 : Fld Z h_887 a_888 "com/example/chiton/chiton/model/MethodName" "methodName" "Ljava/lang/String;" .null := D_892 (Or.inr (own_w hw 54 rfl)) (ty := (.object "java/lang/String")) (by decide)
        show Go B n0 _ h_887 5 10 190 #[.val (.int p0), .val (.int p1), .val (.int p2), .val (.int p3), .val (.int ca), .val (.int cb), .val (.int cc), .val (.int cd), .val (.int la), .val (.int lb), .val (.int lc), .val (.int lb), .val (.int da), .val (.int db), .val (.int dc), .val (.int dd), .val (.ref a_879), .unset, .unset, .unset, .unset] [(.ref a_888)]
        refine g_dup C at_190 rfl (pc' := 191) rfl ?_
        refine g_aload C at_191 (v := (.ref a_879)) rfl rfl (pc' := 193) rfl ?_
        refine g_iload C at_193 (v := lb) rfl (pc' := 195) rfl ?_
        refine g_iload C at_195 (v := cc) rfl (pc' := 197) rfl ?_
        refine g_iload C at_197 (v := cd) rfl (pc' := 199) rfl ?_
        have f_899 := ((O.keep K_882 all0).ext E_890)
        have f_900 := (Nat.le_trans f_895 E_890.1)
        have f_901 := (I_878.ext E_890)
        have f_902 := (E_883.ext E_890)
        have f_903 := (f_886.ext E_890)
        have f_904 := (Nat.le_trans f_896 E_890.1)
        refine g_staticV C hW (own_w hw 0 rfl) (own_w hw 1 rfl) (own_w hw 2 rfl) (own_w hw 3 rfl) (by decide) (rm_str l Z a0 hw n0 lb cc cd h_887 f_900 cm f_899 ch0 ch1 ch2 cw kcc kcd) (fun vm' hw' => InvK.warm f_901 hw') (st := [(.ref a_879), (.ref a_888), (.ref a_888)]) [(.int lb), (.int cc), (.int cd)] rfl rfl own_pd_1_str rfl rfl (by decide) (W := 3) (Nat.le_of_eq rfl) (by decide) (by decide) (by decide) at_199 (pc' := 202) rfl ?_
        intro B C hW v_907 h_905 q_906 I_908
        obtain ⟨a_909, b_910, rfl, le_911, K_912, E_913, f_914, f_915, f_916⟩ := q_906
        have ne_917 : a_879 ≠ a_909 := ne_ge f_902.lt le_911
        have ne_918 : a_888 ≠ a_909 := ne_ge A_891.lt le_911
        have ne_919 : b_880 ≠ a_909 := ne_ge f_903.lt le_911
        have ge_a_909 : n0 ≤ a_909 := Nat.le_trans f_900 le_911
        have gs_a_909 : h0.size ≤ a_909 := Nat.le_trans f_904 le_911
        show Go B n0 _ h_905 9 18 202 #[.val (.int p0), .val (.int p1), .val (.int p2), .val (.int p3), .val (.int ca), .val (.int cb), .val (.int cc), .val (.int cd), .val (.int la), .val (.int lb), .val (.int lc), .val (.int lb), .val (.int da), .val (.int db), .val (.int dc), .val (.int dd), .val (.ref a_879), .unset, .unset, .unset, .unset] [(.ref a_909), (.ref a_879), (.ref a_888), (.ref a_888)]
        have f_921 := (A_891.keep K_912)
        have f_922 := (f_903.keep K_912 nin0)
        have ne_920 : b_880 ≠ a_888 := own_neA f_921 f_922 (own_w hw 35 rfl)
        have ne_923 : b_910 ≠ a_888 := own_neA f_921 f_916 (own_w hw 35 rfl)
        have f_924 := (f_899.keep K_912 all0)
        have f_925 := (f_897.keep K_912 nin0)
        have f_926 := (f_898.keep K_912 nin0)
        have f_927 := (f_902.keep K_912)
        have f_928 := (Nat.le_trans f_900 K_912.1)
        refine g_specialV C hW (a := a_888) rfl (own_w hw 40 rfl) (own_w hw 41 rfl) (own_w hw 36 rfl) (own_w hw 42 rfl) (by decide) (rm_mninit l Z a0 hw n0 a_888 a_879 a_909 h_905 f_928 cm f_924 ch0 ch1 ch2 cw f_921 f_925 f_926 ge_a_888 f_927 E_913) (fun vm' hw' => InvK.warm I_908 hw') (st := [(.ref a_888)]) [(.ref a_879), (.ref a_909)] rfl rfl own_pd_6_init rfl rfl (by decide) (W := 1) (Nat.le_of_eq rfl) (by decide) (by decide) (by decide) at_202 (pc' := 205) rfl ?_
        intro B C hW v_931 h_929 q_930 I_932
        obtain ⟨rfl, K_933, f_934, f_935⟩ := q_930
        show Go B n0 _ h_929 13 166 205 #[.val (.int p0), .val (.int p1), .val (.int p2), .val (.int p3), .val (.int ca), .val (.int cb), .val (.int cc), .val (.int cd), .val (.int la), .val (.int lb), .val (.int lc), .val (.int lb), .val (.int da), .val (.int db), .val (.int dc), .val (.int dd), .val (.ref a_879), .unset, .unset, .unset, .unset] [(.ref a_888)]
        refine g_astore C at_205 (v := (.ref a_888)) (L' := #[.val (.int p0), .val (.int p1), .val (.int p2), .val (.int p3), .val (.int ca), .val (.int cb), .val (.int cc), .val (.int cd), .val (.int la), .val (.int lb), .val (.int lc), .val (.int lb), .val (.int da), .val (.int db), .val (.int dc), .val (.int dd), .val (.ref a_879), .val (.ref a_888), .unset, .unset, .unset]) rfl rfl (pc' := 207) rfl ?_
        have f_936 := (f_927.keep K_933)
        have f_937 := (f_921.keep K_933)
        have f_938 := (E_913.keep K_933)
        have f_939 := (f_922.keep K_933 (ninS ne_920 nin0))
        have f_940 := (f_916.keep K_933 (ninS ne_923 nin0))
        refine g_new C (own_w hw 34 rfl) (own_w hw 35 rfl) (own_w hw 36 rfl) (by decide) (by decide) at_207 (pc' := 210) rfl ?_
        intro h_941 a_942 g_943 E_944 A_945 D_946
        have ne_947 : a_879 ≠ a_942 := ne_new f_936.lt g_943
        have ne_948 : a_888 ≠ a_942 := ne_new f_937.lt g_943
        have ne_949 : a_909 ≠ a_942 := ne_new f_938.lt g_943
        have ne_950 : b_880 ≠ a_942 := ne_new f_939.lt g_943
        have ne_951 : b_910 ≠ a_942 := ne_new f_940.lt g_943
        have f_952 := (Nat.le_trans f_928 K_933.1)
        have ge_a_942 : n0 ≤ a_942 := Nat.le_trans f_952 (Nat.le_of_eq g_943.symm)
        have f_953 := (Nat.le_trans (Nat.le_trans f_904 K_912.1) K_933.1)
        have gs_a_942 : h0.size ≤ a_942 := Nat.le_trans f_953 (Nat.le_of_eq g_943.symm)
        have f_954 : Fld Z h_941 a_942 "com/example/chiton/chiton/model/MethodName" "className" "Ljava/lang/String;" .null := D_946 (Or.inr (own_w hw 51 rfl)) (ty := (.object "java/lang/String")) (by decide)
        have f_955 : Fld Z h_941 a_942 "com/example/chiton/chiton/model/MethodName" "methodName" "Ljava/lang/String;" .null := D_946 (Or.inr (own_w hw 54 rfl)) (ty := (.object "java/lang/String")) (by decide)
        show Go B n0 _ h_941 14 168 210 #[.val (.int p0), .val (.int p1), .val (.int p2), .val (.int p3), .val (.int ca), .val (.int cb), .val (.int cc), .val (.int cd), .val (.int la), .val (.int lb), .val (.int lc), .val (.int lb), .val (.int da), .val (.int db), .val (.int dc), .val (.int dd), .val (.ref a_879), .val (.ref a_888), .unset, .unset, .unset] [(.ref a_942)]
        refine g_dup C at_210 rfl (pc' := 211) rfl ?_
        refine g_iload C at_211 (v := lc) rfl (pc' := 213) rfl ?_
        refine g_iload C at_213 (v := da) rfl (pc' := 215) rfl ?_
        refine g_iload C at_215 (v := db) rfl (pc' := 217) rfl ?_
        have f_956 := ((f_924.keep K_933 (allS ge_a_888 all0)).ext E_944)
        have f_957 := (Nat.le_trans f_952 E_944.1)
        have f_958 := (I_932.ext E_944)
        have f_959 := (f_936.ext E_944)
        have f_960 := (f_937.ext E_944)
        have f_961 := (f_938.ext E_944)
        have f_962 := (f_939.ext E_944)
        have f_963 := (f_940.ext E_944)
        have f_964 := (Nat.le_trans f_953 E_944.1)
        refine g_staticV C hW (own_w hw 0 rfl) (own_w hw 1 rfl) (own_w hw 2 rfl) (own_w hw 3 rfl) (by decide) (rm_str l Z a0 hw n0 lc da db h_941 f_957 cm f_956 ch0 ch1 ch2 cw kda kdb) (fun vm' hw' => InvK.warm f_958 hw') (st := [(.ref a_942), (.ref a_942)]) [(.int lc), (.int da), (.int db)] rfl rfl own_pd_1_str rfl rfl (by decide) (W := 2) (Nat.le_of_eq rfl) (by decide) (by decide) (by decide) at_217 (pc' := 220) rfl ?_
        intro B C hW v_967 h_965 q_966 I_968
        obtain ⟨a_969, b_970, rfl, le_971, K_972, E_973, f_974, f_975, f_976⟩ := q_966
        have ne_977 : a_879 ≠ a_969 := ne_ge f_959.lt le_971
        have ne_978 : a_888 ≠ a_969 := ne_ge f_960.lt le_971
        have ne_979 : a_909 ≠ a_969 := ne_ge f_961.lt le_971
        have ne_980 : a_942 ≠ a_969 := ne_ge A_945.lt le_971
        have ne_981 : b_880 ≠ a_969 := ne_ge f_962.lt le_971
        have ne_982 : b_910 ≠ a_969 := ne_ge f_963.lt le_971
        have ge_a_969 : n0 ≤ a_969 := Nat.le_trans f_957 le_971
        have gs_a_969 : h0.size ≤ a_969 := Nat.le_trans f_964 le_971
        show Go B n0 _ h_965 18 176 220 #[.val (.int p0), .val (.int p1), .val (.int p2), .val (.int p3), .val (.int ca), .val (.int cb), .val (.int cc), .val (.int cd), .val (.int la), .val (.int lb), .val (.int lc), .val (.int lb), .val (.int da), .val (.int db), .val (.int dc), .val (.int dd), .val (.ref a_879), .val (.ref a_888), .unset, .unset, .unset] [(.ref a_969), (.ref a_942), (.ref a_942)]
        refine g_iload C at_220 (v := lb) rfl (pc' := 222) rfl ?_
        refine g_iload C at_222 (v := dc) rfl (pc' := 224) rfl ?_
        refine g_iload C at_224 (v := dd) rfl (pc' := 226) rfl ?_
        have f_983 := (f_956.keep K_972 all0)
        have f_984 := (Nat.le_trans f_957 K_972.1)
        have f_985 := (f_959.keep K_972)
        have f_986 := (f_960.keep K_972)
        have f_987 := (f_961.keep K_972)
        have f_988 := (A_945.keep K_972)
        have f_989 := (f_962.keep K_972 nin0)
        have f_990 := (f_963.keep K_972 nin0)
        have f_991 := (Nat.le_trans f_964 K_972.1)
        refine g_staticV C hW (own_w hw 0 rfl) (own_w hw 1 rfl) (own_w hw 2 rfl) (own_w hw 3 rfl) (by decide) (rm_str l Z a0 hw n0 lb dc dd h_965 f_984 cm f_983 ch0 ch1 ch2 cw kdc kdd) (fun vm' hw' => InvK.warm I_968 hw') (st := [(.ref a_969), (.ref a_942), (.ref a_942)]) [(.int lb), (.int dc), (.int dd)] rfl rfl own_pd_1_str rfl rfl (by decide) (W := 3) (Nat.le_of_eq rfl) (by decide) (by decide) (by decide) at_226 (pc' := 229) rfl ?_
        intro B C hW v_994 h_992 q_993 I_995
        obtain ⟨a_996, b_997, rfl, le_998, K_999, E_1000, f_1001, f_1002, f_1003⟩ := q_993
        have ne_1004 : a_879 ≠ a_996 := ne_ge f_985.lt le_998
        have ne_1005 : a_888 ≠ a_996 := ne_ge f_986.lt le_998
        have ne_1006 : a_909 ≠ a_996 := ne_ge f_987.lt le_998
        have ne_1007 : a_942 ≠ a_996 := ne_ge f_988.lt le_998
        have ne_1008 : a_969 ≠ a_996 := ne_ge E_973.lt le_998
        have ne_1009 : b_880 ≠ a_996 := ne_ge f_989.lt le_998
        have ne_1010 : b_910 ≠ a_996 := ne_ge f_990.lt le_998
        have ne_1011 : b_970 ≠ a_996 := ne_ge f_976.lt le_998
        have ge_a_996 : n0 ≤ a_996 := Nat.le_trans f_984 le_998
        have gs_a_996 : h0.size ≤ a_996 := Nat.le_trans f_991 le_998
        show Go B n0 _ h_992 22 184 229 #[.val (.int p0), .val (.int p1), .val (.int p2), .val (.int p3), .val (.int ca), .val (.int cb), .val (.int cc), .val (.int cd), .val (.int la), .val (.int lb), .val (.int lc), .val (.int lb), .val (.int da), .val (.int db), .val (.int dc), .val (.int dd), .val (.ref a_879), .val (.ref a_888), .unset, .unset, .unset] [(.ref a_996), (.ref a_969), (.ref a_942), (.ref a_942)]
        have f_1013 := (f_988.keep K_999)
        have f_1014 := (f_976.keep K_999 nin0)
        have ne_1012 : b_970 ≠ a_942 := own_neA f_1013 f_1014 (own_w hw 35 rfl)
        have ne_1015 : b_997 ≠ a_942 := own_neA f_1013 f_1003 (own_w hw 35 rfl)
        have f_1016 := (f_983.keep K_999 all0)
        have f_1017 := ((f_954.keep K_972 nin0).keep K_999 nin0)
        have f_1018 := ((f_955.keep K_972 nin0).keep K_999 nin0)
        have f_1019 := (E_973.keep K_999)
        have f_1020 := (Nat.le_trans f_984 K_999.1)
        refine g_specialV C hW (a := a_942) rfl (own_w hw 40 rfl) (own_w hw 41 rfl) (own_w hw 36 rfl) (own_w hw 42 rfl) (by decide) (rm_mninit l Z a0 hw n0 a_942 a_969 a_996 h_992 f_1020 cm f_1016 ch0 ch1 ch2 cw f_1013 f_1017 f_1018 ge_a_942 f_1019 E_1000) (fun vm' hw' => InvK.warm I_995 hw') (st := [(.ref a_942)]) [(.ref a_969), (.ref a_996)] rfl rfl own_pd_6_init rfl rfl (by decide) (W := 1) (Nat.le_of_eq rfl) (by decide) (by decide) (by decide) at_229 (pc' := 232) rfl ?_
        intro B C hW v_1023 h_1021 q_1022 I_1024
        obtain ⟨rfl, K_1025, f_1026, f_1027⟩ := q_1022
        show Go B n0 _ h_1021 26 332 232 #[.val (.int p0), .val (.int p1), .val (.int p2), .val (.int p3), .val (.int ca), .val (.int cb), .val (.int cc), .val (.int cd), .val (.int la), .val (.int lb), .val (.int lc), .val (.int lb), .val (.int da), .val (.int db), .val (.int dc), .val (.int dd), .val (.ref a_879), .val (.ref a_888), .unset, .unset, .unset] [(.ref a_942)]
        refine g_astore C at_232 (v := (.ref a_942)) (L' := #[.val (.int p0), .val (.int p1), .val (.int p2), .val (.int p3), .val (.int ca), .val (.int cb), .val (.int cc), .val (.int cd), .val (.int la), .val (.int lb), .val (.int lc), .val (.int lb), .val (.int da), .val (.int db), .val (.int dc), .val (.int dd), .val (.ref a_879), .val (.ref a_888), .val (.ref a_942), .unset, .unset]) rfl rfl (pc' := 234) rfl ?_
        refine g_iload_n C at_234 (v := p2) rfl (pc' := 235) rfl ?_
        refine g_bipush C at_235 (v := (8 : Int32)) rfl (pc' := 237) rfl ?_
        refine g_iushr C (x := p2) (y := (8 : Int32)) at_237  (pc' := 238) rfl ?_
        refine g_iconst C at_238 (v := (3 : Int32)) rfl (pc' := 239) rfl ?_
        refine g_iand C (x := (Jvm.Free.XT.ushr p2 (8 : Int32))) (y := (3 : Int32)) at_239  (pc' := 240) rfl ?_
        obtain ⟨i_1028, hi_1029⟩ : ∃ z : Int32, z = ((Jvm.Free.XT.ushr p2 (8 : Int32)) &&& (3 : Int32)) := ⟨_, rfl⟩
        rw [← hi_1029]
        rcases own_split4 i_1028 (by rw [hi_1029]; exact (own_m3 _).1) (by rw [hi_1029]; exact (own_m3 _).2) with i_1028e | i_1028e | i_1028e | i_1028e
        · subst i_1028e
          show Go B n0 _ h_1021 26 332 240 #[.val (.int p0), .val (.int p1), .val (.int p2), .val (.int p3), .val (.int ca), .val (.int cb), .val (.int cc), .val (.int cd), .val (.int la), .val (.int lb), .val (.int lc), .val (.int lb), .val (.int da), .val (.int db), .val (.int dc), .val (.int dd), .val (.ref a_879), .val (.ref a_888), .val (.ref a_942), .unset, .unset] [(.int (0 : Int32))]
          refine g_istore C at_240 (v := (0 : Int32)) (L' := #[.val (.int p0), .val (.int p1), .val (.int p2), .val (.int p3), .val (.int ca), .val (.int cb), .val (.int cc), .val (.int cd), .val (.int la), .val (.int lb), .val (.int lc), .val (.int lb), .val (.int da), .val (.int db), .val (.int dc), .val (.int dd), .val (.ref a_879), .val (.ref a_888), .val (.ref a_942), .val (.int (0 : Int32)), .unset]) rfl (pc' := 242) rfl ?_
          refine g_iload C at_242 (v := (0 : Int32)) rfl (pc' := 244) rfl ?_
          refine g_iconst C at_244 (v := (1 : Int32)) rfl (pc' := 245) rfl ?_
          refine g_icmp_y C at_245 (Jvm.Free.XT.ii_ne_t (by decide)) (pc' := 263) (by decide) (by decide) ?_
          refine g_iload C at_263 (v := (0 : Int32)) rfl (pc' := 265) rfl ?_
          refine g_iconst C at_265 (v := (2 : Int32)) rfl (pc' := 266) rfl ?_
          refine g_icmp_y C at_266 (Jvm.Free.XT.ii_ne_t (by decide)) (pc' := 285) (by decide) (by decide) ?_
          refine g_iload C at_285 (v := (0 : Int32)) rfl (pc' := 287) rfl ?_
          refine g_iconst C at_287 (v := (3 : Int32)) rfl (pc' := 288) rfl ?_
          refine g_icmp_y C at_288 (Jvm.Free.XT.ii_ne_t (by decide)) (pc' := 299) (by decide) (by decide) ?_
          refine g_iload C at_299 (v := la) rfl (pc' := 301) rfl ?_
          refine g_iload C at_301 (v := ca) rfl (pc' := 303) rfl ?_
          refine g_iload C at_303 (v := cb) rfl (pc' := 305) rfl ?_
          refine g_iload C at_305 (v := lc) rfl (pc' := 307) rfl ?_
          refine g_iload C at_307 (v := da) rfl (pc' := 309) rfl ?_
          refine g_iload C at_309 (v := db) rfl (pc' := 311) rfl ?_
          have f_1030 := (Nat.le_trans f_1020 K_1025.1)
          refine g_static C (own_w hw 55 rfl) (own_w hw 56 rfl) (own_w hw 2 rfl) (own_w hw 57 rfl) (by decide) (rm_same l Z a0 hw n0 la ca cb lc da db h_1021 f_1030 rla rlc kca kcb kda kdb) (st := []) [(.int la), (.int ca), (.int cb), (.int lc), (.int da), (.int db)] rfl rfl own_pd_3_same rfl rfl (by decide) (W := 0) (Nat.le_of_eq rfl) (by decide) (by decide) (by decide) at_311 (pc' := 314) rfl ?_
          intro v_1033 h_1031 q_1032
          obtain ⟨r_1035, rfl, ⟨e_1036, rfl⟩ | ⟨e_1036, rfl⟩, rfl⟩ := q_1032
          · show Go B n0 _ h_1021 26 332 314 #[.val (.int p0), .val (.int p1), .val (.int p2), .val (.int p3), .val (.int ca), .val (.int cb), .val (.int cc), .val (.int cd), .val (.int la), .val (.int lb), .val (.int lc), .val (.int lb), .val (.int da), .val (.int db), .val (.int dc), .val (.int dd), .val (.ref a_879), .val (.ref a_888), .val (.ref a_942), .val (.int (0 : Int32)), .unset] [(.int (1 : Int32))]
            refine g_if_n C at_314 (Jvm.Free.XT.i0_eq_f (by decide)) (pc' := 317) rfl ?_
            refine g_iload C at_317 (v := lb) rfl (pc' := 319) rfl ?_
            refine g_iload C at_319 (v := cc) rfl (pc' := 321) rfl ?_
            refine g_iload C at_321 (v := cd) rfl (pc' := 323) rfl ?_
            refine g_iload C at_323 (v := lb) rfl (pc' := 325) rfl ?_
            refine g_iload C at_325 (v := dc) rfl (pc' := 327) rfl ?_
            refine g_iload C at_327 (v := dd) rfl (pc' := 329) rfl ?_
            refine g_static C (own_w hw 55 rfl) (own_w hw 56 rfl) (own_w hw 2 rfl) (own_w hw 57 rfl) (by decide) (rm_same l Z a0 hw n0 lb cc cd lb dc dd h_1021 f_1030 rlb rlb kcc kcd kdc kdd) (st := []) [(.int lb), (.int cc), (.int cd), (.int lb), (.int dc), (.int dd)] rfl rfl own_pd_3_same rfl rfl (by decide) (W := 0) (Nat.le_of_eq rfl) (by decide) (by decide) (by decide) at_329 (pc' := 332) rfl ?_
            intro v_1039 h_1037 q_1038
            obtain ⟨r_1041, rfl, ⟨e_1042, rfl⟩ | ⟨e_1042, rfl⟩, rfl⟩ := q_1038
            · show Go B n0 _ h_1021 26 332 332 #[.val (.int p0), .val (.int p1), .val (.int p2), .val (.int p3), .val (.int ca), .val (.int cb), .val (.int cc), .val (.int cd), .val (.int la), .val (.int lb), .val (.int lc), .val (.int lb), .val (.int da), .val (.int db), .val (.int dc), .val (.int dd), .val (.ref a_879), .val (.ref a_888), .val (.ref a_942), .val (.int (0 : Int32)), .unset] [(.int (1 : Int32))]
              refine g_if_n C at_332 (Jvm.Free.XT.i0_eq_f (by decide)) (pc' := 335) rfl ?_
              refine g_iconst C at_335 (v := (1 : Int32)) rfl (pc' := 336) rfl ?_
              refine g_goto C at_336 (pc' := 340) (by decide) (by decide) ?_
              refine g_istore C at_340 (v := (1 : Int32)) (L' := #[.val (.int p0), .val (.int p1), .val (.int p2), .val (.int p3), .val (.int ca), .val (.int cb), .val (.int cc), .val (.int cd), .val (.int la), .val (.int lb), .val (.int lc), .val (.int lb), .val (.int da), .val (.int db), .val (.int dc), .val (.int dd), .val (.ref a_879), .val (.ref a_888), .val (.ref a_942), .val (.int (0 : Int32)), .val (.int (1 : Int32))]) rfl (pc' := 342) rfl ?_
              refine g_aload C at_342 (v := (.ref a_888)) rfl rfl (pc' := 344) rfl ?_
              refine g_aload C at_344 (v := (.ref a_942)) rfl rfl (pc' := 346) rfl ?_
              have f_1043 := (f_1016.keep K_1025 (allS ge_a_942 all0))
              have f_1044 := ((f_986.keep K_999).keep K_1025)
              have f_1045 := ((((f_934.ext E_944).keep K_972 nin0).keep K_999 nin0).keep K_1025 (ninS ne_948 nin0))
              have f_1046 := ((((f_935.ext E_944).keep K_972 nin0).keep K_999 nin0).keep K_1025 (ninS ne_948 nin0))
              have f_1047 := (f_1013.keep K_1025)
              have f_1048 := ((f_985.keep K_999).keep K_1025)
              have f_1049 := (((((((f_884.ext E_890).keep K_912 nin0).keep K_933 (ninS ne_893 nin0)).ext E_944).keep K_972 nin0).keep K_999 nin0).keep K_1025 (ninS ne_947 nin0))
              have f_1050 := (((((((f_885.ext E_890).keep K_912 nin0).keep K_933 (ninS ne_893 nin0)).ext E_944).keep K_972 nin0).keep K_999 nin0).keep K_1025 (ninS ne_947 nin0))
              have f_1051 := ((f_989.keep K_999 nin0).keep K_1025 (ninS ne_950 nin0))
              have f_1052 := (f_1019.keep K_1025)
              have f_1053 := ((f_974.keep K_999 nin0).keep K_1025 (ninS (Ne.symm ne_980) nin0))
              have f_1054 := ((f_975.keep K_999 nin0).keep K_1025 (ninS (Ne.symm ne_980) nin0))
              have f_1055 := (f_1014.keep K_1025 (ninS ne_1012 nin0))
              have f_1056 := ((f_987.keep K_999).keep K_1025)
              have f_1057 := (((((f_914.keep K_933 (ninS (Ne.symm ne_918) nin0)).ext E_944).keep K_972 nin0).keep K_999 nin0).keep K_1025 (ninS ne_949 nin0))
              have f_1058 := (((((f_915.keep K_933 (ninS (Ne.symm ne_918) nin0)).ext E_944).keep K_972 nin0).keep K_999 nin0).keep K_1025 (ninS ne_949 nin0))
              have f_1059 := ((f_990.keep K_999 nin0).keep K_1025 (ninS ne_951 nin0))
              have f_1060 := (E_1000.keep K_1025)
              have f_1061 := (f_1001.keep K_1025 (ninS (Ne.symm ne_1007) nin0))
              have f_1062 := (f_1002.keep K_1025 (ninS (Ne.symm ne_1007) nin0))
              have f_1063 := (f_1003.keep K_1025 (ninS ne_1015 nin0))
              refine g_virtual C (own_w hw 58 rfl) (own_w hw 59 rfl) (own_w hw 61 rfl) (own_w hw 60 rfl) (own_w hw 36 rfl) (own_w hw 62 rfl) (notFace_of_selects (args := #[]) (mvT C.2.2.2.2.1 (own_w hw 61 rfl))) (by decide) f_1044 (rm_mneqD l Z a0 hw n0 a_888 a_942 a_879 a_969 a_909 a_996 b_880 b_970 b_910 b_997 (own_str la ca cb) (own_str lc da db) (own_str lb cc cd) (own_str lb dc dd) h_1021 f_1030 cm f_1043 f_1044 f_1045 f_1046 f_1047 f_1026 f_1027 f_1048 f_1049 f_1050 f_1051 (own_sh _ _ _) f_1052 f_1053 f_1054 f_1055 (own_sh _ _ _) f_1056 f_1057 f_1058 f_1059 (own_sh _ _ _) f_1060 f_1061 f_1062 f_1063 (own_sh _ _ _) ne_977 ne_1006) (st := []) [(.ref a_942)] rfl rfl own_pd_4_equals rfl rfl (by decide) (W := 0) (Nat.le_of_eq rfl) (by decide) (by decide) (by decide) at_346 (pc' := 349) rfl ?_
              intro v_1066 h_1064 q_1065
              obtain ⟨r_1068, rfl, ⟨e_1069, rfl⟩ | ⟨e_1069, rfl⟩, rfl⟩ := q_1065
              · show Go B n0 _ h_1021 26 332 349 #[.val (.int p0), .val (.int p1), .val (.int p2), .val (.int p3), .val (.int ca), .val (.int cb), .val (.int cc), .val (.int cd), .val (.int la), .val (.int lb), .val (.int lc), .val (.int lb), .val (.int da), .val (.int db), .val (.int dc), .val (.int dd), .val (.ref a_879), .val (.ref a_888), .val (.ref a_942), .val (.int (0 : Int32)), .val (.int (1 : Int32))] [(.int (1 : Int32))]
                refine g_iload C at_349 (v := (1 : Int32)) rfl (pc' := 351) rfl ?_
                refine g_icmp_n C at_351 (Jvm.Free.XT.ii_ne_f (by decide)) (pc' := 354) rfl ?_
                refine g_aload C at_354 (v := (.ref a_942)) rfl rfl (pc' := 356) rfl ?_
                refine g_aload C at_356 (v := (.ref a_888)) rfl rfl (pc' := 358) rfl ?_
                refine g_virtual C (own_w hw 58 rfl) (own_w hw 59 rfl) (own_w hw 61 rfl) (own_w hw 60 rfl) (own_w hw 36 rfl) (own_w hw 62 rfl) (notFace_of_selects (args := #[]) (mvT C.2.2.2.2.1 (own_w hw 61 rfl))) (by decide) f_1047 (rm_mneqD l Z a0 hw n0 a_942 a_888 a_969 a_879 a_996 a_909 b_970 b_880 b_997 b_910 (own_str lc da db) (own_str la ca cb) (own_str lb dc dd) (own_str lb cc cd) h_1021 f_1030 cm f_1043 f_1047 f_1026 f_1027 f_1044 f_1045 f_1046 f_1052 f_1053 f_1054 f_1055 (own_sh _ _ _) f_1048 f_1049 f_1050 f_1051 (own_sh _ _ _) f_1060 f_1061 f_1062 f_1063 (own_sh _ _ _) f_1056 f_1057 f_1058 f_1059 (own_sh _ _ _) (Ne.symm ne_977) (Ne.symm ne_1006)) (st := []) [(.ref a_888)] rfl rfl own_pd_4_equals rfl rfl (by decide) (W := 0) (Nat.le_of_eq rfl) (by decide) (by decide) (by decide) at_358 (pc' := 361) rfl ?_
                intro v_1072 h_1070 q_1071
                obtain ⟨r_1074, rfl, ⟨e_1075, rfl⟩ | ⟨e_1075, rfl⟩, rfl⟩ := q_1071
                · show Go B n0 _ h_1021 26 332 361 #[.val (.int p0), .val (.int p1), .val (.int p2), .val (.int p3), .val (.int ca), .val (.int cb), .val (.int cc), .val (.int cd), .val (.int la), .val (.int lb), .val (.int lc), .val (.int lb), .val (.int da), .val (.int db), .val (.int dc), .val (.int dd), .val (.ref a_879), .val (.ref a_888), .val (.ref a_942), .val (.int (0 : Int32)), .val (.int (1 : Int32))] [(.int (1 : Int32))]
                  refine g_iload C at_361 (v := (1 : Int32)) rfl (pc' := 363) rfl ?_
                  refine g_icmp_n C at_363 (Jvm.Free.XT.ii_ne_f (by decide)) (pc' := 366) rfl ?_
                  refine g_iconst C at_366 (v := (1 : Int32)) rfl (pc' := 367) rfl ?_
                  refine g_goto C at_367 (pc' := 371) (by decide) (by decide) ?_
                  refine g_ret C (eW hW fun vm' hw' => trivial) (v := (.int (1 : Int32))) (ty := .boolean) rfl rfl (Or.inl ⟨rfl, Or.inr (Or.inl rfl), _, rfl⟩) at_371 (by decide) (by decide) ?_
                  rfl
                · exact absurd ⟨e_1036.symm, e_1042.symm⟩ e_1075
              · exact absurd ⟨e_1036, e_1042⟩ e_1069
            · show Go B n0 _ h_1021 26 332 332 #[.val (.int p0), .val (.int p1), .val (.int p2), .val (.int p3), .val (.int ca), .val (.int cb), .val (.int cc), .val (.int cd), .val (.int la), .val (.int lb), .val (.int lc), .val (.int lb), .val (.int da), .val (.int db), .val (.int dc), .val (.int dd), .val (.ref a_879), .val (.ref a_888), .val (.ref a_942), .val (.int (0 : Int32)), .unset] [(.int (0 : Int32))]
              refine g_if_y C at_332 (Jvm.Free.XT.i0_eq_t (by decide)) (pc' := 339) (by decide) (by decide) ?_
              refine g_iconst C at_339 (v := (0 : Int32)) rfl (pc' := 340) rfl ?_
              refine g_istore C at_340 (v := (0 : Int32)) (L' := #[.val (.int p0), .val (.int p1), .val (.int p2), .val (.int p3), .val (.int ca), .val (.int cb), .val (.int cc), .val (.int cd), .val (.int la), .val (.int lb), .val (.int lc), .val (.int lb), .val (.int da), .val (.int db), .val (.int dc), .val (.int dd), .val (.ref a_879), .val (.ref a_888), .val (.ref a_942), .val (.int (0 : Int32)), .val (.int (0 : Int32))]) rfl (pc' := 342) rfl ?_
              refine g_aload C at_342 (v := (.ref a_888)) rfl rfl (pc' := 344) rfl ?_
              refine g_aload C at_344 (v := (.ref a_942)) rfl rfl (pc' := 346) rfl ?_
              have f_1076 := (f_1016.keep K_1025 (allS ge_a_942 all0))
              have f_1077 := ((f_986.keep K_999).keep K_1025)
              have f_1078 := ((((f_934.ext E_944).keep K_972 nin0).keep K_999 nin0).keep K_1025 (ninS ne_948 nin0))
              have f_1079 := ((((f_935.ext E_944).keep K_972 nin0).keep K_999 nin0).keep K_1025 (ninS ne_948 nin0))
              have f_1080 := (f_1013.keep K_1025)
              have f_1081 := ((f_985.keep K_999).keep K_1025)
              have f_1082 := (((((((f_884.ext E_890).keep K_912 nin0).keep K_933 (ninS ne_893 nin0)).ext E_944).keep K_972 nin0).keep K_999 nin0).keep K_1025 (ninS ne_947 nin0))
              have f_1083 := (((((((f_885.ext E_890).keep K_912 nin0).keep K_933 (ninS ne_893 nin0)).ext E_944).keep K_972 nin0).keep K_999 nin0).keep K_1025 (ninS ne_947 nin0))
              have f_1084 := ((f_989.keep K_999 nin0).keep K_1025 (ninS ne_950 nin0))
              have f_1085 := (f_1019.keep K_1025)
              have f_1086 := ((f_974.keep K_999 nin0).keep K_1025 (ninS (Ne.symm ne_980) nin0))
              have f_1087 := ((f_975.keep K_999 nin0).keep K_1025 (ninS (Ne.symm ne_980) nin0))
              have f_1088 := (f_1014.keep K_1025 (ninS ne_1012 nin0))
              have f_1089 := ((f_987.keep K_999).keep K_1025)
              have f_1090 := (((((f_914.keep K_933 (ninS (Ne.symm ne_918) nin0)).ext E_944).keep K_972 nin0).keep K_999 nin0).keep K_1025 (ninS ne_949 nin0))
              have f_1091 := (((((f_915.keep K_933 (ninS (Ne.symm ne_918) nin0)).ext E_944).keep K_972 nin0).keep K_999 nin0).keep K_1025 (ninS ne_949 nin0))
              have f_1092 := ((f_990.keep K_999 nin0).keep K_1025 (ninS ne_951 nin0))
              have f_1093 := (E_1000.keep K_1025)
              have f_1094 := (f_1001.keep K_1025 (ninS (Ne.symm ne_1007) nin0))
              have f_1095 := (f_1002.keep K_1025 (ninS (Ne.symm ne_1007) nin0))
              have f_1096 := (f_1003.keep K_1025 (ninS ne_1015 nin0))
              refine g_virtual C (own_w hw 58 rfl) (own_w hw 59 rfl) (own_w hw 61 rfl) (own_w hw 60 rfl) (own_w hw 36 rfl) (own_w hw 62 rfl) (notFace_of_selects (args := #[]) (mvT C.2.2.2.2.1 (own_w hw 61 rfl))) (by decide) f_1077 (rm_mneqD l Z a0 hw n0 a_888 a_942 a_879 a_969 a_909 a_996 b_880 b_970 b_910 b_997 (own_str la ca cb) (own_str lc da db) (own_str lb cc cd) (own_str lb dc dd) h_1021 f_1030 cm f_1076 f_1077 f_1078 f_1079 f_1080 f_1026 f_1027 f_1081 f_1082 f_1083 f_1084 (own_sh _ _ _) f_1085 f_1086 f_1087 f_1088 (own_sh _ _ _) f_1089 f_1090 f_1091 f_1092 (own_sh _ _ _) f_1093 f_1094 f_1095 f_1096 (own_sh _ _ _) ne_977 ne_1006) (st := []) [(.ref a_942)] rfl rfl own_pd_4_equals rfl rfl (by decide) (W := 0) (Nat.le_of_eq rfl) (by decide) (by decide) (by decide) at_346 (pc' := 349) rfl ?_
              intro v_1099 h_1097 q_1098
              obtain ⟨r_1101, rfl, ⟨e_1102, rfl⟩ | ⟨e_1102, rfl⟩, rfl⟩ := q_1098
              · exact absurd (e_1102.2) e_1042
              · show Go B n0 _ h_1021 26 332 349 #[.val (.int p0), .val (.int p1), .val (.int p2), .val (.int p3), .val (.int ca), .val (.int cb), .val (.int cc), .val (.int cd), .val (.int la), .val (.int lb), .val (.int lc), .val (.int lb), .val (.int da), .val (.int db), .val (.int dc), .val (.int dd), .val (.ref a_879), .val (.ref a_888), .val (.ref a_942), .val (.int (0 : Int32)), .val (.int (0 : Int32))] [(.int (0 : Int32))]
                refine g_iload C at_349 (v := (0 : Int32)) rfl (pc' := 351) rfl ?_
                refine g_icmp_n C at_351 (Jvm.Free.XT.ii_ne_f (by decide)) (pc' := 354) rfl ?_
                refine g_aload C at_354 (v := (.ref a_942)) rfl rfl (pc' := 356) rfl ?_
                refine g_aload C at_356 (v := (.ref a_888)) rfl rfl (pc' := 358) rfl ?_
                refine g_virtual C (own_w hw 58 rfl) (own_w hw 59 rfl) (own_w hw 61 rfl) (own_w hw 60 rfl) (own_w hw 36 rfl) (own_w hw 62 rfl) (notFace_of_selects (args := #[]) (mvT C.2.2.2.2.1 (own_w hw 61 rfl))) (by decide) f_1080 (rm_mneqD l Z a0 hw n0 a_942 a_888 a_969 a_879 a_996 a_909 b_970 b_880 b_997 b_910 (own_str lc da db) (own_str la ca cb) (own_str lb dc dd) (own_str lb cc cd) h_1021 f_1030 cm f_1076 f_1080 f_1026 f_1027 f_1077 f_1078 f_1079 f_1085 f_1086 f_1087 f_1088 (own_sh _ _ _) f_1081 f_1082 f_1083 f_1084 (own_sh _ _ _) f_1093 f_1094 f_1095 f_1096 (own_sh _ _ _) f_1089 f_1090 f_1091 f_1092 (own_sh _ _ _) (Ne.symm ne_977) (Ne.symm ne_1006)) (st := []) [(.ref a_888)] rfl rfl own_pd_4_equals rfl rfl (by decide) (W := 0) (Nat.le_of_eq rfl) (by decide) (by decide) (by decide) at_358 (pc' := 361) rfl ?_
                intro v_1105 h_1103 q_1104
                obtain ⟨r_1107, rfl, ⟨e_1108, rfl⟩ | ⟨e_1108, rfl⟩, rfl⟩ := q_1104
                · exact absurd (e_1108.2.symm) e_1042
                · show Go B n0 _ h_1021 26 332 361 #[.val (.int p0), .val (.int p1), .val (.int p2), .val (.int p3), .val (.int ca), .val (.int cb), .val (.int cc), .val (.int cd), .val (.int la), .val (.int lb), .val (.int lc), .val (.int lb), .val (.int da), .val (.int db), .val (.int dc), .val (.int dd), .val (.ref a_879), .val (.ref a_888), .val (.ref a_942), .val (.int (0 : Int32)), .val (.int (0 : Int32))] [(.int (0 : Int32))]
                  refine g_iload C at_361 (v := (0 : Int32)) rfl (pc' := 363) rfl ?_
                  refine g_icmp_n C at_363 (Jvm.Free.XT.ii_ne_f (by decide)) (pc' := 366) rfl ?_
                  refine g_iconst C at_366 (v := (1 : Int32)) rfl (pc' := 367) rfl ?_
                  refine g_goto C at_367 (pc' := 371) (by decide) (by decide) ?_
                  refine g_ret C (eW hW fun vm' hw' => trivial) (v := (.int (1 : Int32))) (ty := .boolean) rfl rfl (Or.inl ⟨rfl, Or.inr (Or.inl rfl), _, rfl⟩) at_371 (by decide) (by decide) ?_
                  rfl
          · show Go B n0 _ h_1021 26 332 314 #[.val (.int p0), .val (.int p1), .val (.int p2), .val (.int p3), .val (.int ca), .val (.int cb), .val (.int cc), .val (.int cd), .val (.int la), .val (.int lb), .val (.int lc), .val (.int lb), .val (.int da), .val (.int db), .val (.int dc), .val (.int dd), .val (.ref a_879), .val (.ref a_888), .val (.ref a_942), .val (.int (0 : Int32)), .unset] [(.int (0 : Int32))]
            refine g_if_y C at_314 (Jvm.Free.XT.i0_eq_t (by decide)) (pc' := 339) (by decide) (by decide) ?_
            refine g_iconst C at_339 (v := (0 : Int32)) rfl (pc' := 340) rfl ?_
            refine g_istore C at_340 (v := (0 : Int32)) (L' := #[.val (.int p0), .val (.int p1), .val (.int p2), .val (.int p3), .val (.int ca), .val (.int cb), .val (.int cc), .val (.int cd), .val (.int la), .val (.int lb), .val (.int lc), .val (.int lb), .val (.int da), .val (.int db), .val (.int dc), .val (.int dd), .val (.ref a_879), .val (.ref a_888), .val (.ref a_942), .val (.int (0 : Int32)), .val (.int (0 : Int32))]) rfl (pc' := 342) rfl ?_
            refine g_aload C at_342 (v := (.ref a_888)) rfl rfl (pc' := 344) rfl ?_
            refine g_aload C at_344 (v := (.ref a_942)) rfl rfl (pc' := 346) rfl ?_
            have f_1109 := (f_1016.keep K_1025 (allS ge_a_942 all0))
            have f_1110 := ((f_986.keep K_999).keep K_1025)
            have f_1111 := ((((f_934.ext E_944).keep K_972 nin0).keep K_999 nin0).keep K_1025 (ninS ne_948 nin0))
            have f_1112 := ((((f_935.ext E_944).keep K_972 nin0).keep K_999 nin0).keep K_1025 (ninS ne_948 nin0))
            have f_1113 := (f_1013.keep K_1025)
            have f_1114 := ((f_985.keep K_999).keep K_1025)
            have f_1115 := (((((((f_884.ext E_890).keep K_912 nin0).keep K_933 (ninS ne_893 nin0)).ext E_944).keep K_972 nin0).keep K_999 nin0).keep K_1025 (ninS ne_947 nin0))
            have f_1116 := (((((((f_885.ext E_890).keep K_912 nin0).keep K_933 (ninS ne_893 nin0)).ext E_944).keep K_972 nin0).keep K_999 nin0).keep K_1025 (ninS ne_947 nin0))
            have f_1117 := ((f_989.keep K_999 nin0).keep K_1025 (ninS ne_950 nin0))
            have f_1118 := (f_1019.keep K_1025)
            have f_1119 := ((f_974.keep K_999 nin0).keep K_1025 (ninS (Ne.symm ne_980) nin0))
            have f_1120 := ((f_975.keep K_999 nin0).keep K_1025 (ninS (Ne.symm ne_980) nin0))
            have f_1121 := (f_1014.keep K_1025 (ninS ne_1012 nin0))
            have f_1122 := ((f_987.keep K_999).keep K_1025)
            have f_1123 := (((((f_914.keep K_933 (ninS (Ne.symm ne_918) nin0)).ext E_944).keep K_972 nin0).keep K_999 nin0).keep K_1025 (ninS ne_949 nin0))
            have f_1124 := (((((f_915.keep K_933 (ninS (Ne.symm ne_918) nin0)).ext E_944).keep K_972 nin0).keep K_999 nin0).keep K_1025 (ninS ne_949 nin0))
            have f_1125 := ((f_990.keep K_999 nin0).keep K_1025 (ninS ne_951 nin0))
            have f_1126 := (E_1000.keep K_1025)
            have f_1127 := (f_1001.keep K_1025 (ninS (Ne.symm ne_1007) nin0))
            have f_1128 := (f_1002.keep K_1025 (ninS (Ne.symm ne_1007) nin0))
            have f_1129 := (f_1003.keep K_1025 (ninS ne_1015 nin0))
            refine g_virtual C (own_w hw 58 rfl) (own_w hw 59 rfl) (own_w hw 61 rfl) (own_w hw 60 rfl) (own_w hw 36 rfl) (own_w hw 62 rfl) (notFace_of_selects (args := #[]) (mvT C.2.2.2.2.1 (own_w hw 61 rfl))) (by decide) f_1110 (rm_mneqD l Z a0 hw n0 a_888 a_942 a_879 a_969 a_909 a_996 b_880 b_970 b_910 b_997 (own_str la ca cb) (own_str lc da db) (own_str lb cc cd) (own_str lb dc dd) h_1021 f_1030 cm f_1109 f_1110 f_1111 f_1112 f_1113 f_1026 f_1027 f_1114 f_1115 f_1116 f_1117 (own_sh _ _ _) f_1118 f_1119 f_1120 f_1121 (own_sh _ _ _) f_1122 f_1123 f_1124 f_1125 (own_sh _ _ _) f_1126 f_1127 f_1128 f_1129 (own_sh _ _ _) ne_977 ne_1006) (st := []) [(.ref a_942)] rfl rfl own_pd_4_equals rfl rfl (by decide) (W := 0) (Nat.le_of_eq rfl) (by decide) (by decide) (by decide) at_346 (pc' := 349) rfl ?_
            intro v_1132 h_1130 q_1131
            obtain ⟨r_1134, rfl, ⟨e_1135, rfl⟩ | ⟨e_1135, rfl⟩, rfl⟩ := q_1131
            · exact absurd (e_1135.1) e_1036
            · show Go B n0 _ h_1021 26 332 349 #[.val (.int p0), .val (.int p1), .val (.int p2), .val (.int p3), .val (.int ca), .val (.int cb), .val (.int cc), .val (.int cd), .val (.int la), .val (.int lb), .val (.int lc), .val (.int lb), .val (.int da), .val (.int db), .val (.int dc), .val (.int dd), .val (.ref a_879), .val (.ref a_888), .val (.ref a_942), .val (.int (0 : Int32)), .val (.int (0 : Int32))] [(.int (0 : Int32))]
              refine g_iload C at_349 (v := (0 : Int32)) rfl (pc' := 351) rfl ?_
              refine g_icmp_n C at_351 (Jvm.Free.XT.ii_ne_f (by decide)) (pc' := 354) rfl ?_
              refine g_aload C at_354 (v := (.ref a_942)) rfl rfl (pc' := 356) rfl ?_
              refine g_aload C at_356 (v := (.ref a_888)) rfl rfl (pc' := 358) rfl ?_
              refine g_virtual C (own_w hw 58 rfl) (own_w hw 59 rfl) (own_w hw 61 rfl) (own_w hw 60 rfl) (own_w hw 36 rfl) (own_w hw 62 rfl) (notFace_of_selects (args := #[]) (mvT C.2.2.2.2.1 (own_w hw 61 rfl))) (by decide) f_1113 (rm_mneqD l Z a0 hw n0 a_942 a_888 a_969 a_879 a_996 a_909 b_970 b_880 b_997 b_910 (own_str lc da db) (own_str la ca cb) (own_str lb dc dd) (own_str lb cc cd) h_1021 f_1030 cm f_1109 f_1113 f_1026 f_1027 f_1110 f_1111 f_1112 f_1118 f_1119 f_1120 f_1121 (own_sh _ _ _) f_1114 f_1115 f_1116 f_1117 (own_sh _ _ _) f_1126 f_1127 f_1128 f_1129 (own_sh _ _ _) f_1122 f_1123 f_1124 f_1125 (own_sh _ _ _) (Ne.symm ne_977) (Ne.symm ne_1006)) (st := []) [(.ref a_888)] rfl rfl own_pd_4_equals rfl rfl (by decide) (W := 0) (Nat.le_of_eq rfl) (by decide) (by decide) (by decide) at_358 (pc' := 361) rfl ?_
              intro v_1138 h_1136 q_1137
              obtain ⟨r_1140, rfl, ⟨e_1141, rfl⟩ | ⟨e_1141, rfl⟩, rfl⟩ := q_1137
              · exact absurd (e_1141.1.symm) e_1036
              · show Go B n0 _ h_1021 26 332 361 #[.val (.int p0), .val (.int p1), .val (.int p2), .val (.int p3), .val (.int ca), .val (.int cb), .val (.int cc), .val (.int cd), .val (.int la), .val (.int lb), .val (.int lc), .val (.int lb), .val (.int da), .val (.int db), .val (.int dc), .val (.int dd), .val (.ref a_879), .val (.ref a_888), .val (.ref a_942), .val (.int (0 : Int32)), .val (.int (0 : Int32))] [(.int (0 : Int32))]
                refine g_iload C at_361 (v := (0 : Int32)) rfl (pc' := 363) rfl ?_
                refine g_icmp_n C at_363 (Jvm.Free.XT.ii_ne_f (by decide)) (pc' := 366) rfl ?_
                refine g_iconst C at_366 (v := (1 : Int32)) rfl (pc' := 367) rfl ?_
                refine g_goto C at_367 (pc' := 371) (by decide) (by decide) ?_
                refine g_ret C (eW hW fun vm' hw' => trivial) (v := (.int (1 : Int32))) (ty := .boolean) rfl rfl (Or.inl ⟨rfl, Or.inr (Or.inl rfl), _, rfl⟩) at_371 (by decide) (by decide) ?_
                rfl
        · subst i_1028e
          show Go B n0 _ h_1021 26 332 240 #[.val (.int p0), .val (.int p1), .val (.int p2), .val (.int p3), .val (.int ca), .val (.int cb), .val (.int cc), .val (.int cd), .val (.int la), .val (.int lb), .val (.int lc), .val (.int lb), .val (.int da), .val (.int db), .val (.int dc), .val (.int dd), .val (.ref a_879), .val (.ref a_888), .val (.ref a_942), .unset, .unset] [(.int (1 : Int32))]
          refine g_istore C at_240 (v := (1 : Int32)) (L' := #[.val (.int p0), .val (.int p1), .val (.int p2), .val (.int p3), .val (.int ca), .val (.int cb), .val (.int cc), .val (.int cd), .val (.int la), .val (.int lb), .val (.int lc), .val (.int lb), .val (.int da), .val (.int db), .val (.int dc), .val (.int dd), .val (.ref a_879), .val (.ref a_888), .val (.ref a_942), .val (.int (1 : Int32)), .unset]) rfl (pc' := 242) rfl ?_
          refine g_iload C at_242 (v := (1 : Int32)) rfl (pc' := 244) rfl ?_
          refine g_iconst C at_244 (v := (1 : Int32)) rfl (pc' := 245) rfl ?_
          refine g_icmp_n C at_245 (Jvm.Free.XT.ii_ne_f (by decide)) (pc' := 248) rfl ?_
          refine g_aload C at_248 (v := (.ref a_888)) rfl rfl (pc' := 250) rfl ?_
          refine g_aconst_null C at_250 (pc' := 251) rfl ?_
          have f_1142 := (Nat.le_trans f_1020 K_1025.1)
          have f_1143 := ((f_986.keep K_999).keep K_1025)
          refine g_virtual C (own_w hw 58 rfl) (own_w hw 59 rfl) (own_w hw 61 rfl) (own_w hw 60 rfl) (own_w hw 36 rfl) (own_w hw 62 rfl) (notFace_of_selects (args := #[]) (mvT C.2.2.2.2.1 (own_w hw 61 rfl))) (by decide) f_1143 (rm_mneqN l Z a0 hw n0 a_888 h_1021 f_1142 ) (st := []) [.null] rfl rfl own_pd_4_equals rfl rfl (by decide) (W := 0) (Nat.le_of_eq rfl) (by decide) (by decide) (by decide) at_251 (pc' := 254) rfl ?_
          intro v_1146 h_1144 q_1145
          obtain ⟨rfl, rfl⟩ := q_1145
          show Go B n0 _ h_1021 26 332 254 #[.val (.int p0), .val (.int p1), .val (.int p2), .val (.int p3), .val (.int ca), .val (.int cb), .val (.int cc), .val (.int cd), .val (.int la), .val (.int lb), .val (.int lc), .val (.int lb), .val (.int da), .val (.int db), .val (.int dc), .val (.int dd), .val (.ref a_879), .val (.ref a_888), .val (.ref a_942), .val (.int (1 : Int32)), .unset] [(.int (0 : Int32))]
          refine g_if_n C at_254 (Jvm.Free.XT.i0_ne_f (by decide)) (pc' := 257) rfl ?_
          refine g_iconst C at_257 (v := (1 : Int32)) rfl (pc' := 258) rfl ?_
          refine g_goto C at_258 (pc' := 262) (by decide) (by decide) ?_
          refine g_ret C (eW hW fun vm' hw' => trivial) (v := (.int (1 : Int32))) (ty := .boolean) rfl rfl (Or.inl ⟨rfl, Or.inr (Or.inl rfl), _, rfl⟩) at_262 (by decide) (by decide) ?_
          rfl
        · subst i_1028e
          show Go B n0 _ h_1021 26 332 240 #[.val (.int p0), .val (.int p1), .val (.int p2), .val (.int p3), .val (.int ca), .val (.int cb), .val (.int cc), .val (.int cd), .val (.int la), .val (.int lb), .val (.int lc), .val (.int lb), .val (.int da), .val (.int db), .val (.int dc), .val (.int dd), .val (.ref a_879), .val (.ref a_888), .val (.ref a_942), .unset, .unset] [(.int (2 : Int32))]
          refine g_istore C at_240 (v := (2 : Int32)) (L' := #[.val (.int p0), .val (.int p1), .val (.int p2), .val (.int p3), .val (.int ca), .val (.int cb), .val (.int cc), .val (.int cd), .val (.int la), .val (.int lb), .val (.int lc), .val (.int lb), .val (.int da), .val (.int db), .val (.int dc), .val (.int dd), .val (.ref a_879), .val (.ref a_888), .val (.ref a_942), .val (.int (2 : Int32)), .unset]) rfl (pc' := 242) rfl ?_
          refine g_iload C at_242 (v := (2 : Int32)) rfl (pc' := 244) rfl ?_
          refine g_iconst C at_244 (v := (1 : Int32)) rfl (pc' := 245) rfl ?_
          refine g_icmp_y C at_245 (Jvm.Free.XT.ii_ne_t (by decide)) (pc' := 263) (by decide) (by decide) ?_
          refine g_iload C at_263 (v := (2 : Int32)) rfl (pc' := 265) rfl ?_
          refine g_iconst C at_265 (v := (2 : Int32)) rfl (pc' := 266) rfl ?_
          refine g_icmp_n C at_266 (Jvm.Free.XT.ii_ne_f (by decide)) (pc' := 269) rfl ?_
          refine g_aload C at_269 (v := (.ref a_888)) rfl rfl (pc' := 271) rfl ?_
          refine g_aload C at_271 (v := (.ref a_879)) rfl rfl (pc' := 273) rfl ?_
          have f_1148 := ((f_985.keep K_999).keep K_1025)
          have f_1149 := (Nat.le_trans f_1020 K_1025.1)
          have f_1150 := ((f_986.keep K_999).keep K_1025)
          refine g_virtual C (own_w hw 58 rfl) (own_w hw 59 rfl) (own_w hw 61 rfl) (own_w hw 60 rfl) (own_w hw 36 rfl) (own_w hw 62 rfl) (notFace_of_selects (args := #[]) (mvT C.2.2.2.2.1 (own_w hw 61 rfl))) (by decide) f_1150 (rm_mneqT l Z a0 hw n0 a_888 a_879 h_1021 f_1149 f_1148) (st := []) [(.ref a_879)] rfl rfl own_pd_4_equals rfl rfl (by decide) (W := 0) (Nat.le_of_eq rfl) (by decide) (by decide) (by decide) at_273 (pc' := 276) rfl ?_
          intro v_1153 h_1151 q_1152
          obtain ⟨rfl, rfl⟩ := q_1152
          show Go B n0 _ h_1021 26 332 276 #[.val (.int p0), .val (.int p1), .val (.int p2), .val (.int p3), .val (.int ca), .val (.int cb), .val (.int cc), .val (.int cd), .val (.int la), .val (.int lb), .val (.int lc), .val (.int lb), .val (.int da), .val (.int db), .val (.int dc), .val (.int dd), .val (.ref a_879), .val (.ref a_888), .val (.ref a_942), .val (.int (2 : Int32)), .unset] [(.int (0 : Int32))]
          refine g_if_n C at_276 (Jvm.Free.XT.i0_ne_f (by decide)) (pc' := 279) rfl ?_
          refine g_iconst C at_279 (v := (1 : Int32)) rfl (pc' := 280) rfl ?_
          refine g_goto C at_280 (pc' := 284) (by decide) (by decide) ?_
          refine g_ret C (eW hW fun vm' hw' => trivial) (v := (.int (1 : Int32))) (ty := .boolean) rfl rfl (Or.inl ⟨rfl, Or.inr (Or.inl rfl), _, rfl⟩) at_284 (by decide) (by decide) ?_
          rfl
        · subst i_1028e
          show Go B n0 _ h_1021 26 332 240 #[.val (.int p0), .val (.int p1), .val (.int p2), .val (.int p3), .val (.int ca), .val (.int cb), .val (.int cc), .val (.int cd), .val (.int la), .val (.int lb), .val (.int lc), .val (.int lb), .val (.int da), .val (.int db), .val (.int dc), .val (.int dd), .val (.ref a_879), .val (.ref a_888), .val (.ref a_942), .unset, .unset] [(.int (3 : Int32))]
          refine g_istore C at_240 (v := (3 : Int32)) (L' := #[.val (.int p0), .val (.int p1), .val (.int p2), .val (.int p3), .val (.int ca), .val (.int cb), .val (.int cc), .val (.int cd), .val (.int la), .val (.int lb), .val (.int lc), .val (.int lb), .val (.int da), .val (.int db), .val (.int dc), .val (.int dd), .val (.ref a_879), .val (.ref a_888), .val (.ref a_942), .val (.int (3 : Int32)), .unset]) rfl (pc' := 242) rfl ?_
          refine g_iload C at_242 (v := (3 : Int32)) rfl (pc' := 244) rfl ?_
          refine g_iconst C at_244 (v := (1 : Int32)) rfl (pc' := 245) rfl ?_
          refine g_icmp_y C at_245 (Jvm.Free.XT.ii_ne_t (by decide)) (pc' := 263) (by decide) (by decide) ?_
          refine g_iload C at_263 (v := (3 : Int32)) rfl (pc' := 265) rfl ?_
          refine g_iconst C at_265 (v := (2 : Int32)) rfl (pc' := 266) rfl ?_
          refine g_icmp_y C at_266 (Jvm.Free.XT.ii_ne_t (by decide)) (pc' := 285) (by decide) (by decide) ?_
          refine g_iload C at_285 (v := (3 : Int32)) rfl (pc' := 287) rfl ?_
          refine g_iconst C at_287 (v := (3 : Int32)) rfl (pc' := 288) rfl ?_
          refine g_icmp_n C at_288 (Jvm.Free.XT.ii_ne_f (by decide)) (pc' := 291) rfl ?_
          refine g_aload C at_291 (v := (.ref a_888)) rfl rfl (pc' := 293) rfl ?_
          refine g_aload C at_293 (v := (.ref a_888)) rfl rfl (pc' := 295) rfl ?_
          have f_1155 := ((f_986.keep K_999).keep K_1025)
          have f_1156 := ((((f_934.ext E_944).keep K_972 nin0).keep K_999 nin0).keep K_1025 (ninS ne_948 nin0))
          have f_1157 := ((((f_935.ext E_944).keep K_972 nin0).keep K_999 nin0).keep K_1025 (ninS ne_948 nin0))
          have f_1158 := ((f_985.keep K_999).keep K_1025)
          have f_1159 := ((f_987.keep K_999).keep K_1025)
          have f_1160 := (Nat.le_trans f_1020 K_1025.1)
          refine g_virtual C (own_w hw 58 rfl) (own_w hw 59 rfl) (own_w hw 61 rfl) (own_w hw 60 rfl) (own_w hw 36 rfl) (own_w hw 62 rfl) (notFace_of_selects (args := #[]) (mvT C.2.2.2.2.1 (own_w hw 61 rfl))) (by decide) f_1155 (rm_mneqS l Z a0 hw n0 a_888 a_879 a_909 h_1021 f_1160 f_1155 f_1156 f_1157 f_1158 f_1159) (st := []) [(.ref a_888)] rfl rfl own_pd_4_equals rfl rfl (by decide) (W := 0) (Nat.le_of_eq rfl) (by decide) (by decide) (by decide) at_295 (pc' := 298) rfl ?_
          intro v_1163 h_1161 q_1162
          obtain ⟨rfl, rfl⟩ := q_1162
          show Go B n0 _ h_1021 26 332 298 #[.val (.int p0), .val (.int p1), .val (.int p2), .val (.int p3), .val (.int ca), .val (.int cb), .val (.int cc), .val (.int cd), .val (.int la), .val (.int lb), .val (.int lc), .val (.int lb), .val (.int da), .val (.int db), .val (.int dc), .val (.int dd), .val (.ref a_879), .val (.ref a_888), .val (.ref a_942), .val (.int (3 : Int32)), .unset] [(.int (1 : Int32))]
          refine g_ret C (eW hW fun vm' hw' => trivial) (v := (.int (1 : Int32))) (ty := .boolean) rfl rfl (Or.inl ⟨rfl, Or.inr (Or.inl rfl), _, rfl⟩) at_298 (by decide) (by decide) ?_
          rfl
  · refine g_if_n C at_75 (Jvm.Free.XT.i0_eq_f hb_1) (pc' := 78) rfl ?_
    refine g_iload C at_78 (v := la) rfl (pc' := 80) rfl ?_
    refine g_istore C at_80 (v := la) (L' := #[.val (.int p0), .val (.int p1), .val (.int p2), .val (.int p3), .val (.int ca), .val (.int cb), .val (.int cc), .val (.int cd), .val (.int la), .val (.int lb), .val (.int la), .val (.int ld), .unset, .unset, .unset, .unset, .unset, .unset, .unset, .unset, .unset]) rfl (pc' := 82) rfl ?_
    refine g_iload_n C at_82 (v := p3) rfl (pc' := 83) rfl ?_
    refine g_iconst C at_83 (v := (2 : Int32)) rfl (pc' := 84) rfl ?_
    refine g_iand C (x := p3) (y := (2 : Int32)) at_84  (pc' := 85) rfl ?_
    by_cases hb_1165 : (p3 &&& (2 : Int32)) = (0 : Int32)
    · refine g_if_y C at_85 (Jvm.Free.XT.i0_eq_t hb_1165) (pc' := 92) (by decide) (by decide) ?_
      refine g_iload_n C at_92 (v := p3) rfl (pc' := 93) rfl ?_
      refine g_iconst C at_93 (v := (4 : Int32)) rfl (pc' := 94) rfl ?_
      refine g_iand C (x := p3) (y := (4 : Int32)) at_94  (pc' := 95) rfl ?_
      by_cases hb_1166 : (p3 &&& (4 : Int32)) = (0 : Int32)
      · refine g_if_y C at_95 (Jvm.Free.XT.i0_eq_t hb_1166) (pc' := 139) (by decide) (by decide) ?_
        refine g_iload_n C at_139 (v := p1) rfl (pc' := 140) rfl ?_
        refine g_sipush C at_140 (v := (255 : Int32)) rfl (pc' := 143) rfl ?_
        refine g_iand C (x := p1) (y := (255 : Int32)) at_143  (pc' := 144) rfl ?_
        obtain ⟨da, eda⟩ : ∃ z : Int32, z = (p1 &&& (255 : Int32)) := ⟨_, rfl⟩
        rw [← eda]
        have kda : Ch da := by rw [eda]; exact own_chM _
        refine g_istore C at_144 (v := da) (L' := #[.val (.int p0), .val (.int p1), .val (.int p2), .val (.int p3), .val (.int ca), .val (.int cb), .val (.int cc), .val (.int cd), .val (.int la), .val (.int lb), .val (.int la), .val (.int ld), .val (.int da), .unset, .unset, .unset, .unset, .unset, .unset, .unset, .unset]) rfl (pc' := 146) rfl ?_
        refine g_iload_n C at_146 (v := p1) rfl (pc' := 147) rfl ?_
        refine g_bipush C at_147 (v := (8 : Int32)) rfl (pc' := 149) rfl ?_
        refine g_iushr C (x := p1) (y := (8 : Int32)) at_149  (pc' := 150) rfl ?_
        refine g_sipush C at_150 (v := (255 : Int32)) rfl (pc' := 153) rfl ?_
        refine g_iand C (x := (Jvm.Free.XT.ushr p1 (8 : Int32))) (y := (255 : Int32)) at_153  (pc' := 154) rfl ?_
        obtain ⟨db, edb⟩ : ∃ z : Int32, z = ((Jvm.Free.XT.ushr p1 (8 : Int32)) &&& (255 : Int32)) := ⟨_, rfl⟩
        rw [← edb]
        have kdb : Ch db := by rw [edb]; exact own_chM _
        refine g_istore C at_154 (v := db) (L' := #[.val (.int p0), .val (.int p1), .val (.int p2), .val (.int p3), .val (.int ca), .val (.int cb), .val (.int cc), .val (.int cd), .val (.int la), .val (.int lb), .val (.int la), .val (.int ld), .val (.int da), .val (.int db), .unset, .unset, .unset, .unset, .unset, .unset, .unset]) rfl (pc' := 156) rfl ?_
        refine g_iload_n C at_156 (v := p1) rfl (pc' := 157) rfl ?_
        refine g_bipush C at_157 (v := (16 : Int32)) rfl (pc' := 159) rfl ?_
        refine g_iushr C (x := p1) (y := (16 : Int32)) at_159  (pc' := 160) rfl ?_
        refine g_sipush C at_160 (v := (255 : Int32)) rfl (pc' := 163) rfl ?_
        refine g_iand C (x := (Jvm.Free.XT.ushr p1 (16 : Int32))) (y := (255 : Int32)) at_163  (pc' := 164) rfl ?_
        obtain ⟨dc, edc⟩ : ∃ z : Int32, z = ((Jvm.Free.XT.ushr p1 (16 : Int32)) &&& (255 : Int32)) := ⟨_, rfl⟩
        rw [← edc]
        have kdc : Ch dc := by rw [edc]; exact own_chM _
        refine g_istore C at_164 (v := dc) (L' := #[.val (.int p0), .val (.int p1), .val (.int p2), .val (.int p3), .val (.int ca), .val (.int cb), .val (.int cc), .val (.int cd), .val (.int la), .val (.int lb), .val (.int la), .val (.int ld), .val (.int da), .val (.int db), .val (.int dc), .unset, .unset, .unset, .unset, .unset, .unset]) rfl (pc' := 166) rfl ?_
        refine g_iload_n C at_166 (v := p1) rfl (pc' := 167) rfl ?_
        refine g_bipush C at_167 (v := (24 : Int32)) rfl (pc' := 169) rfl ?_
        refine g_iushr C (x := p1) (y := (24 : Int32)) at_169  (pc' := 170) rfl ?_
        refine g_sipush C at_170 (v := (255 : Int32)) rfl (pc' := 173) rfl ?_
        refine g_iand C (x := (Jvm.Free.XT.ushr p1 (24 : Int32))) (y := (255 : Int32)) at_173  (pc' := 174) rfl ?_
        obtain ⟨dd, edd⟩ : ∃ z : Int32, z = ((Jvm.Free.XT.ushr p1 (24 : Int32)) &&& (255 : Int32)) := ⟨_, rfl⟩
        rw [← edd]
        have kdd : Ch dd := by rw [edd]; exact own_chM _
        refine g_istore C at_174 (v := dd) (L' := #[.val (.int p0), .val (.int p1), .val (.int p2), .val (.int p3), .val (.int ca), .val (.int cb), .val (.int cc), .val (.int cd), .val (.int la), .val (.int lb), .val (.int la), .val (.int ld), .val (.int da), .val (.int db), .val (.int dc), .val (.int dd), .unset, .unset, .unset, .unset, .unset]) rfl (pc' := 176) rfl ?_
        refine g_iload C at_176 (v := la) rfl (pc' := 178) rfl ?_
        refine g_iload C at_178 (v := ca) rfl (pc' := 180) rfl ?_
        refine g_iload C at_180 (v := cb) rfl (pc' := 182) rfl ?_
        refine g_staticV C hW (own_w hw 0 rfl) (own_w hw 1 rfl) (own_w hw 2 rfl) (own_w hw 3 rfl) (by decide) (rm_str l Z a0 hw n0 la ca cb h0 Z0 cm O ch0 ch1 ch2 cw kca kcb) (fun vm' hw' => InvK.warm I0 hw') (st := []) [(.int la), (.int ca), (.int cb)] rfl rfl own_pd_1_str rfl rfl (by decide) (W := 0) (Nat.le_of_eq rfl) (by decide) (by decide) (by decide) at_182 (pc' := 185) rfl ?_
        intro B C hW v_1169 h_1167 q_1168 I_1170
        obtain ⟨a_1171, b_1172, rfl, le_1173, K_1174, E_1175, f_1176, f_1177, f_1178⟩ := q_1168
        have ge_a_1171 : n0 ≤ a_1171 := Nat.le_trans Z0 le_1173
        have gs_a_1171 : h0.size ≤ a_1171 := Nat.le_trans (Nat.le_refl h0.size) le_1173
        show Go B n0 _ h_1167 4 8 185 #[.val (.int p0), .val (.int p1), .val (.int p2), .val (.int p3), .val (.int ca), .val (.int cb), .val (.int cc), .val (.int cd), .val (.int la), .val (.int lb), .val (.int la), .val (.int ld), .val (.int da), .val (.int db), .val (.int dc), .val (.int dd), .unset, .unset, .unset, .unset, .unset] [(.ref a_1171)]
        refine g_astore C at_185 (v := (.ref a_1171)) (L' := #[.val (.int p0), .val (.int p1), .val (.int p2), .val (.int p3), .val (.int ca), .val (.int cb), .val (.int cc), .val (.int cd), .val (.int la), .val (.int lb), .val (.int la), .val (.int ld), .val (.int da), .val (.int db), .val (.int dc), .val (.int dd), .val (.ref a_1171), .unset, .unset, .unset, .unset]) rfl rfl (pc' := 187) rfl ?_
        refine g_new C (own_w hw 34 rfl) (own_w hw 35 rfl) (own_w hw 36 rfl) (by decide) (by decide) at_187 (pc' := 190) rfl ?_
        intro h_1179 a_1180 g_1181 E_1182 A_1183 D_1184
        have ne_1185 : a_1171 ≠ a_1180 := ne_new E_1175.lt g_1181
        have ne_1186 : b_1172 ≠ a_1180 := ne_new f_1178.lt g_1181
        have f_1187 := (Nat.le_trans Z0 K_1174.1)
        have ge_a_1180 : n0 ≤ a_1180 := Nat.le_trans f_1187 (Nat.le_of_eq g_1181.symm)
        have f_1188 := (Nat.le_trans (Nat.le_refl h0.size) K_1174.1)
        have gs_a_1180 : h0.size ≤ a_1180 := Nat.le_trans f_1188 (Nat.le_of_eq g_1181.symm)
        have f_1189 : Fld Z h_1179 a_1180 "com/example/chiton/chiton/model/MethodName" "className" "Ljava/lang/String;" .null := D_1184 (Or.inr (own_w hw 51 rfl)) (ty := (.object "java/lang/String")) (by decide)
        have f_1190 : Fld Z h_1179 a_1180 "com/example/chiton/chiton/model/MethodName" "methodName" "Ljava/lang/String;" .null := D_1184 (Or.inr (own_w hw 54 rfl)) (ty := (.object "java/lang/String")) (by decide)
        show Go B n0 _ h_1179 5 10 190 #[.val (.int p0), .val (.int p1), .val (.int p2), .val (.int p3), .val (.int ca), .val (.int cb), .val (.int cc), .val (.int cd), .val (.int la), .val (.int lb), .val (.int la), .val (.int ld), .val (.int da), .val (.int db), .val (.int dc), .val (.int dd), .val (.ref a_1171), .unset, .unset, .unset, .unset] [(.ref a_1180)]
        refine g_dup C at_190 rfl (pc' := 191) rfl ?_
        refine g_aload C at_191 (v := (.ref a_1171)) rfl rfl (pc' := 193) rfl ?_
        refine g_iload C at_193 (v := lb) rfl (pc' := 195) rfl ?_
        refine g_iload C at_195 (v := cc) rfl (pc' := 197) rfl ?_
        refine g_iload C at_197 (v := cd) rfl (pc' := 199) rfl ?_
        have f_1191 := ((O.keep K_1174 all0).ext E_1182)
        have f_1192 := (Nat.le_trans f_1187 E_1182.1)
        have f_1193 := (I_1170.ext E_1182)
        have f_1194 := (E_1175.ext E_1182)
        have f_1195 := (f_1178.ext E_1182)
        have f_1196 := (Nat.le_trans f_1188 E_1182.1)
        refine g_staticV C hW (own_w hw 0 rfl) (own_w hw 1 rfl) (own_w hw 2 rfl) (own_w hw 3 rfl) (by decide) (rm_str l Z a0 hw n0 lb cc cd h_1179 f_1192 cm f_1191 ch0 ch1 ch2 cw kcc kcd) (fun vm' hw' => InvK.warm f_1193 hw') (st := [(.ref a_1171), (.ref a_1180), (.ref a_1180)]) [(.int lb), (.int cc), (.int cd)] rfl rfl own_pd_1_str rfl rfl (by decide) (W := 3) (Nat.le_of_eq rfl) (by decide) (by decide) (by decide) at_199 (pc' := 202) rfl ?_
        intro B C hW v_1199 h_1197 q_1198 I_1200
        obtain ⟨a_1201, b_1202, rfl, le_1203, K_1204, E_1205, f_1206, f_1207, f_1208⟩ := q_1198
        have ne_1209 : a_1171 ≠ a_1201 := ne_ge f_1194.lt le_1203
        have ne_1210 : a_1180 ≠ a_1201 := ne_ge A_1183.lt le_1203
        have ne_1211 : b_1172 ≠ a_1201 := ne_ge f_1195.lt le_1203
        have ge_a_1201 : n0 ≤ a_1201 := Nat.le_trans f_1192 le_1203
        have gs_a_1201 : h0.size ≤ a_1201 := Nat.le_trans f_1196 le_1203
        show Go B n0 _ h_1197 9 18 202 #[.val (.int p0), .val (.int p1), .val (.int p2), .val (.int p3), .val (.int ca), .val (.int cb), .val (.int cc), .val (.int cd), .val (.int la), .val (.int lb), .val (.int la), .val (.int ld), .val (.int da), .val (.int db), .val (.int dc), .val (.int dd), .val (.ref a_1171), .unset, .unset, .unset, .unset] [(.ref a_1201), (.ref a_1171), (.ref a_1180), (.ref a_1180)]
        have f_1213 := (A_1183.keep K_1204)
        have f_1214 := (f_1195.keep K_1204 nin0)
        have ne_1212 : b_1172 ≠ a_1180 := own_neA f_1213 f_1214 (own_w hw 35 rfl)
        have ne_1215 : b_1202 ≠ a_1180 := own_neA f_1213 f_1208 (own_w hw 35 rfl)
        have f_1216 := (f_1191.keep K_1204 all0)
        have f_1217 := (f_1189.keep K_1204 nin0)
        have f_1218 := (f_1190.keep K_1204 nin0)
        have f_1219 := (f_1194.keep K_1204)
        have f_1220 := (Nat.le_trans f_1192 K_1204.1)
        refine g_specialV C hW (a := a_1180) rfl (own_w hw 40 rfl) (own_w hw 41 rfl) (own_w hw 36 rfl) (own_w hw 42 rfl) (by decide) (rm_mninit l Z a0 hw n0 a_1180 a_1171 a_1201 h_1197 f_1220 cm f_1216 ch0 ch1 ch2 cw f_1213 f_1217 f_1218 ge_a_1180 f_1219 E_1205) (fun vm' hw' => InvK.warm I_1200 hw') (st := [(.ref a_1180)]) [(.ref a_1171), (.ref a_1201)] rfl rfl own_pd_6_init rfl rfl (by decide) (W := 1) (Nat.le_of_eq rfl) (by decide) (by decide) (by decide) at_202 (pc' := 205) rfl ?_
        intro B C hW v_1223 h_1221 q_1222 I_1224
        obtain ⟨rfl, K_1225, f_1226, f_1227⟩ := q_1222
        show Go B n0 _ h_1221 13 166 205 #[.val (.int p0), .val (.int p1), .val (.int p2), .val (.int p3), .val (.int ca), .val (.int cb), .val (.int cc), .val (.int cd), .val (.int la), .val (.int lb), .val (.int la), .val (.int ld), .val (.int da), .val (.int db), .val (.int dc), .val (.int dd), .val (.ref a_1171), .unset, .unset, .unset, .unset] [(.ref a_1180)]
        refine g_astore C at_205 (v := (.ref a_1180)) (L' := #[.val (.int p0), .val (.int p1), .val (.int p2), .val (.int p3), .val (.int ca), .val (.int cb), .val (.int cc), .val (.int cd), .val (.int la), .val (.int lb), .val (.int la), .val (.int ld), .val (.int da), .val (.int db), .val (.int dc), .val (.int dd), .val (.ref a_1171), .val (.ref a_1180), .unset, .unset, .unset]) rfl rfl (pc' := 207) rfl ?_
        have f_1228 := (f_1219.keep K_1225)
        have f_1229 := (f_1213.keep K_1225)
        have f_1230 := (E_1205.keep K_1225)
        have f_1231 := (f_1214.keep K_1225 (ninS ne_1212 nin0))
        have f_1232 := (f_1208.keep K_1225 (ninS ne_1215 nin0))
        refine g_new C (own_w hw 34 rfl) (own_w hw 35 rfl) (own_w hw 36 rfl) (by decide) (by decide) at_207 (pc' := 210) rfl ?_
        intro h_1233 a_1234 g_1235 E_1236 A_1237 D_1238
        have ne_1239 : a_1171 ≠ a_1234 := ne_new f_1228.lt g_1235
        have ne_1240 : a_1180 ≠ a_1234 := ne_new f_1229.lt g_1235
        have ne_1241 : a_1201 ≠ a_1234 := ne_new f_1230.lt g_1235
        have ne_1242 : b_1172 ≠ a_1234 := ne_new f_1231.lt g_1235
        have ne_1243 : b_1202 ≠ a_1234 := ne_new f_1232.lt g_1235
        have f_1244 := (Nat.le_trans f_1220 K_1225.1)
        have ge_a_1234 : n0 ≤ a_1234 := Nat.le_trans f_1244 (Nat.le_of_eq g_1235.symm)
        have f_1245 := (Nat.le_trans (Nat.le_trans f_1196 K_1204.1) K_1225.1)
        have gs_a_1234 : h0.size ≤ a_1234 := Nat.le_trans f_1245 (Nat.le_of_eq g_1235.symm)
        have f_1246 : Fld Z h_1233 a_1234 "com/example/chiton/chiton/model/MethodName" "className" "Ljava/lang/String;" .null := D_1238 (Or.inr (own_w hw 51 rfl)) (ty := (.object "java/lang/String")) (by decide)
        have f_1247 : Fld Z h_1233 a_1234 "com/example/chiton/chiton/model/MethodName" "methodName" "Ljava/lang/String;" .null := D_1238 (Or.inr (own_w hw 54 rfl)) (ty := (.object "java/lang/String")) (by decide)
        show Go B n0 _ h_1233 14 168 210 #[.val (.int p0), .val (.int p1), .val (.int p2), .val (.int p3), .val (.int ca), .val (.int cb), .val (.int cc), .val (.int cd), .val (.int la), .val (.int lb), .val (.int la), .val (.int ld), .val (.int da), .val (.int db), .val (.int dc), .val (.int dd), .val (.ref a_1171), .val (.ref a_1180), .unset, .unset, .unset] [(.ref a_1234)]
        refine g_dup C at_210 rfl (pc' := 211) rfl ?_
        refine g_iload C at_211 (v := la) rfl (pc' := 213) rfl ?_
        refine g_iload C at_213 (v := da) rfl (pc' := 215) rfl ?_
        refine g_iload C at_215 (v := db) rfl (pc' := 217) rfl ?_
        have f_1248 := ((f_1216.keep K_1225 (allS ge_a_1180 all0)).ext E_1236)
        have f_1249 := (Nat.le_trans f_1244 E_1236.1)
        have f_1250 := (I_1224.ext E_1236)
        have f_1251 := (f_1228.ext E_1236)
        have f_1252 := (f_1229.ext E_1236)
        have f_1253 := (f_1230.ext E_1236)
        have f_1254 := (f_1231.ext E_1236)
        have f_1255 := (f_1232.ext E_1236)
        have f_1256 := (Nat.le_trans f_1245 E_1236.1)
        refine g_staticV C hW (own_w hw 0 rfl) (own_w hw 1 rfl) (own_w hw 2 rfl) (own_w hw 3 rfl) (by decide) (rm_str l Z a0 hw n0 la da db h_1233 f_1249 cm f_1248 ch0 ch1 ch2 cw kda kdb) (fun vm' hw' => InvK.warm f_1250 hw') (st := [(.ref a_1234), (.ref a_1234)]) [(.int la), (.int da), (.int db)] rfl rfl own_pd_1_str rfl rfl (by decide) (W := 2) (Nat.le_of_eq rfl) (by decide) (by decide) (by decide) at_217 (pc' := 220) rfl ?_
        intro B C hW v_1259 h_1257 q_1258 I_1260
        obtain ⟨a_1261, b_1262, rfl, le_1263, K_1264, E_1265, f_1266, f_1267, f_1268⟩ := q_1258
        have ne_1269 : a_1171 ≠ a_1261 := ne_ge f_1251.lt le_1263
        have ne_1270 : a_1180 ≠ a_1261 := ne_ge f_1252.lt le_1263
        have ne_1271 : a_1201 ≠ a_1261 := ne_ge f_1253.lt le_1263
        have ne_1272 : a_1234 ≠ a_1261 := ne_ge A_1237.lt le_1263
        have ne_1273 : b_1172 ≠ a_1261 := ne_ge f_1254.lt le_1263
        have ne_1274 : b_1202 ≠ a_1261 := ne_ge f_1255.lt le_1263
        have ge_a_1261 : n0 ≤ a_1261 := Nat.le_trans f_1249 le_1263
        have gs_a_1261 : h0.size ≤ a_1261 := Nat.le_trans f_1256 le_1263
        show Go B n0 _ h_1257 18 176 220 #[.val (.int p0), .val (.int p1), .val (.int p2), .val (.int p3), .val (.int ca), .val (.int cb), .val (.int cc), .val (.int cd), .val (.int la), .val (.int lb), .val (.int la), .val (.int ld), .val (.int da), .val (.int db), .val (.int dc), .val (.int dd), .val (.ref a_1171), .val (.ref a_1180), .unset, .unset, .unset] [(.ref a_1261), (.ref a_1234), (.ref a_1234)]
        refine g_iload C at_220 (v := ld) rfl (pc' := 222) rfl ?_
        refine g_iload C at_222 (v := dc) rfl (pc' := 224) rfl ?_
        refine g_iload C at_224 (v := dd) rfl (pc' := 226) rfl ?_
        have f_1275 := (f_1248.keep K_1264 all0)
        have f_1276 := (Nat.le_trans f_1249 K_1264.1)
        have f_1277 := (f_1251.keep K_1264)
        have f_1278 := (f_1252.keep K_1264)
        have f_1279 := (f_1253.keep K_1264)
        have f_1280 := (A_1237.keep K_1264)
        have f_1281 := (f_1254.keep K_1264 nin0)
        have f_1282 := (f_1255.keep K_1264 nin0)
        have f_1283 := (Nat.le_trans f_1256 K_1264.1)
        refine g_staticV C hW (own_w hw 0 rfl) (own_w hw 1 rfl) (own_w hw 2 rfl) (own_w hw 3 rfl) (by decide) (rm_str l Z a0 hw n0 ld dc dd h_1257 f_1276 cm f_1275 ch0 ch1 ch2 cw kdc kdd) (fun vm' hw' => InvK.warm I_1260 hw') (st := [(.ref a_1261), (.ref a_1234), (.ref a_1234)]) [(.int ld), (.int dc), (.int dd)] rfl rfl own_pd_1_str rfl rfl (by decide) (W := 3) (Nat.le_of_eq rfl) (by decide) (by decide) (by decide) at_226 (pc' := 229) rfl ?_
        intro B C hW v_1286 h_1284 q_1285 I_1287
        obtain ⟨a_1288, b_1289, rfl, le_1290, K_1291, E_1292, f_1293, f_1294, f_1295⟩ := q_1285
        have ne_1296 : a_1171 ≠ a_1288 := ne_ge f_1277.lt le_1290
        have ne_1297 : a_1180 ≠ a_1288 := ne_ge f_1278.lt le_1290
        have ne_1298 : a_1201 ≠ a_1288 := ne_ge f_1279.lt le_1290
        have ne_1299 : a_1234 ≠ a_1288 := ne_ge f_1280.lt le_1290
        have ne_1300 : a_1261 ≠ a_1288 := ne_ge E_1265.lt le_1290
        have ne_1301 : b_1172 ≠ a_1288 := ne_ge f_1281.lt le_1290
        have ne_1302 : b_1202 ≠ a_1288 := ne_ge f_1282.lt le_1290
        have ne_1303 : b_1262 ≠ a_1288 := ne_ge f_1268.lt le_1290
        have ge_a_1288 : n0 ≤ a_1288 := Nat.le_trans f_1276 le_1290
        have gs_a_1288 : h0.size ≤ a_1288 := Nat.le_trans f_1283 le_1290
        show Go B n0 _ h_1284 22 184 229 #[.val (.int p0), .val (.int p1), .val (.int p2), .val (.int p3), .val (.int ca), .val (.int cb), .val (.int cc), .val (.int cd), .val (.int la), .val (.int lb), .val (.int la), .val (.int ld), .val (.int da), .val (.int db), .val (.int dc), .val (.int dd), .val (.ref a_1171), .val (.ref a_1180), .unset, .unset, .unset] [(.ref a_1288), (.ref a_1261), (.ref a_1234), (.ref a_1234)]
        have f_1305 := (f_1280.keep K_1291)
        have f_1306 := (f_1268.keep K_1291 nin0)
        have ne_1304 : b_1262 ≠ a_1234 := own_neA f_1305 f_1306 (own_w hw 35 rfl)
        have ne_1307 : b_1289 ≠ a_1234 := own_neA f_1305 f_1295 (own_w hw 35 rfl)
        have f_1308 := (f_1275.keep K_1291 all0)
        have f_1309 := ((f_1246.keep K_1264 nin0).keep K_1291 nin0)
        have f_1310 := ((f_1247.keep K_1264 nin0).keep K_1291 nin0)
        have f_1311 := (E_1265.keep K_1291)
        have f_1312 := (Nat.le_trans f_1276 K_1291.1)
        refine g_specialV C hW (a := a_1234) rfl (own_w hw 40 rfl) (own_w hw 41 rfl) (own_w hw 36 rfl) (own_w hw 42 rfl) (by decide) (rm_mninit l Z a0 hw n0 a_1234 a_1261 a_1288 h_1284 f_1312 cm f_1308 ch0 ch1 ch2 cw f_1305 f_1309 f_1310 ge_a_1234 f_1311 E_1292) (fun vm' hw' => InvK.warm I_1287 hw') (st := [(.ref a_1234)]) [(.ref a_1261), (.ref a_1288)] rfl rfl own_pd_6_init rfl rfl (by decide) (W := 1) (Nat.le_of_eq rfl) (by decide) (by decide) (by decide) at_229 (pc' := 232) rfl ?_
        intro B C hW v_1315 h_1313 q_1314 I_1316
        obtain ⟨rfl, K_1317, f_1318, f_1319⟩ := q_1314
        show Go B n0 _ h_1313 26 332 232 #[.val (.int p0), .val (.int p1), .val (.int p2), .val (.int p3), .val (.int ca), .val (.int cb), .val (.int cc), .val (.int cd), .val (.int la), .val (.int lb), .val (.int la), .val (.int ld), .val (.int da), .val (.int db), .val (.int dc), .val (.int dd), .val (.ref a_1171), .val (.ref a_1180), .unset, .unset, .unset] [(.ref a_1234)]
        refine g_astore C at_232 (v := (.ref a_1234)) (L' := #[.val (.int p0), .val (.int p1), .val (.int p2), .val (.int p3), .val (.int ca), .val (.int cb), .val (.int cc), .val (.int cd), .val (.int la), .val (.int lb), .val (.int la), .val (.int ld), .val (.int da), .val (.int db), .val (.int dc), .val (.int dd), .val (.ref a_1171), .val (.ref a_1180), .val (.ref a_1234), .unset, .unset]) rfl rfl (pc' := 234) rfl ?_
        refine g_iload_n C at_234 (v := p2) rfl (pc' := 235) rfl ?_
        refine g_bipush C at_235 (v := (8 : Int32)) rfl (pc' := 237) rfl ?_
        refine g_iushr C (x := p2) (y := (8 : Int32)) at_237  (pc' := 238) rfl ?_
        refine g_iconst C at_238 (v := (3 : Int32)) rfl (pc' := 239) rfl ?_
        refine g_iand C (x := (Jvm.Free.XT.ushr p2 (8 : Int32))) (y := (3 : Int32)) at_239  (pc' := 240) rfl ?_
        obtain ⟨i_1320, hi_1321⟩ : ∃ z : Int32, z = ((Jvm.Free.XT.ushr p2 (8 : Int32)) &&& (3 : Int32)) := ⟨_, rfl⟩
        rw [← hi_1321]
        rcases own_split4 i_1320 (by rw [hi_1321]; exact (own_m3 _).1) (by rw [hi_1321]; exact (own_m3 _).2) with i_1320e | i_1320e | i_1320e | i_1320e
        · subst i_1320e
          show Go B n0 _ h_1313 26 332 240 #[.val (.int p0), .val (.int p1), .val (.int p2), .val (.int p3), .val (.int ca), .val (.int cb), .val (.int cc), .val (.int cd), .val (.int la), .val (.int lb), .val (.int la), .val (.int ld), .val (.int da), .val (.int db), .val (.int dc), .val (.int dd), .val (.ref a_1171), .val (.ref a_1180), .val (.ref a_1234), .unset, .unset] [(.int (0 : Int32))]
          refine g_istore C at_240 (v := (0 : Int32)) (L' := #[.val (.int p0), .val (.int p1), .val (.int p2), .val (.int p3), .val (.int ca), .val (.int cb), .val (.int cc), .val (.int cd), .val (.int la), .val (.int lb), .val (.int la), .val (.int ld), .val (.int da), .val (.int db), .val (.int dc), .val (.int dd), .val (.ref a_1171), .val (.ref a_1180), .val (.ref a_1234), .val (.int (0 : Int32)), .unset]) rfl (pc' := 242) rfl ?_
          refine g_iload C at_242 (v := (0 : Int32)) rfl (pc' := 244) rfl ?_
          refine g_iconst C at_244 (v := (1 : Int32)) rfl (pc' := 245) rfl ?_
          refine g_icmp_y C at_245 (Jvm.Free.XT.ii_ne_t (by decide)) (pc' := 263) (by decide) (by decide) ?_
          refine g_iload C at_263 (v := (0 : Int32)) rfl (pc' := 265) rfl ?_
          refine g_iconst C at_265 (v := (2 : Int32)) rfl (pc' := 266) rfl ?_
          refine g_icmp_y C at_266 (Jvm.Free.XT.ii_ne_t (by decide)) (pc' := 285) (by decide) (by decide) ?_
          refine g_iload C at_285 (v := (0 : Int32)) rfl (pc' := 287) rfl ?_
          refine g_iconst C at_287 (v := (3 : Int32)) rfl (pc' := 288) rfl ?_
          refine g_icmp_y C at_288 (Jvm.Free.XT.ii_ne_t (by decide)) (pc' := 299) (by decide) (by decide) ?_
          refine g_iload C at_299 (v := la) rfl (pc' := 301) rfl ?_
          refine g_iload C at_301 (v := ca) rfl (pc' := 303) rfl ?_
          refine g_iload C at_303 (v := cb) rfl (pc' := 305) rfl ?_
          refine g_iload C at_305 (v := la) rfl (pc' := 307) rfl ?_
          refine g_iload C at_307 (v := da) rfl (pc' := 309) rfl ?_
          refine g_iload C at_309 (v := db) rfl (pc' := 311) rfl ?_
          have f_1322 := (Nat.le_trans f_1312 K_1317.1)
          refine g_static C (own_w hw 55 rfl) (own_w hw 56 rfl) (own_w hw 2 rfl) (own_w hw 57 rfl) (by decide) (rm_same l Z a0 hw n0 la ca cb la da db h_1313 f_1322 rla rla kca kcb kda kdb) (st := []) [(.int la), (.int ca), (.int cb), (.int la), (.int da), (.int db)] rfl rfl own_pd_3_same rfl rfl (by decide) (W := 0) (Nat.le_of_eq rfl) (by decide) (by decide) (by decide) at_311 (pc' := 314) rfl ?_
          intro v_1325 h_1323 q_1324
          obtain ⟨r_1327, rfl, ⟨e_1328, rfl⟩ | ⟨e_1328, rfl⟩, rfl⟩ := q_1324
          · show Go B n0 _ h_1313 26 332 314 #[.val (.int p0), .val (.int p1), .val (.int p2), .val (.int p3), .val (.int ca), .val (.int cb), .val (.int cc), .val (.int cd), .val (.int la), .val (.int lb), .val (.int la), .val (.int ld), .val (.int da), .val (.int db), .val (.int dc), .val (.int dd), .val (.ref a_1171), .val (.ref a_1180), .val (.ref a_1234), .val (.int (0 : Int32)), .unset] [(.int (1 : Int32))]
            refine g_if_n C at_314 (Jvm.Free.XT.i0_eq_f (by decide)) (pc' := 317) rfl ?_
            refine g_iload C at_317 (v := lb) rfl (pc' := 319) rfl ?_
            refine g_iload C at_319 (v := cc) rfl (pc' := 321) rfl ?_
            refine g_iload C at_321 (v := cd) rfl (pc' := 323) rfl ?_
            refine g_iload C at_323 (v := ld) rfl (pc' := 325) rfl ?_
            refine g_iload C at_325 (v := dc) rfl (pc' := 327) rfl ?_
            refine g_iload C at_327 (v := dd) rfl (pc' := 329) rfl ?_
            refine g_static C (own_w hw 55 rfl) (own_w hw 56 rfl) (own_w hw 2 rfl) (own_w hw 57 rfl) (by decide) (rm_same l Z a0 hw n0 lb cc cd ld dc dd h_1313 f_1322 rlb rld kcc kcd kdc kdd) (st := []) [(.int lb), (.int cc), (.int cd), (.int ld), (.int dc), (.int dd)] rfl rfl own_pd_3_same rfl rfl (by decide) (W := 0) (Nat.le_of_eq rfl) (by decide) (by decide) (by decide) at_329 (pc' := 332) rfl ?_
            intro v_1331 h_1329 q_1330
            obtain ⟨r_1333, rfl, ⟨e_1334, rfl⟩ | ⟨e_1334, rfl⟩, rfl⟩ := q_1330
            · show Go B n0 _ h_1313 26 332 332 #[.val (.int p0), .val (.int p1), .val (.int p2), .val (.int p3), .val (.int ca), .val (.int cb), .val (.int cc), .val (.int cd), .val (.int la), .val (.int lb), .val (.int la), .val (.int ld), .val (.int da), .val (.int db), .val (.int dc), .val (.int dd), .val (.ref a_1171), .val (.ref a_1180), .val (.ref a_1234), .val (.int (0 : Int32)), .unset] [(.int (1 : Int32))]
              refine g_if_n C at_332 (Jvm.Free.XT.i0_eq_f (by decide)) (pc' := 335) rfl ?_
              refine g_iconst C at_335 (v := (1 : Int32)) rfl (pc' := 336) rfl ?_
              refine g_goto C at_336 (pc' := 340) (by decide) (by decide) ?_
              refine g_istore C at_340 (v := (1 : Int32)) (L' := #[.val (.int p0), .val (.int p1), .val (.int p2), .val (.int p3), .val (.int ca), .val (.int cb), .val (.int cc), .val (.int cd), .val (.int la), .val (.int lb), .val (.int la), .val (.int ld), .val (.int da), .val (.int db), .val (.int dc), .val (.int dd), .val (.ref a_1171), .val (.ref a_1180), .val (.ref a_1234), .val (.int (0 : Int32)), .val (.int (1 : Int32))]) rfl (pc' := 342) rfl ?_
              refine g_aload C at_342 (v := (.ref a_1180)) rfl rfl (pc' := 344) rfl ?_
              refine g_aload C at_344 (v := (.ref a_1234)) rfl rfl (pc' := 346) rfl ?_
              have f_1335 := (f_1308.keep K_1317 (allS ge_a_1234 all0))
              have f_1336 := ((f_1278.keep K_1291).keep K_1317)
              have f_1337 := ((((f_1226.ext E_1236).keep K_1264 nin0).keep K_1291 nin0).keep K_1317 (ninS ne_1240 nin0))
              have f_1338 := ((((f_1227.ext E_1236).keep K_1264 nin0).keep K_1291 nin0).keep K_1317 (ninS ne_1240 nin0))
              have f_1339 := (f_1305.keep K_1317)
              have f_1340 := ((f_1277.keep K_1291).keep K_1317)
              have f_1341 := (((((((f_1176.ext E_1182).keep K_1204 nin0).keep K_1225 (ninS ne_1185 nin0)).ext E_1236).keep K_1264 nin0).keep K_1291 nin0).keep K_1317 (ninS ne_1239 nin0))
              have f_1342 := (((((((f_1177.ext E_1182).keep K_1204 nin0).keep K_1225 (ninS ne_1185 nin0)).ext E_1236).keep K_1264 nin0).keep K_1291 nin0).keep K_1317 (ninS ne_1239 nin0))
              have f_1343 := ((f_1281.keep K_1291 nin0).keep K_1317 (ninS ne_1242 nin0))
              have f_1344 := (f_1311.keep K_1317)
              have f_1345 := ((f_1266.keep K_1291 nin0).keep K_1317 (ninS (Ne.symm ne_1272) nin0))
              have f_1346 := ((f_1267.keep K_1291 nin0).keep K_1317 (ninS (Ne.symm ne_1272) nin0))
              have f_1347 := (f_1306.keep K_1317 (ninS ne_1304 nin0))
              have f_1348 := ((f_1279.keep K_1291).keep K_1317)
              have f_1349 := (((((f_1206.keep K_1225 (ninS (Ne.symm ne_1210) nin0)).ext E_1236).keep K_1264 nin0).keep K_1291 nin0).keep K_1317 (ninS ne_1241 nin0))
              have f_1350 := (((((f_1207.keep K_1225 (ninS (Ne.symm ne_1210) nin0)).ext E_1236).keep K_1264 nin0).keep K_1291 nin0).keep K_1317 (ninS ne_1241 nin0))
              have f_1351 := ((f_1282.keep K_1291 nin0).keep K_1317 (ninS ne_1243 nin0))
              have f_1352 := (E_1292.keep K_1317)
              have f_1353 := (f_1293.keep K_1317 (ninS (Ne.symm ne_1299) nin0))
              have f_1354 := (f_1294.keep K_1317 (ninS (Ne.symm ne_1299) nin0))
              have f_1355 := (f_1295.keep K_1317 (ninS ne_1307 nin0))
              refine g_virtual C (own_w hw 58 rfl) (own_w hw 59 rfl) (own_w hw 61 rfl) (own_w hw 60 rfl) (own_w hw 36 rfl) (own_w hw 62 rfl) (notFace_of_selects (args := #[]) (mvT C.2.2.2.2.1 (own_w hw 61 rfl))) (by decide) f_1336 (rm_mneqD l Z a0 hw n0 a_1180 a_1234 a_1171 a_1261 a_1201 a_1288 b_1172 b_1262 b_1202 b_1289 (own_str la ca cb) (own_str la da db) (own_str lb cc cd) (own_str ld dc dd) h_1313 f_1322 cm f_1335 f_1336 f_1337 f_1338 f_1339 f_1318 f_1319 f_1340 f_1341 f_1342 f_1343 (own_sh _ _ _) f_1344 f_1345 f_1346 f_1347 (own_sh _ _ _) f_1348 f_1349 f_1350 f_1351 (own_sh _ _ _) f_1352 f_1353 f_1354 f_1355 (own_sh _ _ _) ne_1269 ne_1298) (st := []) [(.ref a_1234)] rfl rfl own_pd_4_equals rfl rfl (by decide) (W := 0) (Nat.le_of_eq rfl) (by decide) (by decide) (by decide) at_346 (pc' := 349) rfl ?_
              intro v_1358 h_1356 q_1357
              obtain ⟨r_1360, rfl, ⟨e_1361, rfl⟩ | ⟨e_1361, rfl⟩, rfl⟩ := q_1357
              · show Go B n0 _ h_1313 26 332 349 #[.val (.int p0), .val (.int p1), .val (.int p2), .val (.int p3), .val (.int ca), .val (.int cb), .val (.int cc), .val (.int cd), .val (.int la), .val (.int lb), .val (.int la), .val (.int ld), .val (.int da), .val (.int db), .val (.int dc), .val (.int dd), .val (.ref a_1171), .val (.ref a_1180), .val (.ref a_1234), .val (.int (0 : Int32)), .val (.int (1 : Int32))] [(.int (1 : Int32))]
                refine g_iload C at_349 (v := (1 : Int32)) rfl (pc' := 351) rfl ?_
                refine g_icmp_n C at_351 (Jvm.Free.XT.ii_ne_f (by decide)) (pc' := 354) rfl ?_
                refine g_aload C at_354 (v := (.ref a_1234)) rfl rfl (pc' := 356) rfl ?_
                refine g_aload C at_356 (v := (.ref a_1180)) rfl rfl (pc' := 358) rfl ?_
                refine g_virtual C (own_w hw 58 rfl) (own_w hw 59 rfl) (own_w hw 61 rfl) (own_w hw 60 rfl) (own_w hw 36 rfl) (own_w hw 62 rfl) (notFace_of_selects (args := #[]) (mvT C.2.2.2.2.1 (own_w hw 61 rfl))) (by decide) f_1339 (rm_mneqD l Z a0 hw n0 a_1234 a_1180 a_1261 a_1171 a_1288 a_1201 b_1262 b_1172 b_1289 b_1202 (own_str la da db) (own_str la ca cb) (own_str ld dc dd) (own_str lb cc cd) h_1313 f_1322 cm f_1335 f_1339 f_1318 f_1319 f_1336 f_1337 f_1338 f_1344 f_1345 f_1346 f_1347 (own_sh _ _ _) f_1340 f_1341 f_1342 f_1343 (own_sh _ _ _) f_1352 f_1353 f_1354 f_1355 (own_sh _ _ _) f_1348 f_1349 f_1350 f_1351 (own_sh _ _ _) (Ne.symm ne_1269) (Ne.symm ne_1298)) (st := []) [(.ref a_1180)] rfl rfl own_pd_4_equals rfl rfl (by decide) (W := 0) (Nat.le_of_eq rfl) (by decide) (by decide) (by decide) at_358 (pc' := 361) rfl ?_
                intro v_1364 h_1362 q_1363
                obtain ⟨r_1366, rfl, ⟨e_1367, rfl⟩ | ⟨e_1367, rfl⟩, rfl⟩ := q_1363
                · show Go B n0 _ h_1313 26 332 361 #[.val (.int p0), .val (.int p1), .val (.int p2), .val (.int p3), .val (.int ca), .val (.int cb), .val (.int cc), .val (.int cd), .val (.int la), .val (.int lb), .val (.int la), .val (.int ld), .val (.int da), .val (.int db), .val (.int dc), .val (.int dd), .val (.ref a_1171), .val (.ref a_1180), .val (.ref a_1234), .val (.int (0 : Int32)), .val (.int (1 : Int32))] [(.int (1 : Int32))]
                  refine g_iload C at_361 (v := (1 : Int32)) rfl (pc' := 363) rfl ?_
                  refine g_icmp_n C at_363 (Jvm.Free.XT.ii_ne_f (by decide)) (pc' := 366) rfl ?_
                  refine g_iconst C at_366 (v := (1 : Int32)) rfl (pc' := 367) rfl ?_
                  refine g_goto C at_367 (pc' := 371) (by decide) (by decide) ?_
                  refine g_ret C (eW hW fun vm' hw' => trivial) (v := (.int (1 : Int32))) (ty := .boolean) rfl rfl (Or.inl ⟨rfl, Or.inr (Or.inl rfl), _, rfl⟩) at_371 (by decide) (by decide) ?_
                  rfl
                · exact absurd ⟨e_1328.symm, e_1334.symm⟩ e_1367
              · exact absurd ⟨e_1328, e_1334⟩ e_1361
            · show Go B n0 _ h_1313 26 332 332 #[.val (.int p0), .val (.int p1), .val (.int p2), .val (.int p3), .val (.int ca), .val (.int cb), .val (.int cc), .val (.int cd), .val (.int la), .val (.int lb), .val (.int la), .val (.int ld), .val (.int da), .val (.int db), .val (.int dc), .val (.int dd), .val (.ref a_1171), .val (.ref a_1180), .val (.ref a_1234), .val (.int (0 : Int32)), .unset] [(.int (0 : Int32))]
              refine g_if_y C at_332 (Jvm.Free.XT.i0_eq_t (by decide)) (pc' := 339) (by decide) (by decide) ?_
              refine g_iconst C at_339 (v := (0 : Int32)) rfl (pc' := 340) rfl ?_
              refine g_istore C at_340 (v := (0 : Int32)) (L' := #[.val (.int p0), .val (.int p1), .val (.int p2), .val (.int p3), .val (.int ca), .val (.int cb), .val (.int cc), .val (.int cd), .val (.int la), .val (.int lb), .val (.int la), .val (.int ld), .val (.int da), .val (.int db), .val (.int dc), .val (.int dd), .val (.ref a_1171), .val (.ref a_1180), .val (.ref a_1234), .val (.int (0 : Int32)), .val (.int (0 : Int32))]) rfl (pc' := 342) rfl ?_
              refine g_aload C at_342 (v := (.ref a_1180)) rfl rfl (pc' := 344) rfl ?_
              refine g_aload C at_344 (v := (.ref a_1234)) rfl rfl (pc' := 346) rfl ?_
              have f_1368 := (f_1308.keep K_1317 (allS ge_a_1234 all0))
              have f_1369 := ((f_1278.keep K_1291).keep K_1317)
              have f_1370 := ((((f_1226.ext E_1236).keep K_1264 nin0).keep K_1291 nin0).keep K_1317 (ninS ne_1240 nin0))
              have f_1371 := ((((f_1227.ext E_1236).keep K_1264 nin0).keep K_1291 nin0).keep K_1317 (ninS ne_1240 nin0))
              have f_1372 := (f_1305.keep K_1317)
              have f_1373 := ((f_1277.keep K_1291).keep K_1317)
              have f_1374 := (((((((f_1176.ext E_1182).keep K_1204 nin0).keep K_1225 (ninS ne_1185 nin0)).ext E_1236).keep K_1264 nin0).keep K_1291 nin0).keep K_1317 (ninS ne_1239 nin0))
              have f_1375 := (((((((f_1177.ext E_1182).keep K_1204 nin0).keep K_1225 (ninS ne_1185 nin0)).ext E_1236).keep K_1264 nin0).keep K_1291 nin0).keep K_1317 (ninS ne_1239 nin0))
              have f_1376 := ((f_1281.keep K_1291 nin0).keep K_1317 (ninS ne_1242 nin0))
              have f_1377 := (f_1311.keep K_1317)
              have f_1378 := ((f_1266.keep K_1291 nin0).keep K_1317 (ninS (Ne.symm ne_1272) nin0))
              have f_1379 := ((f_1267.keep K_1291 nin0).keep K_1317 (ninS (Ne.symm ne_1272) nin0))
              have f_1380 := (f_1306.keep K_1317 (ninS ne_1304 nin0))
              have f_1381 := ((f_1279.keep K_1291).keep K_1317)
              have f_1382 := (((((f_1206.keep K_1225 (ninS (Ne.symm ne_1210) nin0)).ext E_1236).keep K_1264 nin0).keep K_1291 nin0).keep K_1317 (ninS ne_1241 nin0))
              have f_1383 := (((((f_1207.keep K_1225 (ninS (Ne.symm ne_1210) nin0)).ext E_1236).keep K_1264 nin0).keep K_1291 nin0).keep K_1317 (ninS ne_1241 nin0))
              have f_1384 := ((f_1282.keep K_1291 nin0).keep K_1317 (ninS ne_1243 nin0))
              have f_1385 := (E_1292.keep K_1317)
              have f_1386 := (f_1293.keep K_1317 (ninS (Ne.symm ne_1299) nin0))
              have f_1387 := (f_1294.keep K_1317 (ninS (Ne.symm ne_1299) nin0))
              have f_1388 := (f_1295.keep K_1317 (ninS ne_1307 nin0))
              refine g_virtual C (own_w hw 58 rfl) (own_w hw 59 rfl) (own_w hw 61 rfl) (own_w hw 60 rfl) (own_w hw 36 rfl) (own_w hw 62 rfl) (notFace_of_selects (args := #[]) (mvT C.2.2.2.2.1 (own_w hw 61 rfl))) (by decide) f_1369 (rm_mneqD l Z a0 hw n0 a_1180 a_1234 a_1171 a_1261 a_1201 a_1288 b_1172 b_1262 b_1202 b_1289 (own_str la ca cb) (own_str la da db) (own_str lb cc cd) (own_str ld dc dd) h_1313 f_1322 cm f_1368 f_1369 f_1370 f_1371 f_1372 f_1318 f_1319 f_1373 f_1374 f_1375 f_1376 (own_sh _ _ _) f_1377 f_1378 f_1379 f_1380 (own_sh _ _ _) f_1381 f_1382 f_1383 f_1384 (own_sh _ _ _) f_1385 f_1386 f_1387 f_1388 (own_sh _ _ _) ne_1269 ne_1298) (st := []) [(.ref a_1234)] rfl rfl own_pd_4_equals rfl rfl (by decide) (W := 0) (Nat.le_of_eq rfl) (by decide) (by decide) (by decide) at_346 (pc' := 349) rfl ?_
              intro v_1391 h_1389 q_1390
              obtain ⟨r_1393, rfl, ⟨e_1394, rfl⟩ | ⟨e_1394, rfl⟩, rfl⟩ := q_1390
              · exact absurd (e_1394.2) e_1334
              · show Go B n0 _ h_1313 26 332 349 #[.val (.int p0), .val (.int p1), .val (.int p2), .val (.int p3), .val (.int ca), .val (.int cb), .val (.int cc), .val (.int cd), .val (.int la), .val (.int lb), .val (.int la), .val (.int ld), .val (.int da), .val (.int db), .val (.int dc), .val (.int dd), .val (.ref a_1171), .val (.ref a_1180), .val (.ref a_1234), .val (.int (0 : Int32)), .val (.int (0 : Int32))] [(.int (0 : Int32))]
                refine g_iload C at_349 (v := (0 : Int32)) rfl (pc' := 351) rfl ?_
                refine g_icmp_n C at_351 (Jvm.Free.XT.ii_ne_f (by decide)) (pc' := 354) rfl ?_
                refine g_aload C at_354 (v := (.ref a_1234)) rfl rfl (pc' := 356) rfl ?_
                refine g_aload C at_356 (v := (.ref a_1180)) rfl rfl (pc' := 358) rfl ?_
                refine g_virtual C (own_w hw 58 rfl) (own_w hw 59 rfl) (own_w hw 61 rfl) (own_w hw 60 rfl) (own_w hw 36 rfl) (own_w hw 62 rfl) (notFace_of_selects (args := #[]) (mvT C.2.2.2.2.1 (own_w hw 61 rfl))) (by decide) f_1372 (rm_mneqD l Z a0 hw n0 a_1234 a_1180 a_1261 a_1171 a_1288 a_1201 b_1262 b_1172 b_1289 b_1202 (own_str la da db) (own_str la ca cb) (own_str ld dc dd) (own_str lb cc cd) h_1313 f_1322 cm f_1368 f_1372 f_1318 f_1319 f_1369 f_1370 f_1371 f_1377 f_1378 f_1379 f_1380 (own_sh _ _ _) f_1373 f_1374 f_1375 f_1376 (own_sh _ _ _) f_1385 f_1386 f_1387 f_1388 (own_sh _ _ _) f_1381 f_1382 f_1383 f_1384 (own_sh _ _ _) (Ne.symm ne_1269) (Ne.symm ne_1298)) (st := []) [(.ref a_1180)] rfl rfl own_pd_4_equals rfl rfl (by decide) (W := 0) (Nat.le_of_eq rfl) (by decide) (by decide) (by decide) at_358 (pc' := 361) rfl ?_
                intro v_1397 h_1395 q_1396
                obtain ⟨r_1399, rfl, ⟨e_1400, rfl⟩ | ⟨e_1400, rfl⟩, rfl⟩ := q_1396
                · exact absurd (e_1400.2.symm) e_1334
                · show Go B n0 _ h_1313 26 332 361 #[.val (.int p0), .val (.int p1), .val (.int p2), .val (.int p3), .val (.int ca), .val (.int cb), .val (.int cc), .val (.int cd), .val (.int la), .val (.int lb), .val (.int la), .val (.int ld), .val (.int da), .val (.int db), .val (.int dc), .val (.int dd), .val (.ref a_1171), .val (.ref a_1180), .val (.ref a_1234), .val (.int (0 : Int32)), .val (.int (0 : Int32))] [(.int (0 : Int32))]
                  refine g_iload C at_361 (v := (0 : Int32)) rfl (pc' := 363) rfl ?_
                  refine g_icmp_n C at_363 (Jvm.Free.XT.ii_ne_f (by decide)) (pc' := 366) rfl ?_
                  refine g_iconst C at_366 (v := (1 : Int32)) rfl (pc' := 367) rfl ?_
                  refine g_goto C at_367 (pc' := 371) (by decide) (by decide) ?_
                  refine g_ret C (eW hW fun vm' hw' => trivial) (v := (.int (1 : Int32))) (ty := .boolean) rfl rfl (Or.inl ⟨rfl, Or.inr (Or.inl rfl), _, rfl⟩) at_371 (by decide) (by decide) ?_
                  rfl
          · show Go B n0 _ h_1313 26 332 314 #[.val (.int p0), .val (.int p1), .val (.int p2), .val (.int p3), .val (.int ca), .val (.int cb), .val (.int cc), .val (.int cd), .val (.int la), .val (.int lb), .val (.int la), .val (.int ld), .val (.int da), .val (.int db), .val (.int dc), .val (.int dd), .val (.ref a_1171), .val (.ref a_1180), .val (.ref a_1234), .val (.int (0 : Int32)), .unset] [(.int (0 : Int32))]
            refine g_if_y C at_314 (Jvm.Free.XT.i0_eq_t (by decide)) (pc' := 339) (by decide) (by decide) ?_
            refine g_iconst C at_339 (v := (0 : Int32)) rfl (pc' := 340) rfl ?_
            refine g_istore C at_340 (v := (0 : Int32)) (L' := #[.val (.int p0), .val (.int p1), .val (.int p2), .val (.int p3), .val (.int ca), .val (.int cb), .val (.int cc), .val (.int cd), .val (.int la), .val (.int lb), .val (.int la), .val (.int ld), .val (.int da), .val (.int db), .val (.int dc), .val (.int dd), .val (.ref a_1171), .val (.ref a_1180), .val (.ref a_1234), .val (.int (0 : Int32)), .val (.int (0 : Int32))]) rfl (pc' := 342) rfl ?_
            refine g_aload C at_342 (v := (.ref a_1180)) rfl rfl (pc' := 344) rfl ?_
            refine g_aload C at_344 (v := (.ref a_1234)) rfl rfl (pc' := 346) rfl ?_
            have f_1401 := (f_1308.keep K_1317 (allS ge_a_1234 all0))
            have f_1402 := ((f_1278.keep K_1291).keep K_1317)
            have f_1403 := ((((f_1226.ext E_1236).keep K_1264 nin0).keep K_1291 nin0).keep K_1317 (ninS ne_1240 nin0))
            have f_1404 := ((((f_1227.ext E_1236).keep K_1264 nin0).keep K_1291 nin0).keep K_1317 (ninS ne_1240 nin0))
            have f_1405 := (f_1305.keep K_1317)
            have f_1406 := ((f_1277.keep K_1291).keep K_1317)
            have f_1407 := (((((((f_1176.ext E_1182).keep K_1204 nin0).keep K_1225 (ninS ne_1185 nin0)).ext E_1236).keep K_1264 nin0).keep K_1291 nin0).keep K_1317 (ninS ne_1239 nin0))
            have f_1408 := (((((((f_1177.ext E_1182).keep K_1204 nin0).keep K_1225 (ninS ne_1185 nin0)).ext E_1236).keep K_1264 nin0).keep K_1291 nin0).keep K_1317 (ninS ne_1239 nin0))
            have f_1409 := ((f_1281.keep K_1291 nin0).keep K_1317 (ninS ne_1242 nin0))
            have f_1410 := (f_1311.keep K_1317)
            have f_1411 := ((f_1266.keep K_1291 nin0).keep K_1317 (ninS (Ne.symm ne_1272) nin0))
            have f_1412 := ((f_1267.keep K_1291 nin0).keep K_1317 (ninS (Ne.symm ne_1272) nin0))
            have f_1413 := (f_1306.keep K_1317 (ninS ne_1304 nin0))
            have f_1414 := ((f_1279.keep K_1291).keep K_1317)
            have f_1415 := (((((f_1206.keep K_1225 (ninS (Ne.symm ne_1210) nin0)).ext E_1236).keep K_1264 nin0).keep K_1291 nin0).keep K_1317 (ninS ne_1241 nin0))
            have f_1416 := (((((f_1207.keep K_1225 (ninS (Ne.symm ne_1210) nin0)).ext E_1236).keep K_1264 nin0).keep K_1291 nin0).keep K_1317 (ninS ne_1241 nin0))
            have f_1417 := ((f_1282.keep K_1291 nin0).keep K_1317 (ninS ne_1243 nin0))
            have f_1418 := (E_1292.keep K_1317)
            have f_1419 := (f_1293.keep K_1317 (ninS (Ne.symm ne_1299) nin0))
            have f_1420 := (f_1294.keep K_1317 (ninS (Ne.symm ne_1299) nin0))
            have f_1421 := (f_1295.keep K_1317 (ninS ne_1307 nin0))
            refine g_virtual C (own_w hw 58 rfl) (own_w hw 59 rfl) (own_w hw 61 rfl) (own_w hw 60 rfl) (own_w hw 36 rfl) (own_w hw 62 rfl) (notFace_of_selects (args := #[]) (mvT C.2.2.2.2.1 (own_w hw 61 rfl))) (by decide) f_1402 (rm_mneqD l Z a0 hw n0 a_1180 a_1234 a_1171 a_1261 a_1201 a_1288 b_1172 b_1262 b_1202 b_1289 (own_str la ca cb) (own_str la da db) (own_str lb cc cd) (own_str ld dc dd) h_1313 f_1322 cm f_1401 f_1402 f_1403 f_1404 f_1405 f_1318 f_1319 f_1406 f_1407 f_1408 f_1409 (own_sh _ _ _) f_1410 f_1411 f_1412 f_1413 (own_sh _ _ _) f_1414 f_1415 f_1416 f_1417 (own_sh _ _ _) f_1418 f_1419 f_1420 f_1421 (own_sh _ _ _) ne_1269 ne_1298) (st := []) [(.ref a_1234)] rfl rfl own_pd_4_equals rfl rfl (by decide) (W := 0) (Nat.le_of_eq rfl) (by decide) (by decide) (by decide) at_346 (pc' := 349) rfl ?_
            intro v_1424 h_1422 q_1423
            obtain ⟨r_1426, rfl, ⟨e_1427, rfl⟩ | ⟨e_1427, rfl⟩, rfl⟩ := q_1423
            · exact absurd (e_1427.1) e_1328
            · show Go B n0 _ h_1313 26 332 349 #[.val (.int p0), .val (.int p1), .val (.int p2), .val (.int p3), .val (.int ca), .val (.int cb), .val (.int cc), .val (.int cd), .val (.int la), .val (.int lb), .val (.int la), .val (.int ld), .val (.int da), .val (.int db), .val (.int dc), .val (.int dd), .val (.ref a_1171), .val (.ref a_1180), .val (.ref a_1234), .val (.int (0 : Int32)), .val (.int (0 : Int32))] [(.int (0 : Int32))]
              refine g_iload C at_349 (v := (0 : Int32)) rfl (pc' := 351) rfl ?_
              refine g_icmp_n C at_351 (Jvm.Free.XT.ii_ne_f (by decide)) (pc' := 354) rfl ?_
              refine g_aload C at_354 (v := (.ref a_1234)) rfl rfl (pc' := 356) rfl ?_
              refine g_aload C at_356 (v := (.ref a_1180)) rfl rfl (pc' := 358) rfl ?_
              refine g_virtual C (own_w hw 58 rfl) (own_w hw 59 rfl) (own_w hw 61 rfl) (own_w hw 60 rfl) (own_w hw 36 rfl) (own_w hw 62 rfl) (notFace_of_selects (args := #[]) (mvT C.2.2.2.2.1 (own_w hw 61 rfl))) (by decide) f_1405 (rm_mneqD l Z a0 hw n0 a_1234 a_1180 a_1261 a_1171 a_1288 a_1201 b_1262 b_1172 b_1289 b_1202 (own_str la da db) (own_str la ca cb) (own_str ld dc dd) (own_str lb cc cd) h_1313 f_1322 cm f_1401 f_1405 f_1318 f_1319 f_1402 f_1403 f_1404 f_1410 f_1411 f_1412 f_1413 (own_sh _ _ _) f_1406 f_1407 f_1408 f_1409 (own_sh _ _ _) f_1418 f_1419 f_1420 f_1421 (own_sh _ _ _) f_1414 f_1415 f_1416 f_1417 (own_sh _ _ _) (Ne.symm ne_1269) (Ne.symm ne_1298)) (st := []) [(.ref a_1180)] rfl rfl own_pd_4_equals rfl rfl (by decide) (W := 0) (Nat.le_of_eq rfl) (by decide) (by decide) (by decide) at_358 (pc' := 361) rfl ?_
              intro v_1430 h_1428 q_1429
              obtain ⟨r_1432, rfl, ⟨e_1433, rfl⟩ | ⟨e_1433, rfl⟩, rfl⟩ := q_1429
              · exact absurd (e_1433.1.symm) e_1328
              · show Go B n0 _ h_1313 26 332 361 #[.val (.int p0), .val (.int p1), .val (.int p2), .val (.int p3), .val (.int ca), .val (.int cb), .val (.int cc), .val (.int cd), .val (.int la), .val (.int lb), .val (.int la), .val (.int ld), .val (.int da), .val (.int db), .val (.int dc), .val (.int dd), .val (.ref a_1171), .val (.ref a_1180), .val (.ref a_1234), .val (.int (0 : Int32)), .val (.int (0 : Int32))] [(.int (0 : Int32))]
                refine g_iload C at_361 (v := (0 : Int32)) rfl (pc' := 363) rfl ?_
                refine g_icmp_n C at_363 (Jvm.Free.XT.ii_ne_f (by decide)) (pc' := 366) rfl ?_
                refine g_iconst C at_366 (v := (1 : Int32)) rfl (pc' := 367) rfl ?_
                refine g_goto C at_367 (pc' := 371) (by decide) (by decide) ?_
                refine g_ret C (eW hW fun vm' hw' => trivial) (v := (.int (1 : Int32))) (ty := .boolean) rfl rfl (Or.inl ⟨rfl, Or.inr (Or.inl rfl), _, rfl⟩) at_371 (by decide) (by decide) ?_
                rfl
        · subst i_1320e
          show Go B n0 _ h_1313 26 332 240 #[.val (.int p0), .val (.int p1), .val (.int p2), .val (.int p3), .val (.int ca), .val (.int cb), .val (.int cc), .val (.int cd), .val (.int la), .val (.int lb), .val (.int la), .val (.int ld), .val (.int da), .val (.int db), .val (.int dc), .val (.int dd), .val (.ref a_1171), .val (.ref a_1180), .val (.ref a_1234), .unset, .unset] [(.int (1 : Int32))]
          refine g_istore C at_240 (v := (1 : Int32)) (L' := #[.val (.int p0), .val (.int p1), .val (.int p2), .val (.int p3), .val (.int ca), .val (.int cb), .val (.int cc), .val (.int cd), .val (.int la), .val (.int lb), .val (.int la), .val (.int ld), .val (.int da), .val (.int db), .val (.int dc), .val (.int dd), .val (.ref a_1171), .val (.ref a_1180), .val (.ref a_1234), .val (.int (1 : Int32)), .unset]) rfl (pc' := 242) rfl ?_
          refine g_iload C at_242 (v := (1 : Int32)) rfl (pc' := 244) rfl ?_
          refine g_iconst C at_244 (v := (1 : Int32)) rfl (pc' := 245) rfl ?_
          refine g_icmp_n C at_245 (Jvm.Free.XT.ii_ne_f (by decide)) (pc' := 248) rfl ?_
          refine g_aload C at_248 (v := (.ref a_1180)) rfl rfl (pc' := 250) rfl ?_
          refine g_aconst_null C at_250 (pc' := 251) rfl ?_
          have f_1434 := (Nat.le_trans f_1312 K_1317.1)
          have f_1435 := ((f_1278.keep K_1291).keep K_1317)
          refine g_virtual C (own_w hw 58 rfl) (own_w hw 59 rfl) (own_w hw 61 rfl) (own_w hw 60 rfl) (own_w hw 36 rfl) (own_w hw 62 rfl) (notFace_of_selects (args := #[]) (mvT C.2.2.2.2.1 (own_w hw 61 rfl))) (by decide) f_1435 (rm_mneqN l Z a0 hw n0 a_1180 h_1313 f_1434 ) (st := []) [.null] rfl rfl own_pd_4_equals rfl rfl (by decide) (W := 0) (Nat.le_of_eq rfl) (by decide) (by decide) (by decide) at_251 (pc' := 254) rfl ?_
          intro v_1438 h_1436 q_1437
          obtain ⟨rfl, rfl⟩ := q_1437
          show Go B n0 _ h_1313 26 332 254 #[.val (.int p0), .val (.int p1), .val (.int p2), .val (.int p3), .val (.int ca), .val (.int cb), .val (.int cc), .val (.int cd), .val (.int la), .val (.int lb), .val (.int la), .val (.int ld), .val (.int da), .val (.int db), .val (.int dc), .val (.int dd), .val (.ref a_1171), .val (.ref a_1180), .val (.ref a_1234), .val (.int (1 : Int32)), .unset] [(.int (0 : Int32))]
          refine g_if_n C at_254 (Jvm.Free.XT.i0_ne_f (by decide)) (pc' := 257) rfl ?_
          refine g_iconst C at_257 (v := (1 : Int32)) rfl (pc' := 258) rfl ?_
          refine g_goto C at_258 (pc' := 262) (by decide) (by decide) ?_
          refine g_ret C (eW hW fun vm' hw' => trivial) (v := (.int (1 : Int32))) (ty := .boolean) rfl rfl (Or.inl ⟨rfl, Or.inr (Or.inl rfl), _, rfl⟩) at_262 (by decide) (by decide) ?_
          rfl
        · subst i_1320e
          show Go B n0 _ h_1313 26 332 240 #[.val (.int p0), .val (.int p1), .val (.int p2), .val (.int p3), .val (.int ca), .val (.int cb), .val (.int cc), .val (.int cd), .val (.int la), .val (.int lb), .val (.int la), .val (.int ld), .val (.int da), .val (.int db), .val (.int dc), .val (.int dd), .val (.ref a_1171), .val (.ref a_1180), .val (.ref a_1234), .unset, .unset] [(.int (2 : Int32))]
          refine g_istore C at_240 (v := (2 : Int32)) (L' := #[.val (.int p0), .val (.int p1), .val (.int p2), .val (.int p3), .val (.int ca), .val (.int cb), .val (.int cc), .val (.int cd), .val (.int la), .val (.int lb), .val (.int la), .val (.int ld), .val (.int da), .val (.int db), .val (.int dc), .val (.int dd), .val (.ref a_1171), .val (.ref a_1180), .val (.ref a_1234), .val (.int (2 : Int32)), .unset]) rfl (pc' := 242) rfl ?_
          refine g_iload C at_242 (v := (2 : Int32)) rfl (pc' := 244) rfl ?_
          refine g_iconst C at_244 (v := (1 : Int32)) rfl (pc' := 245) rfl ?_
          refine g_icmp_y C at_245 (Jvm.Free.XT.ii_ne_t (by decide)) (pc' := 263) (by decide) (by decide) ?_
          refine g_iload C at_263 (v := (2 : Int32)) rfl (pc' := 265) rfl ?_
          refine g_iconst C at_265 (v := (2 : Int32)) rfl (pc' := 266) rfl ?_
          refine g_icmp_n C at_266 (Jvm.Free.XT.ii_ne_f (by decide)) (pc' := 269) rfl ?_
          refine g_aload C at_269 (v := (.ref a_1180)) rfl rfl (pc' := 271) rfl ?_
          refine g_aload C at_271 (v := (.ref a_1171)) rfl rfl (pc' := 273) rfl ?_
          have f_1440 := ((f_1277.keep K_1291).keep K_1317)
          have f_1441 := (Nat.le_trans f_1312 K_1317.1)
          have f_1442 := ((f_1278.keep K_1291).keep K_1317)
          refine g_virtual C (own_w hw 58 rfl) (own_w hw 59 rfl) (own_w hw 61 rfl) (own_w hw 60 rfl) (own_w hw 36 rfl) (own_w hw 62 rfl) (notFace_of_selects (args := #[]) (mvT C.2.2.2.2.1 (own_w hw 61 rfl))) (by decide) f_1442 (rm_mneqT l Z a0 hw n0 a_1180 a_1171 h_1313 f_1441 f_1440) (st := []) [(.ref a_1171)] rfl rfl own_pd_4_equals rfl rfl (by decide) (W := 0) (Nat.le_of_eq rfl) (by decide) (by decide) (by decide) at_273 (pc' := 276) rfl ?_
          intro v_1445 h_1443 q_1444
          obtain ⟨rfl, rfl⟩ := q_1444
          show Go B n0 _ h_1313 26 332 276 #[.val (.int p0), .val (.int p1), .val (.int p2), .val (.int p3), .val (.int ca), .val (.int cb), .val (.int cc), .val (.int cd), .val (.int la), .val (.int lb), .val (.int la), .val (.int ld), .val (.int da), .val (.int db), .val (.int dc), .val (.int dd), .val (.ref a_1171), .val (.ref a_1180), .val (.ref a_1234), .val (.int (2 : Int32)), .unset] [(.int (0 : Int32))]
          refine g_if_n C at_276 (Jvm.Free.XT.i0_ne_f (by decide)) (pc' := 279) rfl ?_
          refine g_iconst C at_279 (v := (1 : Int32)) rfl (pc' := 280) rfl ?_
          refine g_goto C at_280 (pc' := 284) (by decide) (by decide) ?_
          refine g_ret C (eW hW fun vm' hw' => trivial) (v := (.int (1 : Int32))) (ty := .boolean) rfl rfl (Or.inl ⟨rfl, Or.inr (Or.inl rfl), _, rfl⟩) at_284 (by decide) (by decide) ?_
          rfl
        · subst i_1320e
          show Go B n0 _ h_1313 26 332 240 #[.val (.int p0), .val (.int p1), .val (.int p2), .val (.int p3), .val (.int ca), .val (.int cb), .val (.int cc), .val (.int cd), .val (.int la), .val (.int lb), .val (.int la), .val (.int ld), .val (.int da), .val (.int db), .val (.int dc), .val (.int dd), .val (.ref a_1171), .val (.ref a_1180), .val (.ref a_1234), .unset, .unset] [(.int (3 : Int32))]
          refine g_istore C at_240 (v := (3 : Int32)) (L' := #[.val (.int p0), .val (.int p1), .val (.int p2), .val (.int p3), .val (.int ca), .val (.int cb), .val (.int cc), .val (.int cd), .val (.int la), .val (.int lb), .val (.int la), .val (.int ld), .val (.int da), .val (.int db), .val (.int dc), .val (.int dd), .val (.ref a_1171), .val (.ref a_1180), .val (.ref a_1234), .val (.int (3 : Int32)), .unset]) rfl (pc' := 242) rfl ?_
          refine g_iload C at_242 (v := (3 : Int32)) rfl (pc' := 244) rfl ?_
          refine g_iconst C at_244 (v := (1 : Int32)) rfl (pc' := 245) rfl ?_
          refine g_icmp_y C at_245 (Jvm.Free.XT.ii_ne_t (by decide)) (pc' := 263) (by decide) (by decide) ?_
          refine g_iload C at_263 (v := (3 : Int32)) rfl (pc' := 265) rfl ?_
          refine g_iconst C at_265 (v := (2 : Int32)) rfl (pc' := 266) rfl ?_
          refine g_icmp_y C at_266 (Jvm.Free.XT.ii_ne_t (by decide)) (pc' := 285) (by decide) (by decide) ?_
          refine g_iload C at_285 (v := (3 : Int32)) rfl (pc' := 287) rfl ?_
          refine g_iconst C at_287 (v := (3 : Int32)) rfl (pc' := 288) rfl ?_
          refine g_icmp_n C at_288 (Jvm.Free.XT.ii_ne_f (by decide)) (pc' := 291) rfl ?_
          refine g_aload C at_291 (v := (.ref a_1180)) rfl rfl (pc' := 293) rfl ?_
          refine g_aload C at_293 (v := (.ref a_1180)) rfl rfl (pc' := 295) rfl ?_
          have f_1447 := ((f_1278.keep K_1291).keep K_1317)
          have f_1448 := ((((f_1226.ext E_1236).keep K_1264 nin0).keep K_1291 nin0).keep K_1317 (ninS ne_1240 nin0))
          have f_1449 := ((((f_1227.ext E_1236).keep K_1264 nin0).keep K_1291 nin0).keep K_1317 (ninS ne_1240 nin0))
          have f_1450 := ((f_1277.keep K_1291).keep K_1317)
          have f_1451 := ((f_1279.keep K_1291).keep K_1317)
          have f_1452 := (Nat.le_trans f_1312 K_1317.1)
          refine g_virtual C (own_w hw 58 rfl) (own_w hw 59 rfl) (own_w hw 61 rfl) (own_w hw 60 rfl) (own_w hw 36 rfl) (own_w hw 62 rfl) (notFace_of_selects (args := #[]) (mvT C.2.2.2.2.1 (own_w hw 61 rfl))) (by decide) f_1447 (rm_mneqS l Z a0 hw n0 a_1180 a_1171 a_1201 h_1313 f_1452 f_1447 f_1448 f_1449 f_1450 f_1451) (st := []) [(.ref a_1180)] rfl rfl own_pd_4_equals rfl rfl (by decide) (W := 0) (Nat.le_of_eq rfl) (by decide) (by decide) (by decide) at_295 (pc' := 298) rfl ?_
          intro v_1455 h_1453 q_1454
          obtain ⟨rfl, rfl⟩ := q_1454
          show Go B n0 _ h_1313 26 332 298 #[.val (.int p0), .val (.int p1), .val (.int p2), .val (.int p3), .val (.int ca), .val (.int cb), .val (.int cc), .val (.int cd), .val (.int la), .val (.int lb), .val (.int la), .val (.int ld), .val (.int da), .val (.int db), .val (.int dc), .val (.int dd), .val (.ref a_1171), .val (.ref a_1180), .val (.ref a_1234), .val (.int (3 : Int32)), .unset] [(.int (1 : Int32))]
          refine g_ret C (eW hW fun vm' hw' => trivial) (v := (.int (1 : Int32))) (ty := .boolean) rfl rfl (Or.inl ⟨rfl, Or.inr (Or.inl rfl), _, rfl⟩) at_298 (by decide) (by decide) ?_
          rfl
      · refine g_if_n C at_95 (Jvm.Free.XT.i0_eq_f hb_1166) (pc' := 98) rfl ?_
        refine g_iload C at_98 (v := ca) rfl (pc' := 100) rfl ?_
        refine g_iload_n C at_100 (v := p1) rfl (pc' := 101) rfl ?_
        refine g_iconst C at_101 (v := (1 : Int32)) rfl (pc' := 102) rfl ?_
        refine g_iand C (x := p1) (y := (1 : Int32)) at_102  (pc' := 103) rfl ?_
        refine g_ixor C (x := ca) (y := (p1 &&& (1 : Int32))) at_103  (pc' := 104) rfl ?_
        obtain ⟨da, eda⟩ : ∃ z : Int32, z = (ca ^^^ (p1 &&& (1 : Int32))) := ⟨_, rfl⟩
        rw [← eda]
        have kda : Ch da := by rw [eda]; exact own_chX kca _
        refine g_istore C at_104 (v := da) (L' := #[.val (.int p0), .val (.int p1), .val (.int p2), .val (.int p3), .val (.int ca), .val (.int cb), .val (.int cc), .val (.int cd), .val (.int la), .val (.int lb), .val (.int la), .val (.int ld), .val (.int da), .unset, .unset, .unset, .unset, .unset, .unset, .unset, .unset]) rfl (pc' := 106) rfl ?_
        refine g_iload C at_106 (v := cb) rfl (pc' := 108) rfl ?_
        refine g_iload_n C at_108 (v := p1) rfl (pc' := 109) rfl ?_
        refine g_iconst C at_109 (v := (1 : Int32)) rfl (pc' := 110) rfl ?_
        refine g_iushr C (x := p1) (y := (1 : Int32)) at_110  (pc' := 111) rfl ?_
        refine g_iconst C at_111 (v := (1 : Int32)) rfl (pc' := 112) rfl ?_
        refine g_iand C (x := (Jvm.Free.XT.ushr p1 (1 : Int32))) (y := (1 : Int32)) at_112  (pc' := 113) rfl ?_
        refine g_ixor C (x := cb) (y := ((Jvm.Free.XT.ushr p1 (1 : Int32)) &&& (1 : Int32))) at_113  (pc' := 114) rfl ?_
        obtain ⟨db, edb⟩ : ∃ z : Int32, z = (cb ^^^ ((Jvm.Free.XT.ushr p1 (1 : Int32)) &&& (1 : Int32))) := ⟨_, rfl⟩
        rw [← edb]
        have kdb : Ch db := by rw [edb]; exact own_chX kcb _
        refine g_istore C at_114 (v := db) (L' := #[.val (.int p0), .val (.int p1), .val (.int p2), .val (.int p3), .val (.int ca), .val (.int cb), .val (.int cc), .val (.int cd), .val (.int la), .val (.int lb), .val (.int la), .val (.int ld), .val (.int da), .val (.int db), .unset, .unset, .unset, .unset, .unset, .unset, .unset]) rfl (pc' := 116) rfl ?_
        refine g_iload C at_116 (v := cc) rfl (pc' := 118) rfl ?_
        refine g_iload_n C at_118 (v := p1) rfl (pc' := 119) rfl ?_
        refine g_iconst C at_119 (v := (2 : Int32)) rfl (pc' := 120) rfl ?_
        refine g_iushr C (x := p1) (y := (2 : Int32)) at_120  (pc' := 121) rfl ?_
        refine g_iconst C at_121 (v := (1 : Int32)) rfl (pc' := 122) rfl ?_
        refine g_iand C (x := (Jvm.Free.XT.ushr p1 (2 : Int32))) (y := (1 : Int32)) at_122  (pc' := 123) rfl ?_
        refine g_ixor C (x := cc) (y := ((Jvm.Free.XT.ushr p1 (2 : Int32)) &&& (1 : Int32))) at_123  (pc' := 124) rfl ?_
        obtain ⟨dc, edc⟩ : ∃ z : Int32, z = (cc ^^^ ((Jvm.Free.XT.ushr p1 (2 : Int32)) &&& (1 : Int32))) := ⟨_, rfl⟩
        rw [← edc]
        have kdc : Ch dc := by rw [edc]; exact own_chX kcc _
        refine g_istore C at_124 (v := dc) (L' := #[.val (.int p0), .val (.int p1), .val (.int p2), .val (.int p3), .val (.int ca), .val (.int cb), .val (.int cc), .val (.int cd), .val (.int la), .val (.int lb), .val (.int la), .val (.int ld), .val (.int da), .val (.int db), .val (.int dc), .unset, .unset, .unset, .unset, .unset, .unset]) rfl (pc' := 126) rfl ?_
        refine g_iload C at_126 (v := cd) rfl (pc' := 128) rfl ?_
        refine g_iload_n C at_128 (v := p1) rfl (pc' := 129) rfl ?_
        refine g_iconst C at_129 (v := (3 : Int32)) rfl (pc' := 130) rfl ?_
        refine g_iushr C (x := p1) (y := (3 : Int32)) at_130  (pc' := 131) rfl ?_
        refine g_iconst C at_131 (v := (1 : Int32)) rfl (pc' := 132) rfl ?_
        refine g_iand C (x := (Jvm.Free.XT.ushr p1 (3 : Int32))) (y := (1 : Int32)) at_132  (pc' := 133) rfl ?_
        refine g_ixor C (x := cd) (y := ((Jvm.Free.XT.ushr p1 (3 : Int32)) &&& (1 : Int32))) at_133  (pc' := 134) rfl ?_
        obtain ⟨dd, edd⟩ : ∃ z : Int32, z = (cd ^^^ ((Jvm.Free.XT.ushr p1 (3 : Int32)) &&& (1 : Int32))) := ⟨_, rfl⟩
        rw [← edd]
        have kdd : Ch dd := by rw [edd]; exact own_chX kcd _
        refine g_istore C at_134 (v := dd) (L' := #[.val (.int p0), .val (.int p1), .val (.int p2), .val (.int p3), .val (.int ca), .val (.int cb), .val (.int cc), .val (.int cd), .val (.int la), .val (.int lb), .val (.int la), .val (.int ld), .val (.int da), .val (.int db), .val (.int dc), .val (.int dd), .unset, .unset, .unset, .unset, .unset]) rfl (pc' := 136) rfl ?_
        refine g_goto C at_136 (pc' := 176) (by decide) (by decide) ?_
        refine g_iload C at_176 (v := la) rfl (pc' := 178) rfl ?_
        refine g_iload C at_178 (v := ca) rfl (pc' := 180) rfl ?_
        refine g_iload C at_180 (v := cb) rfl (pc' := 182) rfl ?_
        refine g_staticV C hW (own_w hw 0 rfl) (own_w hw 1 rfl) (own_w hw 2 rfl) (own_w hw 3 rfl) (by decide) (rm_str l Z a0 hw n0 la ca cb h0 Z0 cm O ch0 ch1 ch2 cw kca kcb) (fun vm' hw' => InvK.warm I0 hw') (st := []) [(.int la), (.int ca), (.int cb)] rfl rfl own_pd_1_str rfl rfl (by decide) (W := 0) (Nat.le_of_eq rfl) (by decide) (by decide) (by decide) at_182 (pc' := 185) rfl ?_
        intro B C hW v_1459 h_1457 q_1458 I_1460
        obtain ⟨a_1461, b_1462, rfl, le_1463, K_1464, E_1465, f_1466, f_1467, f_1468⟩ := q_1458
        have ge_a_1461 : n0 ≤ a_1461 := Nat.le_trans Z0 le_1463
        have gs_a_1461 : h0.size ≤ a_1461 := Nat.le_trans (Nat.le_refl h0.size) le_1463
        show Go B n0 _ h_1457 4 8 185 #[.val (.int p0), .val (.int p1), .val (.int p2), .val (.int p3), .val (.int ca), .val (.int cb), .val (.int cc), .val (.int cd), .val (.int la), .val (.int lb), .val (.int la), .val (.int ld), .val (.int da), .val (.int db), .val (.int dc), .val (.int dd), .unset, .unset, .unset, .unset, .unset] [(.ref a_1461)]
        refine g_astore C at_185 (v := (.ref a_1461)) (L' := #[.val (.int p0), .val (.int p1), .val (.int p2), .val (.int p3), .val (.int ca), .val (.int cb), .val (.int cc), .val (.int cd), .val (.int la), .val (.int lb), .val (.int la), .val (.int ld), .val (.int da), .val (.int db), .val (.int dc), .val (.int dd), .val (.ref a_1461), .unset, .unset, .unset, .unset]) rfl rfl (pc' := 187) rfl ?_
        refine g_new C (own_w hw 34 rfl) (own_w hw 35 rfl) (own_w hw 36 rfl) (by decide) (by decide) at_187 (pc' := 190) rfl ?_
        intro h_1469 a_1470 g_1471 E_1472 A_1473 D_1474
        have ne_1475 : a_1461 ≠ a_1470 := ne_new E_1465.lt g_1471
        have ne_1476 : b_1462 ≠ a_1470 := ne_new f_1468.lt g_1471
        have f_1477 := (Nat.le_trans Z0 K_1464.1)
        have ge_a_1470 : n0 ≤ a_1470 := Nat.le_trans f_1477 (Nat.le_of_eq g_1471.symm)
        have f_1478 := (Nat.le_trans (Nat.le_refl h0.size) K_1464.1)
        have gs_a_1470 : h0.size ≤ a_1470 := Nat.le_trans f_1478 (Nat.le_of_eq g_1471.symm)
        have f_1479 : Fld Z h_1469 a_1470 "com/example/chiton/chiton/model/MethodName" "className" "Ljava/lang/String;" .null := D_1474 (Or.inr (own_w hw 51 rfl)) (ty := (.object "java/lang/String")) (by decide)
        have f_1480 : Fld Z h_1469 a_1470 "com/example/chiton/chiton/model/MethodName" "methodName" "Ljava/lang/String;" .null := D_1474 (Or.inr (own_w hw 54 rfl)) (ty := (.object "java/lang/String")) (by decide)
        show Go B n0 _ h_1469 5 10 190 #[.val (.int p0), .val (.int p1), .val (.int p2), .val (.int p3), .val (.int ca), .val (.int cb), .val (.int cc), .val (.int cd), .val (.int la), .val (.int lb), .val (.int la), .val (.int ld), .val (.int da), .val (.int db), .val (.int dc), .val (.int dd), .val (.ref a_1461), .unset, .unset, .unset, .unset] [(.ref a_1470)]
        refine g_dup C at_190 rfl (pc' := 191) rfl ?_
        refine g_aload C at_191 (v := (.ref a_1461)) rfl rfl (pc' := 193) rfl ?_
        refine g_iload C at_193 (v := lb) rfl (pc' := 195) rfl ?_
        refine g_iload C at_195 (v := cc) rfl (pc' := 197) rfl ?_
        refine g_iload C at_197 (v := cd) rfl (pc' := 199) rfl ?_
        have f_1481 := ((O.keep K_1464 all0).ext E_1472)
        have f_1482 := (Nat.le_trans f_1477 E_1472.1)
        have f_1483 := (I_1460.ext E_1472)
        have f_1484 := (E_1465.ext E_1472)
        have f_1485 := (f_1468.ext E_1472)
        have f_1486 := (Nat.le_trans f_1478 E_1472.1)
        refine g_staticV C hW (own_w hw 0 rfl) (own_w hw 1 rfl) (own_w hw 2 rfl) (own_w hw 3 rfl) (by decide) (rm_str l Z a0 hw n0 lb cc cd h_1469 f_1482 cm f_1481 ch0 ch1 ch2 cw kcc kcd) (fun vm' hw' => InvK.warm f_1483 hw') (st := [(.ref a_1461), (.ref a_1470), (.ref a_1470)]) [(.int lb), (.int cc), (.int cd)] rfl rfl own_pd_1_str rfl rfl (by decide) (W := 3) (Nat.le_of_eq rfl) (by decide) (by decide) (by decide) at_199 (pc' := 202) rfl ?_
        intro B C hW v_1489 h_1487 q_1488 I_1490
        obtain ⟨a_1491, b_1492, rfl, le_1493, K_1494, E_1495, f_1496, f_1497, f_1498⟩ := q_1488
        have ne_1499 : a_1461 ≠ a_1491 := ne_ge f_1484.lt le_1493
        have ne_1500 : a_1470 ≠ a_1491 := ne_ge A_1473.lt le_1493
        have ne_1501 : b_1462 ≠ a_1491 := ne_ge f_1485.lt le_1493
        have ge_a_1491 : n0 ≤ a_1491 := Nat.le_trans f_1482 le_1493
        have gs_a_1491 : h0.size ≤ a_1491 := Nat.le_trans f_1486 le_1493
        show Go B n0 _ h_1487 9 18 202 #[.val (.int p0), .val (.int p1), .val (.int p2), .val (.int p3), .val (.int ca), .val (.int cb), .val (.int cc), .val (.int cd), .val (.int la), .val (.int lb), .val (.int la), .val (.int ld), .val (.int da), .val (.int db), .val (.int dc), .val (.int dd), .val (.ref a_1461), .unset, .unset, .unset, .unset] [(.ref a_1491), (.ref a_1461), (.ref a_1470), (.ref a_1470)]
        have f_1503 := (A_1473.keep K_1494)
        have f_1504 := (f_1485.keep K_1494 nin0)
        have ne_1502 : b_1462 ≠ a_1470 := own_neA f_1503 f_1504 (own_w hw 35 rfl)
        have ne_1505 : b_1492 ≠ a_1470 := own_neA f_1503 f_1498 (own_w hw 35 rfl)
        have f_1506 := (f_1481.keep K_1494 all0)
        have f_1507 := (f_1479.keep K_1494 nin0)
        have f_1508 := (f_1480.keep K_1494 nin0)
        have f_1509 := (f_1484.keep K_1494)
        have f_1510 := (Nat.le_trans f_1482 K_1494.1)
        refine g_specialV C hW (a := a_1470) rfl (own_w hw 40 rfl) (own_w hw 41 rfl) (own_w hw 36 rfl) (own_w hw 42 rfl) (by decide) (rm_mninit l Z a0 hw n0 a_1470 a_1461 a_1491 h_1487 f_1510 cm f_1506 ch0 ch1 ch2 cw f_1503 f_1507 f_1508 ge_a_1470 f_1509 E_1495) (fun vm' hw' => InvK.warm I_1490 hw') (st := [(.ref a_1470)]) [(.ref a_1461), (.ref a_1491)] rfl rfl own_pd_6_init rfl rfl (by decide) (W := 1) (Nat.le_of_eq rfl) (by decide) (by decide) (by decide) at_202 (pc' := 205) rfl ?_
        intro B C hW v_1513 h_1511 q_1512 I_1514
        obtain ⟨rfl, K_1515, f_1516, f_1517⟩ := q_1512
        show Go B n0 _ h_1511 13 166 205 #[.val (.int p0), .val (.int p1), .val (.int p2), .val (.int p3), .val (.int ca), .val (.int cb), .val (.int cc), .val (.int cd), .val (.int la), .val (.int lb), .val (.int la), .val (.int ld), .val (.int da), .val (.int db), .val (.int dc), .val (.int dd), .val (.ref a_1461), .unset, .unset, .unset, .unset] [(.ref a_1470)]
        refine g_astore C at_205 (v := (.ref a_1470)) (L' := #[.val (.int p0), .val (.int p1), .val (.int p2), .val (.int p3), .val (.int ca), .val (.int cb), .val (.int cc), .val (.int cd), .val (.int la), .val (.int lb), .val (.int la), .val (.int ld), .val (.int da), .val (.int db), .val (.int dc), .val (.int dd), .val (.ref a_1461), .val (.ref a_1470), .unset, .unset, .unset]) rfl rfl (pc' := 207) rfl ?_
        have f_1518 := (f_1509.keep K_1515)
        have f_1519 := (f_1503.keep K_1515)
        have f_1520 := (E_1495.keep K_1515)
        have f_1521 := (f_1504.keep K_1515 (ninS ne_1502 nin0))
        have f_1522 := (f_1498.keep K_1515 (ninS ne_1505 nin0))
        refine g_new C (own_w hw 34 rfl) (own_w hw 35 rfl) (own_w hw 36 rfl) (by decide) (by decide) at_207 (pc' := 210) rfl ?_
        intro h_1523 a_1524 g_1525 E_1526 A_1527 D_1528
        have ne_1529 : a_1461 ≠ a_1524 := ne_new f_1518.lt g_1525
        have ne_1530 : a_1470 ≠ a_1524 := ne_new f_1519.lt g_1525
        have ne_1531 : a_1491 ≠ a_1524 := ne_new f_1520.lt g_1525
        have ne_1532 : b_1462 ≠ a_1524 := ne_new f_1521.lt g_1525
        have ne_1533 : b_1492 ≠ a_1524 := ne_new f_1522.lt g_1525
        have f_1534 := (Nat.le_trans f_1510 K_1515.1)
        have ge_a_1524 : n0 ≤ a_1524 := Nat.le_trans f_1534 (Nat.le_of_eq g_1525.symm)
        have f_1535 := (Nat.le_trans (Nat.le_trans f_1486 K_1494.1) K_1515.1)
        have gs_a_1524 : h0.size ≤ a_1524 := Nat.le_trans f_1535 (Nat.le_of_eq g_1525.symm)
        have f_1536 : Fld Z h_1523 a_1524 "com/example/chiton/chiton/model/MethodName" "className" "Ljava/lang/String;" .null := D_1528 (Or.inr (own_w hw 51 rfl)) (ty := (.object "java/lang/String")) (by decide)
        have f_1537 : Fld Z h_1523 a_1524 "com/example/chiton/chiton/model/MethodName" "methodName" "Ljava/lang/String;" .null := D_1528 (Or.inr (own_w hw 54 rfl)) (ty := (.object "java/lang/String")) (by decide)
        show Go B n0 _ h_1523 14 168 210 #[.val (.int p0), .val (.int p1), .val (.int p2), .val (.int p3), .val (.int ca), .val (.int cb), .val (.int cc), .val (.int cd), .val (.int la), .val (.int lb), .val (.int la), .val (.int ld), .val (.int da), .val (.int db), .val (.int dc), .val (.int dd), .val (.ref a_1461), .val (.ref a_1470), .unset, .unset, .unset] [(.ref a_1524)]
        refine g_dup C at_210 rfl (pc' := 211) rfl ?_
        refine g_iload C at_211 (v := la) rfl (pc' := 213) rfl ?_
        refine g_iload C at_213 (v := da) rfl (pc' := 215) rfl ?_
        refine g_iload C at_215 (v := db) rfl (pc' := 217) rfl ?_
        have f_1538 := ((f_1506.keep K_1515 (allS ge_a_1470 all0)).ext E_1526)
        have f_1539 := (Nat.le_trans f_1534 E_1526.1)
        have f_1540 := (I_1514.ext E_1526)
        have f_1541 := (f_1518.ext E_1526)
        have f_1542 := (f_1519.ext E_1526)
        have f_1543 := (f_1520.ext E_1526)
        have f_1544 := (f_1521.ext E_1526)
        have f_1545 := (f_1522.ext E_1526)
        have f_1546 := (Nat.le_trans f_1535 E_1526.1)
        refine g_staticV C hW (own_w hw 0 rfl) (own_w hw 1 rfl) (own_w hw 2 rfl) (own_w hw 3 rfl) (by decide) (rm_str l Z a0 hw n0 la da db h_1523 f_1539 cm f_1538 ch0 ch1 ch2 cw kda kdb) (fun vm' hw' => InvK.warm f_1540 hw') (st := [(.ref a_1524), (.ref a_1524)]) [(.int la), (.int da), (.int db)] rfl rfl own_pd_1_str rfl rfl (by decide) (W := 2) (Nat.le_of_eq rfl) (by decide) (by decide) (by decide) at_217 (pc' := 220) rfl ?_
        intro B C hW v_1549 h_1547 q_1548 I_1550
        obtain ⟨a_1551, b_1552, rfl, le_1553, K_1554, E_1555, f_1556, f_1557, f_1558⟩ := q_1548
        have ne_1559 : a_1461 ≠ a_1551 := ne_ge f_1541.lt le_1553
        have ne_1560 : a_1470 ≠ a_1551 := ne_ge f_1542.lt le_1553
        have ne_1561 : a_1491 ≠ a_1551 := ne_ge f_1543.lt le_1553
        have ne_1562 : a_1524 ≠ a_1551 := ne_ge A_1527.lt le_1553
        have ne_1563 : b_1462 ≠ a_1551 := ne_ge f_1544.lt le_1553
        have ne_1564 : b_1492 ≠ a_1551 := ne_ge f_1545.lt le_1553
        have ge_a_1551 : n0 ≤ a_1551 := Nat.le_trans f_1539 le_1553
        have gs_a_1551 : h0.size ≤ a_1551 := Nat.le_trans f_1546 le_1553
        show Go B n0 _ h_1547 18 176 220 #[.val (.int p0), .val (.int p1), .val (.int p2), .val (.int p3), .val (.int ca), .val (.int cb), .val (.int cc), .val (.int cd), .val (.int la), .val (.int lb), .val (.int la), .val (.int ld), .val (.int da), .val (.int db), .val (.int dc), .val (.int dd), .val (.ref a_1461), .val (.ref a_1470), .unset, .unset, .unset] [(.ref a_1551), (.ref a_1524), (.ref a_1524)]
        refine g_iload C at_220 (v := ld) rfl (pc' := 222) rfl ?_
        refine g_iload C at_222 (v := dc) rfl (pc' := 224) rfl ?_
        refine g_iload C at_224 (v := dd) rfl (pc' := 226) rfl ?_
        have f_1565 := (f_1538.keep K_1554 all0)
        have f_1566 := (Nat.le_trans f_1539 K_1554.1)
        have f_1567 := (f_1541.keep K_1554)
        have f_1568 := (f_1542.keep K_1554)
        have f_1569 := (f_1543.keep K_1554)
        have f_1570 := (A_1527.keep K_1554)
        have f_1571 := (f_1544.keep K_1554 nin0)
        have f_1572 := (f_1545.keep K_1554 nin0)
        have f_1573 := (Nat.le_trans f_1546 K_1554.1)
        refine g_staticV C hW (own_w hw 0 rfl) (own_w hw 1 rfl) (own_w hw 2 rfl) (own_w hw 3 rfl) (by decide) (rm_str l Z a0 hw n0 ld dc dd h_1547 f_1566 cm f_1565 ch0 ch1 ch2 cw kdc kdd) (fun vm' hw' => InvK.warm I_1550 hw') (st := [(.ref a_1551), (.ref a_1524), (.ref a_1524)]) [(.int ld), (.int dc), (.int dd)] rfl rfl own_pd_1_str rfl rfl (by decide) (W := 3) (Nat.le_of_eq rfl) (by decide) (by decide) (by decide) at_226 (pc' := 229) rfl ?_
        intro B C hW v_1576 h_1574 q_1575 I_1577
        obtain ⟨a_1578, b_1579, rfl, le_1580, K_1581, E_1582, f_1583, f_1584, f_1585⟩ := q_1575
        have ne_1586 : a_1461 ≠ a_1578 := ne_ge f_1567.lt le_1580
        have ne_1587 : a_1470 ≠ a_1578 := ne_ge f_1568.lt le_1580
        have ne_1588 : a_1491 ≠ a_1578 := ne_ge f_1569.lt le_1580
        have ne_1589 : a_1524 ≠ a_1578 := ne_ge f_1570.lt le_1580
        have ne_1590 : a_1551 ≠ a_1578 := ne_ge E_1555.lt le_1580
        have ne_1591 : b_1462 ≠ a_1578 := ne_ge f_1571.lt le_1580
        have ne_1592 : b_1492 ≠ a_1578 := ne_ge f_1572.lt le_1580
        have ne_1593 : b_1552 ≠ a_1578 := ne_ge f_1558.lt le_1580
        have ge_a_1578 : n0 ≤ a_1578 := Nat.le_trans f_1566 le_1580
        have gs_a_1578 : h0.size ≤ a_1578 := Nat.le_trans f_1573 le_1580
        show Go B n0 _ h_1574 22 184 229 #[.val (.int p0), .val (.int p1), .val (.int p2), .val (.int p3), .val (.int ca), .val (.int cb), .val (.int cc), .val (.int cd), .val (.int la), .val (.int lb), .val (.int la), .val (.int ld), .val (.int da), .val (.int db), .val (.int dc), .val (.int dd), .val (.ref a_1461), .val (.ref a_1470), .unset, .unset, .unset] [(.ref a_1578), (.ref a_1551), (.ref a_1524), (.ref a_1524)]
        have f_1595 := (f_1570.keep K_1581)
        have f_1596 := (f_1558.keep K_1581 nin0)
        have ne_1594 : b_1552 ≠ a_1524 := own_neA f_1595 f_1596 (own_w hw 35 rfl)
        have ne_1597 : b_1579 ≠ a_1524 := own_neA f_1595 f_1585 (own_w hw 35 rfl)
        have f_1598 := (f_1565.keep K_1581 all0)
        have f_1599 := ((f_1536.keep K_1554 nin0).keep K_1581 nin0)
        have f_1600 := ((f_1537.keep K_1554 nin0).keep K_1581 nin0)
        have f_1601 := (E_1555.keep K_1581)
        have f_1602 := (Nat.le_trans f_1566 K_1581.1)
        refine g_specialV C hW (a := a_1524) rfl (own_w hw 40 rfl) (own_w hw 41 rfl) (own_w hw 36 rfl) (own_w hw 42 rfl) (by decide) (rm_mninit l Z a0 hw n0 a_1524 a_1551 a_1578 h_1574 f_1602 cm f_1598 ch0 ch1 ch2 cw f_1595 f_1599 f_1600 ge_a_1524 f_1601 E_1582) (fun vm' hw' => InvK.warm I_1577 hw') (st := [(.ref a_1524)]) [(.ref a_1551), (.ref a_1578)] rfl rfl own_pd_6_init rfl rfl (by decide) (W := 1) (Nat.le_of_eq rfl) (by decide) (by decide) (by decide) at_229 (pc' := 232) rfl ?_
        intro B C hW v_1605 h_1603 q_1604 I_1606
        obtain ⟨rfl, K_1607, f_1608, f_1609⟩ := q_1604
        show Go B n0 _ h_1603 26 332 232 #[.val (.int p0), .val (.int p1), .val (.int p2), .val (.int p3), .val (.int ca), .val (.int cb), .val (.int cc), .val (.int cd), .val (.int la), .val (.int lb), .val (.int la), .val (.int ld), .val (.int da), .val (.int db), .val (.int dc), .val (.int dd), .val (.ref a_1461), .val (.ref a_1470), .unset, .unset, .unset] [(.ref a_1524)]
        refine g_astore C at_232 (v := (.ref a_1524)) (L' := #[.val (.int p0), .val (.int p1), .val (.int p2), .val (.int p3), .val (.int ca), .val (.int cb), .val (.int cc), .val (.int cd), .val (.int la), .val (.int lb), .val (.int la), .val (.int ld), .val (.int da), .val (.int db), .val (.int dc), .val (.int dd), .val (.ref a_1461), .val (.ref a_1470), .val (.ref a_1524), .unset, .unset]) rfl rfl (pc' := 234) rfl ?_
        refine g_iload_n C at_234 (v := p2) rfl (pc' := 235) rfl ?_
        refine g_bipush C at_235 (v := (8 : Int32)) rfl (pc' := 237) rfl ?_
        refine g_iushr C (x := p2) (y := (8 : Int32)) at_237  (pc' := 238) rfl ?_
        refine g_iconst C at_238 (v := (3 : Int32)) rfl (pc' := 239) rfl ?_
        refine g_iand C (x := (Jvm.Free.XT.ushr p2 (8 : Int32))) (y := (3 : Int32)) at_239  (pc' := 240) rfl ?_
        obtain ⟨i_1610, hi_1611⟩ : ∃ z : Int32, z = ((Jvm.Free.XT.ushr p2 (8 : Int32)) &&& (3 : Int32)) := ⟨_, rfl⟩
        rw [← hi_1611]
        rcases own_split4 i_1610 (by rw [hi_1611]; exact (own_m3 _).1) (by rw [hi_1611]; exact (own_m3 _).2) with i_1610e | i_1610e | i_1610e | i_1610e
        · subst i_1610e
          show Go B n0 _ h_1603 26 332 240 #[.val (.int p0), .val (.int p1), .val (.int p2), .val (.int p3), .val (.int ca), .val (.int cb), .val (.int cc), .val (.int cd), .val (.int la), .val (.int lb), .val (.int la), .val (.int ld), .val (.int da), .val (.int db), .val (.int dc), .val (.int dd), .val (.ref a_1461), .val (.ref a_1470), .val (.ref a_1524), .unset, .unset] [(.int (0 : Int32))]
          refine g_istore C at_240 (v := (0 : Int32)) (L' := #[.val (.int p0), .val (.int p1), .val (.int p2), .val (.int p3), .val (.int ca), .val (.int cb), .val (.int cc), .val (.int cd), .val (.int la), .val (.int lb), .val (.int la), .val (.int ld), .val (.int da), .val (.int db), .val (.int dc), .val (.int dd), .val (.ref a_1461), .val (.ref a_1470), .val (.ref a_1524), .val (.int (0 : Int32)), .unset]) rfl (pc' := 242) rfl ?_
          refine g_iload C at_242 (v := (0 : Int32)) rfl (pc' := 244) rfl ?_
          refine g_iconst C at_244 (v := (1 : Int32)) rfl (pc' := 245) rfl ?_
          refine g_icmp_y C at_245 (Jvm.Free.XT.ii_ne_t (by decide)) (pc' := 263) (by decide) (by decide) ?_
          refine g_iload C at_263 (v := (0 : Int32)) rfl (pc' := 265) rfl ?_
          refine g_iconst C at_265 (v := (2 : Int32)) rfl (pc' := 266) rfl ?_
          refine g_icmp_y C at_266 (Jvm.Free.XT.ii_ne_t (by decide)) (pc' := 285) (by decide) (by decide) ?_
          refine g_iload C at_285 (v := (0 : Int32)) rfl (pc' := 287) rfl ?_
          refine g_iconst C at_287 (v := (3 : Int32)) rfl (pc' := 288) rfl ?_
          refine g_icmp_y C at_288 (Jvm.Free.XT.ii_ne_t (by decide)) (pc' := 299) (by decide) (by decide) ?_
          refine g_iload C at_299 (v := la) rfl (pc' := 301) rfl ?_
          refine g_iload C at_301 (v := ca) rfl (pc' := 303) rfl ?_
          refine g_iload C at_303 (v := cb) rfl (pc' := 305) rfl ?_
          refine g_iload C at_305 (v := la) rfl (pc' := 307) rfl ?_
          refine g_iload C at_307 (v := da) rfl (pc' := 309) rfl ?_
          refine g_iload C at_309 (v := db) rfl (pc' := 311) rfl ?_
          have f_1612 := (Nat.le_trans f_1602 K_1607.1)
          refine g_static C (own_w hw 55 rfl) (own_w hw 56 rfl) (own_w hw 2 rfl) (own_w hw 57 rfl) (by decide) (rm_same l Z a0 hw n0 la ca cb la da db h_1603 f_1612 rla rla kca kcb kda kdb) (st := []) [(.int la), (.int ca), (.int cb), (.int la), (.int da), (.int db)] rfl rfl own_pd_3_same rfl rfl (by decide) (W := 0) (Nat.le_of_eq rfl) (by decide) (by decide) (by decide) at_311 (pc' := 314) rfl ?_
          intro v_1615 h_1613 q_1614
          obtain ⟨r_1617, rfl, ⟨e_1618, rfl⟩ | ⟨e_1618, rfl⟩, rfl⟩ := q_1614
          · show Go B n0 _ h_1603 26 332 314 #[.val (.int p0), .val (.int p1), .val (.int p2), .val (.int p3), .val (.int ca), .val (.int cb), .val (.int cc), .val (.int cd), .val (.int la), .val (.int lb), .val (.int la), .val (.int ld), .val (.int da), .val (.int db), .val (.int dc), .val (.int dd), .val (.ref a_1461), .val (.ref a_1470), .val (.ref a_1524), .val (.int (0 : Int32)), .unset] [(.int (1 : Int32))]
            refine g_if_n C at_314 (Jvm.Free.XT.i0_eq_f (by decide)) (pc' := 317) rfl ?_
            refine g_iload C at_317 (v := lb) rfl (pc' := 319) rfl ?_
            refine g_iload C at_319 (v := cc) rfl (pc' := 321) rfl ?_
            refine g_iload C at_321 (v := cd) rfl (pc' := 323) rfl ?_
            refine g_iload C at_323 (v := ld) rfl (pc' := 325) rfl ?_
            refine g_iload C at_325 (v := dc) rfl (pc' := 327) rfl ?_
            refine g_iload C at_327 (v := dd) rfl (pc' := 329) rfl ?_
            refine g_static C (own_w hw 55 rfl) (own_w hw 56 rfl) (own_w hw 2 rfl) (own_w hw 57 rfl) (by decide) (rm_same l Z a0 hw n0 lb cc cd ld dc dd h_1603 f_1612 rlb rld kcc kcd kdc kdd) (st := []) [(.int lb), (.int cc), (.int cd), (.int ld), (.int dc), (.int dd)] rfl rfl own_pd_3_same rfl rfl (by decide) (W := 0) (Nat.le_of_eq rfl) (by decide) (by decide) (by decide) at_329 (pc' := 332) rfl ?_
            intro v_1621 h_1619 q_1620
            obtain ⟨r_1623, rfl, ⟨e_1624, rfl⟩ | ⟨e_1624, rfl⟩, rfl⟩ := q_1620
            · show Go B n0 _ h_1603 26 332 332 #[.val (.int p0), .val (.int p1), .val (.int p2), .val (.int p3), .val (.int ca), .val (.int cb), .val (.int cc), .val (.int cd), .val (.int la), .val (.int lb), .val (.int la), .val (.int ld), .val (.int da), .val (.int db), .val (.int dc), .val (.int dd), .val (.ref a_1461), .val (.ref a_1470), .val (.ref a_1524), .val (.int (0 : Int32)), .unset] [(.int (1 : Int32))]
              refine g_if_n C at_332 (Jvm.Free.XT.i0_eq_f (by decide)) (pc' := 335) rfl ?_
              refine g_iconst C at_335 (v := (1 : Int32)) rfl (pc' := 336) rfl ?_
              refine g_goto C at_336 (pc' := 340) (by decide) (by decide) ?_
              refine g_istore C at_340 (v := (1 : Int32)) (L' := #[.val (.int p0), .val (.int p1), .val (.int p2), .val (.int p3), .val (.int ca), .val (.int cb), .val (.int cc), .val (.int cd), .val (.int la), .val (.int lb), .val (.int la), .val (.int ld), .val (.int da), .val (.int db), .val (.int dc), .val (.int dd), .val (.ref a_1461), .val (.ref a_1470), .val (.ref a_1524), .val (.int (0 : Int32)), .val (.int (1 : Int32))]) rfl (pc' := 342) rfl ?_
              refine g_aload C at_342 (v := (.ref a_1470)) rfl rfl (pc' := 344) rfl ?_
              refine g_aload C at_344 (v := (.ref a_1524)) rfl rfl (pc' := 346) rfl ?_
              have f_1625 := (f_1598.keep K_1607 (allS ge_a_1524 all0))
              have f_1626 := ((f_1568.keep K_1581).keep K_1607)
              have f_1627 := ((((f_1516.ext E_1526).keep K_1554 nin0).keep K_1581 nin0).keep K_1607 (ninS ne_1530 nin0))
              have f_1628 := ((((f_1517.ext E_1526).keep K_1554 nin0).keep K_1581 nin0).keep K_1607 (ninS ne_1530 nin0))
              have f_1629 := (f_1595.keep K_1607)
              have f_1630 := ((f_1567.keep K_1581).keep K_1607)
              have f_1631 := (((((((f_1466.ext E_1472).keep K_1494 nin0).keep K_1515 (ninS ne_1475 nin0)).ext E_1526).keep K_1554 nin0).keep K_1581 nin0).keep K_1607 (ninS ne_1529 nin0))
              have f_1632 := (((((((f_1467.ext E_1472).keep K_1494 nin0).keep K_1515 (ninS ne_1475 nin0)).ext E_1526).keep K_1554 nin0).keep K_1581 nin0).keep K_1607 (ninS ne_1529 nin0))
              have f_1633 := ((f_1571.keep K_1581 nin0).keep K_1607 (ninS ne_1532 nin0))
              have f_1634 := (f_1601.keep K_1607)
              have f_1635 := ((f_1556.keep K_1581 nin0).keep K_1607 (ninS (Ne.symm ne_1562) nin0))
              have f_1636 := ((f_1557.keep K_1581 nin0).keep K_1607 (ninS (Ne.symm ne_1562) nin0))
              have f_1637 := (f_1596.keep K_1607 (ninS ne_1594 nin0))
              have f_1638 := ((f_1569.keep K_1581).keep K_1607)
              have f_1639 := (((((f_1496.keep K_1515 (ninS (Ne.symm ne_1500) nin0)).ext E_1526).keep K_1554 nin0).keep K_1581 nin0).keep K_1607 (ninS ne_1531 nin0))
              have f_1640 := (((((f_1497.keep K_1515 (ninS (Ne.symm ne_1500) nin0)).ext E_1526).keep K_1554 nin0).keep K_1581 nin0).keep K_1607 (ninS ne_1531 nin0))
              have f_1641 := ((f_1572.keep K_1581 nin0).keep K_1607 (ninS ne_1533 nin0))
              have f_1642 := (E_1582.keep K_1607)
              have f_1643 := (f_1583.keep K_1607 (ninS (Ne.symm ne_1589) nin0))
              have f_1644 := (f_1584.keep K_1607 (ninS (Ne.symm ne_1589) nin0))
              have f_1645 := (f_1585.keep K_1607 (ninS ne_1597 nin0))
              refine g_virtual C (own_w hw 58 rfl) (own_w hw 59 rfl) (own_w hw 61 rfl) (own_w hw 60 rfl) (own_w hw 36 rfl) (own_w hw 62 rfl) (notFace_of_selects (args := #[]) (mvT C.2.2.2.2.1 (own_w hw 61 rfl))) (by decide) f_1626 (rm_mneqD l Z a0 hw n0 a_1470 a_1524 a_1461 a_1551 a_1491 a_1578 b_1462 b_1552 b_1492 b_1579 (own_str la ca cb) (own_str la da db) (own_str lb cc cd) (own_str ld dc dd) h_1603 f_1612 cm f_1625 f_1626 f_1627 f_1628 f_1629 f_1608 f_1609 f_1630 f_1631 f_1632 f_1633 (own_sh _ _ _) f_1634 f_1635 f_1636 f_1637 (own_sh _ _ _) f_1638 f_1639 f_1640 f_1641 (own_sh _ _ _) f_1642 f_1643 f_1644 f_1645 (own_sh _ _ _) ne_1559 ne_1588) (st := []) [(.ref a_1524)] rfl rfl own_pd_4_equals rfl rfl (by decide) (W := 0) (Nat.le_of_eq rfl) (by decide) (by decide) (by decide) at_346 (pc' := 349) rfl ?_
              intro v_1648 h_1646 q_1647
              obtain ⟨r_1650, rfl, ⟨e_1651, rfl⟩ | ⟨e_1651, rfl⟩, rfl⟩ := q_1647
              · show Go B n0 _ h_1603 26 332 349 #[.val (.int p0), .val (.int p1), .val (.int p2), .val (.int p3), .val (.int ca), .val (.int cb), .val (.int cc), .val (.int cd), .val (.int la), .val (.int lb), .val (.int la), .val (.int ld), .val (.int da), .val (.int db), .val (.int dc), .val (.int dd), .val (.ref a_1461), .val (.ref a_1470), .val (.ref a_1524), .val (.int (0 : Int32)), .val (.int (1 : Int32))] [(.int (1 : Int32))]
                refine g_iload C at_349 (v := (1 : Int32)) rfl (pc' := 351) rfl ?_
                refine g_icmp_n C at_351 (Jvm.Free.XT.ii_ne_f (by decide)) (pc' := 354) rfl ?_
                refine g_aload C at_354 (v := (.ref a_1524)) rfl rfl (pc' := 356) rfl ?_
                refine g_aload C at_356 (v := (.ref a_1470)) rfl rfl (pc' := 358) rfl ?_
                refine g_virtual C (own_w hw 58 rfl) (own_w hw 59 rfl) (own_w hw 61 rfl) (own_w hw 60 rfl) (own_w hw 36 rfl) (own_w hw 62 rfl) (notFace_of_selects (args := #[]) (mvT C.2.2.2.2.1 (own_w hw 61 rfl))) (by decide) f_1629 (rm_mneqD l Z a0 hw n0 a_1524 a_1470 a_1551 a_1461 a_1578 a_1491 b_1552 b_1462 b_1579 b_1492 (own_str la da db) (own_str la ca cb) (own_str ld dc dd) (own_str lb cc cd) h_1603 f_1612 cm f_1625 f_1629 f_1608 f_1609 f_1626 f_1627 f_1628 f_1634 f_1635 f_1636 f_1637 (own_sh _ _ _) f_1630 f_1631 f_1632 f_1633 (own_sh _ _ _) f_1642 f_1643 f_1644 f_1645 (own_sh _ _ _) f_1638 f_1639 f_1640 f_1641 (own_sh _ _ _) (Ne.symm ne_1559) (Ne.symm ne_1588)) (st := []) [(.ref a_1470)] rfl rfl own_pd_4_equals rfl rfl (by decide) (W := 0) (Nat.le_of_eq rfl) (by decide) (by decide) (by decide) at_358 (pc' := 361) rfl ?_
                intro v_1654 h_1652 q_1653
                obtain ⟨r_1656, rfl, ⟨e_1657, rfl⟩ | ⟨e_1657, rfl⟩, rfl⟩ := q_1653
                · show Go B n0 _ h_1603 26 332 361 #[.val (.int p0), .val (.int p1), .val (.int p2), .val (.int p3), .val (.int ca), .val (.int cb), .val (.int cc), .val (.int cd), .val (.int la), .val (.int lb), .val (.int la), .val (.int ld), .val (.int da), .val (.int db), .val (.int dc), .val (.int dd), .val (.ref a_1461), .val (.ref a_1470), .val (.ref a_1524), .val (.int (0 : Int32)), .val (.int (1 : Int32))] [(.int (1 : Int32))]
                  refine g_iload C at_361 (v := (1 : Int32)) rfl (pc' := 363) rfl ?_
                  refine g_icmp_n C at_363 (Jvm.Free.XT.ii_ne_f (by decide)) (pc' := 366) rfl ?_
                  refine g_iconst C at_366 (v := (1 : Int32)) rfl (pc' := 367) rfl ?_
                  refine g_goto C at_367 (pc' := 371) (by decide) (by decide) ?_
                  refine g_ret C (eW hW fun vm' hw' => trivial) (v := (.int (1 : Int32))) (ty := .boolean) rfl rfl (Or.inl ⟨rfl, Or.inr (Or.inl rfl), _, rfl⟩) at_371 (by decide) (by decide) ?_
                  rfl
                · exact absurd ⟨e_1618.symm, e_1624.symm⟩ e_1657
              · exact absurd ⟨e_1618, e_1624⟩ e_1651
            · show Go B n0 _ h_1603 26 332 332 #[.val (.int p0), .val (.int p1), .val (.int p2), .val (.int p3), .val (.int ca), .val (.int cb), .val (.int cc), .val (.int cd), .val (.int la), .val (.int lb), .val (.int la), .val (.int ld), .val (.int da), .val (.int db), .val (.int dc), .val (.int dd), .val (.ref a_1461), .val (.ref a_1470), .val (.ref a_1524), .val (.int (0 : Int32)), .unset] [(.int (0 : Int32))]
              refine g_if_y C at_332 (Jvm.Free.XT.i0_eq_t (by decide)) (pc' := 339) (by decide) (by decide) ?_
              refine g_iconst C at_339 (v := (0 : Int32)) rfl (pc' := 340) rfl ?_
              refine g_istore C at_340 (v := (0 : Int32)) (L' := #[.val (.int p0), .val (.int p1), .val (.int p2), .val (.int p3), .val (.int ca), .val (.int cb), .val (.int cc), .val (.int cd), .val (.int la), .val (.int lb), .val (.int la), .val (.int ld), .val (.int da), .val (.int db), .val (.int dc), .val (.int dd), .val (.ref a_1461), .val (.ref a_1470), .val (.ref a_1524), .val (.int (0 : Int32)), .val (.int (0 : Int32))]) rfl (pc' := 342) rfl ?_
              refine g_aload C at_342 (v := (.ref a_1470)) rfl rfl (pc' := 344) rfl ?_
              refine g_aload C at_344 (v := (.ref a_1524)) rfl rfl (pc' := 346) rfl ?_
              have f_1658 := (f_1598.keep K_1607 (allS ge_a_1524 all0))
              have f_1659 := ((f_1568.keep K_1581).keep K_1607)
              have f_1660 := ((((f_1516.ext E_1526).keep K_1554 nin0).keep K_1581 nin0).keep K_1607 (ninS ne_1530 nin0))
              have f_1661 := ((((f_1517.ext E_1526).keep K_1554 nin0).keep K_1581 nin0).keep K_1607 (ninS ne_1530 nin0))
              have f_1662 := (f_1595.keep K_1607)
              have f_1663 := ((f_1567.keep K_1581).keep K_1607)
              have f_1664 := (((((((f_1466.ext E_1472).keep K_1494 nin0).keep K_1515 (ninS ne_1475 nin0)).ext E_1526).keep K_1554 nin0).keep K_1581 nin0).keep K_1607 (ninS ne_1529 nin0))
              have f_1665 := (((((((f_1467.ext E_1472).keep K_1494 nin0).keep K_1515 (ninS ne_1475 nin0)).ext E_1526).keep K_1554 nin0).keep K_1581 nin0).keep K_1607 (ninS ne_1529 nin0))
              have f_1666 := ((f_1571.keep K_1581 nin0).keep K_1607 (ninS ne_1532 nin0))
              have f_1667 := (f_1601.keep K_1607)
              have f_1668 := ((f_1556.keep K_1581 nin0).keep K_1607 (ninS (Ne.symm ne_1562) nin0))
              have f_1669 := ((f_1557.keep K_1581 nin0).keep K_1607 (ninS (Ne.symm ne_1562) nin0))
              have f_1670 := (f_1596.keep K_1607 (ninS ne_1594 nin0))
              have f_1671 := ((f_1569.keep K_1581).keep K_1607)
              have f_1672 := (((((f_1496.keep K_1515 (ninS (Ne.symm ne_1500) nin0)).ext E_1526).keep K_1554 nin0).keep K_1581 nin0).keep K_1607 (ninS ne_1531 nin0))
              have f_1673 := (((((f_1497.keep K_1515 (ninS (Ne.symm ne_1500) nin0)).ext E_1526).keep K_1554 nin0).keep K_1581 nin0).keep K_1607 (ninS ne_1531 nin0))
              have f_1674 := ((f_1572.keep K_1581 nin0).keep K_1607 (ninS ne_1533 nin0))
              have f_1675 := (E_1582.keep K_1607)
              have f_1676 := (f_1583.keep K_1607 (ninS (Ne.symm ne_1589) nin0))
              have f_1677 := (f_1584.keep K_1607 (ninS (Ne.symm ne_1589) nin0))
              have f_1678 := (f_1585.keep K_1607 (ninS ne_1597 nin0))
              refine g_virtual C (own_w hw 58 rfl) (own_w hw 59 rfl) (own_w hw 61 rfl) (own_w hw 60 rfl) (own_w hw 36 rfl) (own_w hw 62 rfl) (notFace_of_selects (args := #[]) (mvT C.2.2.2.2.1 (own_w hw 61 rfl))) (by decide) f_1659 (rm_mneqD l Z a0 hw n0 a_1470 a_1524 a_1461 a_1551 a_1491 a_1578 b_1462 b_1552 b_1492 b_1579 (own_str la ca cb) (own_str la da db) (own_str lb cc cd) (own_str ld dc dd) h_1603 f_1612 cm f_1658 f_1659 f_1660 f_1661 f_1662 f_1608 f_1609 f_1663 f_1664 f_1665 f_1666 (own_sh _ _ _) f_1667 f_1668 f_1669 f_1670 (own_sh _ _ _) f_1671 f_1672 f_1673 f_1674 (own_sh _ _ _) f_1675 f_1676 f_1677 f_1678 (own_sh _ _ _) ne_1559 ne_1588) (st := []) [(.ref a_1524)] rfl rfl own_pd_4_equals rfl rfl (by decide) (W := 0) (Nat.le_of_eq rfl) (by decide) (by decide) (by decide) at_346 (pc' := 349) rfl ?_
              intro v_1681 h_1679 q_1680
              obtain ⟨r_1683, rfl, ⟨e_1684, rfl⟩ | ⟨e_1684, rfl⟩, rfl⟩ := q_1680
              · exact absurd (e_1684.2) e_1624
              · show Go B n0 _ h_1603 26 332 349 #[.val (.int p0), .val (.int p1), .val (.int p2), .val (.int p3), .val (.int ca), .val (.int cb), .val (.int cc), .val (.int cd), .val (.int la), .val (.int lb), .val (.int la), .val (.int ld), .val (.int da), .val (.int db), .val (.int dc), .val (.int dd), .val (.ref a_1461), .val (.ref a_1470), .val (.ref a_1524), .val (.int (0 : Int32)), .val (.int (0 : Int32))] [(.int (0 : Int32))]
                refine g_iload C at_349 (v := (0 : Int32)) rfl (pc' := 351) rfl ?_
                refine g_icmp_n C at_351 (Jvm.Free.XT.ii_ne_f (by decide)) (pc' := 354) rfl ?_
                refine g_aload C at_354 (v := (.ref a_1524)) rfl rfl (pc' := 356) rfl ?_
                refine g_aload C at_356 (v := (.ref a_1470)) rfl rfl (pc' := 358) rfl ?_
                refine g_virtual C (own_w hw 58 rfl) (own_w hw 59 rfl) (own_w hw 61 rfl) (own_w hw 60 rfl) (own_w hw 36 rfl) (own_w hw 62 rfl) (notFace_of_selects (args := #[]) (mvT C.2.2.2.2.1 (own_w hw 61 rfl))) (by decide) f_1662 (rm_mneqD l Z a0 hw n0 a_1524 a_1470 a_1551 a_1461 a_1578 a_1491 b_1552 b_1462 b_1579 b_1492 (own_str la da db) (own_str la ca cb) (own_str ld dc dd) (own_str lb cc cd) h_1603 f_1612 cm f_1658 f_1662 f_1608 f_1609 f_1659 f_1660 f_1661 f_1667 f_1668 f_1669 f_1670 (own_sh _ _ _) f_1663 f_1664 f_1665 f_1666 (own_sh _ _ _) f_1675 f_1676 f_1677 f_1678 (own_sh _ _ _) f_1671 f_1672 f_1673 f_1674 (own_sh _ _ _) (Ne.symm ne_1559) (Ne.symm ne_1588)) (st := []) [(.ref a_1470)] rfl rfl own_pd_4_equals rfl rfl (by decide) (W := 0) (Nat.le_of_eq rfl) (by decide) (by decide) (by decide) at_358 (pc' := 361) rfl ?_
                intro v_1687 h_1685 q_1686
                obtain ⟨r_1689, rfl, ⟨e_1690, rfl⟩ | ⟨e_1690, rfl⟩, rfl⟩ := q_1686
                · exact absurd (e_1690.2.symm) e_1624
                · show Go B n0 _ h_1603 26 332 361 #[.val (.int p0), .val (.int p1), .val (.int p2), .val (.int p3), .val (.int ca), .val (.int cb), .val (.int cc), .val (.int cd), .val (.int la), .val (.int lb), .val (.int la), .val (.int ld), .val (.int da), .val (.int db), .val (.int dc), .val (.int dd), .val (.ref a_1461), .val (.ref a_1470), .val (.ref a_1524), .val (.int (0 : Int32)), .val (.int (0 : Int32))] [(.int (0 : Int32))]
                  refine g_iload C at_361 (v := (0 : Int32)) rfl (pc' := 363) rfl ?_
                  refine g_icmp_n C at_363 (Jvm.Free.XT.ii_ne_f (by decide)) (pc' := 366) rfl ?_
                  refine g_iconst C at_366 (v := (1 : Int32)) rfl (pc' := 367) rfl ?_
                  refine g_goto C at_367 (pc' := 371) (by decide) (by decide) ?_
                  refine g_ret C (eW hW fun vm' hw' => trivial) (v := (.int (1 : Int32))) (ty := .boolean) rfl rfl (Or.inl ⟨rfl, Or.inr (Or.inl rfl), _, rfl⟩) at_371 (by decide) (by decide) ?_
                  rfl
          · show Go B n0 _ h_1603 26 332 314 #[.val (.int p0), .val (.int p1), .val (.int p2), .val (.int p3), .val (.int ca), .val (.int cb), .val (.int cc), .val (.int cd), .val (.int la), .val (.int lb), .val (.int la), .val (.int ld), .val (.int da), .val (.int db), .val (.int dc), .val (.int dd), .val (.ref a_1461), .val (.ref a_1470), .val (.ref a_1524), .val (.int (0 : Int32)), .unset] [(.int (0 : Int32))]
            refine g_if_y C at_314 (Jvm.Free.XT.i0_eq_t (by decide)) (pc' := 339) (by decide) (by decide) ?_
            refine g_iconst C at_339 (v := (0 : Int32)) rfl (pc' := 340) rfl ?_
            refine g_istore C at_340 (v := (0 : Int32)) (L' := #[.val (.int p0), .val (.int p1), .val (.int p2), .val (.int p3), .val (.int ca), .val (.int cb), .val (.int cc), .val (.int cd), .val (.int la), .val (.int lb), .val (.int la), .val (.int ld), .val (.int da), .val (.int db), .val (.int dc), .val (.int dd), .val (.ref a_1461), .val (.ref a_1470), .val (.ref a_1524), .val (.int (0 : Int32)), .val (.int (0 : Int32))]) rfl (pc' := 342) rfl ?_
            refine g_aload C at_342 (v := (.ref a_1470)) rfl rfl (pc' := 344) rfl ?_
            refine g_aload C at_344 (v := (.ref a_1524)) rfl rfl (pc' := 346) rfl ?_
            have f_1691 := (f_1598.keep K_1607 (allS ge_a_1524 all0))
            have f_1692 := ((f_1568.keep K_1581).keep K_1607)
            have f_1693 := ((((f_1516.ext E_1526).keep K_1554 nin0).keep K_1581 nin0).keep K_1607 (ninS ne_1530 nin0))
            have f_1694 := ((((f_1517.ext E_1526).keep K_1554 nin0).keep K_1581 nin0).keep K_1607 (ninS ne_1530 nin0))
            have f_1695 := (f_1595.keep K_1607)
            have f_1696 := ((f_1567.keep K_1581).keep K_1607)
            have f_1697 := (((((((f_1466.ext E_1472).keep K_1494 nin0).keep K_1515 (ninS ne_1475 nin0)).ext E_1526).keep K_1554 nin0).keep K_1581 nin0).keep K_1607 (ninS ne_1529 nin0))
            have f_1698 := (((((((f_1467.ext E_1472).keep K_1494 nin0).keep K_1515 (ninS ne_1475 nin0)).ext E_1526).keep K_1554 nin0).keep K_1581 nin0).keep K_1607 (ninS ne_1529 nin0))
            have f_1699 := ((f_1571.keep K_1581 nin0).keep K_1607 (ninS ne_1532 nin0))
            have f_1700 := (f_1601.keep K_1607)
            have f_1701 := ((f_1556.keep K_1581 nin0).keep K_1607 (ninS (Ne.symm ne_1562) nin0))
            have f_1702 := ((f_1557.keep K_1581 nin0).keep K_1607 (ninS (Ne.symm ne_1562) nin0))
            have f_1703 := (f_1596.keep K_1607 (ninS ne_1594 nin0))
            have f_1704 := ((f_1569.keep K_1581).keep K_1607)
            have f_1705 := (((((f_1496.keep K_1515 (ninS (Ne.symm ne_1500) nin0)).ext E_1526).keep K_1554 nin0).keep K_1581 nin0).keep K_1607 (ninS ne_1531 nin0))
            have f_1706 := (((((f_1497.keep K_1515 (ninS (Ne.symm ne_1500) nin0)).ext E_1526).keep K_1554 nin0).keep K_1581 nin0).keep K_1607 (ninS ne_1531 nin0))
            have f_1707 := ((f_1572.keep K_1581 nin0).keep K_1607 (ninS ne_1533 nin0))
            have f_1708 := (E_1582.keep K_1607)
            have f_1709 := (f_1583.keep K_1607 (ninS (Ne.symm ne_1589) nin0))
            have f_1710 := (f_1584.keep K_1607 (ninS (Ne.symm ne_1589) nin0))
            have f_1711 := (f_1585.keep K_1607 (ninS ne_1597 nin0))
            refine g_virtual C (own_w hw 58 rfl) (own_w hw 59 rfl) (own_w hw 61 rfl) (own_w hw 60 rfl) (own_w hw 36 rfl) (own_w hw 62 rfl) (notFace_of_selects (args := #[]) (mvT C.2.2.2.2.1 (own_w hw 61 rfl))) (by decide) f_1692 (rm_mneqD l Z a0 hw n0 a_1470 a_1524 a_1461 a_1551 a_1491 a_1578 b_1462 b_1552 b_1492 b_1579 (own_str la ca cb) (own_str la da db) (own_str lb cc cd) (own_str ld dc dd) h_1603 f_1612 cm f_1691 f_1692 f_1693 f_1694 f_1695 f_1608 f_1609 f_1696 f_1697 f_1698 f_1699 (own_sh _ _ _) f_1700 f_1701 f_1702 f_1703 (own_sh _ _ _) f_1704 f_1705 f_1706 f_1707 (own_sh _ _ _) f_1708 f_1709 f_1710 f_1711 (own_sh _ _ _) ne_1559 ne_1588) (st := []) [(.ref a_1524)] rfl rfl own_pd_4_equals rfl rfl (by decide) (W := 0) (Nat.le_of_eq rfl) (by decide) (by decide) (by decide) at_346 (pc' := 349) rfl ?_
            intro v_1714 h_1712 q_1713
            obtain ⟨r_1716, rfl, ⟨e_1717, rfl⟩ | ⟨e_1717, rfl⟩, rfl⟩ := q_1713
            · exact absurd (e_1717.1) e_1618
            · show Go B n0 _ h_1603 26 332 349 #[.val (.int p0), .val (.int p1), .val (.int p2), .val (.int p3), .val (.int ca), .val (.int cb), .val (.int cc), .val (.int cd), .val (.int la), .val (.int lb), .val (.int la), .val (.int ld), .val (.int da), .val (.int db), .val (.int dc), .val (.int dd), .val (.ref a_1461), .val (.ref a_1470), .val (.ref a_1524), .val (.int (0 : Int32)), .val (.int (0 : Int32))] [(.int (0 : Int32))]
              refine g_iload C at_349 (v := (0 : Int32)) rfl (pc' := 351) rfl ?_
              refine g_icmp_n C at_351 (Jvm.Free.XT.ii_ne_f (by decide)) (pc' := 354) rfl ?_
              refine g_aload C at_354 (v := (.ref a_1524)) rfl rfl (pc' := 356) rfl ?_
              refine g_aload C at_356 (v := (.ref a_1470)) rfl rfl (pc' := 358) rfl ?_
              refine g_virtual C (own_w hw 58 rfl) (own_w hw 59 rfl) (own_w hw 61 rfl) (own_w hw 60 rfl) (own_w hw 36 rfl) (own_w hw 62 rfl) (notFace_of_selects (args := #[]) (mvT C.2.2.2.2.1 (own_w hw 61 rfl))) (by decide) f_1695 (rm_mneqD l Z a0 hw n0 a_1524 a_1470 a_1551 a_1461 a_1578 a_1491 b_1552 b_1462 b_1579 b_1492 (own_str la da db) (own_str la ca cb) (own_str ld dc dd) (own_str lb cc cd) h_1603 f_1612 cm f_1691 f_1695 f_1608 f_1609 f_1692 f_1693 f_1694 f_1700 f_1701 f_1702 f_1703 (own_sh _ _ _) f_1696 f_1697 f_1698 f_1699 (own_sh _ _ _) f_1708 f_1709 f_1710 f_1711 (own_sh _ _ _) f_1704 f_1705 f_1706 f_1707 (own_sh _ _ _) (Ne.symm ne_1559) (Ne.symm ne_1588)) (st := []) [(.ref a_1470)] rfl rfl own_pd_4_equals rfl rfl (by decide) (W := 0) (Nat.le_of_eq rfl) (by decide) (by decide) (by decide) at_358 (pc' := 361) rfl ?_
              intro v_1720 h_1718 q_1719
              obtain ⟨r_1722, rfl, ⟨e_1723, rfl⟩ | ⟨e_1723, rfl⟩, rfl⟩ := q_1719
              · exact absurd (e_1723.1.symm) e_1618
              · show Go B n0 _ h_1603 26 332 361 #[.val (.int p0), .val (.int p1), .val (.int p2), .val (.int p3), .val (.int ca), .val (.int cb), .val (.int cc), .val (.int cd), .val (.int la), .val (.int lb), .val (.int la), .val (.int ld), .val (.int da), .val (.int db), .val (.int dc), .val (.int dd), .val (.ref a_1461), .val (.ref a_1470), .val (.ref a_1524), .val (.int (0 : Int32)), .val (.int (0 : Int32))] [(.int (0 : Int32))]
                refine g_iload C at_361 (v := (0 : Int32)) rfl (pc' := 363) rfl ?_
                refine g_icmp_n C at_363 (Jvm.Free.XT.ii_ne_f (by decide)) (pc' := 366) rfl ?_
                refine g_iconst C at_366 (v := (1 : Int32)) rfl (pc' := 367) rfl ?_
                refine g_goto C at_367 (pc' := 371) (by decide) (by decide) ?_
                refine g_ret C (eW hW fun vm' hw' => trivial) (v := (.int (1 : Int32))) (ty := .boolean) rfl rfl (Or.inl ⟨rfl, Or.inr (Or.inl rfl), _, rfl⟩) at_371 (by decide) (by decide) ?_
                rfl
        · subst i_1610e
          show Go B n0 _ h_1603 26 332 240 #[.val (.int p0), .val (.int p1), .val (.int p2), .val (.int p3), .val (.int ca), .val (.int cb), .val (.int cc), .val (.int cd), .val (.int la), .val (.int lb), .val (.int la), .val (.int ld), .val (.int da), .val (.int db), .val (.int dc), .val (.int dd), .val (.ref a_1461), .val (.ref a_1470), .val (.ref a_1524), .unset, .unset] [(.int (1 : Int32))]
          refine g_istore C at_240 (v := (1 : Int32)) (L' := #[.val (.int p0), .val (.int p1), .val (.int p2), .val (.int p3), .val (.int ca), .val (.int cb), .val (.int cc), .val (.int cd), .val (.int la), .val (.int lb), .val (.int la), .val (.int ld), .val (.int da), .val (.int db), .val (.int dc), .val (.int dd), .val (.ref a_1461), .val (.ref a_1470), .val (.ref a_1524), .val (.int (1 : Int32)), .unset]) rfl (pc' := 242) rfl ?_
          refine g_iload C at_242 (v := (1 : Int32)) rfl (pc' := 244) rfl ?_
          refine g_iconst C at_244 (v := (1 : Int32)) rfl (pc' := 245) rfl ?_
          refine g_icmp_n C at_245 (Jvm.Free.XT.ii_ne_f (by decide)) (pc' := 248) rfl ?_
          refine g_aload C at_248 (v := (.ref a_1470)) rfl rfl (pc' := 250) rfl ?_
          refine g_aconst_null C at_250 (pc' := 251) rfl ?_
          have f_1724 := (Nat.le_trans f_1602 K_1607.1)
          have f_1725 := ((f_1568.keep K_1581).keep K_1607)
          refine g_virtual C (own_w hw 58 rfl) (own_w hw 59 rfl) (own_w hw 61 rfl) (own_w hw 60 rfl) (own_w hw 36 rfl) (own_w hw 62 rfl) (notFace_of_selects (args := #[]) (mvT C.2.2.2.2.1 (own_w hw 61 rfl))) (by decide) f_1725 (rm_mneqN l Z a0 hw n0 a_1470 h_1603 f_1724 ) (st := []) [.null] rfl rfl own_pd_4_equals rfl rfl (by decide) (W := 0) (Nat.le_of_eq rfl) (by decide) (by decide) (by decide) at_251 (pc' := 254) rfl ?_
          intro v_1728 h_1726 q_1727
          obtain ⟨rfl, rfl⟩ := q_1727
          show Go B n0 _ h_1603 26 332 254 #[.val (.int p0), .val (.int p1), .val (.int p2), .val (.int p3), .val (.int ca), .val (.int cb), .val (.int cc), .val (.int cd), .val (.int la), .val (.int lb), .val (.int la), .val (.int ld), .val (.int da), .val (.int db), .val (.int dc), .val (.int dd), .val (.ref a_1461), .val (.ref a_1470), .val (.ref a_1524), .val (.int (1 : Int32)), .unset] [(.int (0 : Int32))]
          refine g_if_n C at_254 (Jvm.Free.XT.i0_ne_f (by decide)) (pc' := 257) rfl ?_
          refine g_iconst C at_257 (v := (1 : Int32)) rfl (pc' := 258) rfl ?_
          refine g_goto C at_258 (pc' := 262) (by decide) (by decide) ?_
          refine g_ret C (eW hW fun vm' hw' => trivial) (v := (.int (1 : Int32))) (ty := .boolean) rfl rfl (Or.inl ⟨rfl, Or.inr (Or.inl rfl), _, rfl⟩) at_262 (by decide) (by decide) ?_
          rfl
        · subst i_1610e
          show Go B n0 _ h_1603 26 332 240 #[.val (.int p0), .val (.int p1), .val (.int p2), .val (.int p3), .val (.int ca), .val (.int cb), .val (.int cc), .val (.int cd), .val (.int la), .val (.int lb), .val (.int la), .val (.int ld), .val (.int da), .val (.int db), .val (.int dc), .val (.int dd), .val (.ref a_1461), .val (.ref a_1470), .val (.ref a_1524), .unset, .unset] [(.int (2 : Int32))]
          refine g_istore C at_240 (v := (2 : Int32)) (L' := #[.val (.int p0), .val (.int p1), .val (.int p2), .val (.int p3), .val (.int ca), .val (.int cb), .val (.int cc), .val (.int cd), .val (.int la), .val (.int lb), .val (.int la), .val (.int ld), .val (.int da), .val (.int db), .val (.int dc), .val (.int dd), .val (.ref a_1461), .val (.ref a_1470), .val (.ref a_1524), .val (.int (2 : Int32)), .unset]) rfl (pc' := 242) rfl ?_
          refine g_iload C at_242 (v := (2 : Int32)) rfl (pc' := 244) rfl ?_
          refine g_iconst C at_244 (v := (1 : Int32)) rfl (pc' := 245) rfl ?_
          refine g_icmp_y C at_245 (Jvm.Free.XT.ii_ne_t (by decide)) (pc' := 263) (by decide) (by decide) ?_
          refine g_iload C at_263 (v := (2 : Int32)) rfl (pc' := 265) rfl ?_
          refine g_iconst C at_265 (v := (2 : Int32)) rfl (pc' := 266) rfl ?_
          refine g_icmp_n C at_266 (Jvm.Free.XT.ii_ne_f (by decide)) (pc' := 269) rfl ?_
          refine g_aload C at_269 (v := (.ref a_1470)) rfl rfl (pc' := 271) rfl ?_
          refine g_aload C at_271 (v := (.ref a_1461)) rfl rfl (pc' := 273) rfl ?_
          have f_1730 := ((f_1567.keep K_1581).keep K_1607)
          have f_1731 := (Nat.le_trans f_1602 K_1607.1)
          have f_1732 := ((f_1568.keep K_1581).keep K_1607)
          refine g_virtual C (own_w hw 58 rfl) (own_w hw 59 rfl) (own_w hw 61 rfl) (own_w hw 60 rfl) (own_w hw 36 rfl) (own_w hw 62 rfl) (notFace_of_selects (args := #[]) (mvT C.2.2.2.2.1 (own_w hw 61 rfl))) (by decide) f_1732 (rm_mneqT l Z a0 hw n0 a_1470 a_1461 h_1603 f_1731 f_1730) (st := []) [(.ref a_1461)] rfl rfl own_pd_4_equals rfl rfl (by decide) (W := 0) (Nat.le_of_eq rfl) (by decide) (by decide) (by decide) at_273 (pc' := 276) rfl ?_
          intro v_1735 h_1733 q_1734
          obtain ⟨rfl, rfl⟩ := q_1734
          show Go B n0 _ h_1603 26 332 276 #[.val (.int p0), .val (.int p1), .val (.int p2), .val (.int p3), .val (.int ca), .val (.int cb), .val (.int cc), .val (.int cd), .val (.int la), .val (.int lb), .val (.int la), .val (.int ld), .val (.int da), .val (.int db), .val (.int dc), .val (.int dd), .val (.ref a_1461), .val (.ref a_1470), .val (.ref a_1524), .val (.int (2 : Int32)), .unset] [(.int (0 : Int32))]
          refine g_if_n C at_276 (Jvm.Free.XT.i0_ne_f (by decide)) (pc' := 279) rfl ?_
          refine g_iconst C at_279 (v := (1 : Int32)) rfl (pc' := 280) rfl ?_
          refine g_goto C at_280 (pc' := 284) (by decide) (by decide) ?_
          refine g_ret C (eW hW fun vm' hw' => trivial) (v := (.int (1 : Int32))) (ty := .boolean) rfl rfl (Or.inl ⟨rfl, Or.inr (Or.inl rfl), _, rfl⟩) at_284 (by decide) (by decide) ?_
          rfl
        · subst i_1610e
          show Go B n0 _ h_1603 26 332 240 #[.val (.int p0), .val (.int p1), .val (.int p2), .val (.int p3), .val (.int ca), .val (.int cb), .val (.int cc), .val (.int cd), .val (.int la), .val (.int lb), .val (.int la), .val (.int ld), .val (.int da), .val (.int db), .val (.int dc), .val (.int dd), .val (.ref a_1461), .val (.ref a_1470), .val (.ref a_1524), .unset, .unset] [(.int (3 : Int32))]
          refine g_istore C at_240 (v := (3 : Int32)) (L' := #[.val (.int p0), .val (.int p1), .val (.int p2), .val (.int p3), .val (.int ca), .val (.int cb), .val (.int cc), .val (.int cd), .val (.int la), .val (.int lb), .val (.int la), .val (.int ld), .val (.int da), .val (.int db), .val (.int dc), .val (.int dd), .val (.ref a_1461), .val (.ref a_1470), .val (.ref a_1524), .val (.int (3 : Int32)), .unset]) rfl (pc' := 242) rfl ?_
          refine g_iload C at_242 (v := (3 : Int32)) rfl (pc' := 244) rfl ?_
          refine g_iconst C at_244 (v := (1 : Int32)) rfl (pc' := 245) rfl ?_
          refine g_icmp_y C at_245 (Jvm.Free.XT.ii_ne_t (by decide)) (pc' := 263) (by decide) (by decide) ?_
          refine g_iload C at_263 (v := (3 : Int32)) rfl (pc' := 265) rfl ?_
          refine g_iconst C at_265 (v := (2 : Int32)) rfl (pc' := 266) rfl ?_
          refine g_icmp_y C at_266 (Jvm.Free.XT.ii_ne_t (by decide)) (pc' := 285) (by decide) (by decide) ?_
          refine g_iload C at_285 (v := (3 : Int32)) rfl (pc' := 287) rfl ?_
          refine g_iconst C at_287 (v := (3 : Int32)) rfl (pc' := 288) rfl ?_
          refine g_icmp_n C at_288 (Jvm.Free.XT.ii_ne_f (by decide)) (pc' := 291) rfl ?_
          refine g_aload C at_291 (v := (.ref a_1470)) rfl rfl (pc' := 293) rfl ?_
          refine g_aload C at_293 (v := (.ref a_1470)) rfl rfl (pc' := 295) rfl ?_
          have f_1737 := ((f_1568.keep K_1581).keep K_1607)
          have f_1738 := ((((f_1516.ext E_1526).keep K_1554 nin0).keep K_1581 nin0).keep K_1607 (ninS ne_1530 nin0))
          have f_1739 := ((((f_1517.ext E_1526).keep K_1554 nin0).keep K_1581 nin0).keep K_1607 (ninS ne_1530 nin0))
          have f_1740 := ((f_1567.keep K_1581).keep K_1607)
          have f_1741 := ((f_1569.keep K_1581).keep K_1607)
          have f_1742 := (Nat.le_trans f_1602 K_1607.1)
          refine g_virtual C (own_w hw 58 rfl) (own_w hw 59 rfl) (own_w hw 61 rfl) (own_w hw 60 rfl) (own_w hw 36 rfl) (own_w hw 62 rfl) (notFace_of_selects (args := #[]) (mvT C.2.2.2.2.1 (own_w hw 61 rfl))) (by decide) f_1737 (rm_mneqS l Z a0 hw n0 a_1470 a_1461 a_1491 h_1603 f_1742 f_1737 f_1738 f_1739 f_1740 f_1741) (st := []) [(.ref a_1470)] rfl rfl own_pd_4_equals rfl rfl (by decide) (W := 0) (Nat.le_of_eq rfl) (by decide) (by decide) (by decide) at_295 (pc' := 298) rfl ?_
          intro v_1745 h_1743 q_1744
          obtain ⟨rfl, rfl⟩ := q_1744
          show Go B n0 _ h_1603 26 332 298 #[.val (.int p0), .val (.int p1), .val (.int p2), .val (.int p3), .val (.int ca), .val (.int cb), .val (.int cc), .val (.int cd), .val (.int la), .val (.int lb), .val (.int la), .val (.int ld), .val (.int da), .val (.int db), .val (.int dc), .val (.int dd), .val (.ref a_1461), .val (.ref a_1470), .val (.ref a_1524), .val (.int (3 : Int32)), .unset] [(.int (1 : Int32))]
          refine g_ret C (eW hW fun vm' hw' => trivial) (v := (.int (1 : Int32))) (ty := .boolean) rfl rfl (Or.inl ⟨rfl, Or.inr (Or.inl rfl), _, rfl⟩) at_298 (by decide) (by decide) ?_
          rfl
    · refine g_if_n C at_85 (Jvm.Free.XT.i0_eq_f hb_1165) (pc' := 88) rfl ?_
      refine g_iload C at_88 (v := lb) rfl (pc' := 90) rfl ?_
      refine g_istore C at_90 (v := lb) (L' := #[.val (.int p0), .val (.int p1), .val (.int p2), .val (.int p3), .val (.int ca), .val (.int cb), .val (.int cc), .val (.int cd), .val (.int la), .val (.int lb), .val (.int la), .val (.int lb), .unset, .unset, .unset, .unset, .unset, .unset, .unset, .unset, .unset]) rfl (pc' := 92) rfl ?_
      refine g_iload_n C at_92 (v := p3) rfl (pc' := 93) rfl ?_
      refine g_iconst C at_93 (v := (4 : Int32)) rfl (pc' := 94) rfl ?_
      refine g_iand C (x := p3) (y := (4 : Int32)) at_94  (pc' := 95) rfl ?_
      by_cases hb_1747 : (p3 &&& (4 : Int32)) = (0 : Int32)
      · refine g_if_y C at_95 (Jvm.Free.XT.i0_eq_t hb_1747) (pc' := 139) (by decide) (by decide) ?_
        refine g_iload_n C at_139 (v := p1) rfl (pc' := 140) rfl ?_
        refine g_sipush C at_140 (v := (255 : Int32)) rfl (pc' := 143) rfl ?_
        refine g_iand C (x := p1) (y := (255 : Int32)) at_143  (pc' := 144) rfl ?_
        obtain ⟨da, eda⟩ : ∃ z : Int32, z = (p1 &&& (255 : Int32)) := ⟨_, rfl⟩
        rw [← eda]
        have kda : Ch da := by rw [eda]; exact own_chM _
        refine g_istore C at_144 (v := da) (L' := #[.val (.int p0), .val (.int p1), .val (.int p2), .val (.int p3), .val (.int ca), .val (.int cb), .val (.int cc), .val (.int cd), .val (.int la), .val (.int lb), .val (.int la), .val (.int lb), .val (.int da), .unset, .unset, .unset, .unset, .unset, .unset, .unset, .unset]) rfl (pc' := 146) rfl ?_
        refine g_iload_n C at_146 (v := p1) rfl (pc' := 147) rfl ?_
        refine g_bipush C at_147 (v := (8 : Int32)) rfl (pc' := 149) rfl ?_
        refine g_iushr C (x := p1) (y := (8 : Int32)) at_149  (pc' := 150) rfl ?_
        refine g_sipush C at_150 (v := (255 : Int32)) rfl (pc' := 153) rfl ?_
        refine g_iand C (x := (Jvm.Free.XT.ushr p1 (8 : Int32))) (y := (255 : Int32)) at_153  (pc' := 154) rfl ?_
        obtain ⟨db, edb⟩ : ∃ z : Int32, z = ((Jvm.Free.XT.ushr p1 (8 : Int32)) &&& (255 : Int32)) := ⟨_, rfl⟩
        rw [← edb]
        have kdb : Ch db := by rw [edb]; exact own_chM _
        refine g_istore C at_154 (v := db) (L' := #[.val (.int p0), .val (.int p1), .val (.int p2), .val (.int p3), .val (.int ca), .val (.int cb), .val (.int cc), .val (.int cd), .val (.int la), .val (.int lb), .val (.int la), .val (.int lb), .val (.int da), .val (.int db), .unset, .unset, .unset, .unset, .unset, .unset, .unset]) rfl (pc' := 156) rfl ?_
        refine g_iload_n C at_156 (v := p1) rfl (pc' := 157) rfl ?_
        refine g_bipush C at_157 (v := (16 : Int32)) rfl (pc' := 159) rfl ?_
        refine g_iushr C (x := p1) (y := (16 : Int32)) at_159  (pc' := 160) rfl ?_
        refine g_sipush C at_160 (v := (255 : Int32)) rfl (pc' := 163) rfl ?_
        refine g_iand C (x := (Jvm.Free.XT.ushr p1 (16 : Int32))) (y := (255 : Int32)) at_163  (pc' := 164) rfl ?_
        obtain ⟨dc, edc⟩ : ∃ z : Int32, z = ((Jvm.Free.XT.ushr p1 (16 : Int32)) &&& (255 : Int32)) := ⟨_, rfl⟩
        rw [← edc]
        have kdc : Ch dc := by rw [edc]; exact own_chM _
        refine g_istore C at_164 (v := dc) (L' := #[.val (.int p0), .val (.int p1), .val (.int p2), .val (.int p3), .val (.int ca), .val (.int cb), .val (.int cc), .val (.int cd), .val (.int la), .val (.int lb), .val (.int la), .val (.int lb), .val (.int da), .val (.int db), .val (.int dc), .unset, .unset, .unset, .unset, .unset, .unset]) rfl (pc' := 166) rfl ?_
        refine g_iload_n C at_166 (v := p1) rfl (pc' := 167) rfl ?_
        refine g_bipush C at_167 (v := (24 : Int32)) rfl (pc' := 169) rfl ?_
        refine g_iushr C (x := p1) (y := (24 : Int32)) at_169  (pc' := 170) rfl ?_
        refine g_sipush C at_170 (v := (255 : Int32)) rfl (pc' := 173) rfl ?_
        refine g_iand C (x := (Jvm.Free.XT.ushr p1 (24 : Int32))) (y := (255 : Int32)) at_173  (pc' := 174) rfl ?_
        obtain ⟨dd, edd⟩ : ∃ z : Int32, z = ((Jvm.Free.XT.ushr p1 (24 : Int32)) &&& (255 : Int32)) := ⟨_, rfl⟩
        rw [← edd]
        have kdd : Ch dd := by rw [edd]; exact own_chM _
        refine g_istore C at_174 (v := dd) (L' := #[.val (.int p0), .val (.int p1), .val (.int p2), .val (.int p3), .val (.int ca), .val (.int cb), .val (.int cc), .val (.int cd), .val (.int la), .val (.int lb), .val (.int la), .val (.int lb), .val (.int da), .val (.int db), .val (.int dc), .val (.int dd), .unset, .unset, .unset, .unset, .unset]) rfl (pc' := 176) rfl ?_
        refine g_iload C at_176 (v := la) rfl (pc' := 178) rfl ?_
        refine g_iload C at_178 (v := ca) rfl (pc' := 180) rfl ?_
        refine g_iload C at_180 (v := cb) rfl (pc' := 182) rfl ?_
        refine g_staticV C hW (own_w hw 0 rfl) (own_w hw 1 rfl) (own_w hw 2 rfl) (own_w hw 3 rfl) (by decide) (rm_str l Z a0 hw n0 la ca cb h0 Z0 cm O ch0 ch1 ch2 cw kca kcb) (fun vm' hw' => InvK.warm I0 hw') (st := []) [(.int la), (.int ca), (.int cb)] rfl rfl own_pd_1_str rfl rfl (by decide) (W := 0) (Nat.le_of_eq rfl) (by decide) (by decide) (by decide) at_182 (pc' := 185) rfl ?_
        intro B C hW v_1750 h_1748 q_1749 I_1751
        obtain ⟨a_1752, b_1753, rfl, le_1754, K_1755, E_1756, f_1757, f_1758, f_1759⟩ := q_1749
        have ge_a_1752 : n0 ≤ a_1752 := Nat.le_trans Z0 le_1754
        have gs_a_1752 : h0.size ≤ a_1752 := Nat.le_trans (Nat.le_refl h0.size) le_1754
        show Go B n0 _ h_1748 4 8 185 #[.val (.int p0), .val (.int p1), .val (.int p2), .val (.int p3), .val (.int ca), .val (.int cb), .val (.int cc), .val (.int cd), .val (.int la), .val (.int lb), .val (.int la), .val (.int lb), .val (.int da), .val (.int db), .val (.int dc), .val (.int dd), .unset, .unset, .unset, .unset, .unset] [(.ref a_1752)]
        refine g_astore C at_185 (v := (.ref a_1752)) (L' := #[.val (.int p0), .val (.int p1), .val (.int p2), .val (.int p3), .val (.int ca), .val (.int cb), .val (.int cc), .val (.int cd), .val (.int la), .val (.int lb), .val (.int la), .val (.int lb), .val (.int da), .val (.int db), .val (.int dc), .val (.int dd), .val (.ref a_1752), .unset, .unset, .unset, .unset]) rfl rfl (pc' := 187) rfl ?_
        refine g_new C (own_w hw 34 rfl) (own_w hw 35 rfl) (own_w hw 36 rfl) (by decide) (by decide) at_187 (pc' := 190) rfl ?_
        intro h_1760 a_1761 g_1762 E_1763 A_1764 D_1765
        have ne_1766 : a_1752 ≠ a_1761 := ne_new E_1756.lt g_1762
        have ne_1767 : b_1753 ≠ a_1761 := ne_new f_1759.lt g_1762
        have f_1768 := (Nat.le_trans Z0 K_1755.1)
        have ge_a_1761 : n0 ≤ a_1761 := Nat.le_trans f_1768 (Nat.le_of_eq g_1762.symm)
        have f_1769 := (Nat.le_trans (Nat.le_refl h0.size) K_1755.1)
        have gs_a_1761 : h0.size ≤ a_1761 := Nat.le_trans f_1769 (Nat.le_of_eq g_1762.symm)
        have f_1770 : Fld Z h_1760 a_1761 "com/example/chiton/chiton/model/MethodName" "className" "Ljava/lang/String;" .null := D_1765 (Or.inr (own_w hw 51 rfl)) (ty := (.object "java/lang/String")) (by decide)
        have f_1771 : Fld Z h_1760 a_1761 "com/example/chiton/chiton/model/MethodName" "methodName" "Ljava/lang/String;" .null := D_1765 (Or.inr (own_w hw 54 rfl)) (ty := (.object "java/lang/String")) (by decide)
        show Go B n0 _ h_1760 5 10 190 #[.val (.int p0), .val (.int p1), .val (.int p2), .val (.int p3), .val (.int ca), .val (.int cb), .val (.int cc), .val (.int cd), .val (.int la), .val (.int lb), .val (.int la), .val (.int lb), .val (.int da), .val (.int db), .val (.int dc), .val (.int dd), .val (.ref a_1752), .unset, .unset, .unset, .unset] [(.ref a_1761)]
        refine g_dup C at_190 rfl (pc' := 191) rfl ?_
        refine g_aload C at_191 (v := (.ref a_1752)) rfl rfl (pc' := 193) rfl ?_
        refine g_iload C at_193 (v := lb) rfl (pc' := 195) rfl ?_
        refine g_iload C at_195 (v := cc) rfl (pc' := 197) rfl ?_
        refine g_iload C at_197 (v := cd) rfl (pc' := 199) rfl ?_
        have f_1772 := ((O.keep K_1755 all0).ext E_1763)
        have f_1773 := (Nat.le_trans f_1768 E_1763.1)
        have f_1774 := (I_1751.ext E_1763)
        have f_1775 := (E_1756.ext E_1763)
        have f_1776 := (f_1759.ext E_1763)
        have f_1777 := (Nat.le_trans f_1769 E_1763.1)
        refine g_staticV C hW (own_w hw 0 rfl) (own_w hw 1 rfl) (own_w hw 2 rfl) (own_w hw 3 rfl) (by decide) (rm_str l Z a0 hw n0 lb cc cd h_1760 f_1773 cm f_1772 ch0 ch1 ch2 cw kcc kcd) (fun vm' hw' => InvK.warm f_1774 hw') (st := [(.ref a_1752), (.ref a_1761), (.ref a_1761)]) [(.int lb), (.int cc), (.int cd)] rfl rfl own_pd_1_str rfl rfl (by decide) (W := 3) (Nat.le_of_eq rfl) (by decide) (by decide) (by decide) at_199 (pc' := 202) rfl ?_
        intro B C hW v_1780 h_1778 q_1779 I_1781
        obtain ⟨a_1782, b_1783, rfl, le_1784, K_1785, E_1786, f_1787, f_1788, f_1789⟩ := q_1779
        have ne_1790 : a_1752 ≠ a_1782 := ne_ge f_1775.lt le_1784
        have ne_1791 : a_1761 ≠ a_1782 := ne_ge A_1764.lt le_1784
        have ne_1792 : b_1753 ≠ a_1782 := ne_ge f_1776.lt le_1784
        have ge_a_1782 : n0 ≤ a_1782 := Nat.le_trans f_1773 le_1784
        have gs_a_1782 : h0.size ≤ a_1782 := Nat.le_trans f_1777 le_1784
        show Go B n0 _ h_1778 9 18 202 #[.val (.int p0), .val (.int p1), .val (.int p2), .val (.int p3), .val (.int ca), .val (.int cb), .val (.int cc), .val (.int cd), .val (.int la), .val (.int lb), .val (.int la), .val (.int lb), .val (.int da), .val (.int db), .val (.int dc), .val (.int dd), .val (.ref a_1752), .unset, .unset, .unset, .unset] [(.ref a_1782), (.ref a_1752), (.ref a_1761), (.ref a_1761)]
        have f_1794 := (A_1764.keep K_1785)
        have f_1795 := (f_1776.keep K_1785 nin0)
        have ne_1793 : b_1753 ≠ a_1761 := own_neA f_1794 f_1795 (own_w hw 35 rfl)
        have ne_1796 : b_1783 ≠ a_1761 := own_neA f_1794 f_1789 (own_w hw 35 rfl)
        have f_1797 := (f_1772.keep K_1785 all0)
        have f_1798 := (f_1770.keep K_1785 nin0)
        have f_1799 := (f_1771.keep K_1785 nin0)
        have f_1800 := (f_1775.keep K_1785)
        have f_1801 := (Nat.le_trans f_1773 K_1785.1)
        refine g_specialV C hW (a := a_1761) rfl (own_w hw 40 rfl) (own_w hw 41 rfl) (own_w hw 36 rfl) (own_w hw 42 rfl) (by decide) (rm_mninit l Z a0 hw n0 a_1761 a_1752 a_1782 h_1778 f_1801 cm f_1797 ch0 ch1 ch2 cw f_1794 f_1798 f_1799 ge_a_1761 f_1800 E_1786) (fun vm' hw' => InvK.warm I_1781 hw') (st := [(.ref a_1761)]) [(.ref a_1752), (.ref a_1782)] rfl rfl own_pd_6_init rfl rfl (by decide) (W := 1) (Nat.le_of_eq rfl) (by decide) (by decide) (by decide) at_202 (pc' := 205) rfl ?_
        intro B C hW v_1804 h_1802 q_1803 I_1805
        obtain ⟨rfl, K_1806, f_1807, f_1808⟩ := q_1803
        show Go B n0 _ h_1802 13 166 205 #[.val (.int p0), .val (.int p1), .val (.int p2), .val (.int p3), .val (.int ca), .val (.int cb), .val (.int cc), .val (.int cd), .val (.int la), .val (.int lb), .val (.int la), .val (.int lb), .val (.int da), .val (.int db), .val (.int dc), .val (.int dd), .val (.ref a_1752), .unset, .unset, .unset, .unset] [(.ref a_1761)]
        refine g_astore C at_205 (v := (.ref a_1761)) (L' := #[.val (.int p0), .val (.int p1), .val (.int p2), .val (.int p3), .val (.int ca), .val (.int cb), .val (.int cc), .val (.int cd), .val (.int la), .val (.int lb), .val (.int la), .val (.int lb), .val (.int da), .val (.int db), .val (.int dc), .val (.int dd), .val (.ref a_1752), .val (.ref a_1761), .unset, .unset, .unset]) rfl rfl (pc' := 207) rfl ?_
        have f_1809 := (f_1800.keep K_1806)
        have f_1810 := (f_1794.keep K_1806)
        have f_1811 := (E_1786.keep K_1806)
        have f_1812 := (f_1795.keep K_1806 (ninS ne_1793 nin0))
        have f_1813 := (f_1789.keep K_1806 (ninS ne_1796 nin0))
        refine g_new C (own_w hw 34 rfl) (own_w hw 35 rfl) (own_w hw 36 rfl) (by decide) (by decide) at_207 (pc' := 210) rfl ?_
        intro h_1814 a_1815 g_1816 E_1817 A_1818 D_1819
        have ne_1820 : a_1752 ≠ a_1815 := ne_new f_1809.lt g_1816
        have ne_1821 : a_1761 ≠ a_1815 := ne_new f_1810.lt g_1816
        have ne_1822 : a_1782 ≠ a_1815 := ne_new f_1811.lt g_1816
        have ne_1823 : b_1753 ≠ a_1815 := ne_new f_1812.lt g_1816
        have ne_1824 : b_1783 ≠ a_1815 := ne_new f_1813.lt g_1816
        have f_1825 := (Nat.le_trans f_1801 K_1806.1)
        have ge_a_1815 : n0 ≤ a_1815 := Nat.le_trans f_1825 (Nat.le_of_eq g_1816.symm)
        have f_1826 := (Nat.le_trans (Nat.le_trans f_1777 K_1785.1) K_1806.1)
        have gs_a_1815 : h0.size ≤ a_1815 := Nat.le_trans f_1826 (Nat.le_of_eq g_1816.symm)
        have f_1827 : Fld Z h_1814 a_1815 "com/example/chiton/chiton/model/MethodName" "className" "Ljava/lang/String;" .null := D_1819 (Or.inr (own_w hw 51 rfl)) (ty := (.object "java/lang/String")) (by decide)
        have f_1828 : Fld Z h_1814 a_1815 "com/example/chiton/chiton/model/MethodName" "methodName" "Ljava/lang/String;" .null := D_1819 (Or.inr (own_w hw 54 rfl)) (ty := (.object "java/lang/String")) (by decide)
        show Go B n0 _ h_1814 14 168 210 #[.val (.int p0), .val (.int p1), .val (.int p2), .val (.int p3), .val (.int ca), .val (.int cb), .val (.int cc), .val (.int cd), .val (.int la), .val (.int lb), .val (.int la), .val (.int lb), .val (.int da), .val (.int db), .val (.int dc), .val (.int dd), .val (.ref a_1752), .val (.ref a_1761), .unset, .unset, .unset] [(.ref a_1815)]
        refine g_dup C at_210 rfl (pc' := 211) rfl ?_
        refine g_iload C at_211 (v := la) rfl (pc' := 213) rfl ?_
        refine g_iload C at_213 (v := da) rfl (pc' := 215) rfl ?_
        refine g_iload C at_215 (v := db) rfl (pc' := 217) rfl ?_
        have f_1829 := ((f_1797.keep K_1806 (allS ge_a_1761 all0)).ext E_1817)
        have f_1830 := (Nat.le_trans f_1825 E_1817.1)
        have f_1831 := (I_1805.ext E_1817)
        have f_1832 := (f_1809.ext E_1817)
        have f_1833 := (f_1810.ext E_1817)
        have f_1834 := (f_1811.ext E_1817)
        have f_1835 := (f_1812.ext E_1817)
        have f_1836 := (f_1813.ext E_1817)
        have f_1837 := (Nat.le_trans f_1826 E_1817.1)
        refine g_staticV C hW (own_w hw 0 rfl) (own_w hw 1 rfl) (own_w hw 2 rfl) (own_w hw 3 rfl) (by decide) (rm_str l Z a0 hw n0 la da db h_1814 f_1830 cm f_1829 ch0 ch1 ch2 cw kda kdb) (fun vm' hw' => InvK.warm f_1831 hw') (st := [(.ref a_1815), (.ref a_1815)]) [(.int la), (.int da), (.int db)] rfl rfl own_pd_1_str rfl rfl (by decide) (W := 2) (Nat.le_of_eq rfl) (by decide) (by decide) (by decide) at_217 (pc' := 220) rfl ?_
        intro B C hW v_1840 h_1838 q_1839 I_1841
        obtain ⟨a_1842, b_1843, rfl, le_1844, K_1845, E_1846, f_1847, f_1848, f_1849⟩ := q_1839
        have ne_1850 : a_1752 ≠ a_1842 := ne_ge f_1832.lt le_1844
        have ne_1851 : a_1761 ≠ a_1842 := ne_ge f_1833.lt le_1844
        have ne_1852 : a_1782 ≠ a_1842 := ne_ge f_1834.lt le_1844
        have ne_1853 : a_1815 ≠ a_1842 := ne_ge A_1818.lt le_1844
        have ne_1854 : b_1753 ≠ a_1842 := ne_ge f_1835.lt le_1844
        have ne_1855 : b_1783 ≠ a_1842 := ne_ge f_1836.lt le_1844
        have ge_a_1842 : n0 ≤ a_1842 := Nat.le_trans f_1830 le_1844
        have gs_a_1842 : h0.size ≤ a_1842 := Nat.le_trans f_1837 le_1844
        show Go B n0 _ h_1838 18 176 220 #[.val (.int p0), .val (.int p1), .val (.int p2), .val (.int p3), .val (.int ca), .val (.int cb), .val (.int cc), .val (.int cd), .val (.int la), .val (.int lb), .val (.int la), .val (.int lb), .val (.int da), .val (.int db), .val (.int dc), .val (.int dd), .val (.ref a_1752), .val (.ref a_1761), .unset, .unset, .unset] [(.ref a_1842), (.ref a_1815), (.ref a_1815)]
        refine g_iload C at_220 (v := lb) rfl (pc' := 222) rfl ?_
        refine g_iload C at_222 (v := dc) rfl (pc' := 224) rfl ?_
        refine g_iload C at_224 (v := dd) rfl (pc' := 226) rfl ?_
        have f_1856 := (f_1829.keep K_1845 all0)
        have f_1857 := (Nat.le_trans f_1830 K_1845.1)
        have f_1858 := (f_1832.keep K_1845)
        have f_1859 := (f_1833.keep K_1845)
        have f_1860 := (f_1834.keep K_1845)
        have f_1861 := (A_1818.keep K_1845)
        have f_1862 := (f_1835.keep K_1845 nin0)
        have f_1863 := (f_1836.keep K_1845 nin0)
        have f_1864 := (Nat.le_trans f_1837 K_1845.1)
        refine g_staticV C hW (own_w hw 0 rfl) (own_w hw 1 rfl) (own_w hw 2 rfl) (own_w hw 3 rfl) (by decide) (rm_str l Z a0 hw n0 lb dc dd h_1838 f_1857 cm f_1856 ch0 ch1 ch2 cw kdc kdd) (fun vm' hw' => InvK.warm I_1841 hw') (st := [(.ref a_1842), (.ref a_1815), (.ref a_1815)]) [(.int lb), (.int dc), (.int dd)] rfl rfl own_pd_1_str rfl rfl (by decide) (W := 3) (Nat.le_of_eq rfl) (by decide) (by decide) (by decide) at_226 (pc' := 229) rfl ?_
        intro B C hW v_1867 h_1865 q_1866 I_1868
        obtain ⟨a_1869, b_1870, rfl, le_1871, K_1872, E_1873, f_1874, f_1875, f_1876⟩ := q_1866
        have ne_1877 : a_1752 ≠ a_1869 := ne_ge f_1858.lt le_1871
        have ne_1878 : a_1761 ≠ a_1869 := ne_ge f_1859.lt le_1871
        have ne_1879 : a_1782 ≠ a_1869 := ne_ge f_1860.lt le_1871
        have ne_1880 : a_1815 ≠ a_1869 := ne_ge f_1861.lt le_1871
        have ne_1881 : a_1842 ≠ a_1869 := ne_ge E_1846.lt le_1871
        have ne_1882 : b_1753 ≠ a_1869 := ne_ge f_1862.lt le_1871
        have ne_1883 : b_1783 ≠ a_1869 := ne_ge f_1863.lt le_1871
        have ne_1884 : b_1843 ≠ a_1869 := ne_ge f_1849.lt le_1871
        have ge_a_1869 : n0 ≤ a_1869 := Nat.le_trans f_1857 le_1871
        have gs_a_1869 : h0.size ≤ a_1869 := Nat.le_trans f_1864 le_1871
        show Go B n0 _ h_1865 22 184 229 #[.val (.int p0), .val (.int p1), .val (.int p2), .val (.int p3), .val (.int ca), .val (.int cb), .val (.int cc), .val (.int cd), .val (.int la), .val (.int lb), .val (.int la), .val (.int lb), .val (.int da), .val (.int db), .val (.int dc), .val (.int dd), .val (.ref a_1752), .val (.ref a_1761), .unset, .unset, .unset] [(.ref a_1869), (.ref a_1842), (.ref a_1815), (.ref a_1815)]
        have f_1886 := (f_1861.keep K_1872)
        have f_1887 := (f_1849.keep K_1872 nin0)
        have ne_1885 : b_1843 ≠ a_1815 := own_neA f_1886 f_1887 (own_w hw 35 rfl)
        have ne_1888 : b_1870 ≠ a_1815 := own_neA f_1886 f_1876 (own_w hw 35 rfl)
        have f_1889 := (f_1856.keep K_1872 all0)
        have f_1890 := ((f_1827.keep K_1845 nin0).keep K_1872 nin0)
        have f_1891 := ((f_1828.keep K_1845 nin0).keep K_1872 nin0)
        have f_1892 := (E_1846.keep K_1872)
        have f_1893 := (Nat.le_trans f_1857 K_1872.1)
        refine g_specialV C hW (a := a_1815) rfl (own_w hw 40 rfl) (own_w hw 41 rfl) (own_w hw 36 rfl) (own_w hw 42 rfl) (by decide) (rm_mninit l Z a0 hw n0 a_1815 a_1842 a_1869 h_1865 f_1893 cm f_1889 ch0 ch1 ch2 cw f_1886 f_1890 f_1891 ge_a_1815 f_1892 E_1873) (fun vm' hw' => InvK.warm I_1868 hw') (st := [(.ref a_1815)]) [(.ref a_1842), (.ref a_1869)] rfl rfl own_pd_6_init rfl rfl (by decide) (W := 1) (Nat.le_of_eq rfl) (by decide) (by decide) (by decide) at_229 (pc' := 232) rfl ?_
        intro B C hW v_1896 h_1894 q_1895 I_1897
        obtain ⟨rfl, K_1898, f_1899, f_1900⟩ := q_1895
        show Go B n0 _ h_1894 26 332 232 #[.val (.int p0), .val (.int p1), .val (.int p2), .val (.int p3), .val (.int ca), .val (.int cb), .val (.int cc), .val (.int cd), .val (.int la), .val (.int lb), .val (.int la), .val (.int lb), .val (.int da), .val (.int db), .val (.int dc), .val (.int dd), .val (.ref a_1752), .val (.ref a_1761), .unset, .unset, .unset] [(.ref a_1815)]
        refine g_astore C at_232 (v := (.ref a_1815)) (L' := #[.val (.int p0), .val (.int p1), .val (.int p2), .val (.int p3), .val (.int ca), .val (.int cb), .val (.int cc), .val (.int cd), .val (.int la), .val (.int lb), .val (.int la), .val (.int lb), .val (.int da), .val (.int db), .val (.int dc), .val (.int dd), .val (.ref a_1752), .val (.ref a_1761), .val (.ref a_1815), .unset, .unset]) rfl rfl (pc' := 234) rfl ?_
        refine g_iload_n C at_234 (v := p2) rfl (pc' := 235) rfl ?_
        refine g_bipush C at_235 (v := (8 : Int32)) rfl (pc' := 237) rfl ?_
        refine g_iushr C (x := p2) (y := (8 : Int32)) at_237  (pc' := 238) rfl ?_
        refine g_iconst C at_238 (v := (3 : Int32)) rfl (pc' := 239) rfl ?_
        refine g_iand C (x := (Jvm.Free.XT.ushr p2 (8 : Int32))) (y := (3 : Int32)) at_239  (pc' := 240) rfl ?_
        obtain ⟨i_1901, hi_1902⟩ : ∃ z : Int32, z = ((Jvm.Free.XT.ushr p2 (8 : Int32)) &&& (3 : Int32)) := ⟨_, rfl⟩
        rw [← hi_1902]
        rcases own_split4 i_1901 (by rw [hi_1902]; exact (own_m3 _).1) (by rw [hi_1902]; exact (own_m3 _).2) with i_1901e | i_1901e | i_1901e | i_1901e
        · subst i_1901e
          show Go B n0 _ h_1894 26 332 240 #[.val (.int p0), .val (.int p1), .val (.int p2), .val (.int p3), .val (.int ca), .val (.int cb), .val (.int cc), .val (.int cd), .val (.int la), .val (.int lb), .val (.int la), .val (.int lb), .val (.int da), .val (.int db), .val (.int dc), .val (.int dd), .val (.ref a_1752), .val (.ref a_1761), .val (.ref a_1815), .unset, .unset] [(.int (0 : Int32))]
          refine g_istore C at_240 (v := (0 : Int32)) (L' := #[.val (.int p0), .val (.int p1), .val (.int p2), .val (.int p3), .val (.int ca), .val (.int cb), .val (.int cc), .val (.int cd), .val (.int la), .val (.int lb), .val (.int la), .val (.int lb), .val (.int da), .val (.int db), .val (.int dc), .val (.int dd), .val (.ref a_1752), .val (.ref a_1761), .val (.ref a_1815), .val (.int (0 : Int32)), .unset]) rfl (pc' := 242) rfl ?_
          refine g_iload C at_242 (v := (0 : Int32)) rfl (pc' := 244) rfl ?_
          refine g_iconst C at_244 (v := (1 : Int32)) rfl (pc' := 245) rfl ?_
          refine g_icmp_y C at_245 (Jvm.Free.XT.ii_ne_t (by decide)) (pc' := 263) (by decide) (by decide) ?_
          refine g_iload C at_263 (v := (0 : Int32)) rfl (pc' := 265) rfl ?_
          refine g_iconst C at_265 (v := (2 : Int32)) rfl (pc' := 266) rfl ?_
          refine g_icmp_y C at_266 (Jvm.Free.XT.ii_ne_t (by decide)) (pc' := 285) (by decide) (by decide) ?_
          refine g_iload C at_285 (v := (0 : Int32)) rfl (pc' := 287) rfl ?_
          refine g_iconst C at_287 (v := (3 : Int32)) rfl (pc' := 288) rfl ?_
          refine g_icmp_y C at_288 (Jvm.Free.XT.ii_ne_t (by decide)) (pc' := 299) (by decide) (by decide) ?_
          refine g_iload C at_299 (v := la) rfl (pc' := 301) rfl ?_
          refine g_iload C at_301 (v := ca) rfl (pc' := 303) rfl ?_
          refine g_iload C at_303 (v := cb) rfl (pc' := 305) rfl ?_
          refine g_iload C at_305 (v := la) rfl (pc' := 307) rfl ?_
          refine g_iload C at_307 (v := da) rfl (pc' := 309) rfl ?_
          refine g_iload C at_309 (v := db) rfl (pc' := 311) rfl ?_
          have f_1903 := (Nat.le_trans f_1893 K_1898.1)
          refine g_static C (own_w hw 55 rfl) (own_w hw 56 rfl) (own_w hw 2 rfl) (own_w hw 57 rfl) (by decide) (rm_same l Z a0 hw n0 la ca cb la da db h_1894 f_1903 rla rla kca kcb kda kdb) (st := []) [(.int la), (.int ca), (.int cb), (.int la), (.int da), (.int db)] rfl rfl own_pd_3_same rfl rfl (by decide) (W := 0) (Nat.le_of_eq rfl) (by decide) (by decide) (by decide) at_311 (pc' := 314) rfl ?_
          intro v_1906 h_1904 q_1905
          obtain ⟨r_1908, rfl, ⟨e_1909, rfl⟩ | ⟨e_1909, rfl⟩, rfl⟩ := q_1905
          · show Go B n0 _ h_1894 26 332 314 #[.val (.int p0), .val (.int p1), .val (.int p2), .val (.int p3), .val (.int ca), .val (.int cb), .val (.int cc), .val (.int cd), .val (.int la), .val (.int lb), .val (.int la), .val (.int lb), .val (.int da), .val (.int db), .val (.int dc), .val (.int dd), .val (.ref a_1752), .val (.ref a_1761), .val (.ref a_1815), .val (.int (0 : Int32)), .unset] [(.int (1 : Int32))]
            refine g_if_n C at_314 (Jvm.Free.XT.i0_eq_f (by decide)) (pc' := 317) rfl ?_
            refine g_iload C at_317 (v := lb) rfl (pc' := 319) rfl ?_
            refine g_iload C at_319 (v := cc) rfl (pc' := 321) rfl ?_
            refine g_iload C at_321 (v := cd) rfl (pc' := 323) rfl ?_
            refine g_iload C at_323 (v := lb) rfl (pc' := 325) rfl ?_
            refine g_iload C at_325 (v := dc) rfl (pc' := 327) rfl ?_
            refine g_iload C at_327 (v := dd) rfl (pc' := 329) rfl ?_
            refine g_static C (own_w hw 55 rfl) (own_w hw 56 rfl) (own_w hw 2 rfl) (own_w hw 57 rfl) (by decide) (rm_same l Z a0 hw n0 lb cc cd lb dc dd h_1894 f_1903 rlb rlb kcc kcd kdc kdd) (st := []) [(.int lb), (.int cc), (.int cd), (.int lb), (.int dc), (.int dd)] rfl rfl own_pd_3_same rfl rfl (by decide) (W := 0) (Nat.le_of_eq rfl) (by decide) (by decide) (by decide) at_329 (pc' := 332) rfl ?_
            intro v_1912 h_1910 q_1911
            obtain ⟨r_1914, rfl, ⟨e_1915, rfl⟩ | ⟨e_1915, rfl⟩, rfl⟩ := q_1911
            · show Go B n0 _ h_1894 26 332 332 #[.val (.int p0), .val (.int p1), .val (.int p2), .val (.int p3), .val (.int ca), .val (.int cb), .val (.int cc), .val (.int cd), .val (.int la), .val (.int lb), .val (.int la), .val (.int lb), .val (.int da), .val (.int db), .val (.int dc), .val (.int dd), .val (.ref a_1752), .val (.ref a_1761), .val (.ref a_1815), .val (.int (0 : Int32)), .unset] [(.int (1 : Int32))]
              refine g_if_n C at_332 (Jvm.Free.XT.i0_eq_f (by decide)) (pc' := 335) rfl ?_
              refine g_iconst C at_335 (v := (1 : Int32)) rfl (pc' := 336) rfl ?_
              refine g_goto C at_336 (pc' := 340) (by decide) (by decide) ?_
              refine g_istore C at_340 (v := (1 : Int32)) (L' := #[.val (.int p0), .val (.int p1), .val (.int p2), .val (.int p3), .val (.int ca), .val (.int cb), .val (.int cc), .val (.int cd), .val (.int la), .val (.int lb), .val (.int la), .val (.int lb), .val (.int da), .val (.int db), .val (.int dc), .val (.int dd), .val (.ref a_1752), .val (.ref a_1761), .val (.ref a_1815), .val (.int (0 : Int32)), .val (.int (1 : Int32))]) rfl (pc' := 342) rfl ?_
              refine g_aload C at_342 (v := (.ref a_1761)) rfl rfl (pc' := 344) rfl ?_
              refine g_aload C at_344 (v := (.ref a_1815)) rfl rfl (pc' := 346) rfl ?_
              have f_1916 := (f_1889.keep K_1898 (allS ge_a_1815 all0))
              have f_1917 := ((f_1859.keep K_1872).keep K_1898)
              have f_1918 := ((((f_1807.ext E_1817).keep K_1845 nin0).keep K_1872 nin0).keep K_1898 (ninS ne_1821 nin0))
              have f_1919 := ((((f_1808.ext E_1817).keep K_1845 nin0).keep K_1872 nin0).keep K_1898 (ninS ne_1821 nin0))
              have f_1920 := (f_1886.keep K_1898)
              have f_1921 := ((f_1858.keep K_1872).keep K_1898)
              have f_1922 := (((((((f_1757.ext E_1763).keep K_1785 nin0).keep K_1806 (ninS ne_1766 nin0)).ext E_1817).keep K_1845 nin0).keep K_1872 nin0).keep K_1898 (ninS ne_1820 nin0))
              have f_1923 := (((((((f_1758.ext E_1763).keep K_1785 nin0).keep K_1806 (ninS ne_1766 nin0)).ext E_1817).keep K_1845 nin0).keep K_1872 nin0).keep K_1898 (ninS ne_1820 nin0))
              have f_1924 := ((f_1862.keep K_1872 nin0).keep K_1898 (ninS ne_1823 nin0))
              have f_1925 := (f_1892.keep K_1898)
              have f_1926 := ((f_1847.keep K_1872 nin0).keep K_1898 (ninS (Ne.symm ne_1853) nin0))
              have f_1927 := ((f_1848.keep K_1872 nin0).keep K_1898 (ninS (Ne.symm ne_1853) nin0))
              have f_1928 := (f_1887.keep K_1898 (ninS ne_1885 nin0))
              have f_1929 := ((f_1860.keep K_1872).keep K_1898)
              have f_1930 := (((((f_1787.keep K_1806 (ninS (Ne.symm ne_1791) nin0)).ext E_1817).keep K_1845 nin0).keep K_1872 nin0).keep K_1898 (ninS ne_1822 nin0))
              have f_1931 := (((((f_1788.keep K_1806 (ninS (Ne.symm ne_1791) nin0)).ext E_1817).keep K_1845 nin0).keep K_1872 nin0).keep K_1898 (ninS ne_1822 nin0))
              have f_1932 := ((f_1863.keep K_1872 nin0).keep K_1898 (ninS ne_1824 nin0))
              have f_1933 := (E_1873.keep K_1898)
              have f_1934 := (f_1874.keep K_1898 (ninS (Ne.symm ne_1880) nin0))
              have f_1935 := (f_1875.keep K_1898 (ninS (Ne.symm ne_1880) nin0))
              have f_1936 := (f_1876.keep K_1898 (ninS ne_1888 nin0))
              refine g_virtual C (own_w hw 58 rfl) (own_w hw 59 rfl) (own_w hw 61 rfl) (own_w hw 60 rfl) (own_w hw 36 rfl) (own_w hw 62 rfl) (notFace_of_selects (args := #[]) (mvT C.2.2.2.2.1 (own_w hw 61 rfl))) (by decide) f_1917 (rm_mneqD l Z a0 hw n0 a_1761 a_1815 a_1752 a_1842 a_1782 a_1869 b_1753 b_1843 b_1783 b_1870 (own_str la ca cb) (own_str la da db) (own_str lb cc cd) (own_str lb dc dd) h_1894 f_1903 cm f_1916 f_1917 f_1918 f_1919 f_1920 f_1899 f_1900 f_1921 f_1922 f_1923 f_1924 (own_sh _ _ _) f_1925 f_1926 f_1927 f_1928 (own_sh _ _ _) f_1929 f_1930 f_1931 f_1932 (own_sh _ _ _) f_1933 f_1934 f_1935 f_1936 (own_sh _ _ _) ne_1850 ne_1879) (st := []) [(.ref a_1815)] rfl rfl own_pd_4_equals rfl rfl (by decide) (W := 0) (Nat.le_of_eq rfl) (by decide) (by decide) (by decide) at_346 (pc' := 349) rfl ?_
              intro v_1939 h_1937 q_1938
              obtain ⟨r_1941, rfl, ⟨e_1942, rfl⟩ | ⟨e_1942, rfl⟩, rfl⟩ := q_1938
              · show Go B n0 _ h_1894 26 332 349 #[.val (.int p0), .val (.int p1), .val (.int p2), .val (.int p3), .val (.int ca), .val (.int cb), .val (.int cc), .val (.int cd), .val (.int la), .val (.int lb), .val (.int la), .val (.int lb), .val (.int da), .val (.int db), .val (.int dc), .val (.int dd), .val (.ref a_1752), .val (.ref a_1761), .val (.ref a_1815), .val (.int (0 : Int32)), .val (.int (1 : Int32))] [(.int (1 : Int32))]
                refine g_iload C at_349 (v := (1 : Int32)) rfl (pc' := 351) rfl ?_
                refine g_icmp_n C at_351 (Jvm.Free.XT.ii_ne_f (by decide)) (pc' := 354) rfl ?_
                refine g_aload C at_354 (v := (.ref a_1815)) rfl rfl (pc' := 356) rfl ?_
                refine g_aload C at_356 (v := (.ref a_1761)) rfl rfl (pc' := 358) rfl ?_
                refine g_virtual C (own_w hw 58 rfl) (own_w hw 59 rfl) (own_w hw 61 rfl) (own_w hw 60 rfl) (own_w hw 36 rfl) (own_w hw 62 rfl) (notFace_of_selects (args := #[]) (mvT C.2.2.2.2.1 (own_w hw 61 rfl))) (by decide) f_1920 (rm_mneqD l Z a0 hw n0 a_1815 a_1761 a_1842 a_1752 a_1869 a_1782 b_1843 b_1753 b_1870 b_1783 (own_str la da db) (own_str la ca cb) (own_str lb dc dd) (own_str lb cc cd) h_1894 f_1903 cm f_1916 f_1920 f_1899 f_1900 f_1917 f_1918 f_1919 f_1925 f_1926 f_1927 f_1928 (own_sh _ _ _) f_1921 f_1922 f_1923 f_1924 (own_sh _ _ _) f_1933 f_1934 f_1935 f_1936 (own_sh _ _ _) f_1929 f_1930 f_1931 f_1932 (own_sh _ _ _) (Ne.symm ne_1850) (Ne.symm ne_1879)) (st := []) [(.ref a_1761)] rfl rfl own_pd_4_equals rfl rfl (by decide) (W := 0) (Nat.le_of_eq rfl) (by decide) (by decide) (by decide) at_358 (pc' := 361) rfl ?_
                intro v_1945 h_1943 q_1944
                obtain ⟨r_1947, rfl, ⟨e_1948, rfl⟩ | ⟨e_1948, rfl⟩, rfl⟩ := q_1944
                · show Go B n0 _ h_1894 26 332 361 #[.val (.int p0), .val (.int p1), .val (.int p2), .val (.int p3), .val (.int ca), .val (.int cb), .val (.int cc), .val (.int cd), .val (.int la), .val (.int lb), .val (.int la), .val (.int lb), .val (.int da), .val (.int db), .val (.int dc), .val (.int dd), .val (.ref a_1752), .val (.ref a_1761), .val (.ref a_1815), .val (.int (0 : Int32)), .val (.int (1 : Int32))] [(.int (1 : Int32))]
                  refine g_iload C at_361 (v := (1 : Int32)) rfl (pc' := 363) rfl ?_
                  refine g_icmp_n C at_363 (Jvm.Free.XT.ii_ne_f (by decide)) (pc' := 366) rfl ?_
                  refine g_iconst C at_366 (v := (1 : Int32)) rfl (pc' := 367) rfl ?_
                  refine g_goto C at_367 (pc' := 371) (by decide) (by decide) ?_
                  refine g_ret C (eW hW fun vm' hw' => trivial) (v := (.int (1 : Int32))) (ty := .boolean) rfl rfl (Or.inl ⟨rfl, Or.inr (Or.inl rfl), _, rfl⟩) at_371 (by decide) (by decide) ?_
                  rfl
                · exact absurd ⟨e_1909.symm, e_1915.symm⟩ e_1948
              · exact absurd ⟨e_1909, e_1915⟩ e_1942
            · show Go B n0 _ h_1894 26 332 332 #[.val (.int p0), .val (.int p1), .val (.int p2), .val (.int p3), .val (.int ca), .val (.int cb), .val (.int cc), .val (.int cd), .val (.int la), .val (.int lb), .val (.int la), .val (.int lb), .val (.int da), .val (.int db), .val (.int dc), .val (.int dd), .val (.ref a_1752), .val (.ref a_1761), .val (.ref a_1815), .val (.int (0 : Int32)), .unset] [(.int (0 : Int32))]
              refine g_if_y C at_332 (Jvm.Free.XT.i0_eq_t (by decide)) (pc' := 339) (by decide) (by decide) ?_
              refine g_iconst C at_339 (v := (0 : Int32)) rfl (pc' := 340) rfl ?_
              refine g_istore C at_340 (v := (0 : Int32)) (L' := #[.val (.int p0), .val (.int p1), .val (.int p2), .val (.int p3), .val (.int ca), .val (.int cb), .val (.int cc), .val (.int cd), .val (.int la), .val (.int lb), .val (.int la), .val (.int lb), .val (.int da), .val (.int db), .val (.int dc), .val (.int dd), .val (.ref a_1752), .val (.ref a_1761), .val (.ref a_1815), .val (.int (0 : Int32)), .val (.int (0 : Int32))]) rfl (pc' := 342) rfl ?_
              refine g_aload C at_342 (v := (.ref a_1761)) rfl rfl (pc' := 344) rfl ?_
              refine g_aload C at_344 (v := (.ref a_1815)) rfl rfl (pc' := 346) rfl ?_
              have f_1949 := (f_1889.keep K_1898 (allS ge_a_1815 all0))
              have f_1950 := ((f_1859.keep K_1872).keep K_1898)
              have f_1951 := ((((f_1807.ext E_1817).keep K_1845 nin0).keep K_1872 nin0).keep K_1898 (ninS ne_1821 nin0))
              have f_1952 := ((((f_1808.ext E_1817).keep K_1845 nin0).keep K_1872 nin0).keep K_1898 (ninS ne_1821 nin0))
              have f_1953 := (f_1886.keep K_1898)
              have f_1954 := ((f_1858.keep K_1872).keep K_1898)
              have f_1955 := (((((((f_1757.ext E_1763).keep K_1785 nin0).keep K_1806 (ninS ne_1766 nin0)).ext E_1817).keep K_1845 nin0).keep K_1872 nin0).keep K_1898 (ninS ne_1820 nin0))
              have f_1956 := (((((((f_1758.ext E_1763).keep K_1785 nin0).keep K_1806 (ninS ne_1766 nin0)).ext E_1817).keep K_1845 nin0).keep K_1872 nin0).keep K_1898 (ninS ne_1820 nin0))
              have f_1957 := ((f_1862.keep K_1872 nin0).keep K_1898 (ninS ne_1823 nin0))
              have f_1958 := (f_1892.keep K_1898)
              have f_1959 := ((f_1847.keep K_1872 nin0).keep K_1898 (ninS (Ne.symm ne_1853) nin0))
              have f_1960 := ((f_1848.keep K_1872 nin0).keep K_1898 (ninS (Ne.symm ne_1853) nin0))
              have f_1961 := (f_1887.keep K_1898 (ninS ne_1885 nin0))
              have f_1962 := ((f_1860.keep K_1872).keep K_1898)
              have f_1963 := (((((f_1787.keep K_1806 (ninS (Ne.symm ne_1791) nin0)).ext E_1817).keep K_1845 nin0).keep K_1872 nin0).keep K_1898 (ninS ne_1822 nin0))
              have f_1964 := (((((f_1788.keep K_1806 (ninS (Ne.symm ne_1791) nin0)).ext E_1817).keep K_1845 nin0).keep K_1872 nin0).keep K_1898 (ninS ne_1822 nin0))
              have f_1965 := ((f_1863.keep K_1872 nin0).keep K_1898 (ninS ne_1824 nin0))
              have f_1966 := (E_1873.keep K_1898)
              have f_1967 := (f_1874.keep K_1898 (ninS (Ne.symm ne_1880) nin0))
              have f_1968 := (f_1875.keep K_1898 (ninS (Ne.symm ne_1880) nin0))
              have f_1969 := (f_1876.keep K_1898 (ninS ne_1888 nin0))
              refine g_virtual C (own_w hw 58 rfl) (own_w hw 59 rfl) (own_w hw 61 rfl) (own_w hw 60 rfl) (own_w hw 36 rfl) (own_w hw 62 rfl) (notFace_of_selects (args := #[]) (mvT C.2.2.2.2.1 (own_w hw 61 rfl))) (by decide) f_1950 (rm_mneqD l Z a0 hw n0 a_1761 a_1815 a_1752 a_1842 a_1782 a_1869 b_1753 b_1843 b_1783 b_1870 (own_str la ca cb) (own_str la da db) (own_str lb cc cd) (own_str lb dc dd) h_1894 f_1903 cm f_1949 f_1950 f_1951 f_1952 f_1953 f_1899 f_1900 f_1954 f_1955 f_1956 f_1957 (own_sh _ _ _) f_1958 f_1959 f_1960 f_1961 (own_sh _ _ _) f_1962 f_1963 f_1964 f_1965 (own_sh _ _ _) f_1966 f_1967 f_1968 f_1969 (own_sh _ _ _) ne_1850 ne_1879) (st := []) [(.ref a_1815)] rfl rfl own_pd_4_equals rfl rfl (by decide) (W := 0) (Nat.le_of_eq rfl) (by decide) (by decide) (by decide) at_346 (pc' := 349) rfl ?_
              intro v_1972 h_1970 q_1971
              obtain ⟨r_1974, rfl, ⟨e_1975, rfl⟩ | ⟨e_1975, rfl⟩, rfl⟩ := q_1971
              · exact absurd (e_1975.2) e_1915
              · show Go B n0 _ h_1894 26 332 349 #[.val (.int p0), .val (.int p1), .val (.int p2), .val (.int p3), .val (.int ca), .val (.int cb), .val (.int cc), .val (.int cd), .val (.int la), .val (.int lb), .val (.int la), .val (.int lb), .val (.int da), .val (.int db), .val (.int dc), .val (.int dd), .val (.ref a_1752), .val (.ref a_1761), .val (.ref a_1815), .val (.int (0 : Int32)), .val (.int (0 : Int32))] [(.int (0 : Int32))]
                refine g_iload C at_349 (v := (0 : Int32)) rfl (pc' := 351) rfl ?_
                refine g_icmp_n C at_351 (Jvm.Free.XT.ii_ne_f (by decide)) (pc' := 354) rfl ?_
                refine g_aload C at_354 (v := (.ref a_1815)) rfl rfl (pc' := 356) rfl ?_
                refine g_aload C at_356 (v := (.ref a_1761)) rfl rfl (pc' := 358) rfl ?_
                refine g_virtual C (own_w hw 58 rfl) (own_w hw 59 rfl) (own_w hw 61 rfl) (own_w hw 60 rfl) (own_w hw 36 rfl) (own_w hw 62 rfl) (notFace_of_selects (args := #[]) (mvT C.2.2.2.2.1 (own_w hw 61 rfl))) (by decide) f_1953 (rm_mneqD l Z a0 hw n0 a_1815 a_1761 a_1842 a_1752 a_1869 a_1782 b_1843 b_1753 b_1870 b_1783 (own_str la da db) (own_str la ca cb) (own_str lb dc dd) (own_str lb cc cd) h_1894 f_1903 cm f_1949 f_1953 f_1899 f_1900 f_1950 f_1951 f_1952 f_1958 f_1959 f_1960 f_1961 (own_sh _ _ _) f_1954 f_1955 f_1956 f_1957 (own_sh _ _ _) f_1966 f_1967 f_1968 f_1969 (own_sh _ _ _) f_1962 f_1963 f_1964 f_1965 (own_sh _ _ _) (Ne.symm ne_1850) (Ne.symm ne_1879)) (st := []) [(.ref a_1761)] rfl rfl own_pd_4_equals rfl rfl (by decide) (W := 0) (Nat.le_of_eq rfl) (by decide) (by decide) (by decide) at_358 (pc' := 361) rfl ?_
                intro v_1978 h_1976 q_1977
                obtain ⟨r_1980, rfl, ⟨e_1981, rfl⟩ | ⟨e_1981, rfl⟩, rfl⟩ := q_1977
                · exact absurd (e_1981.2.symm) e_1915
                · show Go B n0 _ h_1894 26 332 361 #[.val (.int p0), .val (.int p1), .val (.int p2), .val (.int p3), .val (.int ca), .val (.int cb), .val (.int cc), .val (.int cd), .val (.int la), .val (.int lb), .val (.int la), .val (.int lb), .val (.int da), .val (.int db), .val (.int dc), .val (.int dd), .val (.ref a_1752), .val (.ref a_1761), .val (.ref a_1815), .val (.int (0 : Int32)), .val (.int (0 : Int32))] [(.int (0 : Int32))]
                  refine g_iload C at_361 (v := (0 : Int32)) rfl (pc' := 363) rfl ?_
                  refine g_icmp_n C at_363 (Jvm.Free.XT.ii_ne_f (by decide)) (pc' := 366) rfl ?_
                  refine g_iconst C at_366 (v := (1 : Int32)) rfl (pc' := 367) rfl ?_
                  refine g_goto C at_367 (pc' := 371) (by decide) (by decide) ?_
                  refine g_ret C (eW hW fun vm' hw' => trivial) (v := (.int (1 : Int32))) (ty := .boolean) rfl rfl (Or.inl ⟨rfl, Or.inr (Or.inl rfl), _, rfl⟩) at_371 (by decide) (by decide) ?_
                  rfl
          · show Go B n0 _ h_1894 26 332 314 #[.val (.int p0), .val (.int p1), .val (.int p2), .val (.int p3), .val (.int ca), .val (.int cb), .val (.int cc), .val (.int cd), .val (.int la), .val (.int lb), .val (.int la), .val (.int lb), .val (.int da), .val (.int db), .val (.int dc), .val (.int dd), .val (.ref a_1752), .val (.ref a_1761), .val (.ref a_1815), .val (.int (0 : Int32)), .unset] [(.int (0 : Int32))]
            refine g_if_y C at_314 (Jvm.Free.XT.i0_eq_t (by decide)) (pc' := 339) (by decide) (by decide) ?_
            refine g_iconst C at_339 (v := (0 : Int32)) rfl (pc' := 340) rfl ?_
            refine g_istore C at_340 (v := (0 : Int32)) (L' := #[.val (.int p0), .val (.int p1), .val (.int p2), .val (.int p3), .val (.int ca), .val (.int cb), .val (.int cc), .val (.int cd), .val (.int la), .val (.int lb), .val (.int la), .val (.int lb), .val (.int da), .val (.int db), .val (.int dc), .val (.int dd), .val (.ref a_1752), .val (.ref a_1761), .val (.ref a_1815), .val (.int (0 : Int32)), .val (.int (0 : Int32))]) rfl (pc' := 342) rfl ?_
            refine g_aload C at_342 (v := (.ref a_1761)) rfl rfl (pc' := 344) rfl ?_
            refine g_aload C at_344 (v := (.ref a_1815)) rfl rfl (pc' := 346) rfl ?_
            have f_1982 := (f_1889.keep K_1898 (allS ge_a_1815 all0))
            have f_1983 := ((f_1859.keep K_1872).keep K_1898)
            have f_1984 := ((((f_1807.ext E_1817).keep K_1845 nin0).keep K_1872 nin0).keep K_1898 (ninS ne_1821 nin0))
            have f_1985 := ((((f_1808.ext E_1817).keep K_1845 nin0).keep K_1872 nin0).keep K_1898 (ninS ne_1821 nin0))
            have f_1986 := (f_1886.keep K_1898)
            have f_1987 := ((f_1858.keep K_1872).keep K_1898)
            have f_1988 := (((((((f_1757.ext E_1763).keep K_1785 nin0).keep K_1806 (ninS ne_1766 nin0)).ext E_1817).keep K_1845 nin0).keep K_1872 nin0).keep K_1898 (ninS ne_1820 nin0))
            have f_1989 := (((((((f_1758.ext E_1763).keep K_1785 nin0).keep K_1806 (ninS ne_1766 nin0)).ext E_1817).keep K_1845 nin0).keep K_1872 nin0).keep K_1898 (ninS ne_1820 nin0))
            have f_1990 := ((f_1862.keep K_1872 nin0).keep K_1898 (ninS ne_1823 nin0))
            have f_1991 := (f_1892.keep K_1898)
            have f_1992 := ((f_1847.keep K_1872 nin0).keep K_1898 (ninS (Ne.symm ne_1853) nin0))
            have f_1993 := ((f_1848.keep K_1872 nin0).keep K_1898 (ninS (Ne.symm ne_1853) nin0))
            have f_1994 := (f_1887.keep K_1898 (ninS ne_1885 nin0))
            have f_1995 := ((f_1860.keep K_1872).keep K_1898)
            have f_1996 := (((((f_1787.keep K_1806 (ninS (Ne.symm ne_1791) nin0)).ext E_1817).keep K_1845 nin0).keep K_1872 nin0).keep K_1898 (ninS ne_1822 nin0))
            have f_1997 := (((((f_1788.keep K_1806 (ninS (Ne.symm ne_1791) nin0)).ext E_1817).keep K_1845 nin0).keep K_1872 nin0).keep K_1898 (ninS ne_1822 nin0))
            have f_1998 := ((f_1863.keep K_1872 nin0).keep K_1898 (ninS ne_1824 nin0))
            have f_1999 := (E_1873.keep K_1898)
            have f_2000 := (f_1874.keep K_1898 (ninS (Ne.symm ne_1880) nin0))
            have f_2001 := (f_1875.keep K_1898 (ninS (Ne.symm ne_1880) nin0))
            have f_2002 := (f_1876.keep K_1898 (ninS ne_1888 nin0))
            refine g_virtual C (own_w hw 58 rfl) (own_w hw 59 rfl) (own_w hw 61 rfl) (own_w hw 60 rfl) (own_w hw 36 rfl) (own_w hw 62 rfl) (notFace_of_selects (args := #[]) (mvT C.2.2.2.2.1 (own_w hw 61 rfl))) (by decide) f_1983 (rm_mneqD l Z a0 hw n0 a_1761 a_1815 a_1752 a_1842 a_1782 a_1869 b_1753 b_1843 b_1783 b_1870 (own_str la ca cb) (own_str la da db) (own_str lb cc cd) (own_str lb dc dd) h_1894 f_1903 cm f_1982 f_1983 f_1984 f_1985 f_1986 f_1899 f_1900 f_1987 f_1988 f_1989 f_1990 (own_sh _ _ _) f_1991 f_1992 f_1993 f_1994 (own_sh _ _ _) f_1995 f_1996 f_1997 f_1998 (own_sh _ _ _) f_1999 f_2000 f_2001 f_2002 (own_sh _ _ _) ne_1850 ne_1879) (st := []) [(.ref a_1815)] rfl rfl own_pd_4_equals rfl rfl (by decide) (W := 0) (Nat.le_of_eq rfl) (by decide) (by decide) (by decide) at_346 (pc' := 349) rfl ?_
            intro v_2005 h_2003 q_2004
            obtain ⟨r_2007, rfl, ⟨e_2008, rfl⟩ | ⟨e_2008, rfl⟩, rfl⟩ := q_2004
            · exact absurd (e_2008.1) e_1909
            · show Go B n0 _ h_1894 26 332 349 #[.val (.int p0), .val (.int p1), .val (.int p2), .val (.int p3), .val (.int ca), .val (.int cb), .val (.int cc), .val (.int cd), .val (.int la), .val (.int lb), .val (.int la), .val (.int lb), .val (.int da), .val (.int db), .val (.int dc), .val (.int dd), .val (.ref a_1752), .val (.ref a_1761), .val (.ref a_1815), .val (.int (0 : Int32)), .val (.int (0 : Int32))] [(.int (0 : Int32))]
              refine g_iload C at_349 (v := (0 : Int32)) rfl (pc' := 351) rfl ?_
              refine g_icmp_n C at_351 (Jvm.Free.XT.ii_ne_f (by decide)) (pc' := 354) rfl ?_
              refine g_aload C at_354 (v := (.ref a_1815)) rfl rfl (pc' := 356) rfl ?_
              refine g_aload C at_356 (v := (.ref a_1761)) rfl rfl (pc' := 358) rfl ?_
              refine g_virtual C (own_w hw 58 rfl) (own_w hw 59 rfl) (own_w hw 61 rfl) (own_w hw 60 rfl) (own_w hw 36 rfl) (own_w hw 62 rfl) (notFace_of_selects (args := #[]) (mvT C.2.2.2.2.1 (own_w hw 61 rfl))) (by decide) f_1986 (rm_mneqD l Z a0 hw n0 a_1815 a_1761 a_1842 a_1752 a_1869 a_1782 b_1843 b_1753 b_1870 b_1783 (own_str la da db) (own_str la ca cb) (own_str lb dc dd) (own_str lb cc cd) h_1894 f_1903 cm f_1982 f_1986 f_1899 f_1900 f_1983 f_1984 f_1985 f_1991 f_1992 f_1993 f_1994 (own_sh _ _ _) f_1987 f_1988 f_1989 f_1990 (own_sh _ _ _) f_1999 f_2000 f_2001 f_2002 (own_sh _ _ _) f_1995 f_1996 f_1997 f_1998 (own_sh _ _ _) (Ne.symm ne_1850) (Ne.symm ne_1879)) (st := []) [(.ref a_1761)] rfl rfl own_pd_4_equals rfl rfl (by decide) (W := 0) (Nat.le_of_eq rfl) (by decide) (by decide) (by decide) at_358 (pc' := 361) rfl ?_
              intro v_2011 h_2009 q_2010
              obtain ⟨r_2013, rfl, ⟨e_2014, rfl⟩ | ⟨e_2014, rfl⟩, rfl⟩ := q_2010
              · exact absurd (e_2014.1.symm) e_1909
              · show Go B n0 _ h_1894 26 332 361 #[.val (.int p0), .val (.int p1), .val (.int p2), .val (.int p3), .val (.int ca), .val (.int cb), .val (.int cc), .val (.int cd), .val (.int la), .val (.int lb), .val (.int la), .val (.int lb), .val (.int da), .val (.int db), .val (.int dc), .val (.int dd), .val (.ref a_1752), .val (.ref a_1761), .val (.ref a_1815), .val (.int (0 : Int32)), .val (.int (0 : Int32))] [(.int (0 : Int32))]
                refine g_iload C at_361 (v := (0 : Int32)) rfl (pc' := 363) rfl ?_
                refine g_icmp_n C at_363 (Jvm.Free.XT.ii_ne_f (by decide)) (pc' := 366) rfl ?_
                refine g_iconst C at_366 (v := (1 : Int32)) rfl (pc' := 367) rfl ?_
                refine g_goto C at_367 (pc' := 371) (by decide) (by decide) ?_
                refine g_ret C (eW hW fun vm' hw' => trivial) (v := (.int (1 : Int32))) (ty := .boolean) rfl rfl (Or.inl ⟨rfl, Or.inr (Or.inl rfl), _, rfl⟩) at_371 (by decide) (by decide) ?_
                rfl
        · subst i_1901e
          show Go B n0 _ h_1894 26 332 240 #[.val (.int p0), .val (.int p1), .val (.int p2), .val (.int p3), .val (.int ca), .val (.int cb), .val (.int cc), .val (.int cd), .val (.int la), .val (.int lb), .val (.int la), .val (.int lb), .val (.int da), .val (.int db), .val (.int dc), .val (.int dd), .val (.ref a_1752), .val (.ref a_1761), .val (.ref a_1815), .unset, .unset] [(.int (1 : Int32))]
          refine g_istore C at_240 (v := (1 : Int32)) (L' := #[.val (.int p0), .val (.int p1), .val (.int p2), .val (.int p3), .val (.int ca), .val (.int cb), .val (.int cc), .val (.int cd), .val (.int la), .val (.int lb), .val (.int la), .val (.int lb), .val (.int da), .val (.int db), .val (.int dc), .val (.int dd), .val (.ref a_1752), .val (.ref a_1761), .val (.ref a_1815), .val (.int (1 : Int32)), .unset]) rfl (pc' := 242) rfl ?_
          refine g_iload C at_242 (v := (1 : Int32)) rfl (pc' := 244) rfl ?_
          refine g_iconst C at_244 (v := (1 : Int32)) rfl (pc' := 245) rfl ?_
          refine g_icmp_n C at_245 (Jvm.Free.XT.ii_ne_f (by decide)) (pc' := 248) rfl ?_
          refine g_aload C at_248 (v := (.ref a_1761)) rfl rfl (pc' := 250) rfl ?_
          refine g_aconst_null C at_250 (pc' := 251) rfl ?_
          have f_2015 := (Nat.le_trans f_1893 K_1898.1)
          have f_2016 := ((f_1859.keep K_1872).keep K_1898)
          refine g_virtual C (own_w hw 58 rfl) (own_w hw 59 rfl) (own_w hw 61 rfl) (own_w hw 60 rfl) (own_w hw 36 rfl) (own_w hw 62 rfl) (notFace_of_selects (args := #[]) (mvT C.2.2.2.2.1 (own_w hw 61 rfl))) (by decide) f_2016 (rm_mneqN l Z a0 hw n0 a_1761 h_1894 f_2015 ) (st := []) [.null] rfl rfl own_pd_4_equals rfl rfl (by decide) (W := 0) (Nat.le_of_eq rfl) (by decide) (by decide) (by decide) at_251 (pc' := 254) rfl ?_
          intro v_2019 h_2017 q_2018
          obtain ⟨rfl, rfl⟩ := q_2018
          show Go B n0 _ h_1894 26 332 254 #[.val (.int p0), .val (.int p1), .val (.int p2), .val (.int p3), .val (.int ca), .val (.int cb), .val (.int cc), .val (.int cd), .val (.int la), .val (.int lb), .val (.int la), .val (.int lb), .val (.int da), .val (.int db), .val (.int dc), .val (.int dd), .val (.ref a_1752), .val (.ref a_1761), .val (.ref a_1815), .val (.int (1 : Int32)), .unset] [(.int (0 : Int32))]
          refine g_if_n C at_254 (Jvm.Free.XT.i0_ne_f (by decide)) (pc' := 257) rfl ?_
          refine g_iconst C at_257 (v := (1 : Int32)) rfl (pc' := 258) rfl ?_
          refine g_goto C at_258 (pc' := 262) (by decide) (by decide) ?_
          refine g_ret C (eW hW fun vm' hw' => trivial) (v := (.int (1 : Int32))) (ty := .boolean) rfl rfl (Or.inl ⟨rfl, Or.inr (Or.inl rfl), _, rfl⟩) at_262 (by decide) (by decide) ?_
          rfl
        · subst i_1901e
          show Go B n0 _ h_1894 26 332 240 #[.val (.int p0), .val (.int p1), .val (.int p2), .val (.int p3), .val (.int ca), .val (.int cb), .val (.int cc), .val (.int cd), .val (.int la), .val (.int lb), .val (.int la), .val (.int lb), .val (.int da), .val (.int db), .val (.int dc), .val (.int dd), .val (.ref a_1752), .val (.ref a_1761), .val (.ref a_1815), .unset, .unset] [(.int (2 : Int32))]
          refine g_istore C at_240 (v := (2 : Int32)) (L' := #[.val (.int p0), .val (.int p1), .val (.int p2), .val (.int p3), .val (.int ca), .val (.int cb), .val (.int cc), .val (.int cd), .val (.int la), .val (.int lb), .val (.int la), .val (.int lb), .val (.int da), .val (.int db), .val (.int dc), .val (.int dd), .val (.ref a_1752), .val (.ref a_1761), .val (.ref a_1815), .val (.int (2 : Int32)), .unset]) rfl (pc' := 242) rfl ?_
          refine g_iload C at_242 (v := (2 : Int32)) rfl (pc' := 244) rfl ?_
          refine g_iconst C at_244 (v := (1 : Int32)) rfl (pc' := 245) rfl ?_
          refine g_icmp_y C at_245 (Jvm.Free.XT.ii_ne_t (by decide)) (pc' := 263) (by decide) (by decide) ?_
          refine g_iload C at_263 (v := (2 : Int32)) rfl (pc' := 265) rfl ?_
          refine g_iconst C at_265 (v := (2 : Int32)) rfl (pc' := 266) rfl ?_
          refine g_icmp_n C at_266 (Jvm.Free.XT.ii_ne_f (by decide)) (pc' := 269) rfl ?_
          refine g_aload C at_269 (v := (.ref a_1761)) rfl rfl (pc' := 271) rfl ?_
          refine g_aload C at_271 (v := (.ref a_1752)) rfl rfl (pc' := 273) rfl ?_
          have f_2021 := ((f_1858.keep K_1872).keep K_1898)
          have f_2022 := (Nat.le_trans f_1893 K_1898.1)
          have f_2023 := ((f_1859.keep K_1872).keep K_1898)
          refine g_virtual C (own_w hw 58 rfl) (own_w hw 59 rfl) (own_w hw 61 rfl) (own_w hw 60 rfl) (own_w hw 36 rfl) (own_w hw 62 rfl) (notFace_of_selects (args := #[]) (mvT C.2.2.2.2.1 (own_w hw 61 rfl))) (by decide) f_2023 (rm_mneqT l Z a0 hw n0 a_1761 a_1752 h_1894 f_2022 f_2021) (st := []) [(.ref a_1752)] rfl rfl own_pd_4_equals rfl rfl (by decide) (W := 0) (Nat.le_of_eq rfl) (by decide) (by decide) (by decide) at_273 (pc' := 276) rfl ?_
          intro v_2026 h_2024 q_2025
          obtain ⟨rfl, rfl⟩ := q_2025
          show Go B n0 _ h_1894 26 332 276 #[.val (.int p0), .val (.int p1), .val (.int p2), .val (.int p3), .val (.int ca), .val (.int cb), .val (.int cc), .val (.int cd), .val (.int la), .val (.int lb), .val (.int la), .val (.int lb), .val (.int da), .val (.int db), .val (.int dc), .val (.int dd), .val (.ref a_1752), .val (.ref a_1761), .val (.ref a_1815), .val (.int (2 : Int32)), .unset] [(.int (0 : Int32))]
          refine g_if_n C at_276 (Jvm.Free.XT.i0_ne_f (by decide)) (pc' := 279) rfl ?_
          refine g_iconst C at_279 (v := (1 : Int32)) rfl (pc' := 280) rfl ?_
          refine g_goto C at_280 (pc' := 284) (by decide) (by decide) ?_
          refine g_ret C (eW hW fun vm' hw' => trivial) (v := (.int (1 : Int32))) (ty := .boolean) rfl rfl (Or.inl ⟨rfl, Or.inr (Or.inl rfl), _, rfl⟩) at_284 (by decide) (by decide) ?_
          rfl
        · subst i_1901e
          show Go B n0 _ h_1894 26 332 240 #[.val (.int p0), .val (.int p1), .val (.int p2), .val (.int p3), .val (.int ca), .val (.int cb), .val (.int cc), .val (.int cd), .val (.int la), .val (.int lb), .val (.int la), .val (.int lb), .val (.int da), .val (.int db), .val (.int dc), .val (.int dd), .val (.ref a_1752), .val (.ref a_1761), .val (.ref a_1815), .unset, .unset] [(.int (3 : Int32))]
          refine g_istore C at_240 (v := (3 : Int32)) (L' := #[.val (.int p0), .val (.int p1), .val (.int p2), .val (.int p3), .val (.int ca), .val (.int cb), .val (.int cc), .val (.int cd), .val (.int la), .val (.int lb), .val (.int la), .val (.int lb), .val (.int da), .val (.int db), .val (.int dc), .val (.int dd), .val (.ref a_1752), .val (.ref a_1761), .val (.ref a_1815), .val (.int (3 : Int32)), .unset]) rfl (pc' := 242) rfl ?_
          refine g_iload C at_242 (v := (3 : Int32)) rfl (pc' := 244) rfl ?_
          refine g_iconst C at_244 (v := (1 : Int32)) rfl (pc' := 245) rfl ?_
          refine g_icmp_y C at_245 (Jvm.Free.XT.ii_ne_t (by decide)) (pc' := 263) (by decide) (by decide) ?_
          refine g_iload C at_263 (v := (3 : Int32)) rfl (pc' := 265) rfl ?_
          refine g_iconst C at_265 (v := (2 : Int32)) rfl (pc' := 266) rfl ?_
          refine g_icmp_y C at_266 (Jvm.Free.XT.ii_ne_t (by decide)) (pc' := 285) (by decide) (by decide) ?_
          refine g_iload C at_285 (v := (3 : Int32)) rfl (pc' := 287) rfl ?_
          refine g_iconst C at_287 (v := (3 : Int32)) rfl (pc' := 288) rfl ?_
          refine g_icmp_n C at_288 (Jvm.Free.XT.ii_ne_f (by decide)) (pc' := 291) rfl ?_
          refine g_aload C at_291 (v := (.ref a_1761)) rfl rfl (pc' := 293) rfl ?_
          refine g_aload C at_293 (v := (.ref a_1761)) rfl rfl (pc' := 295) rfl ?_
          have f_2028 := ((f_1859.keep K_1872).keep K_1898)
          have f_2029 := ((((f_1807.ext E_1817).keep K_1845 nin0).keep K_1872 nin0).keep K_1898 (ninS ne_1821 nin0))
          have f_2030 := ((((f_1808.ext E_1817).keep K_1845 nin0).keep K_1872 nin0).keep K_1898 (ninS ne_1821 nin0))
          have f_2031 := ((f_1858.keep K_1872).keep K_1898)
          have f_2032 := ((f_1860.keep K_1872).keep K_1898)
          have f_2033 := (Nat.le_trans f_1893 K_1898.1)
          refine g_virtual C (own_w hw 58 rfl) (own_w hw 59 rfl) (own_w hw 61 rfl) (own_w hw 60 rfl) (own_w hw 36 rfl) (own_w hw 62 rfl) (notFace_of_selects (args := #[]) (mvT C.2.2.2.2.1 (own_w hw 61 rfl))) (by decide) f_2028 (rm_mneqS l Z a0 hw n0 a_1761 a_1752 a_1782 h_1894 f_2033 f_2028 f_2029 f_2030 f_2031 f_2032) (st := []) [(.ref a_1761)] rfl rfl own_pd_4_equals rfl rfl (by decide) (W := 0) (Nat.le_of_eq rfl) (by decide) (by decide) (by decide) at_295 (pc' := 298) rfl ?_
          intro v_2036 h_2034 q_2035
          obtain ⟨rfl, rfl⟩ := q_2035
          show Go B n0 _ h_1894 26 332 298 #[.val (.int p0), .val (.int p1), .val (.int p2), .val (.int p3), .val (.int ca), .val (.int cb), .val (.int cc), .val (.int cd), .val (.int la), .val (.int lb), .val (.int la), .val (.int lb), .val (.int da), .val (.int db), .val (.int dc), .val (.int dd), .val (.ref a_1752), .val (.ref a_1761), .val (.ref a_1815), .val (.int (3 : Int32)), .unset] [(.int (1 : Int32))]
          refine g_ret C (eW hW fun vm' hw' => trivial) (v := (.int (1 : Int32))) (ty := .boolean) rfl rfl (Or.inl ⟨rfl, Or.inr (Or.inl rfl), _, rfl⟩) at_298 (by decide) (by decide) ?_
          rfl
      · refine g_if_n C at_95 (Jvm.Free.XT.i0_eq_f hb_1747) (pc' := 98) rfl ?_
        refine g_iload C at_98 (v := ca) rfl (pc' := 100) rfl ?_
        refine g_iload_n C at_100 (v := p1) rfl (pc' := 101) rfl ?_
        refine g_iconst C at_101 (v := (1 : Int32)) rfl (pc' := 102) rfl ?_
        refine g_iand C (x := p1) (y := (1 : Int32)) at_102  (pc' := 103) rfl ?_
        refine g_ixor C (x := ca) (y := (p1 &&& (1 : Int32))) at_103  (pc' := 104) rfl ?_
        obtain ⟨da, eda⟩ : ∃ z : Int32, z = (ca ^^^ (p1 &&& (1 : Int32))) := ⟨_, rfl⟩
        rw [← eda]
        have kda : Ch da := by rw [eda]; exact own_chX kca _
        refine g_istore C at_104 (v := da) (L' := #[.val (.int p0), .val (.int p1), .val (.int p2), .val (.int p3), .val (.int ca), .val (.int cb), .val (.int cc), .val (.int cd), .val (.int la), .val (.int lb), .val (.int la), .val (.int lb), .val (.int da), .unset, .unset, .unset, .unset, .unset, .unset, .unset, .unset]) rfl (pc' := 106) rfl ?_
        refine g_iload C at_106 (v := cb) rfl (pc' := 108) rfl ?_
        refine g_iload_n C at_108 (v := p1) rfl (pc' := 109) rfl ?_
        refine g_iconst C at_109 (v := (1 : Int32)) rfl (pc' := 110) rfl ?_
        refine g_iushr C (x := p1) (y := (1 : Int32)) at_110  (pc' := 111) rfl ?_
        refine g_iconst C at_111 (v := (1 : Int32)) rfl (pc' := 112) rfl ?_
        refine g_iand C (x := (Jvm.Free.XT.ushr p1 (1 : Int32))) (y := (1 : Int32)) at_112  (pc' := 113) rfl ?_
        refine g_ixor C (x := cb) (y := ((Jvm.Free.XT.ushr p1 (1 : Int32)) &&& (1 : Int32))) at_113  (pc' := 114) rfl ?_
        obtain ⟨db, edb⟩ : ∃ z : Int32, z = (cb ^^^ ((Jvm.Free.XT.ushr p1 (1 : Int32)) &&& (1 : Int32))) := ⟨_, rfl⟩
        rw [← edb]
        have kdb : Ch db := by rw [edb]; exact own_chX kcb _
        refine g_istore C at_114 (v := db) (L' := #[.val (.int p0), .val (.int p1), .val (.int p2), .val (.int p3), .val (.int ca), .val (.int cb), .val (.int cc), .val (.int cd), .val (.int la), .val (.int lb), .val (.int la), .val (.int lb), .val (.int da), .val (.int db), .unset, .unset, .unset, .unset, .unset, .unset, .unset]) rfl (pc' := 116) rfl ?_
        refine g_iload C at_116 (v := cc) rfl (pc' := 118) rfl ?_
        refine g_iload_n C at_118 (v := p1) rfl (pc' := 119) rfl ?_
        refine g_iconst C at_119 (v := (2 : Int32)) rfl (pc' := 120) rfl ?_
        refine g_iushr C (x := p1) (y := (2 : Int32)) at_120  (pc' := 121) rfl ?_
        refine g_iconst C at_121 (v := (1 : Int32)) rfl (pc' := 122) rfl ?_
        refine g_iand C (x := (Jvm.Free.XT.ushr p1 (2 : Int32))) (y := (1 : Int32)) at_122  (pc' := 123) rfl ?_
        refine g_ixor C (x := cc) (y := ((Jvm.Free.XT.ushr p1 (2 : Int32)) &&& (1 : Int32))) at_123  (pc' := 124) rfl ?_
        obtain ⟨dc, edc⟩ : ∃ z : Int32, z = (cc ^^^ ((Jvm.Free.XT.ushr p1 (2 : Int32)) &&& (1 : Int32))) := ⟨_, rfl⟩
        rw [← edc]
        have kdc : Ch dc := by rw [edc]; exact own_chX kcc _
        refine g_istore C at_124 (v := dc) (L' := #[.val (.int p0), .val (.int p1), .val (.int p2), .val (.int p3), .val (.int ca), .val (.int cb), .val (.int cc), .val (.int cd), .val (.int la), .val (.int lb), .val (.int la), .val (.int lb), .val (.int da), .val (.int db), .val (.int dc), .unset, .unset, .unset, .unset, .unset, .unset]) rfl (pc' := 126) rfl ?_
        refine g_iload C at_126 (v := cd) rfl (pc' := 128) rfl ?_
        refine g_iload_n C at_128 (v := p1) rfl (pc' := 129) rfl ?_
        refine g_iconst C at_129 (v := (3 : Int32)) rfl (pc' := 130) rfl ?_
        refine g_iushr C (x := p1) (y := (3 : Int32)) at_130  (pc' := 131) rfl ?_
        refine g_iconst C at_131 (v := (1 : Int32)) rfl (pc' := 132) rfl ?_
        refine g_iand C (x := (Jvm.Free.XT.ushr p1 (3 : Int32))) (y := (1 : Int32)) at_132  (pc' := 133) rfl ?_
        refine g_ixor C (x := cd) (y := ((Jvm.Free.XT.ushr p1 (3 : Int32)) &&& (1 : Int32))) at_133  (pc' := 134) rfl ?_
        obtain ⟨dd, edd⟩ : ∃ z : Int32, z = (cd ^^^ ((Jvm.Free.XT.ushr p1 (3 : Int32)) &&& (1 : Int32))) := ⟨_, rfl⟩
        rw [← edd]
        have kdd : Ch dd := by rw [edd]; exact own_chX kcd _
        refine g_istore C at_134 (v := dd) (L' := #[.val (.int p0), .val (.int p1), .val (.int p2), .val (.int p3), .val (.int ca), .val (.int cb), .val (.int cc), .val (.int cd), .val (.int la), .val (.int lb), .val (.int la), .val (.int lb), .val (.int da), .val (.int db), .val (.int dc), .val (.int dd), .unset, .unset, .unset, .unset, .unset]) rfl (pc' := 136) rfl ?_
        refine g_goto C at_136 (pc' := 176) (by decide) (by decide) ?_
        refine g_iload C at_176 (v := la) rfl (pc' := 178) rfl ?_
        refine g_iload C at_178 (v := ca) rfl (pc' := 180) rfl ?_
        refine g_iload C at_180 (v := cb) rfl (pc' := 182) rfl ?_
        refine g_staticV C hW (own_w hw 0 rfl) (own_w hw 1 rfl) (own_w hw 2 rfl) (own_w hw 3 rfl) (by decide) (rm_str l Z a0 hw n0 la ca cb h0 Z0 cm O ch0 ch1 ch2 cw kca kcb) (fun vm' hw' => InvK.warm I0 hw') (st := []) [(.int la), (.int ca), (.int cb)] rfl rfl own_pd_1_str rfl rfl (by decide) (W := 0) (Nat.le_of_eq rfl) (by decide) (by decide) (by decide) at_182 (pc' := 185) rfl ?_
        intro B C hW v_2040 h_2038 q_2039 I_2041
        obtain ⟨a_2042, b_2043, rfl, le_2044, K_2045, E_2046, f_2047, f_2048, f_2049⟩ := q_2039
        have ge_a_2042 : n0 ≤ a_2042 := Nat.le_trans Z0 le_2044
        have gs_a_2042 : h0.size ≤ a_2042 := Nat.le_trans (Nat.le_refl h0.size) le_2044
        show Go B n0 _ h_2038 4 8 185 #[.val (.int p0), .val (.int p1), .val (.int p2), .val (.int p3), .val (.int ca), .val (.int cb), .val (.int cc), .val (.int cd), .val (.int la), .val (.int lb), .val (.int la), .val (.int lb), .val (.int da), .val (.int db), .val (.int dc), .val (.int dd), .unset, .unset, .unset, .unset, .unset] [(.ref a_2042)]
        refine g_astore C at_185 (v := (.ref a_2042)) (L' := #[.val (.int p0), .val (.int p1), .val (.int p2), .val (.int p3), .val (.int ca), .val (.int cb), .val (.int cc), .val (.int cd), .val (.int la), .val (.int lb), .val (.int la), .val (.int lb), .val (.int da), .val (.int db), .val (.int dc), .val (.int dd), .val (.ref a_2042), .unset, .unset, .unset, .unset]) rfl rfl (pc' := 187) rfl ?_
        refine g_new C (own_w hw 34 rfl) (own_w hw 35 rfl) (own_w hw 36 rfl) (by decide) (by decide) at_187 (pc' := 190) rfl ?_
        intro h_2050 a_2051 g_2052 E_2053 A_2054 D_2055
        have ne_2056 : a_2042 ≠ a_2051 := ne_new E_2046.lt g_2052
        have ne_2057 : b_2043 ≠ a_2051 := ne_new f_2049.lt g_2052
        have f_2058 := (Nat.le_trans Z0 K_2045.1)
        have ge_a_2051 : n0 ≤ a_2051 := Nat.le_trans f_2058 (Nat.le_of_eq g_2052.symm)
        have f_2059 := (Nat.le_trans (Nat.le_refl h0.size) K_2045.1)
        have gs_a_2051 : h0.size ≤ a_2051 := Nat.le_trans f_2059 (Nat.le_of_eq g_2052.symm)
        have f_2060 : Fld Z h_2050 a_2051 "com/example/chiton/chiton/model/MethodName" "className" "Ljava/lang/String;" .null := D_2055 (Or.inr (own_w hw 51 rfl)) (ty := (.object "java/lang/String")) (by decide)
        have f_2061 : Fld Z h_2050 a_2051 "com/example/chiton/chiton/model/MethodName" "methodName" "Ljava/lang/String;" .null := D_2055 (Or.inr (own_w hw 54 rfl)) (ty := (.object "java/lang/String")) (by decide)
        show Go B n0 _ h_2050 5 10 190 #[.val (.int p0), .val (.int p1), .val (.int p2), .val (.int p3), .val (.int ca), .val (.int cb), .val (.int cc), .val (.int cd), .val (.int la), .val (.int lb), .val (.int la), .val (.int lb), .val (.int da), .val (.int db), .val (.int dc), .val (.int dd), .val (.ref a_2042), .unset, .unset, .unset, .unset] [(.ref a_2051)]
        refine g_dup C at_190 rfl (pc' := 191) rfl ?_
        refine g_aload C at_191 (v := (.ref a_2042)) rfl rfl (pc' := 193) rfl ?_
        refine g_iload C at_193 (v := lb) rfl (pc' := 195) rfl ?_
        refine g_iload C at_195 (v := cc) rfl (pc' := 197) rfl ?_
        refine g_iload C at_197 (v := cd) rfl (pc' := 199) rfl ?_
        have f_2062 := ((O.keep K_2045 all0).ext E_2053)
        have f_2063 := (Nat.le_trans f_2058 E_2053.1)
        have f_2064 := (I_2041.ext E_2053)
        have f_2065 := (E_2046.ext E_2053)
        have f_2066 := (f_2049.ext E_2053)
        have f_2067 := (Nat.le_trans f_2059 E_2053.1)
        refine g_staticV C hW (own_w hw 0 rfl) (own_w hw 1 rfl) (own_w hw 2 rfl) (own_w hw 3 rfl) (by decide) (rm_str l Z a0 hw n0 lb cc cd h_2050 f_2063 cm f_2062 ch0 ch1 ch2 cw kcc kcd) (fun vm' hw' => InvK.warm f_2064 hw') (st := [(.ref a_2042), (.ref a_2051), (.ref a_2051)]) [(.int lb), (.int cc), (.int cd)] rfl rfl own_pd_1_str rfl rfl (by decide) (W := 3) (Nat.le_of_eq rfl) (by decide) (by decide) (by decide) at_199 (pc' := 202) rfl ?_
        intro B C hW v_2070 h_2068 q_2069 I_2071
        obtain ⟨a_2072, b_2073, rfl, le_2074, K_2075, E_2076, f_2077, f_2078, f_2079⟩ := q_2069
        have ne_2080 : a_2042 ≠ a_2072 := ne_ge f_2065.lt le_2074
        have ne_2081 : a_2051 ≠ a_2072 := ne_ge A_2054.lt le_2074
        have ne_2082 : b_2043 ≠ a_2072 := ne_ge f_2066.lt le_2074
        have ge_a_2072 : n0 ≤ a_2072 := Nat.le_trans f_2063 le_2074
        have gs_a_2072 : h0.size ≤ a_2072 := Nat.le_trans f_2067 le_2074
        show Go B n0 _ h_2068 9 18 202 #[.val (.int p0), .val (.int p1), .val (.int p2), .val (.int p3), .val (.int ca), .val (.int cb), .val (.int cc), .val (.int cd), .val (.int la), .val (.int lb), .val (.int la), .val (.int lb), .val (.int da), .val (.int db), .val (.int dc), .val (.int dd), .val (.ref a_2042), .unset, .unset, .unset, .unset] [(.ref a_2072), (.ref a_2042), (.ref a_2051), (.ref a_2051)]
        have f_2084 := (A_2054.keep K_2075)
        have f_2085 := (f_2066.keep K_2075 nin0)
        have ne_2083 : b_2043 ≠ a_2051 := own_neA f_2084 f_2085 (own_w hw 35 rfl)
        have ne_2086 : b_2073 ≠ a_2051 := own_neA f_2084 f_2079 (own_w hw 35 rfl)
        have f_2087 := (f_2062.keep K_2075 all0)
        have f_2088 := (f_2060.keep K_2075 nin0)
        have f_2089 := (f_2061.keep K_2075 nin0)
        have f_2090 := (f_2065.keep K_2075)
        have f_2091 := (Nat.le_trans f_2063 K_2075.1)
        refine g_specialV C hW (a := a_2051) rfl (own_w hw 40 rfl) (own_w hw 41 rfl) (own_w hw 36 rfl) (own_w hw 42 rfl) (by decide) (rm_mninit l Z a0 hw n0 a_2051 a_2042 a_2072 h_2068 f_2091 cm f_2087 ch0 ch1 ch2 cw f_2084 f_2088 f_2089 ge_a_2051 f_2090 E_2076) (fun vm' hw' => InvK.warm I_2071 hw') (st := [(.ref a_2051)]) [(.ref a_2042), (.ref a_2072)] rfl rfl own_pd_6_init rfl rfl (by decide) (W := 1) (Nat.le_of_eq rfl) (by decide) (by decide) (by decide) at_202 (pc' := 205) rfl ?_
        intro B C hW v_2094 h_2092 q_2093 I_2095
        obtain ⟨rfl, K_2096, f_2097, f_2098⟩ := q_2093
        show Go B n0 _ h_2092 13 166 205 #[.val (.int p0), .val (.int p1), .val (.int p2), .val (.int p3), .val (.int ca), .val (.int cb), .val (.int cc), .val (.int cd), .val (.int la), .val (.int lb), .val (.int la), .val (.int lb), .val (.int da), .val (.int db), .val (.int dc), .val (.int dd), .val (.ref a_2042), .unset, .unset, .unset, .unset] [(.ref a_2051)]
        refine g_astore C at_205 (v := (.ref a_2051)) (L' := #[.val (.int p0), .val (.int p1), .val (.int p2), .val (.int p3), .val (.int ca), .val (.int cb), .val (.int cc), .val (.int cd), .val (.int la), .val (.int lb), .val (.int la), .val (.int lb), .val (.int da), .val (.int db), .val (.int dc), .val (.int dd), .val (.ref a_2042), .val (.ref a_2051), .unset, .unset, .unset]) rfl rfl (pc' := 207) rfl ?_
        have f_2099 := (f_2090.keep K_2096)
        have f_2100 := (f_2084.keep K_2096)
        have f_2101 := (E_2076.keep K_2096)
        have f_2102 := (f_2085.keep K_2096 (ninS ne_2083 nin0))
        have f_2103 := (f_2079.keep K_2096 (ninS ne_2086 nin0))
        refine g_new C (own_w hw 34 rfl) (own_w hw 35 rfl) (own_w hw 36 rfl) (by decide) (by decide) at_207 (pc' := 210) rfl ?_
        intro h_2104 a_2105 g_2106 E_2107 A_2108 D_2109
        have ne_2110 : a_2042 ≠ a_2105 := ne_new f_2099.lt g_2106
        have ne_2111 : a_2051 ≠ a_2105 := ne_new f_2100.lt g_2106
        have ne_2112 : a_2072 ≠ a_2105 := ne_new f_2101.lt g_2106
        have ne_2113 : b_2043 ≠ a_2105 := ne_new f_2102.lt g_2106
        have ne_2114 : b_2073 ≠ a_2105 := ne_new f_2103.lt g_2106
        have f_2115 := (Nat.le_trans f_2091 K_2096.1)
        have ge_a_2105 : n0 ≤ a_2105 := Nat.le_trans f_2115 (Nat.le_of_eq g_2106.symm)
        have f_2116 := (Nat.le_trans (Nat.le_trans f_2067 K_2075.1) K_2096.1)
        have gs_a_2105 : h0.size ≤ a_2105 := Nat.le_trans f_2116 (Nat.le_of_eq g_2106.symm)
        have f_2117 : Fld Z h_2104 a_2105 "com/example/chiton/chiton/model/MethodName" "className" "Ljava/lang/String;" .null := D_2109 (Or.inr (own_w hw 51 rfl)) (ty := (.object "java/lang/String")) (by decide)
        have f_2118 : Fld Z h_2104 a_2105 "com/example/chiton/chiton/model/MethodName" "methodName" "Ljava/lang/String;" .null := D_2109 (Or.inr (own_w hw 54 rfl)) (ty := (.object "java/lang/String")) (by decide)
        show Go B n0 _ h_2104 14 168 210 #[.val (.int p0), .val (.int p1), .val (.int p2), .val (.int p3), .val (.int ca), .val (.int cb), .val (.int cc), .val (.int cd), .val (.int la), .val (.int lb), .val (.int la), .val (.int lb), .val (.int da), .val (.int db), .val (.int dc), .val (.int dd), .val (.ref a_2042), .val (.ref a_2051), .unset, .unset, .unset] [(.ref a_2105)]
        refine g_dup C at_210 rfl (pc' := 211) rfl ?_
        refine g_iload C at_211 (v := la) rfl (pc' := 213) rfl ?_
        refine g_iload C at_213 (v := da) rfl (pc' := 215) rfl ?_
        refine g_iload C at_215 (v := db) rfl (pc' := 217) rfl ?_
        have f_2119 := ((f_2087.keep K_2096 (allS ge_a_2051 all0)).ext E_2107)
        have f_2120 := (Nat.le_trans f_2115 E_2107.1)
        have f_2121 := (I_2095.ext E_2107)
        have f_2122 := (f_2099.ext E_2107)
        have f_2123 := (f_2100.ext E_2107)
        have f_2124 := (f_2101.ext E_2107)
        have f_2125 := (f_2102.ext E_2107)
        have f_2126 := (f_2103.ext E_2107)
        have f_2127 := (Nat.le_trans f_2116 E_2107.1)
        refine g_staticV C hW (own_w hw 0 rfl) (own_w hw 1 rfl) (own_w hw 2 rfl) (own_w hw 3 rfl) (by decide) (rm_str l Z a0 hw n0 la da db h_2104 f_2120 cm f_2119 ch0 ch1 ch2 cw kda kdb) (fun vm' hw' => InvK.warm f_2121 hw') (st := [(.ref a_2105), (.ref a_2105)]) [(.int la), (.int da), (.int db)] rfl rfl own_pd_1_str rfl rfl (by decide) (W := 2) (Nat.le_of_eq rfl) (by decide) (by decide) (by decide) at_217 (pc' := 220) rfl ?_
        intro B C hW v_2130 h_2128 q_2129 I_2131
        obtain ⟨a_2132, b_2133, rfl, le_2134, K_2135, E_2136, f_2137, f_2138, f_2139⟩ := q_2129
        have ne_2140 : a_2042 ≠ a_2132 := ne_ge f_2122.lt le_2134
        have ne_2141 : a_2051 ≠ a_2132 := ne_ge f_2123.lt le_2134
        have ne_2142 : a_2072 ≠ a_2132 := ne_ge f_2124.lt le_2134
        have ne_2143 : a_2105 ≠ a_2132 := ne_ge A_2108.lt le_2134
        have ne_2144 : b_2043 ≠ a_2132 := ne_ge f_2125.lt le_2134
        have ne_2145 : b_2073 ≠ a_2132 := ne_ge f_2126.lt le_2134
        have ge_a_2132 : n0 ≤ a_2132 := Nat.le_trans f_2120 le_2134
        have gs_a_2132 : h0.size ≤ a_2132 := Nat.le_trans f_2127 le_2134
        show Go B n0 _ h_2128 18 176 220 #[.val (.int p0), .val (.int p1), .val (.int p2), .val (.int p3), .val (.int ca), .val (.int cb), .val (.int cc), .val (.int cd), .val (.int la), .val (.int lb), .val (.int la), .val (.int lb), .val (.int da), .val (.int db), .val (.int dc), .val (.int dd), .val (.ref a_2042), .val (.ref a_2051), .unset, .unset, .unset] [(.ref a_2132), (.ref a_2105), (.ref a_2105)]
        refine g_iload C at_220 (v := lb) rfl (pc' := 222) rfl ?_
        refine g_iload C at_222 (v := dc) rfl (pc' := 224) rfl ?_
        refine g_iload C at_224 (v := dd) rfl (pc' := 226) rfl ?_
        have f_2146 := (f_2119.keep K_2135 all0)
        have f_2147 := (Nat.le_trans f_2120 K_2135.1)
        have f_2148 := (f_2122.keep K_2135)
        have f_2149 := (f_2123.keep K_2135)
        have f_2150 := (f_2124.keep K_2135)
        have f_2151 := (A_2108.keep K_2135)
        have f_2152 := (f_2125.keep K_2135 nin0)
        have f_2153 := (f_2126.keep K_2135 nin0)
        have f_2154 := (Nat.le_trans f_2127 K_2135.1)
        refine g_staticV C hW (own_w hw 0 rfl) (own_w hw 1 rfl) (own_w hw 2 rfl) (own_w hw 3 rfl) (by decide) (rm_str l Z a0 hw n0 lb dc dd h_2128 f_2147 cm f_2146 ch0 ch1 ch2 cw kdc kdd) (fun vm' hw' => InvK.warm I_2131 hw') (st := [(.ref a_2132), (.ref a_2105), (.ref a_2105)]) [(.int lb), (.int dc), (.int dd)] rfl rfl own_pd_1_str rfl rfl (by decide) (W := 3) (Nat.le_of_eq rfl) (by decide) (by decide) (by decide) at_226 (pc' := 229) rfl ?_
        intro B C hW v_2157 h_2155 q_2156 I_2158
        obtain ⟨a_2159, b_2160, rfl, le_2161, K_2162, E_2163, f_2164, f_2165, f_2166⟩ := q_2156
        have ne_2167 : a_2042 ≠ a_2159 := ne_ge f_2148.lt le_2161
        have ne_2168 : a_2051 ≠ a_2159 := ne_ge f_2149.lt le_2161
        have ne_2169 : a_2072 ≠ a_2159 := ne_ge f_2150.lt le_2161
        have ne_2170 : a_2105 ≠ a_2159 := ne_ge f_2151.lt le_2161
        have ne_2171 : a_2132 ≠ a_2159 := ne_ge E_2136.lt le_2161
        have ne_2172 : b_2043 ≠ a_2159 := ne_ge f_2152.lt le_2161
        have ne_2173 : b_2073 ≠ a_2159 := ne_ge f_2153.lt le_2161
        have ne_2174 : b_2133 ≠ a_2159 := ne_ge f_2139.lt le_2161
        have ge_a_2159 : n0 ≤ a_2159 := Nat.le_trans f_2147 le_2161
        have gs_a_2159 : h0.size ≤ a_2159 := Nat.le_trans f_2154 le_2161
        show Go B n0 _ h_2155 22 184 229 #[.val (.int p0), .val (.int p1), .val (.int p2), .val (.int p3), .val (.int ca), .val (.int cb), .val (.int cc), .val (.int cd), .val (.int la), .val (.int lb), .val (.int la), .val (.int lb), .val (.int da), .val (.int db), .val (.int dc), .val (.int dd), .val (.ref a_2042), .val (.ref a_2051), .unset, .unset, .unset] [(.ref a_2159), (.ref a_2132), (.ref a_2105), (.ref a_2105)]
        have f_2176 := (f_2151.keep K_2162)
        have f_2177 := (f_2139.keep K_2162 nin0)
        have ne_2175 : b_2133 ≠ a_2105 := own_neA f_2176 f_2177 (own_w hw 35 rfl)
        have ne_2178 : b_2160 ≠ a_2105 := own_neA f_2176 f_2166 (own_w hw 35 rfl)
        have f_2179 := (f_2146.keep K_2162 all0)
        have f_2180 := ((f_2117.keep K_2135 nin0).keep K_2162 nin0)
        have f_2181 := ((f_2118.keep K_2135 nin0).keep K_2162 nin0)
        have f_2182 := (E_2136.keep K_2162)
        have f_2183 := (Nat.le_trans f_2147 K_2162.1)
        refine g_specialV C hW (a := a_2105) rfl (own_w hw 40 rfl) (own_w hw 41 rfl) (own_w hw 36 rfl) (own_w hw 42 rfl) (by decide) (rm_mninit l Z a0 hw n0 a_2105 a_2132 a_2159 h_2155 f_2183 cm f_2179 ch0 ch1 ch2 cw f_2176 f_2180 f_2181 ge_a_2105 f_2182 E_2163) (fun vm' hw' => InvK.warm I_2158 hw') (st := [(.ref a_2105)]) [(.ref a_2132), (.ref a_2159)] rfl rfl own_pd_6_init rfl rfl (by decide) (W := 1) (Nat.le_of_eq rfl) (by decide) (by decide) (by decide) at_229 (pc' := 232) rfl ?_
        intro B C hW v_2186 h_2184 q_2185 I_2187
        obtain ⟨rfl, K_2188, f_2189, f_2190⟩ := q_2185
        show Go B n0 _ h_2184 26 332 232 #[.val (.int p0), .val (.int p1), .val (.int p2), .val (.int p3), .val (.int ca), .val (.int cb), .val (.int cc), .val (.int cd), .val (.int la), .val (.int lb), .val (.int la), .val (.int lb), .val (.int da), .val (.int db), .val (.int dc), .val (.int dd), .val (.ref a_2042), .val (.ref a_2051), .unset, .unset, .unset] [(.ref a_2105)]
        refine g_astore C at_232 (v := (.ref a_2105)) (L' := #[.val (.int p0), .val (.int p1), .val (.int p2), .val (.int p3), .val (.int ca), .val (.int cb), .val (.int cc), .val (.int cd), .val (.int la), .val (.int lb), .val (.int la), .val (.int lb), .val (.int da), .val (.int db), .val (.int dc), .val (.int dd), .val (.ref a_2042), .val (.ref a_2051), .val (.ref a_2105), .unset, .unset]) rfl rfl (pc' := 234) rfl ?_
        refine g_iload_n C at_234 (v := p2) rfl (pc' := 235) rfl ?_
        refine g_bipush C at_235 (v := (8 : Int32)) rfl (pc' := 237) rfl ?_
        refine g_iushr C (x := p2) (y := (8 : Int32)) at_237  (pc' := 238) rfl ?_
        refine g_iconst C at_238 (v := (3 : Int32)) rfl (pc' := 239) rfl ?_
        refine g_iand C (x := (Jvm.Free.XT.ushr p2 (8 : Int32))) (y := (3 : Int32)) at_239  (pc' := 240) rfl ?_
        obtain ⟨i_2191, hi_2192⟩ : ∃ z : Int32, z = ((Jvm.Free.XT.ushr p2 (8 : Int32)) &&& (3 : Int32)) := ⟨_, rfl⟩
        rw [← hi_2192]
        rcases own_split4 i_2191 (by rw [hi_2192]; exact (own_m3 _).1) (by rw [hi_2192]; exact (own_m3 _).2) with i_2191e | i_2191e | i_2191e | i_2191e
        · subst i_2191e
          show Go B n0 _ h_2184 26 332 240 #[.val (.int p0), .val (.int p1), .val (.int p2), .val (.int p3), .val (.int ca), .val (.int cb), .val (.int cc), .val (.int cd), .val (.int la), .val (.int lb), .val (.int la), .val (.int lb), .val (.int da), .val (.int db), .val (.int dc), .val (.int dd), .val (.ref a_2042), .val (.ref a_2051), .val (.ref a_2105), .unset, .unset] [(.int (0 : Int32))]
          refine g_istore C at_240 (v := (0 : Int32)) (L' := #[.val (.int p0), .val (.int p1), .val (.int p2), .val (.int p3), .val (.int ca), .val (.int cb), .val (.int cc), .val (.int cd), .val (.int la), .val (.int lb), .val (.int la), .val (.int lb), .val (.int da), .val (.int db), .val (.int dc), .val (.int dd), .val (.ref a_2042), .val (.ref a_2051), .val (.ref a_2105), .val (.int (0 : Int32)), .unset]) rfl (pc' := 242) rfl ?_
          refine g_iload C at_242 (v := (0 : Int32)) rfl (pc' := 244) rfl ?_
          refine g_iconst C at_244 (v := (1 : Int32)) rfl (pc' := 245) rfl ?_
          refine g_icmp_y C at_245 (Jvm.Free.XT.ii_ne_t (by decide)) (pc' := 263) (by decide) (by decide) ?_
          refine g_iload C at_263 (v := (0 : Int32)) rfl (pc' := 265) rfl ?_
          refine g_iconst C at_265 (v := (2 : Int32)) rfl (pc' := 266) rfl ?_
          refine g_icmp_y C at_266 (Jvm.Free.XT.ii_ne_t (by decide)) (pc' := 285) (by decide) (by decide) ?_
          refine g_iload C at_285 (v := (0 : Int32)) rfl (pc' := 287) rfl ?_
          refine g_iconst C at_287 (v := (3 : Int32)) rfl (pc' := 288) rfl ?_
          refine g_icmp_y C at_288 (Jvm.Free.XT.ii_ne_t (by decide)) (pc' := 299) (by decide) (by decide) ?_
          refine g_iload C at_299 (v := la) rfl (pc' := 301) rfl ?_
          refine g_iload C at_301 (v := ca) rfl (pc' := 303) rfl ?_
          refine g_iload C at_303 (v := cb) rfl (pc' := 305) rfl ?_
          refine g_iload C at_305 (v := la) rfl (pc' := 307) rfl ?_
          refine g_iload C at_307 (v := da) rfl (pc' := 309) rfl ?_
          refine g_iload C at_309 (v := db) rfl (pc' := 311) rfl ?_
          have f_2193 := (Nat.le_trans f_2183 K_2188.1)
          refine g_static C (own_w hw 55 rfl) (own_w hw 56 rfl) (own_w hw 2 rfl) (own_w hw 57 rfl) (by decide) (rm_same l Z a0 hw n0 la ca cb la da db h_2184 f_2193 rla rla kca kcb kda kdb) (st := []) [(.int la), (.int ca), (.int cb), (.int la), (.int da), (.int db)] rfl rfl own_pd_3_same rfl rfl (by decide) (W := 0) (Nat.le_of_eq rfl) (by decide) (by decide) (by decide) at_311 (pc' := 314) rfl ?_
          intro v_2196 h_2194 q_2195
          obtain ⟨r_2198, rfl, ⟨e_2199, rfl⟩ | ⟨e_2199, rfl⟩, rfl⟩ := q_2195
          · show Go B n0 _ h_2184 26 332 314 #[.val (.int p0), .val (.int p1), .val (.int p2), .val (.int p3), .val (.int ca), .val (.int cb), .val (.int cc), .val (.int cd), .val (.int la), .val (.int lb), .val (.int la), .val (.int lb), .val (.int da), .val (.int db), .val (.int dc), .val (.int dd), .val (.ref a_2042), .val (.ref a_2051), .val (.ref a_2105), .val (.int (0 : Int32)), .unset] [(.int (1 : Int32))]
            refine g_if_n C at_314 (Jvm.Free.XT.i0_eq_f (by decide)) (pc' := 317) rfl ?_
            refine g_iload C at_317 (v := lb) rfl (pc' := 319) rfl ?_
            refine g_iload C at_319 (v := cc) rfl (pc' := 321) rfl ?_
            refine g_iload C at_321 (v := cd) rfl (pc' := 323) rfl ?_
            refine g_iload C at_323 (v := lb) rfl (pc' := 325) rfl ?_
            refine g_iload C at_325 (v := dc) rfl (pc' := 327) rfl ?_
            refine g_iload C at_327 (v := dd) rfl (pc' := 329) rfl ?_
            refine g_static C (own_w hw 55 rfl) (own_w hw 56 rfl) (own_w hw 2 rfl) (own_w hw 57 rfl) (by decide) (rm_same l Z a0 hw n0 lb cc cd lb dc dd h_2184 f_2193 rlb rlb kcc kcd kdc kdd) (st := []) [(.int lb), (.int cc), (.int cd), (.int lb), (.int dc), (.int dd)] rfl rfl own_pd_3_same rfl rfl (by decide) (W := 0) (Nat.le_of_eq rfl) (by decide) (by decide) (by decide) at_329 (pc' := 332) rfl ?_
            intro v_2202 h_2200 q_2201
            obtain ⟨r_2204, rfl, ⟨e_2205, rfl⟩ | ⟨e_2205, rfl⟩, rfl⟩ := q_2201
            · show Go B n0 _ h_2184 26 332 332 #[.val (.int p0), .val (.int p1), .val (.int p2), .val (.int p3), .val (.int ca), .val (.int cb), .val (.int cc), .val (.int cd), .val (.int la), .val (.int lb), .val (.int la), .val (.int lb), .val (.int da), .val (.int db), .val (.int dc), .val (.int dd), .val (.ref a_2042), .val (.ref a_2051), .val (.ref a_2105), .val (.int (0 : Int32)), .unset] [(.int (1 : Int32))]
              refine g_if_n C at_332 (Jvm.Free.XT.i0_eq_f (by decide)) (pc' := 335) rfl ?_
              refine g_iconst C at_335 (v := (1 : Int32)) rfl (pc' := 336) rfl ?_
              refine g_goto C at_336 (pc' := 340) (by decide) (by decide) ?_
              refine g_istore C at_340 (v := (1 : Int32)) (L' := #[.val (.int p0), .val (.int p1), .val (.int p2), .val (.int p3), .val (.int ca), .val (.int cb), .val (.int cc), .val (.int cd), .val (.int la), .val (.int lb), .val (.int la), .val (.int lb), .val (.int da), .val (.int db), .val (.int dc), .val (.int dd), .val (.ref a_2042), .val (.ref a_2051), .val (.ref a_2105), .val (.int (0 : Int32)), .val (.int (1 : Int32))]) rfl (pc' := 342) rfl ?_
              refine g_aload C at_342 (v := (.ref a_2051)) rfl rfl (pc' := 344) rfl ?_
              refine g_aload C at_344 (v := (.ref a_2105)) rfl rfl (pc' := 346) rfl ?_
              have f_2206 := (f_2179.keep K_2188 (allS ge_a_2105 all0))
              have f_2207 := ((f_2149.keep K_2162).keep K_2188)
              have f_2208 := ((((f_2097.ext E_2107).keep K_2135 nin0).keep K_2162 nin0).keep K_2188 (ninS ne_2111 nin0))
              have f_2209 := ((((f_2098.ext E_2107).keep K_2135 nin0).keep K_2162 nin0).keep K_2188 (ninS ne_2111 nin0))
              have f_2210 := (f_2176.keep K_2188)
              have f_2211 := ((f_2148.keep K_2162).keep K_2188)
              have f_2212 := (((((((f_2047.ext E_2053).keep K_2075 nin0).keep K_2096 (ninS ne_2056 nin0)).ext E_2107).keep K_2135 nin0).keep K_2162 nin0).keep K_2188 (ninS ne_2110 nin0))
              have f_2213 := (((((((f_2048.ext E_2053).keep K_2075 nin0).keep K_2096 (ninS ne_2056 nin0)).ext E_2107).keep K_2135 nin0).keep K_2162 nin0).keep K_2188 (ninS ne_2110 nin0))
              have f_2214 := ((f_2152.keep K_2162 nin0).keep K_2188 (ninS ne_2113 nin0))
              have f_2215 := (f_2182.keep K_2188)
              have f_2216 := ((f_2137.keep K_2162 nin0).keep K_2188 (ninS (Ne.symm ne_2143) nin0))
              have f_2217 := ((f_2138.keep K_2162 nin0).keep K_2188 (ninS (Ne.symm ne_2143) nin0))
              have f_2218 := (f_2177.keep K_2188 (ninS ne_2175 nin0))
              have f_2219 := ((f_2150.keep K_2162).keep K_2188)
              have f_2220 := (((((f_2077.keep K_2096 (ninS (Ne.symm ne_2081) nin0)).ext E_2107).keep K_2135 nin0).keep K_2162 nin0).keep K_2188 (ninS ne_2112 nin0))
              have f_2221 := (((((f_2078.keep K_2096 (ninS (Ne.symm ne_2081) nin0)).ext E_2107).keep K_2135 nin0).keep K_2162 nin0).keep K_2188 (ninS ne_2112 nin0))
              have f_2222 := ((f_2153.keep K_2162 nin0).keep K_2188 (ninS ne_2114 nin0))
              have f_2223 := (E_2163.keep K_2188)
              have f_2224 := (f_2164.keep K_2188 (ninS (Ne.symm ne_2170) nin0))
              have f_2225 := (f_2165.keep K_2188 (ninS (Ne.symm ne_2170) nin0))
              have f_2226 := (f_2166.keep K_2188 (ninS ne_2178 nin0))
              refine g_virtual C (own_w hw 58 rfl) (own_w hw 59 rfl) (own_w hw 61 rfl) (own_w hw 60 rfl) (own_w hw 36 rfl) (own_w hw 62 rfl) (notFace_of_selects (args := #[]) (mvT C.2.2.2.2.1 (own_w hw 61 rfl))) (by decide) f_2207 (rm_mneqD l Z a0 hw n0 a_2051 a_2105 a_2042 a_2132 a_2072 a_2159 b_2043 b_2133 b_2073 b_2160 (own_str la ca cb) (own_str la da db) (own_str lb cc cd) (own_str lb dc dd) h_2184 f_2193 cm f_2206 f_2207 f_2208 f_2209 f_2210 f_2189 f_2190 f_2211 f_2212 f_2213 f_2214 (own_sh _ _ _) f_2215 f_2216 f_2217 f_2218 (own_sh _ _ _) f_2219 f_2220 f_2221 f_2222 (own_sh _ _ _) f_2223 f_2224 f_2225 f_2226 (own_sh _ _ _) ne_2140 ne_2169) (st := []) [(.ref a_2105)] rfl rfl own_pd_4_equals rfl rfl (by decide) (W := 0) (Nat.le_of_eq rfl) (by decide) (by decide) (by decide) at_346 (pc' := 349) rfl ?_
              intro v_2229 h_2227 q_2228
              obtain ⟨r_2231, rfl, ⟨e_2232, rfl⟩ | ⟨e_2232, rfl⟩, rfl⟩ := q_2228
              · show Go B n0 _ h_2184 26 332 349 #[.val (.int p0), .val (.int p1), .val (.int p2), .val (.int p3), .val (.int ca), .val (.int cb), .val (.int cc), .val (.int cd), .val (.int la), .val (.int lb), .val (.int la), .val (.int lb), .val (.int da), .val (.int db), .val (.int dc), .val (.int dd), .val (.ref a_2042), .val (.ref a_2051), .val (.ref a_2105), .val (.int (0 : Int32)), .val (.int (1 : Int32))] [(.int (1 : Int32))]
                refine g_iload C at_349 (v := (1 : Int32)) rfl (pc' := 351) rfl ?_
                refine g_icmp_n C at_351 (Jvm.Free.XT.ii_ne_f (by decide)) (pc' := 354) rfl ?_
                refine g_aload C at_354 (v := (.ref a_2105)) rfl rfl (pc' := 356) rfl ?_
                refine g_aload C at_356 (v := (.ref a_2051)) rfl rfl (pc' := 358) rfl ?_
                refine g_virtual C (own_w hw 58 rfl) (own_w hw 59 rfl) (own_w hw 61 rfl) (own_w hw 60 rfl) (own_w hw 36 rfl) (own_w hw 62 rfl) (notFace_of_selects (args := #[]) (mvT C.2.2.2.2.1 (own_w hw 61 rfl))) (by decide) f_2210 (rm_mneqD l Z a0 hw n0 a_2105 a_2051 a_2132 a_2042 a_2159 a_2072 b_2133 b_2043 b_2160 b_2073 (own_str la da db) (own_str la ca cb) (own_str lb dc dd) (own_str lb cc cd) h_2184 f_2193 cm f_2206 f_2210 f_2189 f_2190 f_2207 f_2208 f_2209 f_2215 f_2216 f_2217 f_2218 (own_sh _ _ _) f_2211 f_2212 f_2213 f_2214 (own_sh _ _ _) f_2223 f_2224 f_2225 f_2226 (own_sh _ _ _) f_2219 f_2220 f_2221 f_2222 (own_sh _ _ _) (Ne.symm ne_2140) (Ne.symm ne_2169)) (st := []) [(.ref a_2051)] rfl rfl own_pd_4_equals rfl rfl (by decide) (W := 0) (Nat.le_of_eq rfl) (by decide) (by decide) (by decide) at_358 (pc' := 361) rfl ?_
                intro v_2235 h_2233 q_2234
                obtain ⟨r_2237, rfl, ⟨e_2238, rfl⟩ | ⟨e_2238, rfl⟩, rfl⟩ := q_2234
                · show Go B n0 _ h_2184 26 332 361 #[.val (.int p0), .val (.int p1), .val (.int p2), .val (.int p3), .val (.int ca), .val (.int cb), .val (.int cc), .val (.int cd), .val (.int la), .val (.int lb), .val (.int la), .val (.int lb), .val (.int da), .val (.int db), .val (.int dc), .val (.int dd), .val (.ref a_2042), .val (.ref a_2051), .val (.ref a_2105), .val (.int (0 : Int32)), .val (.int (1 : Int32))] [(.int (1 : Int32))]
                  refine g_iload C at_361 (v := (1 : Int32)) rfl (pc' := 363) rfl ?_
                  refine g_icmp_n C at_363 (Jvm.Free.XT.ii_ne_f (by decide)) (pc' := 366) rfl ?_
                  refine g_iconst C at_366 (v := (1 : Int32)) rfl (pc' := 367) rfl ?_
                  refine g_goto C at_367 (pc' := 371) (by decide) (by decide) ?_
                  refine g_ret C (eW hW fun vm' hw' => trivial) (v := (.int (1 : Int32))) (ty := .boolean) rfl rfl (Or.inl ⟨rfl, Or.inr (Or.inl rfl), _, rfl⟩) at_371 (by decide) (by decide) ?_
                  rfl
                · exact absurd ⟨e_2199.symm, e_2205.symm⟩ e_2238
              · exact absurd ⟨e_2199, e_2205⟩ e_2232
            · show Go B n0 _ h_2184 26 332 332 #[.val (.int p0), .val (.int p1), .val (.int p2), .val (.int p3), .val (.int ca), .val (.int cb), .val (.int cc), .val (.int cd), .val (.int la), .val (.int lb), .val (.int la), .val (.int lb), .val (.int da), .val (.int db), .val (.int dc), .val (.int dd), .val (.ref a_2042), .val (.ref a_2051), .val (.ref a_2105), .val (.int (0 : Int32)), .unset] [(.int (0 : Int32))]
              refine g_if_y C at_332 (Jvm.Free.XT.i0_eq_t (by decide)) (pc' := 339) (by decide) (by decide) ?_
              refine g_iconst C at_339 (v := (0 : Int32)) rfl (pc' := 340) rfl ?_
              refine g_istore C at_340 (v := (0 : Int32)) (L' := #[.val (.int p0), .val (.int p1), .val (.int p2), .val (.int p3), .val (.int ca), .val (.int cb), .val (.int cc), .val (.int cd), .val (.int la), .val (.int lb), .val (.int la), .val (.int lb), .val (.int da), .val (.int db), .val (.int dc), .val (.int dd), .val (.ref a_2042), .val (.ref a_2051), .val (.ref a_2105), .val (.int (0 : Int32)), .val (.int (0 : Int32))]) rfl (pc' := 342) rfl ?_
              refine g_aload C at_342 (v := (.ref a_2051)) rfl rfl (pc' := 344) rfl ?_
              refine g_aload C at_344 (v := (.ref a_2105)) rfl rfl (pc' := 346) rfl ?_
              have f_2239 := (f_2179.keep K_2188 (allS ge_a_2105 all0))
              have f_2240 := ((f_2149.keep K_2162).keep K_2188)
              have f_2241 := ((((f_2097.ext E_2107).keep K_2135 nin0).keep K_2162 nin0).keep K_2188 (ninS ne_2111 nin0))
              have f_2242 := ((((f_2098.ext E_2107).keep K_2135 nin0).keep K_2162 nin0).keep K_2188 (ninS ne_2111 nin0))
              have f_2243 := (f_2176.keep K_2188)
              have f_2244 := ((f_2148.keep K_2162).keep K_2188)
              have f_2245 := (((((((f_2047.ext E_2053).keep K_2075 nin0).keep K_2096 (ninS ne_2056 nin0)).ext E_2107).keep K_2135 nin0).keep K_2162 nin0).keep K_2188 (ninS ne_2110 nin0))
              have f_2246 := (((((((f_2048.ext E_2053).keep K_2075 nin0).keep K_2096 (ninS ne_2056 nin0)).ext E_2107).keep K_2135 nin0).keep K_2162 nin0).keep K_2188 (ninS ne_2110 nin0))
              have f_2247 := ((f_2152.keep K_2162 nin0).keep K_2188 (ninS ne_2113 nin0))
              have f_2248 := (f_2182.keep K_2188)
              have f_2249 := ((f_2137.keep K_2162 nin0).keep K_2188 (ninS (Ne.symm ne_2143) nin0))
              have f_2250 := ((f_2138.keep K_2162 nin0).keep K_2188 (ninS (Ne.symm ne_2143) nin0))
              have f_2251 := (f_2177.keep K_2188 (ninS ne_2175 nin0))
              have f_2252 := ((f_2150.keep K_2162).keep K_2188)
              have f_2253 := (((((f_2077.keep K_2096 (ninS (Ne.symm ne_2081) nin0)).ext E_2107).keep K_2135 nin0).keep K_2162 nin0).keep K_2188 (ninS ne_2112 nin0))
              have f_2254 := (((((f_2078.keep K_2096 (ninS (Ne.symm ne_2081) nin0)).ext E_2107).keep K_2135 nin0).keep K_2162 nin0).keep K_2188 (ninS ne_2112 nin0))
              have f_2255 := ((f_2153.keep K_2162 nin0).keep K_2188 (ninS ne_2114 nin0))
              have f_2256 := (E_2163.keep K_2188)
              have f_2257 := (f_2164.keep K_2188 (ninS (Ne.symm ne_2170) nin0))
              have f_2258 := (f_2165.keep K_2188 (ninS (Ne.symm ne_2170) nin0))
              have f_2259 := (f_2166.keep K_2188 (ninS ne_2178 nin0))
              refine g_virtual C (own_w hw 58 rfl) (own_w hw 59 rfl) (own_w hw 61 rfl) (own_w hw 60 rfl) (own_w hw 36 rfl) (own_w hw 62 rfl) (notFace_of_selects (args := #[]) (mvT C.2.2.2.2.1 (own_w hw 61 rfl))) (by decide) f_2240 (rm_mneqD l Z a0 hw n0 a_2051 a_2105 a_2042 a_2132 a_2072 a_2159 b_2043 b_2133 b_2073 b_2160 (own_str la ca cb) (own_str la da db) (own_str lb cc cd) (own_str lb dc dd) h_2184 f_2193 cm f_2239 f_2240 f_2241 f_2242 f_2243 f_2189 f_2190 f_2244 f_2245 f_2246 f_2247 (own_sh _ _ _) f_2248 f_2249 f_2250 f_2251 (own_sh _ _ _) f_2252 f_2253 f_2254 f_2255 (own_sh _ _ _) f_2256 f_2257 f_2258 f_2259 (own_sh _ _ _) ne_2140 ne_2169) (st := []) [(.ref a_2105)] rfl rfl own_pd_4_equals rfl rfl (by decide) (W := 0) (Nat.le_of_eq rfl) (by decide) (by decide) (by decide) at_346 (pc' := 349) rfl ?_
              intro v_2262 h_2260 q_2261
              obtain ⟨r_2264, rfl, ⟨e_2265, rfl⟩ | ⟨e_2265, rfl⟩, rfl⟩ := q_2261
              · exact absurd (e_2265.2) e_2205
              · show Go B n0 _ h_2184 26 332 349 #[.val (.int p0), .val (.int p1), .val (.int p2), .val (.int p3), .val (.int ca), .val (.int cb), .val (.int cc), .val (.int cd), .val (.int la), .val (.int lb), .val (.int la), .val (.int lb), .val (.int da), .val (.int db), .val (.int dc), .val (.int dd), .val (.ref a_2042), .val (.ref a_2051), .val (.ref a_2105), .val (.int (0 : Int32)), .val (.int (0 : Int32))] [(.int (0 : Int32))]
                refine g_iload C at_349 (v := (0 : Int32)) rfl (pc' := 351) rfl ?_
                refine g_icmp_n C at_351 (Jvm.Free.XT.ii_ne_f (by decide)) (pc' := 354) rfl ?_
                refine g_aload C at_354 (v := (.ref a_2105)) rfl rfl (pc' := 356) rfl ?_
                refine g_aload C at_356 (v := (.ref a_2051)) rfl rfl (pc' := 358) rfl ?_
                refine g_virtual C (own_w hw 58 rfl) (own_w hw 59 rfl) (own_w hw 61 rfl) (own_w hw 60 rfl) (own_w hw 36 rfl) (own_w hw 62 rfl) (notFace_of_selects (args := #[]) (mvT C.2.2.2.2.1 (own_w hw 61 rfl))) (by decide) f_2243 (rm_mneqD l Z a0 hw n0 a_2105 a_2051 a_2132 a_2042 a_2159 a_2072 b_2133 b_2043 b_2160 b_2073 (own_str la da db) (own_str la ca cb) (own_str lb dc dd) (own_str lb cc cd) h_2184 f_2193 cm f_2239 f_2243 f_2189 f_2190 f_2240 f_2241 f_2242 f_2248 f_2249 f_2250 f_2251 (own_sh _ _ _) f_2244 f_2245 f_2246 f_2247 (own_sh _ _ _) f_2256 f_2257 f_2258 f_2259 (own_sh _ _ _) f_2252 f_2253 f_2254 f_2255 (own_sh _ _ _) (Ne.symm ne_2140) (Ne.symm ne_2169)) (st := []) [(.ref a_2051)] rfl rfl own_pd_4_equals rfl rfl (by decide) (W := 0) (Nat.le_of_eq rfl) (by decide) (by decide) (by decide) at_358 (pc' := 361) rfl ?_
                intro v_2268 h_2266 q_2267
                obtain ⟨r_2270, rfl, ⟨e_2271, rfl⟩ | ⟨e_2271, rfl⟩, rfl⟩ := q_2267
                · exact absurd (e_2271.2.symm) e_2205
                · show Go B n0 _ h_2184 26 332 361 #[.val (.int p0), .val (.int p1), .val (.int p2), .val (.int p3), .val (.int ca), .val (.int cb), .val (.int cc), .val (.int cd), .val (.int la), .val (.int lb), .val (.int la), .val (.int lb), .val (.int da), .val (.int db), .val (.int dc), .val (.int dd), .val (.ref a_2042), .val (.ref a_2051), .val (.ref a_2105), .val (.int (0 : Int32)), .val (.int (0 : Int32))] [(.int (0 : Int32))]
                  refine g_iload C at_361 (v := (0 : Int32)) rfl (pc' := 363) rfl ?_
                  refine g_icmp_n C at_363 (Jvm.Free.XT.ii_ne_f (by decide)) (pc' := 366) rfl ?_
                  refine g_iconst C at_366 (v := (1 : Int32)) rfl (pc' := 367) rfl ?_
                  refine g_goto C at_367 (pc' := 371) (by decide) (by decide) ?_
                  refine g_ret C (eW hW fun vm' hw' => trivial) (v := (.int (1 : Int32))) (ty := .boolean) rfl rfl (Or.inl ⟨rfl, Or.inr (Or.inl rfl), _, rfl⟩) at_371 (by decide) (by decide) ?_
                  rfl
          · show Go B n0 _ h_2184 26 332 314 #[.val (.int p0), .val (.int p1), .val (.int p2), .val (.int p3), .val (.int ca), .val (.int cb), .val (.int cc), .val (.int cd), .val (.int la), .val (.int lb), .val (.int la), .val (.int lb), .val (.int da), .val (.int db), .val (.int dc), .val (.int dd), .val (.ref a_2042), .val (.ref a_2051), .val (.ref a_2105), .val (.int (0 : Int32)), .unset] [(.int (0 : Int32))]
            refine g_if_y C at_314 (Jvm.Free.XT.i0_eq_t (by decide)) (pc' := 339) (by decide) (by decide) ?_
            refine g_iconst C at_339 (v := (0 : Int32)) rfl (pc' := 340) rfl ?_
            refine g_istore C at_340 (v := (0 : Int32)) (L' := #[.val (.int p0), .val (.int p1), .val (.int p2), .val (.int p3), .val (.int ca), .val (.int cb), .val (.int cc), .val (.int cd), .val (.int la), .val (.int lb), .val (.int la), .val (.int lb), .val (.int da), .val (.int db), .val (.int dc), .val (.int dd), .val (.ref a_2042), .val (.ref a_2051), .val (.ref a_2105), .val (.int (0 : Int32)), .val (.int (0 : Int32))]) rfl (pc' := 342) rfl ?_
            refine g_aload C at_342 (v := (.ref a_2051)) rfl rfl (pc' := 344) rfl ?_
            refine g_aload C at_344 (v := (.ref a_2105)) rfl rfl (pc' := 346) rfl ?_
            have f_2272 := (f_2179.keep K_2188 (allS ge_a_2105 all0))
            have f_2273 := ((f_2149.keep K_2162).keep K_2188)
            have f_2274 := ((((f_2097.ext E_2107).keep K_2135 nin0).keep K_2162 nin0).keep K_2188 (ninS ne_2111 nin0))
            have f_2275 := ((((f_2098.ext E_2107).keep K_2135 nin0).keep K_2162 nin0).keep K_2188 (ninS ne_2111 nin0))
            have f_2276 := (f_2176.keep K_2188)
            have f_2277 := ((f_2148.keep K_2162).keep K_2188)
            have f_2278 := (((((((f_2047.ext E_2053).keep K_2075 nin0).keep K_2096 (ninS ne_2056 nin0)).ext E_2107).keep K_2135 nin0).keep K_2162 nin0).keep K_2188 (ninS ne_2110 nin0))
            have f_2279 := (((((((f_2048.ext E_2053).keep K_2075 nin0).keep K_2096 (ninS ne_2056 nin0)).ext E_2107).keep K_2135 nin0).keep K_2162 nin0).keep K_2188 (ninS ne_2110 nin0))
            have f_2280 := ((f_2152.keep K_2162 nin0).keep K_2188 (ninS ne_2113 nin0))
            have f_2281 := (f_2182.keep K_2188)
            have f_2282 := ((f_2137.keep K_2162 nin0).keep K_2188 (ninS (Ne.symm ne_2143) nin0))
            have f_2283 := ((f_2138.keep K_2162 nin0).keep K_2188 (ninS (Ne.symm ne_2143) nin0))
            have f_2284 := (f_2177.keep K_2188 (ninS ne_2175 nin0))
            have f_2285 := ((f_2150.keep K_2162).keep K_2188)
            have f_2286 := (((((f_2077.keep K_2096 (ninS (Ne.symm ne_2081) nin0)).ext E_2107).keep K_2135 nin0).keep K_2162 nin0).keep K_2188 (ninS ne_2112 nin0))
            have f_2287 := (((((f_2078.keep K_2096 (ninS (Ne.symm ne_2081) nin0)).ext E_2107).keep K_2135 nin0).keep K_2162 nin0).keep K_2188 (ninS ne_2112 nin0))
            have f_2288 := ((f_2153.keep K_2162 nin0).keep K_2188 (ninS ne_2114 nin0))
            have f_2289 := (E_2163.keep K_2188)
            have f_2290 := (f_2164.keep K_2188 (ninS (Ne.symm ne_2170) nin0))
            have f_2291 := (f_2165.keep K_2188 (ninS (Ne.symm ne_2170) nin0))
            have f_2292 := (f_2166.keep K_2188 (ninS ne_2178 nin0))
            refine g_virtual C (own_w hw 58 rfl) (own_w hw 59 rfl) (own_w hw 61 rfl) (own_w hw 60 rfl) (own_w hw 36 rfl) (own_w hw 62 rfl) (notFace_of_selects (args := #[]) (mvT C.2.2.2.2.1 (own_w hw 61 rfl))) (by decide) f_2273 (rm_mneqD l Z a0 hw n0 a_2051 a_2105 a_2042 a_2132 a_2072 a_2159 b_2043 b_2133 b_2073 b_2160 (own_str la ca cb) (own_str la da db) (own_str lb cc cd) (own_str lb dc dd) h_2184 f_2193 cm f_2272 f_2273 f_2274 f_2275 f_2276 f_2189 f_2190 f_2277 f_2278 f_2279 f_2280 (own_sh _ _ _) f_2281 f_2282 f_2283 f_2284 (own_sh _ _ _) f_2285 f_2286 f_2287 f_2288 (own_sh _ _ _) f_2289 f_2290 f_2291 f_2292 (own_sh _ _ _) ne_2140 ne_2169) (st := []) [(.ref a_2105)] rfl rfl own_pd_4_equals rfl rfl (by decide) (W := 0) (Nat.le_of_eq rfl) (by decide) (by decide) (by decide) at_346 (pc' := 349) rfl ?_
            intro v_2295 h_2293 q_2294
            obtain ⟨r_2297, rfl, ⟨e_2298, rfl⟩ | ⟨e_2298, rfl⟩, rfl⟩ := q_2294
            · exact absurd (e_2298.1) e_2199
            · show Go B n0 _ h_2184 26 332 349 #[.val (.int p0), .val (.int p1), .val (.int p2), .val (.int p3), .val (.int ca), .val (.int cb), .val (.int cc), .val (.int cd), .val (.int la), .val (.int lb), .val (.int la), .val (.int lb), .val (.int da), .val (.int db), .val (.int dc), .val (.int dd), .val (.ref a_2042), .val (.ref a_2051), .val (.ref a_2105), .val (.int (0 : Int32)), .val (.int (0 : Int32))] [(.int (0 : Int32))]
              refine g_iload C at_349 (v := (0 : Int32)) rfl (pc' := 351) rfl ?_
              refine g_icmp_n C at_351 (Jvm.Free.XT.ii_ne_f (by decide)) (pc' := 354) rfl ?_
              refine g_aload C at_354 (v := (.ref a_2105)) rfl rfl (pc' := 356) rfl ?_
              refine g_aload C at_356 (v := (.ref a_2051)) rfl rfl (pc' := 358) rfl ?_
              refine g_virtual C (own_w hw 58 rfl) (own_w hw 59 rfl) (own_w hw 61 rfl) (own_w hw 60 rfl) (own_w hw 36 rfl) (own_w hw 62 rfl) (notFace_of_selects (args := #[]) (mvT C.2.2.2.2.1 (own_w hw 61 rfl))) (by decide) f_2276 (rm_mneqD l Z a0 hw n0 a_2105 a_2051 a_2132 a_2042 a_2159 a_2072 b_2133 b_2043 b_2160 b_2073 (own_str la da db) (own_str la ca cb) (own_str lb dc dd) (own_str lb cc cd) h_2184 f_2193 cm f_2272 f_2276 f_2189 f_2190 f_2273 f_2274 f_2275 f_2281 f_2282 f_2283 f_2284 (own_sh _ _ _) f_2277 f_2278 f_2279 f_2280 (own_sh _ _ _) f_2289 f_2290 f_2291 f_2292 (own_sh _ _ _) f_2285 f_2286 f_2287 f_2288 (own_sh _ _ _) (Ne.symm ne_2140) (Ne.symm ne_2169)) (st := []) [(.ref a_2051)] rfl rfl own_pd_4_equals rfl rfl (by decide) (W := 0) (Nat.le_of_eq rfl) (by decide) (by decide) (by decide) at_358 (pc' := 361) rfl ?_
              intro v_2301 h_2299 q_2300
              obtain ⟨r_2303, rfl, ⟨e_2304, rfl⟩ | ⟨e_2304, rfl⟩, rfl⟩ := q_2300
              · exact absurd (e_2304.1.symm) e_2199
              · show Go B n0 _ h_2184 26 332 361 #[.val (.int p0), .val (.int p1), .val (.int p2), .val (.int p3), .val (.int ca), .val (.int cb), .val (.int cc), .val (.int cd), .val (.int la), .val (.int lb), .val (.int la), .val (.int lb), .val (.int da), .val (.int db), .val (.int dc), .val (.int dd), .val (.ref a_2042), .val (.ref a_2051), .val (.ref a_2105), .val (.int (0 : Int32)), .val (.int (0 : Int32))] [(.int (0 : Int32))]
                refine g_iload C at_361 (v := (0 : Int32)) rfl (pc' := 363) rfl ?_
                refine g_icmp_n C at_363 (Jvm.Free.XT.ii_ne_f (by decide)) (pc' := 366) rfl ?_
                refine g_iconst C at_366 (v := (1 : Int32)) rfl (pc' := 367) rfl ?_
                refine g_goto C at_367 (pc' := 371) (by decide) (by decide) ?_
                refine g_ret C (eW hW fun vm' hw' => trivial) (v := (.int (1 : Int32))) (ty := .boolean) rfl rfl (Or.inl ⟨rfl, Or.inr (Or.inl rfl), _, rfl⟩) at_371 (by decide) (by decide) ?_
                rfl
        · subst i_2191e
          show Go B n0 _ h_2184 26 332 240 #[.val (.int p0), .val (.int p1), .val (.int p2), .val (.int p3), .val (.int ca), .val (.int cb), .val (.int cc), .val (.int cd), .val (.int la), .val (.int lb), .val (.int la), .val (.int lb), .val (.int da), .val (.int db), .val (.int dc), .val (.int dd), .val (.ref a_2042), .val (.ref a_2051), .val (.ref a_2105), .unset, .unset] [(.int (1 : Int32))]
          refine g_istore C at_240 (v := (1 : Int32)) (L' := #[.val (.int p0), .val (.int p1), .val (.int p2), .val (.int p3), .val (.int ca), .val (.int cb), .val (.int cc), .val (.int cd), .val (.int la), .val (.int lb), .val (.int la), .val (.int lb), .val (.int da), .val (.int db), .val (.int dc), .val (.int dd), .val (.ref a_2042), .val (.ref a_2051), .val (.ref a_2105), .val (.int (1 : Int32)), .unset]) rfl (pc' := 242) rfl ?_
          refine g_iload C at_242 (v := (1 : Int32)) rfl (pc' := 244) rfl ?_
          refine g_iconst C at_244 (v := (1 : Int32)) rfl (pc' := 245) rfl ?_
          refine g_icmp_n C at_245 (Jvm.Free.XT.ii_ne_f (by decide)) (pc' := 248) rfl ?_
          refine g_aload C at_248 (v := (.ref a_2051)) rfl rfl (pc' := 250) rfl ?_
          refine g_aconst_null C at_250 (pc' := 251) rfl ?_
          have f_2305 := (Nat.le_trans f_2183 K_2188.1)
          have f_2306 := ((f_2149.keep K_2162).keep K_2188)
          refine g_virtual C (own_w hw 58 rfl) (own_w hw 59 rfl) (own_w hw 61 rfl) (own_w hw 60 rfl) (own_w hw 36 rfl) (own_w hw 62 rfl) (notFace_of_selects (args := #[]) (mvT C.2.2.2.2.1 (own_w hw 61 rfl))) (by decide) f_2306 (rm_mneqN l Z a0 hw n0 a_2051 h_2184 f_2305 ) (st := []) [.null] rfl rfl own_pd_4_equals rfl rfl (by decide) (W := 0) (Nat.le_of_eq rfl) (by decide) (by decide) (by decide) at_251 (pc' := 254) rfl ?_
          intro v_2309 h_2307 q_2308
          obtain ⟨rfl, rfl⟩ := q_2308
          show Go B n0 _ h_2184 26 332 254 #[.val (.int p0), .val (.int p1), .val (.int p2), .val (.int p3), .val (.int ca), .val (.int cb), .val (.int cc), .val (.int cd), .val (.int la), .val (.int lb), .val (.int la), .val (.int lb), .val (.int da), .val (.int db), .val (.int dc), .val (.int dd), .val (.ref a_2042), .val (.ref a_2051), .val (.ref a_2105), .val (.int (1 : Int32)), .unset] [(.int (0 : Int32))]
          refine g_if_n C at_254 (Jvm.Free.XT.i0_ne_f (by decide)) (pc' := 257) rfl ?_
          refine g_iconst C at_257 (v := (1 : Int32)) rfl (pc' := 258) rfl ?_
          refine g_goto C at_258 (pc' := 262) (by decide) (by decide) ?_
          refine g_ret C (eW hW fun vm' hw' => trivial) (v := (.int (1 : Int32))) (ty := .boolean) rfl rfl (Or.inl ⟨rfl, Or.inr (Or.inl rfl), _, rfl⟩) at_262 (by decide) (by decide) ?_
          rfl
        · subst i_2191e
          show Go B n0 _ h_2184 26 332 240 #[.val (.int p0), .val (.int p1), .val (.int p2), .val (.int p3), .val (.int ca), .val (.int cb), .val (.int cc), .val (.int cd), .val (.int la), .val (.int lb), .val (.int la), .val (.int lb), .val (.int da), .val (.int db), .val (.int dc), .val (.int dd), .val (.ref a_2042), .val (.ref a_2051), .val (.ref a_2105), .unset, .unset] [(.int (2 : Int32))]
          refine g_istore C at_240 (v := (2 : Int32)) (L' := #[.val (.int p0), .val (.int p1), .val (.int p2), .val (.int p3), .val (.int ca), .val (.int cb), .val (.int cc), .val (.int cd), .val (.int la), .val (.int lb), .val (.int la), .val (.int lb), .val (.int da), .val (.int db), .val (.int dc), .val (.int dd), .val (.ref a_2042), .val (.ref a_2051), .val (.ref a_2105), .val (.int (2 : Int32)), .unset]) rfl (pc' := 242) rfl ?_
          refine g_iload C at_242 (v := (2 : Int32)) rfl (pc' := 244) rfl ?_
          refine g_iconst C at_244 (v := (1 : Int32)) rfl (pc' := 245) rfl ?_
          refine g_icmp_y C at_245 (Jvm.Free.XT.ii_ne_t (by decide)) (pc' := 263) (by decide) (by decide) ?_
          refine g_iload C at_263 (v := (2 : Int32)) rfl (pc' := 265) rfl ?_
          refine g_iconst C at_265 (v := (2 : Int32)) rfl (pc' := 266) rfl ?_
          refine g_icmp_n C at_266 (Jvm.Free.XT.ii_ne_f (by decide)) (pc' := 269) rfl ?_
          refine g_aload C at_269 (v := (.ref a_2051)) rfl rfl (pc' := 271) rfl ?_
          refine g_aload C at_271 (v := (.ref a_2042)) rfl rfl (pc' := 273) rfl ?_
          have f_2311 := ((f_2148.keep K_2162).keep K_2188)
          have f_2312 := (Nat.le_trans f_2183 K_2188.1)
          have f_2313 := ((f_2149.keep K_2162).keep K_2188)
          refine g_virtual C (own_w hw 58 rfl) (own_w hw 59 rfl) (own_w hw 61 rfl) (own_w hw 60 rfl) (own_w hw 36 rfl) (own_w hw 62 rfl) (notFace_of_selects (args := #[]) (mvT C.2.2.2.2.1 (own_w hw 61 rfl))) (by decide) f_2313 (rm_mneqT l Z a0 hw n0 a_2051 a_2042 h_2184 f_2312 f_2311) (st := []) [(.ref a_2042)] rfl rfl own_pd_4_equals rfl rfl (by decide) (W := 0) (Nat.le_of_eq rfl) (by decide) (by decide) (by decide) at_273 (pc' := 276) rfl ?_
          intro v_2316 h_2314 q_2315
          obtain ⟨rfl, rfl⟩ := q_2315
          show Go B n0 _ h_2184 26 332 276 #[.val (.int p0), .val (.int p1), .val (.int p2), .val (.int p3), .val (.int ca), .val (.int cb), .val (.int cc), .val (.int cd), .val (.int la), .val (.int lb), .val (.int la), .val (.int lb), .val (.int da), .val (.int db), .val (.int dc), .val (.int dd), .val (.ref a_2042), .val (.ref a_2051), .val (.ref a_2105), .val (.int (2 : Int32)), .unset] [(.int (0 : Int32))]
          refine g_if_n C at_276 (Jvm.Free.XT.i0_ne_f (by decide)) (pc' := 279) rfl ?_
          refine g_iconst C at_279 (v := (1 : Int32)) rfl (pc' := 280) rfl ?_
          refine g_goto C at_280 (pc' := 284) (by decide) (by decide) ?_
          refine g_ret C (eW hW fun vm' hw' => trivial) (v := (.int (1 : Int32))) (ty := .boolean) rfl rfl (Or.inl ⟨rfl, Or.inr (Or.inl rfl), _, rfl⟩) at_284 (by decide) (by decide) ?_
          rfl
        · subst i_2191e
          show Go B n0 _ h_2184 26 332 240 #[.val (.int p0), .val (.int p1), .val (.int p2), .val (.int p3), .val (.int ca), .val (.int cb), .val (.int cc), .val (.int cd), .val (.int la), .val (.int lb), .val (.int la), .val (.int lb), .val (.int da), .val (.int db), .val (.int dc), .val (.int dd), .val (.ref a_2042), .val (.ref a_2051), .val (.ref a_2105), .unset, .unset] [(.int (3 : Int32))]
          refine g_istore C at_240 (v := (3 : Int32)) (L' := #[.val (.int p0), .val (.int p1), .val (.int p2), .val (.int p3), .val (.int ca), .val (.int cb), .val (.int cc), .val (.int cd), .val (.int la), .val (.int lb), .val (.int la), .val (.int lb), .val (.int da), .val (.int db), .val (.int dc), .val (.int dd), .val (.ref a_2042), .val (.ref a_2051), .val (.ref a_2105), .val (.int (3 : Int32)), .unset]) rfl (pc' := 242) rfl ?_
          refine g_iload C at_242 (v := (3 : Int32)) rfl (pc' := 244) rfl ?_
          refine g_iconst C at_244 (v := (1 : Int32)) rfl (pc' := 245) rfl ?_
          refine g_icmp_y C at_245 (Jvm.Free.XT.ii_ne_t (by decide)) (pc' := 263) (by decide) (by decide) ?_
          refine g_iload C at_263 (v := (3 : Int32)) rfl (pc' := 265) rfl ?_
          refine g_iconst C at_265 (v := (2 : Int32)) rfl (pc' := 266) rfl ?_
          refine g_icmp_y C at_266 (Jvm.Free.XT.ii_ne_t (by decide)) (pc' := 285) (by decide) (by decide) ?_
          refine g_iload C at_285 (v := (3 : Int32)) rfl (pc' := 287) rfl ?_
          refine g_iconst C at_287 (v := (3 : Int32)) rfl (pc' := 288) rfl ?_
          refine g_icmp_n C at_288 (Jvm.Free.XT.ii_ne_f (by decide)) (pc' := 291) rfl ?_
          refine g_aload C at_291 (v := (.ref a_2051)) rfl rfl (pc' := 293) rfl ?_
          refine g_aload C at_293 (v := (.ref a_2051)) rfl rfl (pc' := 295) rfl ?_
          have f_2318 := ((f_2149.keep K_2162).keep K_2188)
          have f_2319 := ((((f_2097.ext E_2107).keep K_2135 nin0).keep K_2162 nin0).keep K_2188 (ninS ne_2111 nin0))
          have f_2320 := ((((f_2098.ext E_2107).keep K_2135 nin0).keep K_2162 nin0).keep K_2188 (ninS ne_2111 nin0))
          have f_2321 := ((f_2148.keep K_2162).keep K_2188)
          have f_2322 := ((f_2150.keep K_2162).keep K_2188)
          have f_2323 := (Nat.le_trans f_2183 K_2188.1)
          refine g_virtual C (own_w hw 58 rfl) (own_w hw 59 rfl) (own_w hw 61 rfl) (own_w hw 60 rfl) (own_w hw 36 rfl) (own_w hw 62 rfl) (notFace_of_selects (args := #[]) (mvT C.2.2.2.2.1 (own_w hw 61 rfl))) (by decide) f_2318 (rm_mneqS l Z a0 hw n0 a_2051 a_2042 a_2072 h_2184 f_2323 f_2318 f_2319 f_2320 f_2321 f_2322) (st := []) [(.ref a_2051)] rfl rfl own_pd_4_equals rfl rfl (by decide) (W := 0) (Nat.le_of_eq rfl) (by decide) (by decide) (by decide) at_295 (pc' := 298) rfl ?_
          intro v_2326 h_2324 q_2325
          obtain ⟨rfl, rfl⟩ := q_2325
          show Go B n0 _ h_2184 26 332 298 #[.val (.int p0), .val (.int p1), .val (.int p2), .val (.int p3), .val (.int ca), .val (.int cb), .val (.int cc), .val (.int cd), .val (.int la), .val (.int lb), .val (.int la), .val (.int lb), .val (.int da), .val (.int db), .val (.int dc), .val (.int dd), .val (.ref a_2042), .val (.ref a_2051), .val (.ref a_2105), .val (.int (3 : Int32)), .unset] [(.int (1 : Int32))]
          refine g_ret C (eW hW fun vm' hw' => trivial) (v := (.int (1 : Int32))) (ty := .boolean) rfl rfl (Or.inl ⟨rfl, Or.inr (Or.inl rfl), _, rfl⟩) at_298 (by decide) (by decide) ?_
          rfl
set_option maxRecDepth 65536 in
set_option maxHeartbeats 40000000 in
theorem comes_1 {Post : Tables → Env → Array Value → State → Outcome → State → Prop} (hpost : ∀ tb e args s v u, (limb_1_1.after args s (.returned v) u = true ∧ limb_1_2.after args s (.returned v) u = true ∧ True) → ReturnedEndW s (.returned v) u (Jvm.fieldLocs frame_1_writes args s ++ Jvm.arrayLocs frame_1_arrays args s ++ Jvm.staticLocs frame_1_statics s) 48 3264 → Post tb e args s (.returned v) u) :
    ArmFor flags0 classFile x code maxLocals ret World_1 tables_1 room_1 Calls_1 rest_1 Pre_1 Post := by
  intro l hfl _ _ p e ha hc hk s m args below hf hA hF happ hP
  obtain ⟨hcalls, hrest, hpre⟩ := hP
  obtain ⟨-, -, -, hnamed, -, -, -, hat⟩ := (Spec.applies_iff hf).mp happ
  obtain ⟨hg, hn⟩ := and_e (Cond.before_iff.mp (show (Jvm.Cond.and given_1 narrow_1).before args s = true from hpre))
  obtain ⟨gc, gr0⟩ := and_e hg
  obtain ⟨ga0, gr1⟩ := and_e gr0
  obtain ⟨ga1, gr2⟩ := and_e gr1
  obtain ⟨ga2, gr3⟩ := and_e gr2
  obtain ⟨w0, w1, w2, w3, rfl⟩ : ∃ w0 w1 w2 w3 : Value, args = #[w0, w1, w2, w3] := by
    have hs : args.size = 4 := by simpa [Cond.value, given_1] using gc
    obtain ⟨L⟩ := args
    match L, hs with
    | [w0, w1, w2, w3], _ => exact ⟨w0, w1, w2, w3, rfl⟩
  have hw := fun d (hd : d ∈ tables_1) => atoms_spec (ws := Jvm.Cond.code x code maxLocals ret :: tables_1) hat d (List.mem_cons_of_mem _ hd)
  have hfit : Fit s := fun {y c} hc i hi => by
    obtain ⟨ha, rfl⟩ := Array.getElem?_eq_some_iff.mp hc
    have q := List.all_eq_true.mp ((Array.all_eq_true_iff_forall_mem.mp hF) _ (Array.getElem_mem ha)) i (List.mem_range.mpr hi)
    simpa [Array.getElem?_eq_getElem hi] using q
  obtain ⟨i0, ei0⟩ := is_v ga0
  obtain rfl : w0 = (.int i0) := Option.some.inj ei0
  obtain ⟨i1, ei1⟩ := is_v ga1
  obtain rfl : w1 = (.int i1) := Option.some.inj ei1
  obtain ⟨i2, ei2⟩ := is_v ga2
  obtain rfl : w2 = (.int i2) := Option.some.inj ei2
  obtain ⟨i3, ei3⟩ := is_v gr3
  obtain rfl : w3 = (.int i3) := Option.some.inj ei3
  have hr0 : rest_1_c.before _ s = true := hrest
  rw [rest_1_c_eq] at hr0
  obtain ⟨hjs, -⟩ := atoms_of jdkStatics_1 hr0
  have hj := fun (k : Nat) {d : Jvm.Cond} (e : jdkStatics_1[k]? = some d) => hjs d (List.mem_of_getElem? e)
  have cm : Cmp s := own_cmp (hj 0 rfl) (hj 1 rfl) (hj 2 rfl)
  have ch0 : Jvm.Lit.constHeld s "java/lang/String" 7 := hcalls.1 ("java/lang/String", 7) (by simp [consts_1])
  have ch1 : Jvm.Lit.constHeld s "com/example/chiton/chiton/model/MethodName" 7 := hcalls.1 ("com/example/chiton/chiton/model/MethodName", 7) (by simp [consts_1])
  have ch2 : Jvm.Lit.constHeld s "com/example/chiton/chiton/model/MethodName" 23 := hcalls.1 ("com/example/chiton/chiton/model/MethodName", 23) (by simp [consts_1])
  have cw := hj 2 rfl
  obtain ⟨n, o, h1, h2, h3, _, L, rfl, ⟨N, rfl, -⟩, hq⟩ := rm_law l s _ hw s.heap.size i0 i1 i2 i3  s.heap (Nat.le_refl _) cm (Old.start s) ch0 ch1 ch2 cw tables_1 p e ha hc hk s m _ below hf ((Spec.applies_iff_loose hf).mp happ).1 ⟨rfl, State.Warmed39.refl s, rfl, InvK.start⟩ trivial
  refine ⟨n, _, h1, h2, h3, hpost _ _ _ _ _ _ ⟨Cond.after_iff.mpr rfl, Cond.after_iff.mpr (eq_i res_at (Term.int_eval (1)) rfl), trivial⟩ ⟨hq.1, hq.2.1, hq.2.2.1, (hq.2.2.2.sift fun y hy => Or.inr (N y hy)).mono (by decide) (by decide)⟩⟩
theorem main_1_1 : Claimed_1_1 := comes_1 fun _ _ _ _ _ _ h hF => ⟨h.1, hF⟩
theorem main_1_2 : Claimed_1_2 := comes_1 fun _ _ _ _ _ _ h hF => ⟨h.2.1, hF⟩
end Jvm.Pilot.@@N@@
namespace Jvm.Pilot.@@N@@
open Jvm Jvm.ClassFile Sem Op Lib Jvm.Free Jvm.Stand Jvm.Pilot.@@N@@.Jvm.D
/-! MADE BY PROGRAM (witnessworld.py) out of the Statement's table words and the real class files: 21 classes; the members and pool entries that the words name. The judged class is class 1, her method 3. -/
namespace start1
open Jvm.ClassFile
def u (s : String) : CpInfo := .utf8 (stringToUtf16 s)
/-- a pool by its gaps: so many unusable entries, then the entry; so many at the end -/
def gap : Nat → List CpInfo → List CpInfo
  | 0, r => r
  | n + 1, r => .unusable :: gap n r
def poolList (es : List (Nat × CpInfo)) (last : Nat) : List CpInfo := es.foldr (fun e r => gap e.1 (e.2 :: r)) (gap last [])
def pool (es : List (Nat × CpInfo)) (last : Nat) : Array CpInfo := ⟨poolList es last⟩
def fileOf (pool : Array CpInfo) (this : Nat) (attrs : Array Attribute := #[]) (ms : Array MethodInfo := #[]) (fl : Nat := 33) (sup : Nat := 0) (ifs : Array Nat := #[]) (fds : Array FieldInfo := #[]) : ClassFile where
  minorVersion := 0
  majorVersion := 65
  constantPool := pool
  accessFlags := fl
  thisClass := this
  superClass := sup
  interfaces := ifs
  fields := fds
  methods := ms
  attributes := attrs
def plain (name : String) (sup : Option ClassId) : Class where
  name := name
  kind := .ordinary
  loader := none
  accessFlags := 33
  super := sup
  interfaces := #[]
  cf := none
  fields := #[]
  methods := #[]
  instanceTypes := #[]
  staticTypes := #[]
  resolved := #[]
  callSites := []
  init := .initialized
  statics := none
  mirror := none

def pool0 : Array CpInfo := pool [(5, u "<init>"), (0, u "()V"), (1, .class_ 10), (1, u "java/lang/Object")] 113

def k0c0 : Code := { maxStack := 0, maxLocals := 1, code := object_method_1_code, exceptionTable := #[], attributes := #[] }
def k0m0 : Method := { name := "<init>", desc := "()V", sig := { parameters := [], returnType := none }, accessFlags := 1, code := some k0c0 }
/-- java/lang/Object -/
def k0 : Class := { plain "java/lang/Object" none with
  accessFlags := 33
  interfaces := #[]
  cf := some (fileOf pool0 8 #[] #[{ accessFlags := 1, nameIndex := 5, descriptorIndex := 6, attributes := #[] }] 33 0 #[] #[])
  fields := #[]
  methods := #[k0m0]
  instanceTypes := #[]
  staticTypes := #[]
  resolved := Array.replicate 124 none
  statics := none }

def pool1 : Array CpInfo := pool [(2, .class_ 4), (1, u "java/lang/Object"), (0, u "<init>"), (0, u "()V"), (0, .class_ 8), (0, u "java/lang/String"), (0, .methodref 7 10), (0, .nameAndType 5 11), (0, u "([C)V"), (0, .methodref 13 14), (0, .class_ 15), (0, .nameAndType 16 17), (0, u "com/example/chiton/chiton/model/MethodNameEqualsPinLaw"), (0, u "str"), (0, u "(III)Ljava/lang/String;"), (0, .class_ 19), (0, u "com/example/chiton/chiton/model/MethodName"), (0, .methodref 18 21), (0, .nameAndType 5 22), (0, u "(Ljava/lang/String;Ljava/lang/String;)V"), (0, .methodref 18 24), (0, .nameAndType 25 26), (0, u "equals"), (0, u "(Ljava/lang/Object;)Z"), (0, .methodref 13 28), (0, .nameAndType 29 30), (0, u "same"), (0, u "(IIIIII)Z"), (3, u "law"), (0, u "(IIII)Z")] 2

def k1m0 : Method := { name := "<init>", desc := "()V", sig := { parameters := [], returnType := none }, accessFlags := 1, code := none }
def k1c1 : Code := { maxStack := 6, maxLocals := 3, code := method_2_code, exceptionTable := #[], attributes := #[] }
def k1m1 : Method := { name := "str", desc := "(III)Ljava/lang/String;", sig := { parameters := [.int, .int, .int], returnType := some (.object "java/lang/String") }, accessFlags := 10, code := some k1c1 }
def k1c2 : Code := { maxStack := 2, maxLocals := 6, code := method_3_code, exceptionTable := #[], attributes := #[] }
def k1m2 : Method := { name := "same", desc := "(IIIIII)Z", sig := { parameters := [.int, .int, .int, .int, .int, .int], returnType := some .boolean }, accessFlags := 10, code := some k1c2 }
def k1c3 : Code := { maxStack := 6, maxLocals := 21, code := code, exceptionTable := #[], attributes := #[] }
def k1m3 : Method := { name := "law", desc := "(IIII)Z", sig := { parameters := [.int, .int, .int, .int], returnType := some .boolean }, accessFlags := 9, code := some k1c3 }
/-- com/example/chiton/chiton/model/MethodNameEqualsPinLaw -/
def k1 : Class := { plain "com/example/chiton/chiton/model/MethodNameEqualsPinLaw" (some 0) with
  accessFlags := 49
  interfaces := #[]
  cf := some (fileOf pool1 13 #[] #[{ accessFlags := 1, nameIndex := 5, descriptorIndex := 6, attributes := #[] }, { accessFlags := 10, nameIndex := 16, descriptorIndex := 17, attributes := #[] }, { accessFlags := 10, nameIndex := 29, descriptorIndex := 30, attributes := #[] }, { accessFlags := 9, nameIndex := 34, descriptorIndex := 35, attributes := #[] }] 49 2 #[] #[])
  fields := #[]
  methods := #[k1m0, k1m1, k1m2, k1m3]
  instanceTypes := #[]
  staticTypes := #[]
  resolved := Array.replicate 38 none
  statics := none }

def pool2 : Array CpInfo := pool [(1, .class_ 2), (0, u "java/io/Serializable"), (0, .class_ 4), (0, u "java/lang/Object")] 2

/-- java/io/Serializable -/
def k2 : Class := { plain "java/io/Serializable" (some 0) with
  accessFlags := 1537
  interfaces := #[]
  cf := some (fileOf pool2 1 #[] #[] 1537 3 #[] #[])
  fields := #[]
  methods := #[]
  instanceTypes := #[]
  staticTypes := #[]
  resolved := Array.replicate 7 none
  statics := none }

def pool3 : Array CpInfo := pool [(1, .class_ 2), (0, u "java/lang/Comparable"), (0, .class_ 4), (0, u "java/lang/Object")] 7

/-- java/lang/Comparable -/
def k3 : Class := { plain "java/lang/Comparable" (some 0) with
  accessFlags := 1537
  interfaces := #[]
  cf := some (fileOf pool3 1 #[] #[] 1537 3 #[] #[])
  fields := #[]
  methods := #[]
  instanceTypes := #[]
  staticTypes := #[]
  resolved := Array.replicate 12 none
  statics := none }

def pool4 : Array CpInfo := pool [(2, .class_ 4), (1, u "java/lang/CharSequence"), (42, .class_ 48), (0, u "java/lang/CharSequence$1CodePointIterator"), (10, .class_ 60), (0, u "java/lang/CharSequence$1CharIterator"), (5, .class_ 67), (0, u "java/lang/Object")] 63

/-- java/lang/CharSequence -/
def k4 : Class := { plain "java/lang/CharSequence" (some 0) with
  accessFlags := 1537
  interfaces := #[]
  cf := some (fileOf pool4 2 #[.nestMembers #[47, 59]] #[] 1537 66 #[] #[])
  fields := #[]
  methods := #[]
  instanceTypes := #[]
  staticTypes := #[]
  resolved := Array.replicate 131 none
  statics := none }

def pool5 : Array CpInfo := pool [(1, .class_ 2), (0, u "java/lang/constant/Constable"), (0, .class_ 4), (0, u "java/lang/Object")] 6

/-- java/lang/constant/Constable -/
def k5 : Class := { plain "java/lang/constant/Constable" (some 0) with
  accessFlags := 1537
  interfaces := #[]
  cf := some (fileOf pool5 1 #[] #[] 1537 3 #[] #[])
  fields := #[]
  methods := #[]
  instanceTypes := #[]
  staticTypes := #[]
  resolved := Array.replicate 11 none
  statics := none }

def pool6 : Array CpInfo := pool [(1, .class_ 2), (0, u "java/lang/constant/ConstantDesc"), (0, .class_ 4), (0, u "java/lang/Object")] 32

/-- java/lang/constant/ConstantDesc -/
def k6 : Class := { plain "java/lang/constant/ConstantDesc" (some 0) with
  accessFlags := 1537
  interfaces := #[]
  cf := some (fileOf pool6 1 #[] #[] 1537 3 #[] #[])
  fields := #[]
  methods := #[]
  instanceTypes := #[]
  staticTypes := #[]
  resolved := Array.replicate 37 none
  statics := none }

def pool7 : Array CpInfo := pool [(1, .methodref 2 3), (0, .class_ 4), (0, .nameAndType 5 6), (0, u "java/lang/Object"), (0, u "<init>"), (0, u "()V"), (0, .string 8), (0, u ""), (0, .fieldref 10 11), (0, .class_ 12), (0, .nameAndType 13 14), (0, u "java/lang/String"), (0, u "value"), (0, u "[B"), (0, .fieldref 10 16), (0, .nameAndType 17 18), (0, u "coder"), (0, u "B"), (2, u "hash"), (0, u "I"), (2, u "hashIsZero"), (0, u "Z"), (0, .methodref 10 28), (0, .nameAndType 5 29), (0, u "([CIILjava/lang/Void;)V"), (8, .fieldref 10 39), (0, .nameAndType 40 26), (0, u "COMPACT_STRINGS"), (1, .class_ 44), (1, u "java/lang/StringUTF16"), (0, u "compress"), (1, .methodref 42 48), (0, .nameAndType 49 50), (0, u "coderFromArrayLen"), (0, u "([BI)B"), (56, .class_ 109), (1, u "java/lang/StringLatin1"), (67, .methodref 42 178), (0, .nameAndType 45 179), (0, u "([CII)[B"), (361, .methodref 107 542), (0, .nameAndType 543 544), (0, u "equals"), (0, u "([B[B)Z"), (28, u "(Ljava/lang/Object;)Z"), (1, .class_ 576), (0, u "java/lang/CharSequence"), (22, u "CASE_INSENSITIVE_ORDER"), (0, u "Ljava/util/Comparator;"), (409, u "([C)V"), (90, u "serialPersistentFields"), (0, u "[Ljava/io/ObjectStreamField;"), (0, .class_ 1104), (0, u "java/lang/String$CaseInsensitiveComparator"), (1, .class_ 1107), (0, u "java/io/Serializable"), (0, .class_ 1109), (0, u "java/lang/Comparable"), (0, .class_ 1111), (0, u "java/lang/constant/Constable"), (0, .class_ 1113), (0, u "java/lang/constant/ConstantDesc"), (2, u "serialVersionUID"), (0, u "J"), (3, u "REPL"), (0, u "C"), (2, u "LATIN1"), (1, u "UTF16")] 323

def k7m0 : Method := { name := "<init>", desc := "()V", sig := { parameters := [], returnType := none }, accessFlags := 1, code := none }
def k7c1 : Code := { maxStack := 5, maxLocals := 2, code := jdk_42_method_3_code, exceptionTable := #[], attributes := #[] }
def k7m1 : Method := { name := "<init>", desc := "([C)V", sig := { parameters := [(.array .char)], returnType := none }, accessFlags := 1, code := some k7c1 }
def k7c2 : Code := { maxStack := 2, maxLocals := 3, code := jdk_42_method_66_code, exceptionTable := #[], attributes := #[] }
def k7m2 : Method := { name := "equals", desc := "(Ljava/lang/Object;)Z", sig := { parameters := [(.object "java/lang/Object")], returnType := some .boolean }, accessFlags := 1, code := some k7c2 }
def k7c3 : Code := { maxStack := 4, maxLocals := 6, code := jdk_42_method_149_code, exceptionTable := #[], attributes := #[] }
def k7m3 : Method := { name := "<init>", desc := "([CIILjava/lang/Void;)V", sig := { parameters := [(.array .char), .int, .int, (.object "java/lang/Void")], returnType := none }, accessFlags := 2, code := some k7c3 }
/-- java/lang/String -/
def k7 : Class := { plain "java/lang/String" (some 0) with
  accessFlags := 49
  interfaces := #[2, 3, 4, 5, 6]
  cf := some (fileOf pool7 10 #[.nestMembers #[1103]] #[{ accessFlags := 1, nameIndex := 5, descriptorIndex := 6, attributes := #[] }, { accessFlags := 1, nameIndex := 5, descriptorIndex := 1010, attributes := #[] }, { accessFlags := 1, nameIndex := 543, descriptorIndex := 573, attributes := #[] }, { accessFlags := 2, nameIndex := 5, descriptorIndex := 29, attributes := #[] }] 49 2 #[1106, 1108, 575, 1110, 1112] #[{ accessFlags := 18, nameIndex := 13, descriptorIndex := 14, attributes := #[] }, { accessFlags := 18, nameIndex := 17, descriptorIndex := 18, attributes := #[] }, { accessFlags := 2, nameIndex := 21, descriptorIndex := 22, attributes := #[] }, { accessFlags := 2, nameIndex := 25, descriptorIndex := 26, attributes := #[] }, { accessFlags := 26, nameIndex := 1116, descriptorIndex := 1117, attributes := #[] }, { accessFlags := 24, nameIndex := 40, descriptorIndex := 26, attributes := #[] }, { accessFlags := 26, nameIndex := 1101, descriptorIndex := 1102, attributes := #[] }, { accessFlags := 26, nameIndex := 1121, descriptorIndex := 1122, attributes := #[] }, { accessFlags := 25, nameIndex := 599, descriptorIndex := 600, attributes := #[] }, { accessFlags := 24, nameIndex := 1125, descriptorIndex := 18, attributes := #[] }, { accessFlags := 24, nameIndex := 1127, descriptorIndex := 18, attributes := #[] }])
  fields := #[{ name := "value", type := (.array .byte), accessFlags := 18, slot := 0, constantValue := 0 }, { name := "coder", type := .byte, accessFlags := 18, slot := 1, constantValue := 0 }, { name := "hash", type := .int, accessFlags := 2, slot := 2, constantValue := 0 }, { name := "hashIsZero", type := .boolean, accessFlags := 2, slot := 3, constantValue := 0 }, { name := "serialVersionUID", type := .long, accessFlags := 26, slot := 0, constantValue := 0 }, { name := "COMPACT_STRINGS", type := .boolean, accessFlags := 24, slot := 1, constantValue := 0 }, { name := "serialPersistentFields", type := (.array (.object "java/io/ObjectStreamField")), accessFlags := 26, slot := 2, constantValue := 0 }, { name := "REPL", type := .char, accessFlags := 26, slot := 3, constantValue := 0 }, { name := "CASE_INSENSITIVE_ORDER", type := (.object "java/util/Comparator"), accessFlags := 25, slot := 4, constantValue := 0 }, { name := "LATIN1", type := .byte, accessFlags := 24, slot := 5, constantValue := 0 }, { name := "UTF16", type := .byte, accessFlags := 24, slot := 6, constantValue := 0 }]
  methods := #[k7m0, k7m1, k7m2, k7m3]
  instanceTypes := #[(.array .byte), .byte, .int, .boolean]
  staticTypes := #[.long, .boolean, (.array (.object "java/io/ObjectStreamField")), .char, (.object "java/util/Comparator"), .byte, .byte]
  resolved := Array.replicate 1451 none
  statics := some 0 }

def pool8 : Array CpInfo := pool [(6, .class_ 8), (1, u "java/lang/Object"), (0, u "<init>"), (0, u "()V"), (1, .class_ 14), (1, u "java/lang/StringUTF16"), (31, u "$assertionsDisabled"), (0, u "Z"), (13, u "HI_BYTE_SHIFT"), (0, u "I"), (2, u "LO_BYTE_SHIFT"), (49, .methodref 12 116), (0, .nameAndType 117 118), (0, u "compress"), (0, u "([CI[BII)I"), (3, u "([CII)[B"), (138, u "coderFromArrayLen"), (0, u "([BI)B"), (106, .class_ 371), (1, u "java/lang/StringUTF16$LinesSpliterator"), (58, u "MAX_LENGTH"), (196, .class_ 628), (0, u "java/lang/StringUTF16$CodePointsSpliterator"), (0, .class_ 630), (0, u "java/lang/StringUTF16$CharsSpliterator")] 4

def k8m0 : Method := { name := "<init>", desc := "()V", sig := { parameters := [], returnType := none }, accessFlags := 0, code := none }
def k8c1 : Code := { maxStack := 2, maxLocals := 2, code := jdk_52_method_15_code, exceptionTable := #[], attributes := #[] }
def k8m1 : Method := { name := "coderFromArrayLen", desc := "([BI)B", sig := { parameters := [(.array .byte), .int], returnType := some .byte }, accessFlags := 8, code := some k8c1 }
def k8c2 : Code := { maxStack := 5, maxLocals := 6, code := jdk_52_method_16_code, exceptionTable := #[], attributes := #[] }
def k8m2 : Method := { name := "compress", desc := "([CII)[B", sig := { parameters := [(.array .char), .int, .int], returnType := some (.array .byte) }, accessFlags := 9, code := some k8c2 }
def k8c3 : Code := { maxStack := 3, maxLocals := 7, code := jdk_52_method_21_code, exceptionTable := #[], attributes := #[] }
def k8m3 : Method := { name := "compress", desc := "([CI[BII)I", sig := { parameters := [(.array .char), .int, (.array .byte), .int, .int], returnType := some .int }, accessFlags := 9, code := some k8c3 }
/-- java/lang/StringUTF16 -/
def k8 : Class := { plain "java/lang/StringUTF16" (some 0) with
  accessFlags := 48
  interfaces := #[]
  cf := some (fileOf pool8 12 #[.nestMembers #[627, 629, 369]] #[{ accessFlags := 0, nameIndex := 9, descriptorIndex := 10, attributes := #[] }, { accessFlags := 8, nameIndex := 261, descriptorIndex := 262, attributes := #[] }, { accessFlags := 9, nameIndex := 117, descriptorIndex := 122, attributes := #[] }, { accessFlags := 9, nameIndex := 117, descriptorIndex := 118, attributes := #[] }] 48 6 #[] #[{ accessFlags := 26, nameIndex := 61, descriptorIndex := 62, attributes := #[] }, { accessFlags := 26, nameIndex := 65, descriptorIndex := 62, attributes := #[] }, { accessFlags := 24, nameIndex := 430, descriptorIndex := 62, attributes := #[] }, { accessFlags := 4120, nameIndex := 46, descriptorIndex := 47, attributes := #[] }])
  fields := #[{ name := "HI_BYTE_SHIFT", type := .int, accessFlags := 26, slot := 0, constantValue := 0 }, { name := "LO_BYTE_SHIFT", type := .int, accessFlags := 26, slot := 1, constantValue := 0 }, { name := "MAX_LENGTH", type := .int, accessFlags := 24, slot := 2, constantValue := 0 }, { name := "$assertionsDisabled", type := .boolean, accessFlags := 4120, slot := 3, constantValue := 0 }]
  methods := #[k8m0, k8m1, k8m2, k8m3]
  instanceTypes := #[]
  staticTypes := #[.int, .int, .int, .boolean]
  resolved := Array.replicate 635 none
  statics := none }

def pool9 : Array CpInfo := pool [(1, .methodref 2 3), (0, .class_ 4), (0, .nameAndType 5 6), (0, u "java/lang/Object"), (0, u "<init>"), (0, u "()V"), (0, .string 8), (0, u "className is null"), (0, .methodref 10 11), (0, .class_ 12), (0, .nameAndType 13 14), (0, u "java/util/Objects"), (0, u "requireNonNull"), (0, u "(Ljava/lang/Object;Ljava/lang/String;)Ljava/lang/Object;"), (0, .class_ 16), (0, u "java/lang/String"), (0, .fieldref 18 19), (0, .class_ 20), (0, .nameAndType 21 22), (0, u "com/example/chiton/chiton/model/MethodName"), (0, u "className"), (0, u "Ljava/lang/String;"), (0, .string 24), (0, u "methodName is null"), (0, .fieldref 18 26), (0, .nameAndType 27 22), (0, u "methodName"), (0, .methodref 15 29), (0, .nameAndType 30 31), (0, u "equals"), (0, u "(Ljava/lang/Object;)Z"), (8, u "(Ljava/lang/String;Ljava/lang/String;)V")] 26

def k9c0 : Code := { maxStack := 3, maxLocals := 3, code := prog_19_method_1_code, exceptionTable := #[], attributes := #[] }
def k9m0 : Method := { name := "<init>", desc := "(Ljava/lang/String;Ljava/lang/String;)V", sig := { parameters := [(.object "java/lang/String"), (.object "java/lang/String")], returnType := none }, accessFlags := 1, code := some k9c0 }
def k9c1 : Code := { maxStack := 2, maxLocals := 3, code := prog_19_method_4_code, exceptionTable := #[], attributes := #[] }
def k9m1 : Method := { name := "equals", desc := "(Ljava/lang/Object;)Z", sig := { parameters := [(.object "java/lang/Object")], returnType := some .boolean }, accessFlags := 1, code := some k9c1 }
/-- com/example/chiton/chiton/model/MethodName -/
def k9 : Class := { plain "com/example/chiton/chiton/model/MethodName" (some 0) with
  accessFlags := 33
  interfaces := #[]
  cf := some (fileOf pool9 18 #[] #[{ accessFlags := 1, nameIndex := 5, descriptorIndex := 40, attributes := #[] }, { accessFlags := 1, nameIndex := 30, descriptorIndex := 31, attributes := #[] }] 33 2 #[] #[{ accessFlags := 18, nameIndex := 21, descriptorIndex := 22, attributes := #[] }, { accessFlags := 18, nameIndex := 27, descriptorIndex := 22, attributes := #[] }])
  fields := #[{ name := "className", type := (.object "java/lang/String"), accessFlags := 18, slot := 0, constantValue := 0 }, { name := "methodName", type := (.object "java/lang/String"), accessFlags := 18, slot := 1, constantValue := 0 }]
  methods := #[k9m0, k9m1]
  instanceTypes := #[(.object "java/lang/String"), (.object "java/lang/String")]
  staticTypes := #[]
  resolved := Array.replicate 67 none
  statics := none }

def pool10 : Array CpInfo := pool [(2, .class_ 4), (1, u "java/lang/Object"), (0, u "<init>"), (0, u "()V"), (35, .class_ 44), (1, u "java/util/Objects"), (0, u "requireNonNull"), (48, u "(Ljava/lang/Object;Ljava/lang/String;)Ljava/lang/Object;")] 89

def k10m0 : Method := { name := "<init>", desc := "()V", sig := { parameters := [], returnType := none }, accessFlags := 2, code := none }
def k10c1 : Code := { maxStack := 3, maxLocals := 2, code := jdk_31_method_11_code, exceptionTable := #[], attributes := #[] }
def k10m1 : Method := { name := "requireNonNull", desc := "(Ljava/lang/Object;Ljava/lang/String;)Ljava/lang/Object;", sig := { parameters := [(.object "java/lang/Object"), (.object "java/lang/String")], returnType := some (.object "java/lang/Object") }, accessFlags := 9, code := some k10c1 }
/-- java/util/Objects -/
def k10 : Class := { plain "java/util/Objects" (some 0) with
  accessFlags := 49
  interfaces := #[]
  cf := some (fileOf pool10 42 #[] #[{ accessFlags := 2, nameIndex := 5, descriptorIndex := 6, attributes := #[] }, { accessFlags := 9, nameIndex := 45, descriptorIndex := 94, attributes := #[] }] 49 2 #[] #[])
  fields := #[]
  methods := #[k10m0, k10m1]
  instanceTypes := #[]
  staticTypes := #[]
  resolved := Array.replicate 184 none
  statics := none }

def pool11 : Array CpInfo := pool [(4, .class_ 6), (1, u "java/lang/Object"), (0, u "<init>"), (0, u "()V"), (5, .class_ 16), (1, u "java/lang/StringLatin1"), (104, u "$assertionsDisabled"), (0, u "Z"), (98, .class_ 223), (1, u "java/lang/StringLatin1$LinesSpliterator"), (57, u "equals"), (0, u "([B[B)Z"), (107, .class_ 391), (0, u "java/lang/StringLatin1$CharsSpliterator")] 3

def k11m0 : Method := { name := "<init>", desc := "()V", sig := { parameters := [], returnType := none }, accessFlags := 0, code := none }
def k11c1 : Code := { maxStack := 3, maxLocals := 3, code := jdk_43_method_13_code, exceptionTable := #[], attributes := #[] }
def k11m1 : Method := { name := "equals", desc := "([B[B)Z", sig := { parameters := [(.array .byte), (.array .byte)], returnType := some .boolean }, accessFlags := 9, code := some k11c1 }
/-- java/lang/StringLatin1 -/
def k11 : Class := { plain "java/lang/StringLatin1" (some 0) with
  accessFlags := 48
  interfaces := #[]
  cf := some (fileOf pool11 14 #[.nestMembers #[390, 221]] #[{ accessFlags := 0, nameIndex := 7, descriptorIndex := 8, attributes := #[] }, { accessFlags := 9, nameIndex := 281, descriptorIndex := 282, attributes := #[] }] 48 4 #[] #[{ accessFlags := 4120, nameIndex := 121, descriptorIndex := 122, attributes := #[] }])
  fields := #[{ name := "$assertionsDisabled", type := .boolean, accessFlags := 4120, slot := 0, constantValue := 0 }]
  methods := #[k11m0, k11m1]
  instanceTypes := #[]
  staticTypes := #[.boolean]
  resolved := Array.replicate 395 none
  statics := none }

def pool12 : Array CpInfo := pool [(2, .class_ 4), (1, u "java/lang/Object"), (0, u "<init>"), (0, u "()V"), (17, .class_ 26), (1, u "jdk/internal/util/Preconditions"), (28, .class_ 56), (0, u "jdk/internal/util/Preconditions$4"), (57, .class_ 115), (0, u "jdk/internal/util/Preconditions$1"), (7, u "SIOOBE_FORMATTER"), (0, u "Ljava/util/function/BiFunction;"), (0, .class_ 126), (0, u "jdk/internal/util/Preconditions$2"), (3, u "AIOOBE_FORMATTER"), (0, .class_ 132), (0, u "jdk/internal/util/Preconditions$3"), (3, u "IOOBE_FORMATTER")] 57

def k12m0 : Method := { name := "<init>", desc := "()V", sig := { parameters := [], returnType := none }, accessFlags := 1, code := none }
/-- jdk/internal/util/Preconditions -/
def k12 : Class := { plain "jdk/internal/util/Preconditions" (some 0) with
  accessFlags := 33
  interfaces := #[]
  cf := some (fileOf pool12 24 #[.nestMembers #[55, 131, 125, 114]] #[{ accessFlags := 1, nameIndex := 5, descriptorIndex := 6, attributes := #[] }] 33 2 #[] #[{ accessFlags := 25, nameIndex := 123, descriptorIndex := 124, attributes := #[] }, { accessFlags := 25, nameIndex := 130, descriptorIndex := 124, attributes := #[] }, { accessFlags := 25, nameIndex := 136, descriptorIndex := 124, attributes := #[] }])
  fields := #[{ name := "SIOOBE_FORMATTER", type := (.object "java/util/function/BiFunction"), accessFlags := 25, slot := 0, constantValue := 0 }, { name := "AIOOBE_FORMATTER", type := (.object "java/util/function/BiFunction"), accessFlags := 25, slot := 1, constantValue := 0 }, { name := "IOOBE_FORMATTER", type := (.object "java/util/function/BiFunction"), accessFlags := 25, slot := 2, constantValue := 0 }]
  methods := #[k12m0]
  instanceTypes := #[]
  staticTypes := #[(.object "java/util/function/BiFunction"), (.object "java/util/function/BiFunction"), (.object "java/util/function/BiFunction")]
  resolved := Array.replicate 194 none
  statics := some 1 }

def pool13 : Array CpInfo := pool [(9, u "<init>"), (6, .class_ 18), (1, u "java/lang/Object"), (0, u "()V"), (1, .class_ 23), (1, u "jdk/internal/util/ArraysSupport"), (0, u "LOG2_ARRAY_LONG_INDEX_SCALE"), (0, u "I"), (2, u "U"), (0, u "Ljdk/internal/misc/Unsafe;"), (8, u "BIG_ENDIAN"), (0, u "Z"), (8, u "LOG2_BYTE_BIT_SIZE"), (4, u "LOG2_ARRAY_INT_INDEX_SCALE"), (54, u "JLA"), (0, u "Ljdk/internal/access/JavaLangAccess;"), (11, u "LOG2_ARRAY_BOOLEAN_INDEX_SCALE"), (9, u "LOG2_ARRAY_BYTE_INDEX_SCALE"), (5, u "LOG2_ARRAY_CHAR_INDEX_SCALE"), (5, u "LOG2_ARRAY_SHORT_INDEX_SCALE"), (18, u "LOG2_ARRAY_FLOAT_INDEX_SCALE"), (24, u "LOG2_ARRAY_DOUBLE_INDEX_SCALE"), (89, u "T_BOOLEAN"), (2, u "T_CHAR"), (1, u "T_FLOAT"), (1, u "T_DOUBLE"), (1, u "T_BYTE"), (1, u "T_SHORT"), (1, u "T_INT"), (1, u "T_LONG"), (1, u "SOFT_MAX_ARRAY_LENGTH")] 83

def k13m0 : Method := { name := "<init>", desc := "()V", sig := { parameters := [], returnType := none }, accessFlags := 2, code := none }
/-- jdk/internal/util/ArraysSupport -/
def k13 : Class := { plain "jdk/internal/util/ArraysSupport" (some 0) with
  accessFlags := 33
  interfaces := #[]
  cf := some (fileOf pool13 21 #[] #[{ accessFlags := 2, nameIndex := 9, descriptorIndex := 19, attributes := #[] }] 33 16 #[] #[{ accessFlags := 24, nameIndex := 28, descriptorIndex := 29, attributes := #[] }, { accessFlags := 26, nameIndex := 38, descriptorIndex := 39, attributes := #[] }, { accessFlags := 25, nameIndex := 121, descriptorIndex := 25, attributes := #[] }, { accessFlags := 25, nameIndex := 131, descriptorIndex := 25, attributes := #[] }, { accessFlags := 25, nameIndex := 137, descriptorIndex := 25, attributes := #[] }, { accessFlags := 25, nameIndex := 143, descriptorIndex := 25, attributes := #[] }, { accessFlags := 25, nameIndex := 53, descriptorIndex := 25, attributes := #[] }, { accessFlags := 25, nameIndex := 24, descriptorIndex := 25, attributes := #[] }, { accessFlags := 25, nameIndex := 162, descriptorIndex := 25, attributes := #[] }, { accessFlags := 25, nameIndex := 187, descriptorIndex := 25, attributes := #[] }, { accessFlags := 26, nameIndex := 48, descriptorIndex := 25, attributes := #[] }, { accessFlags := 25, nameIndex := 277, descriptorIndex := 25, attributes := #[] }, { accessFlags := 25, nameIndex := 280, descriptorIndex := 25, attributes := #[] }, { accessFlags := 25, nameIndex := 282, descriptorIndex := 25, attributes := #[] }, { accessFlags := 25, nameIndex := 284, descriptorIndex := 25, attributes := #[] }, { accessFlags := 25, nameIndex := 286, descriptorIndex := 25, attributes := #[] }, { accessFlags := 25, nameIndex := 288, descriptorIndex := 25, attributes := #[] }, { accessFlags := 25, nameIndex := 290, descriptorIndex := 25, attributes := #[] }, { accessFlags := 25, nameIndex := 292, descriptorIndex := 25, attributes := #[] }, { accessFlags := 26, nameIndex := 108, descriptorIndex := 109, attributes := #[] }, { accessFlags := 25, nameIndex := 294, descriptorIndex := 25, attributes := #[] }])
  fields := #[{ name := "U", type := (.object "jdk/internal/misc/Unsafe"), accessFlags := 24, slot := 0, constantValue := 0 }, { name := "BIG_ENDIAN", type := .boolean, accessFlags := 26, slot := 1, constantValue := 0 }, { name := "LOG2_ARRAY_BOOLEAN_INDEX_SCALE", type := .int, accessFlags := 25, slot := 2, constantValue := 0 }, { name := "LOG2_ARRAY_BYTE_INDEX_SCALE", type := .int, accessFlags := 25, slot := 3, constantValue := 0 }, { name := "LOG2_ARRAY_CHAR_INDEX_SCALE", type := .int, accessFlags := 25, slot := 4, constantValue := 0 }, { name := "LOG2_ARRAY_SHORT_INDEX_SCALE", type := .int, accessFlags := 25, slot := 5, constantValue := 0 }, { name := "LOG2_ARRAY_INT_INDEX_SCALE", type := .int, accessFlags := 25, slot := 6, constantValue := 0 }, { name := "LOG2_ARRAY_LONG_INDEX_SCALE", type := .int, accessFlags := 25, slot := 7, constantValue := 0 }, { name := "LOG2_ARRAY_FLOAT_INDEX_SCALE", type := .int, accessFlags := 25, slot := 8, constantValue := 0 }, { name := "LOG2_ARRAY_DOUBLE_INDEX_SCALE", type := .int, accessFlags := 25, slot := 9, constantValue := 0 }, { name := "LOG2_BYTE_BIT_SIZE", type := .int, accessFlags := 26, slot := 10, constantValue := 0 }, { name := "T_BOOLEAN", type := .int, accessFlags := 25, slot := 11, constantValue := 0 }, { name := "T_CHAR", type := .int, accessFlags := 25, slot := 12, constantValue := 0 }, { name := "T_FLOAT", type := .int, accessFlags := 25, slot := 13, constantValue := 0 }, { name := "T_DOUBLE", type := .int, accessFlags := 25, slot := 14, constantValue := 0 }, { name := "T_BYTE", type := .int, accessFlags := 25, slot := 15, constantValue := 0 }, { name := "T_SHORT", type := .int, accessFlags := 25, slot := 16, constantValue := 0 }, { name := "T_INT", type := .int, accessFlags := 25, slot := 17, constantValue := 0 }, { name := "T_LONG", type := .int, accessFlags := 25, slot := 18, constantValue := 0 }, { name := "JLA", type := (.object "jdk/internal/access/JavaLangAccess"), accessFlags := 26, slot := 19, constantValue := 0 }, { name := "SOFT_MAX_ARRAY_LENGTH", type := .int, accessFlags := 25, slot := 20, constantValue := 0 }]
  methods := #[k13m0]
  instanceTypes := #[]
  staticTypes := #[(.object "jdk/internal/misc/Unsafe"), .boolean, .int, .int, .int, .int, .int, .int, .int, .int, .int, .int, .int, .int, .int, .int, .int, .int, .int, (.object "jdk/internal/access/JavaLangAccess"), .int]
  resolved := Array.replicate 378 none
  statics := none }

def pool14 : Array CpInfo := pool [(1, u "java/lang/Cloneable"), (0, .class_ 1), (0, u "java/lang/Object"), (0, .class_ 3)] 3

/-- java/lang/Cloneable -/
def k14 : Class := { plain "java/lang/Cloneable" (some 0) with
  accessFlags := 1537
  interfaces := #[]
  cf := some (fileOf pool14 2 #[] #[] 1537 4 #[] #[])
  fields := #[]
  methods := #[]
  instanceTypes := #[]
  staticTypes := #[]
  resolved := Array.replicate 8 none
  statics := none }

/-- the primitive byte -/
def k15 : Class := { plain "byte" none with kind := .primitive 'B', accessFlags := 0x411 }
/-- [B -/
def k16 : Class := { plain "[B" (some 0) with kind := .array 15 .byte, interfaces := #[14, 2], accessFlags := 1041 }

/-- the primitive char -/
def k17 : Class := { plain "char" none with kind := .primitive 'C', accessFlags := 0x411 }
/-- [C -/
def k18 : Class := { plain "[C" (some 0) with kind := .array 17 .char, interfaces := #[14, 2], accessFlags := 1041 }

/-- the primitive int -/
def k19 : Class := { plain "int" none with kind := .primitive 'I', accessFlags := 0x411 }
/-- [I -/
def k20 : Class := { plain "[I" (some 0) with kind := .array 19 .int, interfaces := #[14, 2], accessFlags := 1041 }

def heap : Heap := #[{ cls := 7, slots := #[.long 0, .int 1, .null, .int 0, .null, .int 0, .int 0], vm := .statics 7 },
  { cls := 12, slots := #[.null, .null, .null], vm := .statics 12 }]
def classes : Array Class := #[k0, k1, k2, k3, k4, k5, k6, k7, k8, k9, k10, k11, k12, k13, k14, k15, k16, k17, k18, k19, k20]
def interned : List (Array UInt16 × Addr) := []
def slotsUsed : Nat := 10
def theMethod : MethodId := ⟨1, 3⟩
def args0 : Array Value := #[.int 1, .int 2, .int 3, .int 4]
def aboutOver (below : List Frame) : State where
  vm := { classes := classes, interned := interned.toArray }
  heap := heap
  slotsUsed := slotsUsed
  threads := #[{ frames := .invoking theMethod args0 :: below }]
def below0 : List Frame := [.native { method := ⟨0, 0⟩, args := #[] }]
def about1 : State := aboutOver below0
def p0 : Program := .bare "" "" ""
def e0 : Env := launch0.env 0 0 0
theorem w_frames : about1.frames = Frame.invoking theMethod args0 :: below0 := rfl
set_option maxRecDepth 65536 in
theorem w_args : argsFit about1.vm theMethod args0 = true := by decide +kernel
set_option maxRecDepth 65536 in
theorem w_heap : heapFits about1 = true := by decide +kernel
set_option maxRecDepth 65536 in
theorem w_runnable : about1.curStatus? = some .runnable := by decide +kernel
set_option maxRecDepth 65536 in
theorem w_alone : about1.alone = true := by decide +kernel
set_option maxRecDepth 65536 in
theorem w_named : about1.methodNamed? x = some theMethod := by decide +kernel
set_option maxRecDepth 65536 in
theorem w_hears : about1.hears theMethod below0 = true := by decide +kernel
set_option maxRecDepth 65536 in
theorem w_ripe : about1.ripe theMethod args0 below0 = true := by decide +kernel
theorem w_running : about1.status = .running := rfl
set_option maxRecDepth 65536 in
theorem w_room : about1.hasRoom e0.platform room_1 = true :=
  launch0.hasRoom_least _ room_1 (by decide +kernel) (by decide +kernel) (by decide +kernel) (by decide +kernel) (by decide +kernel) (by decide +kernel)
theorem allAtoms_all (ts : List Jvm.Cond) (a : Array Jvm.Value) (st : Jvm.State) : (allAtoms ts).before a st = ts.all (fun c => c.before a st) := by
  induction ts with
  | nil => rfl
  | cons c t ih =>
    show (Jvm.Cond.and c (allAtoms t)).before a st = _
    rw [Jvm.Cond.before_and, ih, List.all_cons]
def words1 : List Jvm.Cond := Jvm.Cond.code x code maxLocals ret :: tables_1
/-- a 'code' word, met by the world's own term for the bytes: nothing is compared byte by byte -/
theorem code_word {y : MethodName} {bytes : ByteArray} {mx : Nat} {rt : Option FieldType} {a : Array Value} {s : State} {m : MethodId} {meth : Method} {c : Code} (h1 : s.methodNamed? y = some m) (h2 : s.vm.method? m = some meth) (h3 : meth.code = some c) (h4 : c.code = bytes)
    (h5 : (c.maxLocals == mx && c.exceptionTable.isEmpty && decide (c.maxStack ≤ mostOperands) && decide (meth.sig.returnType = rt) && !meth.locks && decide (parseMethodDescriptor y.desc = some meth.sig)) = true) : (Jvm.Cond.code y bytes mx rt).before a s = true := by
  simp only [Bool.and_eq_true, beq_iff_eq, Bool.not_eq_true', decide_eq_true_eq] at h5
  obtain ⟨⟨⟨⟨⟨g1, g2⟩, g3⟩, g4⟩, g5⟩, g6⟩ := h5
  simp [Cond.before, Cond.holds, Cond.value, h1, h2, h3, h4, g1, g2, g3, g4, g5, g6]
def isCode : Jvm.Cond → Bool
  | .code _ _ _ _ => true
  | _ => false
theorem all_split {L : List Jvm.Cond} {P : Jvm.Cond → Bool} (h1 : L.all (fun c => isCode c || P c) = true) (h2 : ∀ c ∈ L.filter isCode, P c = true) : L.all P = true := by
  refine List.all_eq_true.mpr fun c hc => ?_
  have h := List.all_eq_true.mp h1 c hc
  rcases Bool.eq_false_or_eq_true (isCode c) with hi | hi
  · exact h2 c (List.mem_filter.mpr ⟨hc, hi⟩)
  · simpa [hi] using h
set_option maxRecDepth 65536 in
theorem w_c0 : (Jvm.Cond.code x code maxLocals ret).before args0 about1 = true := code_word (m := ⟨1, 3⟩) (meth := k1m3) (c := k1c3) (by decide +kernel) rfl rfl rfl (by decide +kernel)
set_option maxRecDepth 65536 in
theorem w_c1 : (Jvm.Cond.code ({ cls := "com/example/chiton/chiton/model/MethodNameEqualsPinLaw", name := "str", desc := "(III)Ljava/lang/String;" } : Jvm.MethodName) method_2_code (3 : Nat) (Option.some (Jvm.ClassFile.FieldType.object "java/lang/String"))).before args0 about1 = true := code_word (m := ⟨1, 1⟩) (meth := k1m1) (c := k1c1) (by decide +kernel) rfl rfl rfl (by decide +kernel)
set_option maxRecDepth 65536 in
theorem w_c2 : (Jvm.Cond.code ({ cls := "java/lang/String", name := "<init>", desc := "([C)V" } : Jvm.MethodName) jdk_42_method_3_code (2 : Nat) (Option.none : Option Jvm.ClassFile.FieldType)).before args0 about1 = true := code_word (m := ⟨7, 1⟩) (meth := k7m1) (c := k7c1) (by decide +kernel) rfl rfl rfl (by decide +kernel)
set_option maxRecDepth 65536 in
theorem w_c3 : (Jvm.Cond.code ({ cls := "java/lang/String", name := "<init>", desc := "([CIILjava/lang/Void;)V" } : Jvm.MethodName) jdk_42_method_149_code (6 : Nat) (Option.none : Option Jvm.ClassFile.FieldType)).before args0 about1 = true := code_word (m := ⟨7, 3⟩) (meth := k7m3) (c := k7c3) (by decide +kernel) rfl rfl rfl (by decide +kernel)
set_option maxRecDepth 65536 in
theorem w_c4 : (Jvm.Cond.code ({ cls := "java/lang/Object", name := "<init>", desc := "()V" } : Jvm.MethodName) object_method_1_code (1 : Nat) (Option.none : Option Jvm.ClassFile.FieldType)).before args0 about1 = true := code_word (m := ⟨0, 0⟩) (meth := k0m0) (c := k0c0) (by decide +kernel) rfl rfl rfl (by decide +kernel)
set_option maxRecDepth 65536 in
theorem w_c5 : (Jvm.Cond.code ({ cls := "java/lang/StringUTF16", name := "compress", desc := "([CII)[B" } : Jvm.MethodName) jdk_52_method_16_code (6 : Nat) (Option.some (Jvm.ClassFile.FieldType.array Jvm.ClassFile.FieldType.byte))).before args0 about1 = true := code_word (m := ⟨8, 2⟩) (meth := k8m2) (c := k8c2) (by decide +kernel) rfl rfl rfl (by decide +kernel)
set_option maxRecDepth 65536 in
theorem w_c6 : (Jvm.Cond.code ({ cls := "java/lang/StringUTF16", name := "compress", desc := "([CI[BII)I" } : Jvm.MethodName) jdk_52_method_21_code (7 : Nat) (Option.some Jvm.ClassFile.FieldType.int)).before args0 about1 = true := code_word (m := ⟨8, 3⟩) (meth := k8m3) (c := k8c3) (by decide +kernel) rfl rfl rfl (by decide +kernel)
set_option maxRecDepth 65536 in
theorem w_c7 : (Jvm.Cond.code ({ cls := "java/lang/StringUTF16", name := "coderFromArrayLen", desc := "([BI)B" } : Jvm.MethodName) jdk_52_method_15_code (2 : Nat) (Option.some Jvm.ClassFile.FieldType.byte)).before args0 about1 = true := code_word (m := ⟨8, 1⟩) (meth := k8m1) (c := k8c1) (by decide +kernel) rfl rfl rfl (by decide +kernel)
set_option maxRecDepth 65536 in
theorem w_c8 : (Jvm.Cond.code ({ cls := "com/example/chiton/chiton/model/MethodName", name := "<init>", desc := "(Ljava/lang/String;Ljava/lang/String;)V" } : Jvm.MethodName) prog_19_method_1_code (3 : Nat) (Option.none : Option Jvm.ClassFile.FieldType)).before args0 about1 = true := code_word (m := ⟨9, 0⟩) (meth := k9m0) (c := k9c0) (by decide +kernel) rfl rfl rfl (by decide +kernel)
set_option maxRecDepth 65536 in
theorem w_c9 : (Jvm.Cond.code ({ cls := "java/util/Objects", name := "requireNonNull", desc := "(Ljava/lang/Object;Ljava/lang/String;)Ljava/lang/Object;" } : Jvm.MethodName) jdk_31_method_11_code (2 : Nat) (Option.some (Jvm.ClassFile.FieldType.object "java/lang/Object"))).before args0 about1 = true := code_word (m := ⟨10, 1⟩) (meth := k10m1) (c := k10c1) (by decide +kernel) rfl rfl rfl (by decide +kernel)
set_option maxRecDepth 65536 in
theorem w_c10 : (Jvm.Cond.code ({ cls := "com/example/chiton/chiton/model/MethodNameEqualsPinLaw", name := "same", desc := "(IIIIII)Z" } : Jvm.MethodName) method_3_code (6 : Nat) (Option.some Jvm.ClassFile.FieldType.boolean)).before args0 about1 = true := code_word (m := ⟨1, 2⟩) (meth := k1m2) (c := k1c2) (by decide +kernel) rfl rfl rfl (by decide +kernel)
set_option maxRecDepth 65536 in
theorem w_c11 : (Jvm.Cond.code ({ cls := "com/example/chiton/chiton/model/MethodName", name := "equals", desc := "(Ljava/lang/Object;)Z" } : Jvm.MethodName) prog_19_method_4_code (3 : Nat) (Option.some Jvm.ClassFile.FieldType.boolean)).before args0 about1 = true := code_word (m := ⟨9, 1⟩) (meth := k9m1) (c := k9c1) (by decide +kernel) rfl rfl rfl (by decide +kernel)
set_option maxRecDepth 65536 in
theorem w_c12 : (Jvm.Cond.code ({ cls := "java/lang/String", name := "equals", desc := "(Ljava/lang/Object;)Z" } : Jvm.MethodName) jdk_42_method_66_code (3 : Nat) (Option.some Jvm.ClassFile.FieldType.boolean)).before args0 about1 = true := code_word (m := ⟨7, 2⟩) (meth := k7m2) (c := k7c2) (by decide +kernel) rfl rfl rfl (by decide +kernel)
set_option maxRecDepth 65536 in
theorem w_c13 : (Jvm.Cond.code ({ cls := "java/lang/StringLatin1", name := "equals", desc := "([B[B)Z" } : Jvm.MethodName) jdk_43_method_13_code (3 : Nat) (Option.some Jvm.ClassFile.FieldType.boolean)).before args0 about1 = true := code_word (m := ⟨11, 1⟩) (meth := k11m1) (c := k11c1) (by decide +kernel) rfl rfl rfl (by decide +kernel)
def codes1 : List Jvm.Cond := [Jvm.Cond.code x code maxLocals ret, Jvm.Cond.code ({ cls := "com/example/chiton/chiton/model/MethodNameEqualsPinLaw", name := "str", desc := "(III)Ljava/lang/String;" } : Jvm.MethodName) method_2_code (3 : Nat) (Option.some (Jvm.ClassFile.FieldType.object "java/lang/String")), Jvm.Cond.code ({ cls := "java/lang/String", name := "<init>", desc := "([C)V" } : Jvm.MethodName) jdk_42_method_3_code (2 : Nat) (Option.none : Option Jvm.ClassFile.FieldType), Jvm.Cond.code ({ cls := "java/lang/String", name := "<init>", desc := "([CIILjava/lang/Void;)V" } : Jvm.MethodName) jdk_42_method_149_code (6 : Nat) (Option.none : Option Jvm.ClassFile.FieldType), Jvm.Cond.code ({ cls := "java/lang/Object", name := "<init>", desc := "()V" } : Jvm.MethodName) object_method_1_code (1 : Nat) (Option.none : Option Jvm.ClassFile.FieldType), Jvm.Cond.code ({ cls := "java/lang/StringUTF16", name := "compress", desc := "([CII)[B" } : Jvm.MethodName) jdk_52_method_16_code (6 : Nat) (Option.some (Jvm.ClassFile.FieldType.array Jvm.ClassFile.FieldType.byte)), Jvm.Cond.code ({ cls := "java/lang/StringUTF16", name := "compress", desc := "([CI[BII)I" } : Jvm.MethodName) jdk_52_method_21_code (7 : Nat) (Option.some Jvm.ClassFile.FieldType.int), Jvm.Cond.code ({ cls := "java/lang/StringUTF16", name := "coderFromArrayLen", desc := "([BI)B" } : Jvm.MethodName) jdk_52_method_15_code (2 : Nat) (Option.some Jvm.ClassFile.FieldType.byte), Jvm.Cond.code ({ cls := "com/example/chiton/chiton/model/MethodName", name := "<init>", desc := "(Ljava/lang/String;Ljava/lang/String;)V" } : Jvm.MethodName) prog_19_method_1_code (3 : Nat) (Option.none : Option Jvm.ClassFile.FieldType), Jvm.Cond.code ({ cls := "java/util/Objects", name := "requireNonNull", desc := "(Ljava/lang/Object;Ljava/lang/String;)Ljava/lang/Object;" } : Jvm.MethodName) jdk_31_method_11_code (2 : Nat) (Option.some (Jvm.ClassFile.FieldType.object "java/lang/Object")), Jvm.Cond.code ({ cls := "com/example/chiton/chiton/model/MethodNameEqualsPinLaw", name := "same", desc := "(IIIIII)Z" } : Jvm.MethodName) method_3_code (6 : Nat) (Option.some Jvm.ClassFile.FieldType.boolean), Jvm.Cond.code ({ cls := "com/example/chiton/chiton/model/MethodName", name := "equals", desc := "(Ljava/lang/Object;)Z" } : Jvm.MethodName) prog_19_method_4_code (3 : Nat) (Option.some Jvm.ClassFile.FieldType.boolean), Jvm.Cond.code ({ cls := "java/lang/String", name := "equals", desc := "(Ljava/lang/Object;)Z" } : Jvm.MethodName) jdk_42_method_66_code (3 : Nat) (Option.some Jvm.ClassFile.FieldType.boolean), Jvm.Cond.code ({ cls := "java/lang/StringLatin1", name := "equals", desc := "([B[B)Z" } : Jvm.MethodName) jdk_43_method_13_code (3 : Nat) (Option.some Jvm.ClassFile.FieldType.boolean)]
set_option maxRecDepth 65536 in
theorem codes_eq : words1.filter isCode = codes1 := rfl
theorem w_codes : ∀ c ∈ words1.filter isCode, c.before args0 about1 = true := by
  rw [codes_eq]
  intro c hc
  simp only [codes1, List.mem_cons, List.not_mem_nil, or_false] at hc
  rcases hc with rfl | rfl | rfl | rfl | rfl | rfl | rfl | rfl | rfl | rfl | rfl | rfl | rfl | rfl
  · exact w_c0
  · exact w_c1
  · exact w_c2
  · exact w_c3
  · exact w_c4
  · exact w_c5
  · exact w_c6
  · exact w_c7
  · exact w_c8
  · exact w_c9
  · exact w_c10
  · exact w_c11
  · exact w_c12
  · exact w_c13
set_option maxRecDepth 65536 in
theorem w_t1 : (words1.take 24).all (fun c => isCode c || c.before args0 about1) = true := by decide +kernel
set_option maxRecDepth 65536 in
theorem w_t2 : ((words1.drop 24).take 24).all (fun c => isCode c || c.before args0 about1) = true := by decide +kernel
set_option maxRecDepth 65536 in
theorem w_t3 : (((words1.drop 24).drop 24).take 24).all (fun c => isCode c || c.before args0 about1) = true := by decide +kernel
set_option maxRecDepth 65536 in
theorem w_t4 : (((words1.drop 24).drop 24).drop 24).all (fun c => isCode c || c.before args0 about1) = true := by decide +kernel
theorem w_tables : (allAtoms (Jvm.Cond.code x code maxLocals ret :: tables_1)).before args0 about1 = true := by
  rw [allAtoms_all]
  show words1.all (fun c => c.before args0 about1) = true
  refine all_split ?_ w_codes
  rw [← List.take_append_drop 24 words1, List.all_append, w_t1, ← List.take_append_drop 24 (words1.drop 24), List.all_append, w_t2, ← List.take_append_drop 24 ((words1.drop 24).drop 24), List.all_append, w_t3, w_t4]
  rfl
set_option maxRecDepth 65536 in
theorem w_rest : rest_1_c.before args0 about1 = true := by decide +kernel
set_option maxRecDepth 65536 in
theorem w_case : (Jvm.Cond.and given_1 narrow_1).before args0 about1 = true := by decide +kernel
set_option maxRecDepth 65536 in
theorem w_consts : constsHeld consts_1 about1 := Jvm.Lit.constsHeldB_iff.mp (by decide +kernel)
theorem w_applies : (headSpec (Jvm.Cond.code x code maxLocals ret :: tables_1) room_1).applies x e0.platform about1 = true :=
  (Spec.applies_iff w_frames).mpr ⟨w_running, w_runnable, w_alone, w_named, w_hears, w_ripe, w_room, w_tables⟩
theorem atStart : AtStart classFile x code maxLocals ret World_1 tables_1 room_1 Calls_1 rest_1 Pre_1 launch0 p0 e0 about1 theMethod args0 below0 :=
  ⟨lists_1, trivial, launch0.admits_env _ _ _, launch0.least_env, fairChoices_fair.cas, fairChoices_fair.clock, w_frames, w_args, w_heap, w_applies, ⟨w_consts, trivial⟩, w_rest, w_case⟩
end start1
theorem witness_1 : WitnessClaimed_1 := ⟨start1.p0, start1.e0, start1.about1, start1.theMethod, start1.args0, start1.below0, start1.atStart⟩
end Jvm.Pilot.@@N@@
