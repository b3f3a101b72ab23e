import JvmDerived
import JvmDerived.Pilot.@@N@@Statement
import JvmDerived.Pilot.@@N@@Code
set_option linter.unusedVariables false
set_option linter.unusedSimpArgs false
namespace Jvm.OwnKit
open Jvm Jvm.ClassFile Sem Op Lib Jvm.Stand Jvm.Free Jvm.LawKit Jvm.RoadKit
/-! A small calculus of my own over the library's laws: Go says 'from here the body comes to its end, and what it leaves satisfies Q'. -/
abbrev Bod : Type := Option (Vm → Heap → Prop) × Program × Launch × Env × Room × State × MethodId × Array Value × List Frame × Method × Code
abbrev Bod.p (B : Bod) : Program := B.2.1
abbrev Bod.l (B : Bod) : Launch := B.2.2.1
abbrev Bod.e (B : Bod) : Env := B.2.2.2.1
abbrev Bod.R (B : Bod) : Room := B.2.2.2.2.1
abbrev Bod.s (B : Bod) : State := B.2.2.2.2.2.1
abbrev Bod.m (B : Bod) : MethodId := B.2.2.2.2.2.2.1
abbrev Bod.args (B : Bod) : Array Value := B.2.2.2.2.2.2.2.1
abbrev Bod.below (B : Bod) : List Frame := B.2.2.2.2.2.2.2.2.1
abbrev Bod.meth (B : Bod) : Method := B.2.2.2.2.2.2.2.2.2.1
abbrev Bod.c (B : Bod) : Code := B.2.2.2.2.2.2.2.2.2.2
abbrev St (B : Bod) (T : State) (locs : List Loc) (k n : Nat) : Prop := Stand B.p B.l B.e B.R B.s B.m B.args B.below B.meth B.c T locs k n
def EndB : Option (Vm → Heap → Prop) → State → Outcome → State → List Loc → Nat → Nat → Prop
  | none, s, o, t, L, k, n => FrameEnd s o t L k n
  | some V, s, o, t, L, k, n => ReturnedEndW s o t L k n ∧ V t.vm t.heap
def EndOk (B : Bod) (h : Heap) : Prop := ∀ V, B.1 = some V → ∀ vm', B.s.WarmedH vm' → V vm' h
theorem EndB.of {B : Bod} {t : State} {o : Outcome} {L : List Loc} {k n : Nat} (hE : EndOk B t.heap) (h : FrameEnd B.s o t L k n) : EndB B.1 B.s o t L k n := by
  have hE' := hE
  unfold EndOk at hE'
  cases hB : B.1 with
  | none => exact h
  | some V => exact ⟨ReturnedEndW.of_narrow h.1 h.2.1 h.2.2, hE' V hB _ h.2.1⟩
def Fin0 (B : Bod) (n0 : Nat) (Q : Option Value → Heap → Prop) (g : JFrame) (T : State) : Prop :=
  ∃ t o, Steps B.p.tables B.e B.below (T.setTop g) t ∧ t.status = .running ∧ Ended t B.below o ∧ ∃ v L, o = .returned v ∧ (Fr n0 L ∧ Q v t.heap) ∧ EndB B.1 B.s o t L B.R.cells B.R.slots
def Go (B : Bod) (n0 : Nat) (Q : Option Value → Heap → Prop) (h : Heap) (k n pc : Nat) (L : Array Slot) (st : List Value) : Prop :=
  ∀ T locs, St B T locs k n → Fr n0 locs → T.heap = h → Fin0 B n0 Q (mkF B.m pc L st) T
def Ctx (B : Bod) (l : Launch) (rm : Room) (bytes : ByteArray) (own nm : String) (maxL : Nat) (ret : Option FieldType) (Z : State) : Prop :=
  B.l = l ∧ B.R = rm ∧ B.p.tables.exec = Jvm.exec ∧ B.c.code = bytes ∧ Z.Warmed39 B.s.vm ∧ B.s.vm.findClass own = some B.m.cls ∧ B.meth.name = nm ∧ B.c.maxLocals = maxL ∧ B.meth.sig.returnType = ret ∧ B.meth.locks = false
/-- a method's contract: called with these arguments over this heap it returns, and Q holds of what it returns and of the heap it leaves -/
def Met1 (l : Launch) (Z : State) (y : MethodName) (bytes : ByteArray) (maxL : Nat) (ret : Option FieldType) (rm : Room) (n0 : Nat) (as' : Array Value) (h0 : Heap) (Q : Option Value → Heap → Prop) : Prop :=
  ∀ ws : List Jvm.Cond, MetFree l y (head1 (Jvm.Cond.code y bytes maxL ret :: ws) rm) (fun a U => a = as' ∧ Z.Warmed39 U.vm ∧ U.heap = h0) (fun _ _ _ _ _ => True) (fun _ U o U' => ∃ v L, o = .returned v ∧ (Fr n0 L ∧ Q v U'.heap) ∧ FrameEnd U o U' L rm.cells rm.slots)
section Base
variable {B : Bod} {l : Launch} {rm : Room} {bytes : ByteArray} {own nm : String} {maxL : Nat} {ret : Option FieldType} {Z : State} {n0 : Nat} {Q : Option Value → Heap → Prop} {h : Heap} {k n pc pc' : Nat} {L L' : Array Slot} {st st' : List Value} {a0 : Array Value}
theorem met_of {y : MethodName} {as' : Array Value} (hp : plainFor y = true) {L0 : Array Slot} (hL : argsToLocals as' maxL = L0) (go : ∀ B : Bod, Ctx B l rm bytes y.cls y.name maxL ret Z → B.1 = none → Go B n0 Q h 0 0 0 L0 []) : Met1 l Z y bytes maxL ret rm n0 as' h Q := by
  intro ws
  refine MetFree.of_bodySF hp hisR ?_
  intro p e s m args below meth c s₁ Bd hml0 hP hK
  obtain ⟨rfl, hZ, hh⟩ := hP
  subst hL
  obtain ⟨t, o, h1, h2, h3, v, L, h4, h5, h6⟩ := go (none, p, l, e, rm, s, m, args, below, meth, c) ⟨rfl, rfl, Bd.exec, Bd.bytes, hZ, findClass_of_methodNamed Bd.named, (name_of_methodNamed Bd.named Bd.method).1, hml0, Bd.returns, BodyLoose.notSynchronized Bd⟩ rfl s₁ [] (Stand.of_body Bd) (Fr.nil n0) (by rw [← hh, Bd.state]; rfl)
  exact ⟨t, o, h1, h2, h3, v, L, h4, h5, h6⟩
/-- a step that moves the frame alone -/
theorem Go.step (f : ∀ T locs, St B T locs k n → T.heap = h → ∀ t, Steps B.p.tables B.e B.below (T.setTop (mkF B.m pc' L' st')) t → Steps B.p.tables B.e B.below (T.setTop (mkF B.m pc L st)) t) (go : Go B n0 Q h k n pc' L' st') : Go B n0 Q h k n pc L st := fun T locs X N eT => by
  obtain ⟨t, o, a, r⟩ := go T locs X N eT
  exact ⟨t, o, f T locs X eT t a, r⟩
/-- a step that moves the tables too -/
theorem Go.move (f : ∀ T locs, St B T locs k n → T.heap = h → ∃ T', St B T' locs k n ∧ T'.heap = h ∧ ∀ t, Steps B.p.tables B.e B.below (T'.setTop (mkF B.m pc' L' st')) t → Steps B.p.tables B.e B.below (T.setTop (mkF B.m pc L st)) t) (go : Go B n0 Q h k n pc' L' st') : Go B n0 Q h k n pc L st := fun T locs X N eT => by
  obtain ⟨T', X', e', f'⟩ := f T locs X eT
  obtain ⟨t, o, a, r⟩ := go T' locs X' N e'
  exact ⟨t, o, f' t a, r⟩
theorem Go.eqs {st2 : List Value} (go : Go B n0 Q h k n pc L st2) (e : st = st2) : Go B n0 Q h k n pc L st := e ▸ go
theorem Go.eqh {h2 : Heap} (go : Go B n0 Q h2 k n pc L st) (e : h = h2) : Go B n0 Q h k n pc L st := e ▸ go
theorem g_iload_n (C : Ctx B l rm bytes own nm maxL ret Z) {i : Fin 4} {v : Int32} (hd : decode bytes pc = .ok (.iload_n i, 1)) (hl : L[i.val]? = some (.val (.int v))) (hpc : pc + 1 = pc') (go : Go B n0 Q h k n pc' L (.int v :: st)) : Go B n0 Q h k n pc L st := go.step fun T locs X eT t q => Jvm.Free.XS.iloadN X.here C.2.2.1 rfl (hb C.2.2.2.1 hd) hl (by subst hpc; exact q)
theorem g_iload (C : Ctx B l rm bytes own nm maxL ret Z) {i : Nat} {v : Int32} (hd : decode bytes pc = .ok (.iload i, 2)) (hl : L[i]? = some (.val (.int v))) (hpc : pc + 2 = pc') (go : Go B n0 Q h k n pc' L (.int v :: st)) : Go B n0 Q h k n pc L st := go.step fun T locs X eT t q => Jvm.Free.XS.iload X.here C.2.2.1 rfl (hb C.2.2.2.1 hd) hl (by subst hpc; exact q)
theorem g_lload_n (C : Ctx B l rm bytes own nm maxL ret Z) {i : Fin 4} {v : Int64} (hd : decode bytes pc = .ok (.lload_n i, 1)) (hl : L[i.val]? = some (.val (.long v))) (hpc : pc + 1 = pc') (go : Go B n0 Q h k n pc' L (.long v :: st)) : Go B n0 Q h k n pc L st := go.step fun T locs X eT t q => Jvm.Free.XT.lloadN X.here C.2.2.1 rfl (hb C.2.2.2.1 hd) hl (by subst hpc; exact q)
theorem g_lload (C : Ctx B l rm bytes own nm maxL ret Z) {i : Nat} {v : Int64} (hd : decode bytes pc = .ok (.lload i, 2)) (hl : L[i]? = some (.val (.long v))) (hpc : pc + 2 = pc') (go : Go B n0 Q h k n pc' L (.long v :: st)) : Go B n0 Q h k n pc L st := go.step fun T locs X eT t q => Jvm.Free.XT.lload X.here C.2.2.1 rfl (hb C.2.2.2.1 hd) hl (by subst hpc; exact q)
theorem g_aload_n (C : Ctx B l rm bytes own nm maxL ret Z) {i : Fin 4} {v : Value} (hd : decode bytes pc = .ok (.aload_n i, 1)) (hl : L[i.val]? = some (.val v)) (hv : v.isRef = true) (hpc : pc + 1 = pc') (go : Go B n0 Q h k n pc' L (v :: st)) : Go B n0 Q h k n pc L st := go.step fun T locs X eT t q => Jvm.Free.XS.aloadN X.here C.2.2.1 rfl (hb C.2.2.2.1 hd) hl hv (by subst hpc; exact q)
theorem g_aload (C : Ctx B l rm bytes own nm maxL ret Z) {i : Nat} {v : Value} (hd : decode bytes pc = .ok (.aload i, 2)) (hl : L[i]? = some (.val v)) (hv : v.isRef = true) (hpc : pc + 2 = pc') (go : Go B n0 Q h k n pc' L (v :: st)) : Go B n0 Q h k n pc L st := go.step fun T locs X eT t q => Jvm.Free.XS.aload X.here C.2.2.1 rfl (hb C.2.2.2.1 hd) hl hv (by subst hpc; exact q)
theorem g_istore_n (C : Ctx B l rm bytes own nm maxL ret Z) {i : Fin 4} {v : Int32} (hd : decode bytes pc = .ok (.istore_n i, 1)) (hl : storeLocals L i.val (.int v) = some L') (hpc : pc + 1 = pc') (go : Go B n0 Q h k n pc' L' st) : Go B n0 Q h k n pc L (.int v :: st) := go.step fun T locs X eT t q => Jvm.Free.XS.istoreN X.here C.2.2.1 rfl (hb C.2.2.2.1 hd) rfl hl (by subst hpc; exact q)
theorem g_istore (C : Ctx B l rm bytes own nm maxL ret Z) {i : Nat} {v : Int32} (hd : decode bytes pc = .ok (.istore i, 2)) (hl : storeLocals L i (.int v) = some L') (hpc : pc + 2 = pc') (go : Go B n0 Q h k n pc' L' st) : Go B n0 Q h k n pc L (.int v :: st) := go.step fun T locs X eT t q => Jvm.Free.XS.istore X.here C.2.2.1 rfl (hb C.2.2.2.1 hd) rfl hl (by subst hpc; exact q)
theorem g_lstore_n (C : Ctx B l rm bytes own nm maxL ret Z) {i : Fin 4} {v : Int64} (hd : decode bytes pc = .ok (.lstore_n i, 1)) (hl : storeLocals L i.val (.long v) = some L') (hpc : pc + 1 = pc') (go : Go B n0 Q h k n pc' L' st) : Go B n0 Q h k n pc L (.long v :: st) := go.step fun T locs X eT t q => Jvm.Free.XT.lstoreN X.here C.2.2.1 rfl (hb C.2.2.2.1 hd) rfl hl (by subst hpc; exact q)
theorem g_lstore (C : Ctx B l rm bytes own nm maxL ret Z) {i : Nat} {v : Int64} (hd : decode bytes pc = .ok (.lstore i, 2)) (hl : storeLocals L i (.long v) = some L') (hpc : pc + 2 = pc') (go : Go B n0 Q h k n pc' L' st) : Go B n0 Q h k n pc L (.long v :: st) := go.step fun T locs X eT t q => Jvm.Free.XT.lstore X.here C.2.2.1 rfl (hb C.2.2.2.1 hd) rfl hl (by subst hpc; exact q)
theorem g_astore_n (C : Ctx B l rm bytes own nm maxL ret Z) {i : Fin 4} {v : Value} (hd : decode bytes pc = .ok (.astore_n i, 1)) (hl : storeLocals L i.val v = some L') (hv : v.isRef = true) (hpc : pc + 1 = pc') (go : Go B n0 Q h k n pc' L' st) : Go B n0 Q h k n pc L (v :: st) := go.step fun T locs X eT t q => Jvm.Free.XS.astoreN X.here C.2.2.1 rfl (hb C.2.2.2.1 hd) rfl hv hl (by subst hpc; exact q)
theorem g_astore (C : Ctx B l rm bytes own nm maxL ret Z) {i : Nat} {v : Value} (hd : decode bytes pc = .ok (.astore i, 2)) (hl : storeLocals L i v = some L') (hv : v.isRef = true) (hpc : pc + 2 = pc') (go : Go B n0 Q h k n pc' L' st) : Go B n0 Q h k n pc L (v :: st) := go.step fun T locs X eT t q => Jvm.Free.XS.astore X.here C.2.2.1 rfl (hb C.2.2.2.1 hd) rfl hv hl (by subst hpc; exact q)
theorem g_iinc (C : Ctx B l rm bytes own nm maxL ret Z) {i : Nat} {z : Int} {v w : Int32} (hd : decode bytes pc = .ok (.iinc i z, 3)) (hl : L[i]? = some (.val (.int v))) (hw : v + Int32.ofInt z = w) (hl' : storeLocals L i (.int w) = some L') (hpc : pc + 3 = pc') (go : Go B n0 Q h k n pc' L' st) : Go B n0 Q h k n pc L st := go.step fun T locs X eT t q => Jvm.Free.XS.iinc X.here C.2.2.1 rfl (hb C.2.2.2.1 hd) hl (by rw [hw]; exact hl') (by subst hpc; exact q)
theorem g_iconst (C : Ctx B l rm bytes own nm maxL ret Z) {z : Int} {v : Int32} (hd : decode bytes pc = .ok (.iconst z, 1)) (hv : Int32.ofInt z = v) (hpc : pc + 1 = pc') (go : Go B n0 Q h k n pc' L (.int v :: st)) : Go B n0 Q h k n pc L st := go.step fun T locs X eT t q => Jvm.Free.XS.iconst X.here C.2.2.1 rfl (hb C.2.2.2.1 hd) (by subst hpc hv; exact q)
theorem g_bipush (C : Ctx B l rm bytes own nm maxL ret Z) {z : Int} {v : Int32} (hd : decode bytes pc = .ok (.bipush z, 2)) (hv : (Int8.ofInt z).toInt32 = v) (hpc : pc + 2 = pc') (go : Go B n0 Q h k n pc' L (.int v :: st)) : Go B n0 Q h k n pc L st := go.step fun T locs X eT t q => Jvm.Free.XS.bipush X.here C.2.2.1 rfl (hb C.2.2.2.1 hd) (by subst hpc hv; exact q)
theorem g_lconst (C : Ctx B l rm bytes own nm maxL ret Z) {i : Fin 2} {v : Int64} (hd : decode bytes pc = .ok (.lconst i, 1)) (hv : Int64.ofNat i = v) (hpc : pc + 1 = pc') (go : Go B n0 Q h k n pc' L (.long v :: st)) : Go B n0 Q h k n pc L st := go.step fun T locs X eT t q => Jvm.Free.XT.lconst X.here C.2.2.1 rfl (hb C.2.2.2.1 hd) (by subst hpc hv; exact q)
theorem g_aconst_null (C : Ctx B l rm bytes own nm maxL ret Z)  (hd : decode bytes pc = .ok (.aconst_null, 1))  (hpc : pc + 1 = pc') (go : Go B n0 Q h k n pc' L (.null :: st)) : Go B n0 Q h k n pc L st := go.step fun T locs X eT t q => Jvm.Free.XS.aconstNull X.here C.2.2.1 rfl (hb C.2.2.2.1 hd)  (by subst hpc; exact q)
theorem g_iadd (C : Ctx B l rm bytes own nm maxL ret Z) {x y : Int32} (hd : decode bytes pc = .ok (.iadd, 1))  (hpc : pc + 1 = pc') (go : Go B n0 Q h k n pc' L (.int (x + y) :: st)) : Go B n0 Q h k n pc L (.int y :: .int x :: st) := go.step fun T locs X eT t q => Jvm.Free.XS.iadd X.here C.2.2.1 rfl (hb C.2.2.2.1 hd) rfl (by subst hpc; exact q)
theorem g_isub (C : Ctx B l rm bytes own nm maxL ret Z) {x y : Int32} (hd : decode bytes pc = .ok (.isub, 1))  (hpc : pc + 1 = pc') (go : Go B n0 Q h k n pc' L (.int (x - y) :: st)) : Go B n0 Q h k n pc L (.int y :: .int x :: st) := go.step fun T locs X eT t q => Jvm.Free.XS.isub X.here C.2.2.1 rfl (hb C.2.2.2.1 hd) rfl (by subst hpc; exact q)
theorem g_iand (C : Ctx B l rm bytes own nm maxL ret Z) {x y : Int32} (hd : decode bytes pc = .ok (.iand, 1))  (hpc : pc + 1 = pc') (go : Go B n0 Q h k n pc' L (.int (x &&& y) :: st)) : Go B n0 Q h k n pc L (.int y :: .int x :: st) := go.step fun T locs X eT t q => Jvm.Free.XS.iand X.here C.2.2.1 rfl (hb C.2.2.2.1 hd) rfl (by subst hpc; exact q)
theorem g_imul (C : Ctx B l rm bytes own nm maxL ret Z) {x y : Int32} (hd : decode bytes pc = .ok (.imul, 1))  (hpc : pc + 1 = pc') (go : Go B n0 Q h k n pc' L (.int (x * y) :: st)) : Go B n0 Q h k n pc L (.int y :: .int x :: st) := go.step fun T locs X eT t q => Jvm.Free.XS.imul X.here C.2.2.1 rfl (hb C.2.2.2.1 hd) rfl (by subst hpc; exact q)
theorem g_ixor (C : Ctx B l rm bytes own nm maxL ret Z) {x y : Int32} (hd : decode bytes pc = .ok (.ixor, 1))  (hpc : pc + 1 = pc') (go : Go B n0 Q h k n pc' L (.int (x ^^^ y) :: st)) : Go B n0 Q h k n pc L (.int y :: .int x :: st) := go.step fun T locs X eT t q => Jvm.Free.XT.ixor X.here C.2.2.1 rfl (hb C.2.2.2.1 hd) rfl (by subst hpc; exact q)
theorem g_ior (C : Ctx B l rm bytes own nm maxL ret Z) {x y : Int32} (hd : decode bytes pc = .ok (.ior, 1))  (hpc : pc + 1 = pc') (go : Go B n0 Q h k n pc' L (.int (x ||| y) :: st)) : Go B n0 Q h k n pc L (.int y :: .int x :: st) := go.step fun T locs X eT t q => Jvm.Free.XT.ior X.here C.2.2.1 rfl (hb C.2.2.2.1 hd) rfl (by subst hpc; exact q)
theorem g_ishl (C : Ctx B l rm bytes own nm maxL ret Z) {x y : Int32} (hd : decode bytes pc = .ok (.ishl, 1))  (hpc : pc + 1 = pc') (go : Go B n0 Q h k n pc' L (.int (x <<< (y &&& 31)) :: st)) : Go B n0 Q h k n pc L (.int y :: .int x :: st) := go.step fun T locs X eT t q => Jvm.Free.XT.ishl X.here C.2.2.1 rfl (hb C.2.2.2.1 hd) rfl (by subst hpc; exact q)
theorem g_ishr (C : Ctx B l rm bytes own nm maxL ret Z) {x y : Int32} (hd : decode bytes pc = .ok (.ishr, 1))  (hpc : pc + 1 = pc') (go : Go B n0 Q h k n pc' L (.int (x >>> (y &&& 31)) :: st)) : Go B n0 Q h k n pc L (.int y :: .int x :: st) := go.step fun T locs X eT t q => Jvm.Free.XT.ishr X.here C.2.2.1 rfl (hb C.2.2.2.1 hd) rfl (by subst hpc; exact q)
theorem g_iushr (C : Ctx B l rm bytes own nm maxL ret Z) {x y : Int32} (hd : decode bytes pc = .ok (.iushr, 1))  (hpc : pc + 1 = pc') (go : Go B n0 Q h k n pc' L (.int (Jvm.Free.XT.ushr x y) :: st)) : Go B n0 Q h k n pc L (.int y :: .int x :: st) := go.step fun T locs X eT t q => Jvm.Free.XT.iushr X.here C.2.2.1 rfl (hb C.2.2.2.1 hd) rfl (by subst hpc; exact q)
theorem g_idiv (C : Ctx B l rm bytes own nm maxL ret Z) {x y : Int32} (hd : decode bytes pc = .ok (.idiv, 1)) (hy : y ≠ 0) (hpc : pc + 1 = pc') (go : Go B n0 Q h k n pc' L (.int (x / y) :: st)) : Go B n0 Q h k n pc L (.int y :: .int x :: st) := go.step fun T locs X eT t q => Jvm.Free.XS.idiv X.here C.2.2.1 rfl (hb C.2.2.2.1 hd) rfl hy (by subst hpc; exact q)
theorem g_irem (C : Ctx B l rm bytes own nm maxL ret Z) {x y : Int32} (hd : decode bytes pc = .ok (.irem, 1)) (hy : y ≠ 0) (hpc : pc + 1 = pc') (go : Go B n0 Q h k n pc' L (.int (x - (x / y) * y) :: st)) : Go B n0 Q h k n pc L (.int y :: .int x :: st) := go.step fun T locs X eT t q => Jvm.Free.XS.irem X.here C.2.2.1 rfl (hb C.2.2.2.1 hd) rfl hy (by subst hpc; exact q)
theorem g_ineg (C : Ctx B l rm bytes own nm maxL ret Z) {x : Int32} (hd : decode bytes pc = .ok (.ineg, 1))  (hpc : pc + 1 = pc') (go : Go B n0 Q h k n pc' L (.int (-x) :: st)) : Go B n0 Q h k n pc L (.int x :: st) := go.step fun T locs X eT t q => Jvm.Free.XS.ineg X.here C.2.2.1 rfl (hb C.2.2.2.1 hd) rfl (by subst hpc; exact q)
theorem g_ladd (C : Ctx B l rm bytes own nm maxL ret Z) {x y : Int64} (hd : decode bytes pc = .ok (.ladd, 1))  (hpc : pc + 1 = pc') (go : Go B n0 Q h k n pc' L (.long (x + y) :: st)) : Go B n0 Q h k n pc L (.long y :: .long x :: st) := go.step fun T locs X eT t q => Jvm.Free.XT.ladd X.here C.2.2.1 rfl (hb C.2.2.2.1 hd) rfl (by subst hpc; exact q)
theorem g_lsub (C : Ctx B l rm bytes own nm maxL ret Z) {x y : Int64} (hd : decode bytes pc = .ok (.lsub, 1))  (hpc : pc + 1 = pc') (go : Go B n0 Q h k n pc' L (.long (x - y) :: st)) : Go B n0 Q h k n pc L (.long y :: .long x :: st) := go.step fun T locs X eT t q => Jvm.Free.XT.lsub X.here C.2.2.1 rfl (hb C.2.2.2.1 hd) rfl (by subst hpc; exact q)
theorem g_lmul (C : Ctx B l rm bytes own nm maxL ret Z) {x y : Int64} (hd : decode bytes pc = .ok (.lmul, 1))  (hpc : pc + 1 = pc') (go : Go B n0 Q h k n pc' L (.long (x * y) :: st)) : Go B n0 Q h k n pc L (.long y :: .long x :: st) := go.step fun T locs X eT t q => Jvm.Free.XT.lmul X.here C.2.2.1 rfl (hb C.2.2.2.1 hd) rfl (by subst hpc; exact q)
theorem g_land (C : Ctx B l rm bytes own nm maxL ret Z) {x y : Int64} (hd : decode bytes pc = .ok (.land, 1))  (hpc : pc + 1 = pc') (go : Go B n0 Q h k n pc' L (.long (x &&& y) :: st)) : Go B n0 Q h k n pc L (.long y :: .long x :: st) := go.step fun T locs X eT t q => Jvm.Free.XT.land X.here C.2.2.1 rfl (hb C.2.2.2.1 hd) rfl (by subst hpc; exact q)
theorem g_lor (C : Ctx B l rm bytes own nm maxL ret Z) {x y : Int64} (hd : decode bytes pc = .ok (.lor, 1))  (hpc : pc + 1 = pc') (go : Go B n0 Q h k n pc' L (.long (x ||| y) :: st)) : Go B n0 Q h k n pc L (.long y :: .long x :: st) := go.step fun T locs X eT t q => Jvm.Free.XT.lor X.here C.2.2.1 rfl (hb C.2.2.2.1 hd) rfl (by subst hpc; exact q)
theorem g_lxor (C : Ctx B l rm bytes own nm maxL ret Z) {x y : Int64} (hd : decode bytes pc = .ok (.lxor, 1))  (hpc : pc + 1 = pc') (go : Go B n0 Q h k n pc' L (.long (x ^^^ y) :: st)) : Go B n0 Q h k n pc L (.long y :: .long x :: st) := go.step fun T locs X eT t q => Jvm.Free.XT.lxor X.here C.2.2.1 rfl (hb C.2.2.2.1 hd) rfl (by subst hpc; exact q)
theorem g_ldiv (C : Ctx B l rm bytes own nm maxL ret Z) {x y : Int64} (hd : decode bytes pc = .ok (.ldiv, 1)) (hy : y ≠ 0) (hpc : pc + 1 = pc') (go : Go B n0 Q h k n pc' L (.long (x / y) :: st)) : Go B n0 Q h k n pc L (.long y :: .long x :: st) := go.step fun T locs X eT t q => Jvm.Free.XT.ldiv X.here C.2.2.1 rfl (hb C.2.2.2.1 hd) rfl hy (by subst hpc; exact q)
theorem g_lrem (C : Ctx B l rm bytes own nm maxL ret Z) {x y : Int64} (hd : decode bytes pc = .ok (.lrem, 1)) (hy : y ≠ 0) (hpc : pc + 1 = pc') (go : Go B n0 Q h k n pc' L (.long (x - (x / y) * y) :: st)) : Go B n0 Q h k n pc L (.long y :: .long x :: st) := go.step fun T locs X eT t q => Jvm.Free.XT.lrem X.here C.2.2.1 rfl (hb C.2.2.2.1 hd) rfl hy (by subst hpc; exact q)
theorem g_lneg (C : Ctx B l rm bytes own nm maxL ret Z) {x : Int64} (hd : decode bytes pc = .ok (.lneg, 1))  (hpc : pc + 1 = pc') (go : Go B n0 Q h k n pc' L (.long (-x) :: st)) : Go B n0 Q h k n pc L (.long x :: st) := go.step fun T locs X eT t q => Jvm.Free.XT.lneg X.here C.2.2.1 rfl (hb C.2.2.2.1 hd) rfl (by subst hpc; exact q)
theorem g_lshl (C : Ctx B l rm bytes own nm maxL ret Z) {x : Int64} {y : Int32} (hd : decode bytes pc = .ok (.lshl, 1))  (hpc : pc + 1 = pc') (go : Go B n0 Q h k n pc' L (.long (x <<< (y.toInt64 &&& 63)) :: st)) : Go B n0 Q h k n pc L (.int y :: .long x :: st) := go.step fun T locs X eT t q => Jvm.Free.XT.lshl X.here C.2.2.1 rfl (hb C.2.2.2.1 hd) rfl (by subst hpc; exact q)
theorem g_lshr (C : Ctx B l rm bytes own nm maxL ret Z) {x : Int64} {y : Int32} (hd : decode bytes pc = .ok (.lshr, 1))  (hpc : pc + 1 = pc') (go : Go B n0 Q h k n pc' L (.long (x >>> (y.toInt64 &&& 63)) :: st)) : Go B n0 Q h k n pc L (.int y :: .long x :: st) := go.step fun T locs X eT t q => Jvm.Free.XT.lshr X.here C.2.2.1 rfl (hb C.2.2.2.1 hd) rfl (by subst hpc; exact q)
theorem g_lushr (C : Ctx B l rm bytes own nm maxL ret Z) {x : Int64} {y : Int32} (hd : decode bytes pc = .ok (.lushr, 1))  (hpc : pc + 1 = pc') (go : Go B n0 Q h k n pc' L (.long (Jvm.Free.XT.ushrL x y) :: st)) : Go B n0 Q h k n pc L (.int y :: .long x :: st) := go.step fun T locs X eT t q => Jvm.Free.XT.lushr X.here C.2.2.1 rfl (hb C.2.2.2.1 hd) rfl (by subst hpc; exact q)
theorem g_lcmp (C : Ctx B l rm bytes own nm maxL ret Z) {x y : Int64} (hd : decode bytes pc = .ok (.lcmp, 1))  (hpc : pc + 1 = pc') (go : Go B n0 Q h k n pc' L (.int (Jvm.Free.XT.cmpL x y) :: st)) : Go B n0 Q h k n pc L (.long y :: .long x :: st) := go.step fun T locs X eT t q => Jvm.Free.XT.lcmp X.here C.2.2.1 rfl (hb C.2.2.2.1 hd) rfl (by subst hpc; exact q)
theorem g_i2l (C : Ctx B l rm bytes own nm maxL ret Z) {x : Int32} (hd : decode bytes pc = .ok (.i2l, 1))  (hpc : pc + 1 = pc') (go : Go B n0 Q h k n pc' L (.long (x.toInt64) :: st)) : Go B n0 Q h k n pc L (.int x :: st) := go.step fun T locs X eT t q => Jvm.Free.XT.i2l X.here C.2.2.1 rfl (hb C.2.2.2.1 hd) rfl (by subst hpc; exact q)
theorem g_l2i (C : Ctx B l rm bytes own nm maxL ret Z) {x : Int64} (hd : decode bytes pc = .ok (.l2i, 1))  (hpc : pc + 1 = pc') (go : Go B n0 Q h k n pc' L (.int (x.toInt32) :: st)) : Go B n0 Q h k n pc L (.long x :: st) := go.step fun T locs X eT t q => Jvm.Free.XT.l2i X.here C.2.2.1 rfl (hb C.2.2.2.1 hd) rfl (by subst hpc; exact q)
theorem g_i2b (C : Ctx B l rm bytes own nm maxL ret Z) {x : Int32} (hd : decode bytes pc = .ok (.i2b, 1))  (hpc : pc + 1 = pc') (go : Go B n0 Q h k n pc' L (.int (x.toInt8.toInt32) :: st)) : Go B n0 Q h k n pc L (.int x :: st) := go.step fun T locs X eT t q => Jvm.Free.XT.i2b X.here C.2.2.1 rfl (hb C.2.2.2.1 hd) rfl (by subst hpc; exact q)
theorem g_i2c (C : Ctx B l rm bytes own nm maxL ret Z) {x : Int32} (hd : decode bytes pc = .ok (.i2c, 1))  (hpc : pc + 1 = pc') (go : Go B n0 Q h k n pc' L (.int (x.toUInt32.toUInt16.toUInt32.toInt32) :: st)) : Go B n0 Q h k n pc L (.int x :: st) := go.step fun T locs X eT t q => Jvm.Free.XT.i2c X.here C.2.2.1 rfl (hb C.2.2.2.1 hd) rfl (by subst hpc; exact q)
theorem g_i2s (C : Ctx B l rm bytes own nm maxL ret Z) {x : Int32} (hd : decode bytes pc = .ok (.i2s, 1))  (hpc : pc + 1 = pc') (go : Go B n0 Q h k n pc' L (.int (x.toInt16.toInt32) :: st)) : Go B n0 Q h k n pc L (.int x :: st) := go.step fun T locs X eT t q => Jvm.Free.XT.i2s X.here C.2.2.1 rfl (hb C.2.2.2.1 hd) rfl (by subst hpc; exact q)
theorem g_dup (C : Ctx B l rm bytes own nm maxL ret Z) {x : Value} (hd : decode bytes pc = .ok (.dup, 1)) (hc : x.category = 1) (hpc : pc + 1 = pc') (go : Go B n0 Q h k n pc' L (x :: x :: st)) : Go B n0 Q h k n pc L (x :: st) := go.step fun T locs X eT t q => Jvm.Free.XS.dup X.here C.2.2.1 rfl (hb C.2.2.2.1 hd) rfl hc (by subst hpc; exact q)
theorem g_pop (C : Ctx B l rm bytes own nm maxL ret Z) {x : Value} (hd : decode bytes pc = .ok (.pop, 1)) (hc : x.category = 1) (hpc : pc + 1 = pc') (go : Go B n0 Q h k n pc' L st) : Go B n0 Q h k n pc L (x :: st) := go.step fun T locs X eT t q => Jvm.Free.XT.pop X.here C.2.2.1 rfl (hb C.2.2.2.1 hd) rfl hc (by subst hpc; exact q)
theorem g_dup_x1 (C : Ctx B l rm bytes own nm maxL ret Z) {x y : Value} (hd : decode bytes pc = .ok (.dup_x1, 1)) (hc : x.category = 1) (hc' : y.category = 1) (hpc : pc + 1 = pc') (go : Go B n0 Q h k n pc' L (x :: y :: x :: st)) : Go B n0 Q h k n pc L (x :: y :: st) := go.step fun T locs X eT t q => Jvm.Free.XT.dupX1 X.here C.2.2.1 rfl (hb C.2.2.2.1 hd) rfl hc hc' (by subst hpc; exact q)
theorem g_dup2 (C : Ctx B l rm bytes own nm maxL ret Z) {x y : Value} (hd : decode bytes pc = .ok (.dup2, 1)) (hc : x.category = 1) (hc' : y.category = 1) (hpc : pc + 1 = pc') (go : Go B n0 Q h k n pc' L (x :: y :: x :: y :: st)) : Go B n0 Q h k n pc L (x :: y :: st) := go.step fun T locs X eT t q => Jvm.Free.XT.dup2 X.here C.2.2.1 rfl (hb C.2.2.2.1 hd) rfl hc hc' (by subst hpc; exact q)
theorem g_dup2L (C : Ctx B l rm bytes own nm maxL ret Z) {x : Int64} (hd : decode bytes pc = .ok (.dup2, 1))  (hpc : pc + 1 = pc') (go : Go B n0 Q h k n pc' L (.long x :: .long x :: st)) : Go B n0 Q h k n pc L (.long x :: st) := go.step fun T locs X eT t q => Jvm.Free.XT.dup2L X.here C.2.2.1 rfl (hb C.2.2.2.1 hd) rfl (by subst hpc; exact q)
theorem g_goto (C : Ctx B l rm bytes own nm maxL ret Z) {o : Int} (hd : decode bytes pc = .ok (.goto o, 3)) (ho : 0 ≤ (pc : Int) + o) (hp : ((pc : Int) + o).toNat = pc') (go : Go B n0 Q h k n pc' L st) : Go B n0 Q h k n pc L st := go.step fun T locs X eT t q => Jvm.Free.XS.goto X.here C.2.2.1 rfl rfl (hb C.2.2.2.1 hd) ho hp q
theorem g_if_y (C : Ctx B l rm bytes own nm maxL ret Z) {cd : ClassFile.Cond} {x : Int32} {o : Int} (hd : decode bytes pc = .ok (.ifCond cd o, 3)) (hc : ifCond.holds cd x = true) (ho : 0 ≤ (pc : Int) + o) (hp : ((pc : Int) + o).toNat = pc') (go : Go B n0 Q h k n pc' L st) : Go B n0 Q h k n pc L (.int x :: st) := go.step fun T locs X eT t q => Jvm.Free.XS.ifYes X.here C.2.2.1 rfl rfl (hb C.2.2.2.1 hd) rfl hc ho hp q
theorem g_if_n (C : Ctx B l rm bytes own nm maxL ret Z) {cd : ClassFile.Cond} {x : Int32} {o : Int} (hd : decode bytes pc = .ok (.ifCond cd o, 3)) (hc : ifCond.holds cd x = false) (hpc : pc + 3 = pc') (go : Go B n0 Q h k n pc' L st) : Go B n0 Q h k n pc L (.int x :: st) := go.step fun T locs X eT t q => Jvm.Free.XS.ifNo X.here C.2.2.1 rfl (hb C.2.2.2.1 hd) rfl hc (by subst hpc; exact q)
theorem g_icmp_y (C : Ctx B l rm bytes own nm maxL ret Z) {cd : ClassFile.Cond} {x y : Int32} {o : Int} (hd : decode bytes pc = .ok (.if_icmp cd o, 3)) (hc : if_icmp.holds cd x y = true) (ho : 0 ≤ (pc : Int) + o) (hp : ((pc : Int) + o).toNat = pc') (go : Go B n0 Q h k n pc' L st) : Go B n0 Q h k n pc L (.int y :: .int x :: st) := go.step fun T locs X eT t q => Jvm.Free.XS.icmpYes X.here C.2.2.1 rfl rfl (hb C.2.2.2.1 hd) rfl hc ho hp q
theorem g_icmp_n (C : Ctx B l rm bytes own nm maxL ret Z) {cd : ClassFile.Cond} {x y : Int32} {o : Int} (hd : decode bytes pc = .ok (.if_icmp cd o, 3)) (hc : if_icmp.holds cd x y = false) (hpc : pc + 3 = pc') (go : Go B n0 Q h k n pc' L st) : Go B n0 Q h k n pc L (.int y :: .int x :: st) := go.step fun T locs X eT t q => Jvm.Free.XS.icmpNo X.here C.2.2.1 rfl (hb C.2.2.2.1 hd) rfl hc (by subst hpc; exact q)
theorem g_acmp_y (C : Ctx B l rm bytes own nm maxL ret Z) {cd : ClassFile.ACond} {x y : Value} {o : Int} (hd : decode bytes pc = .ok (.if_acmp cd o, 3)) (hc1 : x.isRef = true) (hc2 : y.isRef = true) (hc : Jvm.Free.XT.acmp cd x y = true) (ho : 0 ≤ (pc : Int) + o) (hp : ((pc : Int) + o).toNat = pc') (go : Go B n0 Q h k n pc' L st) : Go B n0 Q h k n pc L (y :: x :: st) := go.step fun T locs X eT t q => Jvm.Free.XT.acmpYes X.here C.2.2.1 rfl rfl (hb C.2.2.2.1 hd) rfl hc1 hc2 hc ho hp q
theorem g_acmp_n (C : Ctx B l rm bytes own nm maxL ret Z) {cd : ClassFile.ACond} {x y : Value} {o : Int} (hd : decode bytes pc = .ok (.if_acmp cd o, 3)) (hc1 : x.isRef = true) (hc2 : y.isRef = true) (hc : Jvm.Free.XT.acmp cd x y = false) (hpc : pc + 3 = pc') (go : Go B n0 Q h k n pc' L st) : Go B n0 Q h k n pc L (y :: x :: st) := go.step fun T locs X eT t q => Jvm.Free.XT.acmpNo X.here C.2.2.1 rfl (hb C.2.2.2.1 hd) rfl hc1 hc2 hc (by subst hpc; exact q)
theorem g_ifnull_y (C : Ctx B l rm bytes own nm maxL ret Z) {o : Int} (hd : decode bytes pc = .ok (.ifnull o, 3)) (ho : 0 ≤ (pc : Int) + o) (hp : ((pc : Int) + o).toNat = pc') (go : Go B n0 Q h k n pc' L st) : Go B n0 Q h k n pc L (.null :: st) := go.step fun T locs X eT t q => Jvm.Free.XS.ifnullYes X.here C.2.2.1 rfl rfl (hb C.2.2.2.1 hd) rfl ho hp q
theorem g_ifnull_n (C : Ctx B l rm bytes own nm maxL ret Z) {o : Int} {b : Addr} (hd : decode bytes pc = .ok (.ifnull o, 3)) (hpc : pc + 3 = pc') (go : Go B n0 Q h k n pc' L st) : Go B n0 Q h k n pc L (.ref b :: st) := go.step fun T locs X eT t q => Jvm.Free.XS.ifnullNo X.here C.2.2.1 rfl (hb C.2.2.2.1 hd) rfl (by subst hpc; exact q)
theorem g_ifnonnull_y (C : Ctx B l rm bytes own nm maxL ret Z) {o : Int} {b : Addr} (hd : decode bytes pc = .ok (.ifnonnull o, 3)) (ho : 0 ≤ (pc : Int) + o) (hp : ((pc : Int) + o).toNat = pc') (go : Go B n0 Q h k n pc' L st) : Go B n0 Q h k n pc L (.ref b :: st) := go.step fun T locs X eT t q => Jvm.Free.XT.ifnonnullYes X.here C.2.2.1 rfl rfl (hb C.2.2.2.1 hd) rfl ho hp q
theorem g_ifnonnull_n (C : Ctx B l rm bytes own nm maxL ret Z) {o : Int} (hd : decode bytes pc = .ok (.ifnonnull o, 3)) (hpc : pc + 3 = pc') (go : Go B n0 Q h k n pc' L st) : Go B n0 Q h k n pc L (.null :: st) := go.step fun T locs X eT t q => Jvm.Free.XT.ifnonnullNo X.here C.2.2.1 rfl (hb C.2.2.2.1 hd) rfl (by subst hpc; exact q)
theorem g_ldc (C : Ctx B l rm bytes own nm maxL ret Z) {i : Nat} {v : Int32} (w : (Jvm.Cond.constant own i v).before a0 Z = true) (hd : decode bytes pc = .ok (.ldc i, 2)) (hpc : pc + 2 = pc') (go : Go B n0 Q h k n pc' L (.int v :: st)) : Go B n0 Q h k n pc L st := go.step fun T locs X eT t q => X.ldcInt C.2.2.1 C.2.2.2.2.2.1 (mvT C.2.2.2.2.1 w) (g := mkF B.m pc L st) rfl (hb C.2.2.2.1 hd) t (by subst hpc; exact q)
theorem g_ldc_w (C : Ctx B l rm bytes own nm maxL ret Z) {i : Nat} {v : Int32} (w : (Jvm.Cond.constant own i v).before a0 Z = true) (hd : decode bytes pc = .ok (.ldc_w i, 3)) (hpc : pc + 3 = pc') (go : Go B n0 Q h k n pc' L (.int v :: st)) : Go B n0 Q h k n pc L st := go.step fun T locs X eT t q => X.ldcwInt C.2.2.1 C.2.2.2.2.2.1 (mvT C.2.2.2.2.1 w) (g := mkF B.m pc L st) rfl (hb C.2.2.2.1 hd) t (by subst hpc; exact q)
theorem g_ldc2_w (C : Ctx B l rm bytes own nm maxL ret Z) {i : Nat} {v : Int64} (w : (Jvm.Cond.constantLong own i v).before a0 Z = true) (hd : decode bytes pc = .ok (.ldc2_w i, 3)) (hpc : pc + 3 = pc') (go : Go B n0 Q h k n pc' L (.long v :: st)) : Go B n0 Q h k n pc L st := go.step fun T locs X eT t q => X.ldc2Long C.2.2.1 C.2.2.2.2.2.1 (mvT C.2.2.2.2.1 w) (g := mkF B.m pc L st) rfl (hb C.2.2.2.1 hd) t (by subst hpc; exact q)
theorem g_getfield (C : Ctx B l rm bytes own nm maxL ret Z) {i : Nat} {R0 O fn d host : String} {a : Addr} {v : Value} (w : (Jvm.Cond.fieldLink own i R0 fn d).before a0 Z = true ∨ (Jvm.Cond.fieldLinkNest own i R0 fn d host).before a0 Z = true) (via : Via Z R0 O fn d) (F : Fld Z h a O fn d v) (hd : decode bytes pc = .ok (.getfield i, 3)) (hpc : pc + 3 = pc') (go : Go B n0 Q h k n pc' L (v :: st)) : Go B n0 Q h k n pc L (.ref a :: st) := go.move fun T locs X eT => by
  obtain ⟨T', X', e', f⟩ := getF X C.2.2.1 C.2.2.2.2.1 C.2.2.2.2.2.1 w via eT F (g := mkF B.m pc L (.ref a :: st)) rfl rfl (hb C.2.2.2.1 hd)
  subst hpc; exact ⟨T', X', e', f⟩
theorem g_getstatic (C : Ctx B l rm bytes own nm maxL ret Z) {i : Nat} {R0 O fn d host : String} {v : Value} (w : (Jvm.Cond.fieldLink own i R0 fn d).before a0 Z = true ∨ (Jvm.Cond.fieldLinkNest own i R0 fn d host).before a0 Z = true) (via : Via Z R0 O fn d) (F : Sta Z h O fn d v) (hd : decode bytes pc = .ok (.getstatic i, 3)) (hpc : pc + 3 = pc') (go : Go B n0 Q h k n pc' L (v :: st)) : Go B n0 Q h k n pc L st := go.move fun T locs X eT => by
  obtain ⟨T', X', e', f⟩ := getS2 X C.2.2.1 C.2.2.2.2.1 C.2.2.2.2.2.1 w via eT F (g := mkF B.m pc L st) rfl (hb C.2.2.2.1 hd)
  subst hpc; exact ⟨T', X', e', f⟩
theorem g_checkcast (C : Ctx B l rm bytes own nm maxL ret Z) {i : Nat} {K : String} {a : Addr} (w : (Jvm.Cond.classLink own i K).before a0 Z = true) (F : Ins Z h a K true) (hd : decode bytes pc = .ok (.checkcast i, 3)) (hpc : pc + 3 = pc') (go : Go B n0 Q h k n pc' L (.ref a :: st)) : Go B n0 Q h k n pc L (.ref a :: st) := go.move fun T locs X eT => by
  obtain ⟨T', X', e', f⟩ := castY X C.2.2.1 C.2.2.2.2.1 C.2.2.2.2.2.1 w eT F (g := mkF B.m pc L (.ref a :: st)) rfl rfl (hb C.2.2.2.1 hd)
  subst hpc; exact ⟨T', X', e', f⟩
theorem g_instanceof_y (C : Ctx B l rm bytes own nm maxL ret Z) {i : Nat} {K : String} {a : Addr} (w : (Jvm.Cond.classLink own i K).before a0 Z = true) (F : Ins Z h a K true) (hd : decode bytes pc = .ok (.instanceof i, 3)) (hpc : pc + 3 = pc') (go : Go B n0 Q h k n pc' L (.int 1 :: st)) : Go B n0 Q h k n pc L (.ref a :: st) := go.move fun T locs X eT => by
  obtain ⟨T', X', e', f⟩ := instY X C.2.2.1 C.2.2.2.2.1 C.2.2.2.2.2.1 w eT F (g := mkF B.m pc L (.ref a :: st)) rfl rfl (hb C.2.2.2.1 hd)
  subst hpc; exact ⟨T', X', e', f⟩
theorem g_instanceof_n (C : Ctx B l rm bytes own nm maxL ret Z) {i : Nat} {K K' : String} {a : Addr} (w : (Jvm.Cond.classLink own i K).before a0 Z = true) (E : Exa Z h a K') (F : ∃ c t, Z.vm.findClass K' = some c ∧ Z.vm.findClass K = some t ∧ Z.vm.assignable c t = false) (hd : decode bytes pc = .ok (.instanceof i, 3)) (hpc : pc + 3 = pc') (go : Go B n0 Q h k n pc' L (.int 0 :: st)) : Go B n0 Q h k n pc L (.ref a :: st) := go.move fun T locs X eT => by
  obtain ⟨T', X', e', f⟩ := instNo X C.2.2.1 C.2.2.2.2.1 C.2.2.2.2.2.1 w eT E F (g := mkF B.m pc L (.ref a :: st)) rfl rfl (hb C.2.2.2.1 hd)
  subst hpc; exact ⟨T', X', e', f⟩
theorem g_putfield (C : Ctx B l rm bytes own nm maxL ret Z) {i kk : Nat} {R0 O fn d host K : String} {ty : FieldType} {a : Addr} {v old : Value} (w : (Jvm.Cond.fieldLink own i R0 fn d).before a0 Z = true ∨ (Jvm.Cond.fieldLinkNest own i R0 fn d host).before a0 Z = true) (via : Via Z R0 O fn d) (F : Fld Z h a O fn d old) (E : Exa Z h a K) (Ly : (Jvm.Cond.lays K O fn d).before a0 Z = true ∨ ((Jvm.Cond.laysFinal K O fn d).before a0 Z = true ∧ own = O ∧ nm = "<init>")) (wi : (Jvm.Cond.instantiable K kk).before a0 Z = true) (hty : parseFieldDescriptor d = some ty) (hn : narrow ty v = v) (hf : fits ty v = true) (ge : n0 ≤ a) (hd : decode bytes pc = .ok (.putfield i, 3)) (hpc : pc + 3 = pc') (go : ∀ h', Wr h h' a (Jvm.RoadKit.slotOf Z O fn d) v → Go B n0 Q h' k n pc' L st) : Go B n0 Q h k n pc L (v :: .ref a :: st) := fun T locs X N eT => by
  obtain ⟨T', h', X', e', W, f⟩ := putF X C.2.2.1 C.2.2.2.2.1 C.2.2.2.2.2.1 w via eT F E (Ly.imp id fun q => ⟨q.1, q.2.1, by rw [C.2.2.2.2.2.2.1]; exact q.2.2⟩) wi hty hn hf (g := mkF B.m pc L (v :: .ref a :: st)) rfl rfl (hb C.2.2.2.1 hd)
  obtain ⟨t, o, q, r⟩ := go h' W T' _ X' (Fr.snoc X' N ge) e'
  subst hpc
  exact ⟨t, o, f t q, r⟩
theorem g_new (C : Ctx B l rm bytes own nm maxL ret Z) {i nn : Nat} {K : String} (w : (Jvm.Cond.classLink own i K).before a0 Z = true) (wi : (Jvm.Cond.instantiable K nn).before a0 Z = true) (wz : (Jvm.Cond.initialized K).before a0 Z = true) (hc : k + 1 ≤ rm.cells) (hl : n + nn ≤ rm.slots) (hd : decode bytes pc = .ok (.new i, 3)) (hpc : pc + 3 = pc') (go : ∀ h' a, a = h.size → Ext h h' → Exa Z h' a K → (∀ {O fn d : String} {ty : FieldType}, Laid Z a0 K O fn d → parseFieldDescriptor d = some ty → Fld Z h' a O fn d (defaultValue ty)) → Go B n0 Q h' (k + 1) (n + nn) pc' L (.ref a :: st)) : Go B n0 Q h k n pc L st := fun T locs X N eT => by
  obtain ⟨T', h', X', e', E, A, D, -, f⟩ := newO X C.2.2.1 C.2.2.2.2.1 C.2.2.2.2.2.1 w wi wz eT (g := mkF B.m pc L st) rfl (hb C.2.2.2.1 hd) (by rw [C.2.1]; exact hc) (by rw [C.2.1]; exact hl)
  obtain ⟨t, o, q, r⟩ := go h' _ rfl E A D T' _ X' N e'
  subst hpc
  exact ⟨t, o, f t q, r⟩
theorem g_initObj (C : Ctx B l rm bytes own nm maxL ret Z) {i : Nat} {a : Addr} (w1 : (Jvm.Cond.methodLink own i Lib.objectInit).before a0 Z = true) (w2 : (Jvm.Cond.instanceMethod Lib.objectInit).before a0 Z = true) (w3 : (Jvm.Cond.code Lib.objectInit ⟨#[0xb1]⟩ 1 none).before a0 Z = true) (hsz : L.size = maxL) (hf : 1 ≤ rm.frames) {W : Nat} (hW : (st.map fun v => v.category).sum ≤ W) (hl : W + 12 ≤ rm.locals) (hd : decode bytes pc = .ok (.invokespecial i, 3)) (hpc : pc + 3 = pc') (go : Go B n0 Q h k n pc' L st) : Go B n0 Q h k n pc L (.ref a :: st) := fun T locs X N eT => by
  obtain ⟨T', X', e', f⟩ := initO X C.2.2.1 C.2.2.2.2.1 C.2.2.2.2.2.1 w1 w2 w3 eT (g := mkF B.m pc L (.ref a :: st)) rfl (by rw [C.2.2.2.2.2.2.2.1]; exact hsz) rfl (hb C.2.2.2.1 hd) (by rw [C.2.1]; exact hf) (W := W) (by show 2 * 0 + _ ≤ _; omega) (by rw [C.2.1]; exact hl)
  obtain ⟨t, o, q, r⟩ := go T' _ X' N e'
  subst hpc
  exact ⟨t, o, f t q, r⟩
theorem g_static (C : Ctx B l rm bytes own nm maxL ret Z) {i : Nat} {y : MethodName} {b' : ByteArray} {mx : Nat} {rt : Option FieldType} {rm' : Room} {as' : Array Value} {Q' : Option Value → Heap → Prop} (w1 : (Jvm.Cond.methodLink own i y).before a0 Z = true) (w2 : (Jvm.Cond.static y).before a0 Z = true) (wz : (Jvm.Cond.initialized y.cls).before a0 Z = true) (wc : (Jvm.Cond.code y b' mx rt).before a0 Z = true) (hy : y.cls ≠ "java/lang/invoke/MethodHandle" ∧ y.cls ≠ "java/lang/invoke/VarHandle") (K : Met1 l Z y b' mx rt rm' n0 as' h Q') (argsL : List Value) {stk : List Value} (hst : stk = argsL.reverse ++ st) (has : as' = argsL.toArray) {ps : List FieldType} {r' : Option FieldType} (pd : parseMethodDescriptor y.desc = some ⟨ps, r'⟩) (hlen : argsL.length = ps.length) (hsz : L.size = maxL) (hf : rm'.frames + 1 ≤ rm.frames) {W : Nat} (hW : (st.map fun v => v.category).sum ≤ W) (hlo : W + (mx + 11) + rm'.locals ≤ rm.locals) (hc : k + rm'.cells ≤ rm.cells) (hs : n + rm'.slots ≤ rm.slots) (hd : decode bytes pc = .ok (.invokestatic i, 3)) (hpc : pc + 3 = pc') (go : ∀ v h', Q' v h' → Go B n0 Q h' (k + rm'.cells) (n + rm'.slots) pc' L (v.toList ++ st)) : Go B n0 Q h k n pc L stk := fun T locs X N eT => by
  subst hst has
  obtain ⟨v, _, ⟨T', L1, k1, n1⟩, -, X', ⟨L2, ⟨N', hq⟩, l1, l2, l3⟩, f⟩ := Jvm.LawKit.callS X C.2.2.1 (y := y) C.2.2.2.2.2.1 (mvT C.2.2.2.2.1 w1) (mvT C.2.2.2.2.1 w2) (mvT C.2.2.2.2.1 wz) (mvT C.2.2.2.2.1 wc) hy (backOf (W := W) (Q := fun v h L => Fr n0 L ∧ Q' v h) (C.1 ▸ K []) C.2.2.2.2.1 wc wz (by rw [C.2.1]; exact hf) (by rw [C.2.1]; exact hlo)) (g := mkF B.m pc L (argsL.reverse ++ st)) rfl (by rw [C.2.2.2.2.2.2.2.1]; exact hsz) (argsL := argsL) (rest := st) (lenOf pd hlen) rfl (by show 2 * 0 + _ ≤ _; omega) (hb C.2.2.2.1 hd) (fun _ _ => ⟨rfl, eT, by rw [C.2.1]; exact hc, by rw [C.2.1]; exact hs⟩)
  dsimp only [Pt.U, Pt.locs, Pt.cells, Pt.slots] at X' l1 l2 l3 f hq
  subst l1 l2 l3
  obtain ⟨t, o, q, r⟩ := go v _ hq T' _ X' (Fr.app N N') rfl
  subst hpc
  exact ⟨t, o, f t q, r⟩
theorem g_special (C : Ctx B l rm bytes own nm maxL ret Z) {i : Nat} {y : MethodName} {b' : ByteArray} {mx : Nat} {rm' : Room} {as' : Array Value} {Q' : Option Value → Heap → Prop} {a : Addr} (hy1 : y.name = "<init>") (w1 : (Jvm.Cond.methodLink own i y).before a0 Z = true) (w2 : (Jvm.Cond.instanceMethod y).before a0 Z = true) (wz : (Jvm.Cond.initialized y.cls).before a0 Z = true) (wc : (Jvm.Cond.code y b' mx none).before a0 Z = true) (hy : y.cls ≠ "java/lang/invoke/MethodHandle" ∧ y.cls ≠ "java/lang/invoke/VarHandle") (K : Met1 l Z y b' mx none rm' n0 as' h Q') (argsL : List Value) {stk : List Value} (hst : stk = argsL.reverse ++ .ref a :: st) (has : as' = (Value.ref a :: argsL).toArray) {ps : List FieldType} {r' : Option FieldType} (pd : parseMethodDescriptor y.desc = some ⟨ps, r'⟩) (hlen : argsL.length = ps.length) (hsz : L.size = maxL) (hf : rm'.frames + 1 ≤ rm.frames) {W : Nat} (hW : (st.map fun v => v.category).sum ≤ W) (hlo : W + (mx + 11) + rm'.locals ≤ rm.locals) (hc : k + rm'.cells ≤ rm.cells) (hs : n + rm'.slots ≤ rm.slots) (hd : decode bytes pc = .ok (.invokespecial i, 3)) (hpc : pc + 3 = pc') (go : ∀ v h', Q' v h' → Go B n0 Q h' (k + rm'.cells) (n + rm'.slots) pc' L (v.toList ++ st)) : Go B n0 Q h k n pc L stk := fun T locs X N eT => by
  subst hst has
  obtain ⟨v, _, ⟨T', L1, k1, n1⟩, -, X', ⟨L2, ⟨N', hq⟩, l1, l2, l3⟩, f⟩ := X.specialBack C.2.2.1 (y := y) hy1 C.2.2.2.2.2.1 (mvT C.2.2.2.2.1 w1) (mvT C.2.2.2.2.1 w2) (mvT C.2.2.2.2.1 wc) hy (backOf (W := W) (Q := fun v h L => Fr n0 L ∧ Q' v h) (C.1 ▸ K []) C.2.2.2.2.1 wc wz (by rw [C.2.1]; exact hf) (by rw [C.2.1]; exact hlo)) (g := mkF B.m pc L (argsL.reverse ++ .ref a :: st)) rfl (by rw [C.2.2.2.2.2.2.2.1]; exact hsz) (Steps.refl _) (a := a) (argsL := argsL) (rest := st) (lenOf pd hlen) rfl (by show 2 * 0 + _ ≤ _; omega) (hb C.2.2.2.1 hd) (fun _ _ => ⟨rfl, eT, by rw [C.2.1]; exact hc, by rw [C.2.1]; exact hs⟩)
  dsimp only [Pt.U, Pt.locs, Pt.cells, Pt.slots] at X' l1 l2 l3 f hq
  subst l1 l2 l3
  obtain ⟨t, o, q, r⟩ := go v _ hq T' _ X' (Fr.app N N') rfl
  subst hpc
  exact ⟨t, o, f.trans q, r⟩
theorem g_virtual (C : Ctx B l rm bytes own nm maxL ret Z) {i : Nat} {y : MethodName} {b' : ByteArray} {mx : Nat} {rt : Option FieldType} {rm' : Room} {as' : Array Value} {Q' : Option Value → Heap → Prop} {a : Addr} {K' : String} {y0 : MethodName} (w1 : (Jvm.Cond.methodLink own i y0).before a0 Z = true) (w2 : (Jvm.Cond.declares y0).before a0 Z = true) (w3 : (Jvm.Cond.selects K' y0 y).before a0 Z = true) (w4 : (Jvm.Cond.instanceMethod y).before a0 Z = true) (wz : (Jvm.Cond.initialized y.cls).before a0 Z = true) (wc : (Jvm.Cond.code y b' mx rt).before a0 Z = true) (nf : NotFace B.s y0) (hy : y0.cls ≠ "java/lang/invoke/MethodHandle" ∧ y0.cls ≠ "java/lang/invoke/VarHandle") (E : Exa Z h a K') (K : Met1 l Z y b' mx rt rm' n0 as' h Q') (argsL : List Value) {stk : List Value} (hst : stk = argsL.reverse ++ .ref a :: st) (has : as' = (Value.ref a :: argsL).toArray) {ps : List FieldType} {r' : Option FieldType} (pd : parseMethodDescriptor y0.desc = some ⟨ps, r'⟩) (hlen : argsL.length = ps.length) (hsz : L.size = maxL) (hf : rm'.frames + 1 ≤ rm.frames) {W : Nat} (hW : (st.map fun v => v.category).sum ≤ W) (hlo : W + (mx + 11) + rm'.locals ≤ rm.locals) (hc : k + rm'.cells ≤ rm.cells) (hs : n + rm'.slots ≤ rm.slots) (hd : decode bytes pc = .ok (.invokevirtual i, 3)) (hpc : pc + 3 = pc') (go : ∀ v h', Q' v h' → Go B n0 Q h' (k + rm'.cells) (n + rm'.slots) pc' L (v.toList ++ st)) : Go B n0 Q h k n pc L stk := fun T locs X N eT => by
  subst hst has
  obtain ⟨cq, kq, qa, qb, qc⟩ := isOf C.2.2.2.2.1 eT E
  obtain ⟨v, _, ⟨T', L1, k1, n1⟩, -, X', ⟨L2, ⟨N', hq⟩, l1, l2, l3⟩, f⟩ := X.virtualBack C.2.2.1 (y := y0) (z := y) C.2.2.2.2.2.1 (mvT C.2.2.2.2.1 w1) (mvT C.2.2.2.2.1 w2) nf (mvT C.2.2.2.2.1 w3) (mvT C.2.2.2.2.1 w4) hy (backOf (W := W) (Q := fun v h L => Fr n0 L ∧ Q' v h) (C.1 ▸ K []) C.2.2.2.2.1 wc wz (by rw [C.2.1]; exact hf) (by rw [C.2.1]; exact hlo)) qa qc (g := mkF B.m pc L (argsL.reverse ++ .ref a :: st)) rfl (by rw [C.2.2.2.2.2.2.2.1]; exact hsz) (Steps.refl _) (argsL := argsL) (rest := st) (lenOf pd hlen) rfl (by show 2 * 0 + _ ≤ _; omega) (hb C.2.2.2.1 hd) (fun _ _ => ⟨rfl, eT, by rw [C.2.1]; exact hc, by rw [C.2.1]; exact hs⟩)
  dsimp only [Pt.U, Pt.locs, Pt.cells, Pt.slots] at X' l1 l2 l3 f hq
  subst l1 l2 l3
  obtain ⟨t, o, q, r⟩ := go v _ hq T' _ X' (Fr.app N N') rfl
  subst hpc
  exact ⟨t, o, f.trans q, r⟩
theorem g_ret (C : Ctx B l rm bytes own nm maxL ret Z) (hE : EndOk B h) {v : Value} {ty : FieldType} {i : Instr} (hret : ret = some ty) (hn : narrow ty v = v)
    (hi : (i = .ireturn ∧ (ty = .int ∨ ty = .boolean ∨ ty = .byte ∨ ty = .char ∨ ty = .short) ∧ ∃ z, v = .int z) ∨ (i = .lreturn ∧ ty = .long ∧ ∃ z, v = .long z) ∨ (i = .dreturn ∧ ty = .double ∧ ∃ z, v = .double z) ∨ (i = .freturn ∧ ty = .float ∧ ∃ z, v = .float z) ∨ (i = .areturn ∧ ty.isReference = true ∧ v.isRef = true))
    (hd : decode bytes pc = .ok (i, 1)) (hk : k ≤ rm.cells) (hs : n ≤ rm.slots) (go : Q (some v) h) : Go B n0 Q h k n pc L (v :: st) := fun T locs X N eT => by
  have hr0 : B.meth.sig.returnType = some ty := C.2.2.2.2.2.2.2.2.1.trans hret
  obtain ⟨fs, hr, hrun, hended, hW, hsame⟩ := X.leave (v := some v) (fun q => by rw [hr0] at q; cases q) C.2.2.2.2.2.2.2.2.2
  exact ⟨_, _, retOut X C.2.2.1 hr0 hn hi (hb C.2.2.2.1 hd) hr, hrun, hended, _, _, rfl, ⟨N, by show Q _ T.heap; rw [eT]; exact go⟩, EndB.of (by show EndOk B T.heap; rw [eT]; exact hE) ⟨⟨_, rfl⟩, hW, hsame.mono (by rw [C.2.1]; exact hk) (by rw [C.2.1]; exact hs)⟩⟩
theorem g_return (C : Ctx B l rm bytes own nm maxL ret Z) (hE : EndOk B h) (hret : ret = none) (hd : decode bytes pc = .ok (.return_, 1)) (hk : k ≤ rm.cells) (hs : n ≤ rm.slots) (go : Q none h) : Go B n0 Q h k n pc L [] := fun T locs X N eT => by
  have hr0 : B.meth.sig.returnType = none := C.2.2.2.2.2.2.2.2.1.trans hret
  obtain ⟨fs, hr, hrun, hended, hW, hsame⟩ := X.leave (v := none) (fun _ => rfl) C.2.2.2.2.2.2.2.2.2
  exact ⟨_, _, X.returnOut C.2.2.1 hr0 (hb C.2.2.2.1 hd) hr, hrun, hended, _, _, rfl, ⟨N, by show Q _ T.heap; rw [eT]; exact go⟩, EndB.of (by show EndOk B T.heap; rw [eT]; exact hE) ⟨⟨_, rfl⟩, hW, hsame.mono (by rw [C.2.1]; exact hk) (by rw [C.2.1]; exact hs)⟩⟩
end Base
/-! arrays made on the road -/
section Arrays
variable {Z : State} {h h' : Heap} {a b : Addr} {ty : FieldType} {vs : List Value} {ws : List Addr} {sl : Nat} {v : Value} {K : String}
def Ary (Z : State) (h : Heap) (a : Addr) (ty : FieldType) (vs : List Value) : Prop := ∃ c : Cell, Arr Z h a c ty ∧ c.slots.toList = vs ∧ vs.length < 2 ^ 31
def AryR (Z : State) (h : Heap) (a : Addr) (K : String) (vs : List Value) : Prop := ∃ c : Cell, Arr Z h a c (.object K) ∧ Ovr Z c.cls K ∧ c.slots.toList = vs ∧ vs.length < 2 ^ 31
theorem AryR.ary (F : AryR Z h a K vs) : Ary Z h a (.object K) vs := by obtain ⟨c, A, -, r⟩ := F; exact ⟨c, A, r⟩
theorem Ary.lt (F : Ary Z h a ty vs) : a < h.size := by obtain ⟨c, A, -⟩ := F; exact A.lt
theorem AryR.lt (F : AryR Z h a K vs) : a < h.size := F.ary.lt
theorem Ary.ext (F : Ary Z h a ty vs) (E : Ext h h') : Ary Z h' a ty vs := by obtain ⟨c, A, r⟩ := F; exact ⟨c, A.ext E, r⟩
theorem AryR.ext (F : AryR Z h a K vs) (E : Ext h h') : AryR Z h' a K vs := by obtain ⟨c, A, r⟩ := F; exact ⟨c, A.ext E, r⟩
theorem Ary.keep (F : Ary Z h a ty vs) (K : Keep h h' ws) (q : a ∉ ws) : Ary Z h' a ty vs := by obtain ⟨c, A, r⟩ := F; exact ⟨c, ⟨K.2.1 a c A.1 q, A.2⟩, r⟩
theorem AryR.keep (F : AryR Z h a K vs) (Kp : Keep h h' ws) (q : a ∉ ws) : AryR Z h' a K vs := by obtain ⟨c, A, r⟩ := F; exact ⟨c, ⟨Kp.2.1 a c A.1 q, A.2⟩, r⟩
theorem set_list (c : Cell) (i : Nat) (v : Value) : (c.setSlot i v).slots.toList = c.slots.toList.set i v := by simp [Cell.setSlot]
theorem keep_ext (E : Ext h h') : Keep h h' [] := (Keep.refl h []).ext E
theorem ne_new {c : Nat} (q : a < c) (e : b = c) : a ≠ b := fun z => absurd q (by rw [z, e]; exact Nat.lt_irrefl _)
theorem ne_newL {c : Nat} (q : a < c) (e : b = c) : b ≠ a := fun z => absurd q (by rw [← z, e]; exact Nat.lt_irrefl _)
theorem ne_ge {c : Nat} (q : a < c) (e : c ≤ b) : a ≠ b := fun z => absurd q (Nat.not_lt.mpr (z ▸ e))
theorem nin1 (q : a ≠ b) : a ∉ [b] := ninS q nin0
theorem in_b {j : Int32} {c : Cell} {i : Nat} (h0 : ¬ j < 0) (hj : j.toNatClampNeg = i) (hi : i < c.slots.size) : ¬ (j < 0 ∨ c.slots.size ≤ j.toNatClampNeg) := fun q => q.elim h0 fun q => by omega
end Arrays
section ArraySteps
variable {B : Bod} {l : Launch} {rm : Room} {bytes : ByteArray} {own nm : String} {maxL : Nat} {ret : Option FieldType} {Z : State} {n0 : Nat} {Q : Option Value → Heap → Prop} {h : Heap} {k n pc pc' : Nat} {L L' : Array Slot} {st st' : List Value} {a0 : Array Value}
theorem g_iaload (C : Ctx B l rm bytes own nm maxL ret Z) {a : Addr} {vs : List Value} {j : Int32} {i : Nat} {v : Int32} (F : Ary Z h a .int vs) (h0 : ¬ j < 0) (hj : j.toNatClampNeg = i) (hv : vs[i]? = some (.int v)) (hd : decode bytes pc = .ok (.iaload, 1)) (hpc : pc + 1 = pc') (go : Go B n0 Q h k n pc' L (.int v :: st)) : Go B n0 Q h k n pc L (.int j :: .ref a :: st) := go.step fun T locs X eT t q => by
  obtain ⟨c, A, rfl, hl⟩ := F
  have hi := (List.getElem?_eq_some_iff.mp hv).1
  rw [Array.length_toList] at hi
  rw [Array.getElem?_toList, ← hj] at hv
  exact X.iaload C.2.2.1 (by rw [eT]; exact A.1) (State.isArrayOf_alike C.2.2.2.2.1.alike A.2.1)  A.2.2 (in_b h0 hj hi) hv (g := mkF B.m pc L (.int j :: .ref a :: st)) rfl rfl (hb C.2.2.2.1 hd) t (by subst hpc; exact q)
theorem g_laload (C : Ctx B l rm bytes own nm maxL ret Z) {a : Addr} {vs : List Value} {j : Int32} {i : Nat} {v : Int64} (F : Ary Z h a .long vs) (h0 : ¬ j < 0) (hj : j.toNatClampNeg = i) (hv : vs[i]? = some (.long v)) (hd : decode bytes pc = .ok (.laload, 1)) (hpc : pc + 1 = pc') (go : Go B n0 Q h k n pc' L (.long v :: st)) : Go B n0 Q h k n pc L (.int j :: .ref a :: st) := go.step fun T locs X eT t q => by
  obtain ⟨c, A, rfl, hl⟩ := F
  have hi := (List.getElem?_eq_some_iff.mp hv).1
  rw [Array.length_toList] at hi
  rw [Array.getElem?_toList, ← hj] at hv
  exact X.laload C.2.2.1 (by rw [eT]; exact A.1) (State.isArrayOf_alike C.2.2.2.2.1.alike A.2.1)  A.2.2 (in_b h0 hj hi) hv (g := mkF B.m pc L (.int j :: .ref a :: st)) rfl rfl (hb C.2.2.2.1 hd) t (by subst hpc; exact q)
theorem g_caload (C : Ctx B l rm bytes own nm maxL ret Z) {a : Addr} {vs : List Value} {j : Int32} {i : Nat} {v : Int32} (F : Ary Z h a .char vs) (h0 : ¬ j < 0) (hj : j.toNatClampNeg = i) (hv : vs[i]? = some (.int v)) (hd : decode bytes pc = .ok (.caload, 1)) (hpc : pc + 1 = pc') (go : Go B n0 Q h k n pc' L (.int v :: st)) : Go B n0 Q h k n pc L (.int j :: .ref a :: st) := go.step fun T locs X eT t q => by
  obtain ⟨c, A, rfl, hl⟩ := F
  have hi := (List.getElem?_eq_some_iff.mp hv).1
  rw [Array.length_toList] at hi
  rw [Array.getElem?_toList, ← hj] at hv
  exact X.caload C.2.2.1 (by rw [eT]; exact A.1) (State.isArrayOf_alike C.2.2.2.2.1.alike A.2.1)  A.2.2 (in_b h0 hj hi) hv (g := mkF B.m pc L (.int j :: .ref a :: st)) rfl rfl (hb C.2.2.2.1 hd) t (by subst hpc; exact q)
theorem g_baloadB (C : Ctx B l rm bytes own nm maxL ret Z) {a : Addr} {vs : List Value} {j : Int32} {i : Nat} {v : Int32} (F : Ary Z h a .byte vs) (h0 : ¬ j < 0) (hj : j.toNatClampNeg = i) (hv : vs[i]? = some (.int v)) (hd : decode bytes pc = .ok (.baload, 1)) (hpc : pc + 1 = pc') (go : Go B n0 Q h k n pc' L (.int v :: st)) : Go B n0 Q h k n pc L (.int j :: .ref a :: st) := go.step fun T locs X eT t q => by
  obtain ⟨c, A, rfl, hl⟩ := F
  have hi := (List.getElem?_eq_some_iff.mp hv).1
  rw [Array.length_toList] at hi
  rw [Array.getElem?_toList, ← hj] at hv
  exact X.baloadBytes C.2.2.1 (by rw [eT]; exact A.1) (State.isArrayOf_alike C.2.2.2.2.1.alike A.2.1)  A.2.2 (in_b h0 hj hi) hv (g := mkF B.m pc L (.int j :: .ref a :: st)) rfl rfl (hb C.2.2.2.1 hd) t (by subst hpc; exact q)
theorem g_baloadZ (C : Ctx B l rm bytes own nm maxL ret Z) {a : Addr} {vs : List Value} {j : Int32} {i : Nat} {v : Int32} (F : Ary Z h a .boolean vs) (h0 : ¬ j < 0) (hj : j.toNatClampNeg = i) (hv : vs[i]? = some (.int v)) (hd : decode bytes pc = .ok (.baload, 1)) (hpc : pc + 1 = pc') (go : Go B n0 Q h k n pc' L (.int v :: st)) : Go B n0 Q h k n pc L (.int j :: .ref a :: st) := go.step fun T locs X eT t q => by
  obtain ⟨c, A, rfl, hl⟩ := F
  have hi := (List.getElem?_eq_some_iff.mp hv).1
  rw [Array.length_toList] at hi
  rw [Array.getElem?_toList, ← hj] at hv
  exact X.baloadBooleans C.2.2.1 (by rw [eT]; exact A.1) (State.isArrayOf_alike C.2.2.2.2.1.alike A.2.1)  A.2.2 (in_b h0 hj hi) hv (g := mkF B.m pc L (.int j :: .ref a :: st)) rfl rfl (hb C.2.2.2.1 hd) t (by subst hpc; exact q)
theorem g_aaload (C : Ctx B l rm bytes own nm maxL ret Z) {a : Addr} {vs : List Value} {j : Int32} {i : Nat} {v : Value} {ty : FieldType} (F : Ary Z h a ty vs) (hty : ty.isReference = true) (h0 : ¬ j < 0) (hj : j.toNatClampNeg = i) (hv : vs[i]? = some v) (hd : decode bytes pc = .ok (.aaload, 1)) (hpc : pc + 1 = pc') (go : Go B n0 Q h k n pc' L (v :: st)) : Go B n0 Q h k n pc L (.int j :: .ref a :: st) := go.step fun T locs X eT t q => by
  obtain ⟨c, A, rfl, hl⟩ := F
  have hi := (List.getElem?_eq_some_iff.mp hv).1
  rw [Array.length_toList] at hi
  rw [Array.getElem?_toList, ← hj] at hv
  exact X.aaload C.2.2.1 (by rw [eT]; exact A.1) (State.isArrayOf_alike C.2.2.2.2.1.alike A.2.1) hty A.2.2 (in_b h0 hj hi) hv (g := mkF B.m pc L (.int j :: .ref a :: st)) rfl rfl (hb C.2.2.2.1 hd) t (by subst hpc; exact q)
theorem g_arraylength (C : Ctx B l rm bytes own nm maxL ret Z) {a : Addr} {vs : List Value} {ty : FieldType} {z : Int32} (F : Ary Z h a ty vs) (hz : vs.length.toInt32 = z) (hd : decode bytes pc = .ok (.arraylength, 1)) (hpc : pc + 1 = pc') (go : Go B n0 Q h k n pc' L (.int z :: st)) : Go B n0 Q h k n pc L (.ref a :: st) := go.step fun T locs X eT t q => by
  obtain ⟨c, A, rfl, hl⟩ := F
  rw [Array.length_toList] at hz
  exact X.arraylength C.2.2.1 (by rw [eT]; exact A.1) (State.isArrayOf_alike C.2.2.2.2.1.alike A.2.1) (g := mkF B.m pc L (.ref a :: st)) rfl rfl (hb C.2.2.2.1 hd) t (by subst hpc hz; exact q)
theorem g_iastore (C : Ctx B l rm bytes own nm maxL ret Z) {a : Addr} {vs : List Value} {j : Int32} {i : Nat} {v : Int32} {w : Value} (F : Ary Z h a .int vs) (h0 : ¬ j < 0) (hj : j.toNatClampNeg = i) (hi : i < vs.length) (hw : Value.int v = w) (ge : n0 ≤ a) (hd : decode bytes pc = .ok (.iastore, 1)) (hpc : pc + 1 = pc') (go : ∀ h', Keep h h' [a] → Ary Z h' a .int (vs.set i w) → Go B n0 Q h' k n pc' L st) : Go B n0 Q h k n pc L (.int v :: .int j :: .ref a :: st) := fun T locs X N eT => by
  obtain ⟨c, A, rfl, hl⟩ := F
  have hi' := hi
  rw [Array.length_toList] at hi'
  obtain ⟨T', h', X', e', W, f⟩ := stI X C.2.2.1 C.2.2.2.2.1 eT A (in_b h0 hj hi') (g := mkF B.m pc L (.int v :: .int j :: .ref a :: st)) rfl rfl (hb C.2.2.2.1 hd)
  rw [hj, hw] at W
  obtain ⟨t, o, q, r⟩ := go h' (Keep.of_wr W) ⟨_, A.same W, set_list c i w, by rw [List.length_set]; exact hl⟩ T' _ X' (Fr.snoc X' N ge) e'
  subst hpc
  exact ⟨t, o, f t q, r⟩
theorem g_lastore (C : Ctx B l rm bytes own nm maxL ret Z) {a : Addr} {vs : List Value} {j : Int32} {i : Nat} {v : Int64} {w : Value} (F : Ary Z h a .long vs) (h0 : ¬ j < 0) (hj : j.toNatClampNeg = i) (hi : i < vs.length) (hw : Value.long v = w) (ge : n0 ≤ a) (hd : decode bytes pc = .ok (.lastore, 1)) (hpc : pc + 1 = pc') (go : ∀ h', Keep h h' [a] → Ary Z h' a .long (vs.set i w) → Go B n0 Q h' k n pc' L st) : Go B n0 Q h k n pc L (.long v :: .int j :: .ref a :: st) := fun T locs X N eT => by
  obtain ⟨c, A, rfl, hl⟩ := F
  have hi' := hi
  rw [Array.length_toList] at hi'
  obtain ⟨T', h', X', e', W, f⟩ := stJ X C.2.2.1 C.2.2.2.2.1 eT A (in_b h0 hj hi') (g := mkF B.m pc L (.long v :: .int j :: .ref a :: st)) rfl rfl (hb C.2.2.2.1 hd)
  rw [hj, hw] at W
  obtain ⟨t, o, q, r⟩ := go h' (Keep.of_wr W) ⟨_, A.same W, set_list c i w, by rw [List.length_set]; exact hl⟩ T' _ X' (Fr.snoc X' N ge) e'
  subst hpc
  exact ⟨t, o, f t q, r⟩
theorem g_castore (C : Ctx B l rm bytes own nm maxL ret Z) {a : Addr} {vs : List Value} {j : Int32} {i : Nat} {v : Int32} {w : Value} (F : Ary Z h a .char vs) (h0 : ¬ j < 0) (hj : j.toNatClampNeg = i) (hi : i < vs.length) (hw : Value.int (nar .char v) = w) (ge : n0 ≤ a) (hd : decode bytes pc = .ok (.castore, 1)) (hpc : pc + 1 = pc') (go : ∀ h', Keep h h' [a] → Ary Z h' a .char (vs.set i w) → Go B n0 Q h' k n pc' L st) : Go B n0 Q h k n pc L (.int v :: .int j :: .ref a :: st) := fun T locs X N eT => by
  obtain ⟨c, A, rfl, hl⟩ := F
  have hi' := hi
  rw [Array.length_toList] at hi'
  obtain ⟨T', h', X', e', W, f⟩ := stC X C.2.2.1 C.2.2.2.2.1 eT A (in_b h0 hj hi') (g := mkF B.m pc L (.int v :: .int j :: .ref a :: st)) rfl rfl (hb C.2.2.2.1 hd)
  rw [hj, hw] at W
  obtain ⟨t, o, q, r⟩ := go h' (Keep.of_wr W) ⟨_, A.same W, set_list c i w, by rw [List.length_set]; exact hl⟩ T' _ X' (Fr.snoc X' N ge) e'
  subst hpc
  exact ⟨t, o, f t q, r⟩
theorem g_bastoreB (C : Ctx B l rm bytes own nm maxL ret Z) {a : Addr} {vs : List Value} {j : Int32} {i : Nat} {v : Int32} {w : Value} (F : Ary Z h a .byte vs) (h0 : ¬ j < 0) (hj : j.toNatClampNeg = i) (hi : i < vs.length) (hw : Value.int (nar .byte v) = w) (ge : n0 ≤ a) (hd : decode bytes pc = .ok (.bastore, 1)) (hpc : pc + 1 = pc') (go : ∀ h', Keep h h' [a] → Ary Z h' a .byte (vs.set i w) → Go B n0 Q h' k n pc' L st) : Go B n0 Q h k n pc L (.int v :: .int j :: .ref a :: st) := fun T locs X N eT => by
  obtain ⟨c, A, rfl, hl⟩ := F
  have hi' := hi
  rw [Array.length_toList] at hi'
  obtain ⟨T', h', X', e', W, f⟩ := stB X C.2.2.1 C.2.2.2.2.1 eT A (in_b h0 hj hi') (g := mkF B.m pc L (.int v :: .int j :: .ref a :: st)) rfl rfl (hb C.2.2.2.1 hd)
  rw [hj, hw] at W
  obtain ⟨t, o, q, r⟩ := go h' (Keep.of_wr W) ⟨_, A.same W, set_list c i w, by rw [List.length_set]; exact hl⟩ T' _ X' (Fr.snoc X' N ge) e'
  subst hpc
  exact ⟨t, o, f t q, r⟩
theorem g_bastoreZ (C : Ctx B l rm bytes own nm maxL ret Z) {a : Addr} {vs : List Value} {j : Int32} {i : Nat} {v : Int32} {w : Value} (F : Ary Z h a .boolean vs) (h0 : ¬ j < 0) (hj : j.toNatClampNeg = i) (hi : i < vs.length) (hw : Value.int (nar .boolean v) = w) (ge : n0 ≤ a) (hd : decode bytes pc = .ok (.bastore, 1)) (hpc : pc + 1 = pc') (go : ∀ h', Keep h h' [a] → Ary Z h' a .boolean (vs.set i w) → Go B n0 Q h' k n pc' L st) : Go B n0 Q h k n pc L (.int v :: .int j :: .ref a :: st) := fun T locs X N eT => by
  obtain ⟨c, A, rfl, hl⟩ := F
  have hi' := hi
  rw [Array.length_toList] at hi'
  obtain ⟨T', h', X', e', W, f⟩ := stZ X C.2.2.1 C.2.2.2.2.1 eT A (in_b h0 hj hi') (g := mkF B.m pc L (.int v :: .int j :: .ref a :: st)) rfl rfl (hb C.2.2.2.1 hd)
  rw [hj, hw] at W
  obtain ⟨t, o, q, r⟩ := go h' (Keep.of_wr W) ⟨_, A.same W, set_list c i w, by rw [List.length_set]; exact hl⟩ T' _ X' (Fr.snoc X' N ge) e'
  subst hpc
  exact ⟨t, o, f t q, r⟩
theorem g_aastore (C : Ctx B l rm bytes own nm maxL ret Z) {a y : Addr} {K : String} {vs : List Value} {j : Int32} {i : Nat} (F : AryR Z h a K vs) (I : Ins Z h y K true) (h0 : ¬ j < 0) (hj : j.toNatClampNeg = i) (hi : i < vs.length) (ge : n0 ≤ a) (hd : decode bytes pc = .ok (.aastore, 1)) (hpc : pc + 1 = pc') (go : ∀ h', Keep h h' [a] → AryR Z h' a K (vs.set i (.ref y)) → Go B n0 Q h' k n pc' L st) : Go B n0 Q h k n pc L (.ref y :: .int j :: .ref a :: st) := fun T locs X N eT => by
  obtain ⟨c, A, O, rfl, hl⟩ := F
  have hi' := hi
  rw [Array.length_toList] at hi'
  obtain ⟨T', h', X', e', W, f⟩ := stR X C.2.2.1 C.2.2.2.2.1 eT A (in_b h0 hj hi') rfl (Sto.of A O I) (g := mkF B.m pc L (.ref y :: .int j :: .ref a :: st)) rfl rfl (hb C.2.2.2.1 hd)
  rw [hj] at W
  obtain ⟨t, o, q, r⟩ := go h' (Keep.of_wr W) ⟨_, A.same W, O, set_list c i _, by rw [List.length_set]; exact hl⟩ T' _ X' (Fr.snoc X' N ge) e'
  subst hpc
  exact ⟨t, o, f t q, r⟩
theorem g_newarray (C : Ctx B l rm bytes own nm maxL ret Z) {aty : ArrayType} {z : Int32} {cap : Nat} {ty : FieldType} (w : (Jvm.Cond.arrayClass (newarray.typeOf aty)).before a0 Z = true) (hty : newarray.typeOf aty = ty) (hz : ¬ z < 0) (hcap : z.toNatClampNeg = cap) (hcb : cap * 8 ≤ 536870912) (hc : k + 1 ≤ rm.cells) (hl : n + cap ≤ rm.slots) (hd : decode bytes pc = .ok (.newarray aty, 2)) (hpc : pc + 2 = pc') (go : ∀ h' a, a = h.size → Ext h h' → Ary Z h' a ty (List.replicate cap (defaultValue ty)) → Go B n0 Q h' (k + 1) (n + cap) pc' L (.ref a :: st)) : Go B n0 Q h k n pc L (.int z :: st) := fun T locs X N eT => by
  subst hty
  obtain ⟨T', h', cA, X', e', E, A, f⟩ := newP X C.2.2.1 C.2.2.2.2.1 w eT (g := mkF B.m pc L (.int z :: st)) rfl (hb C.2.2.2.1 hd) rfl hz (cap := cap) (Nat.le_of_eq hcap) hcb (by rw [C.2.1]; exact hc) (by rw [C.2.1]; exact hl)
  obtain ⟨t, o, q, r⟩ := go h' _ rfl E ⟨_, A, by rw [← hcap]; simp [newA], by rw [List.length_replicate]; omega⟩ T' _ X' N e'
  subst hpc
  exact ⟨t, o, f t q, r⟩
theorem g_newarrayUpTo (C : Ctx B l rm bytes own nm maxL ret Z) {aty : ArrayType} {z : Int32} {len cap : Nat} {ty : FieldType} (w : (Jvm.Cond.arrayClass (newarray.typeOf aty)).before a0 Z = true) (hty : newarray.typeOf aty = ty) (hz : ¬ z < 0) (hlen : z.toNatClampNeg = len) (hcap : len ≤ cap) (hcb : cap * 8 ≤ 536870912) (hc : k + 1 ≤ rm.cells) (hl : n + cap ≤ rm.slots) (hd : decode bytes pc = .ok (.newarray aty, 2)) (hpc : pc + 2 = pc') (go : ∀ h' a, a = h.size → Ext h h' → Ary Z h' a ty (List.replicate len (defaultValue ty)) → Go B n0 Q h' (k + 1) (n + cap) pc' L (.ref a :: st)) : Go B n0 Q h k n pc L (.int z :: st) := fun T locs X N eT => by
  subst hty
  obtain ⟨T', h', cA, X', e', E, A, f⟩ := newP X C.2.2.1 C.2.2.2.2.1 w eT (g := mkF B.m pc L (.int z :: st)) rfl (hb C.2.2.2.1 hd) rfl hz (cap := cap) (by rw [hlen]; exact hcap) hcb (by rw [C.2.1]; exact hc) (by rw [C.2.1]; exact hl)
  obtain ⟨t, o, q, r⟩ := go h' _ rfl E ⟨_, A, by rw [← hlen]; simp [newA], by rw [List.length_replicate]; omega⟩ T' _ X' N e'
  subst hpc
  exact ⟨t, o, f t q, r⟩
theorem g_anewarray (C : Ctx B l rm bytes own nm maxL ret Z) {i : Nat} {K : String} {z : Int32} {cap : Nat} (w : (Jvm.Cond.classLink own i K).before a0 Z = true) (w2 : (Jvm.Cond.arrayOver (.object K)).before a0 Z = true) (hz : ¬ z < 0) (hcap : z.toNatClampNeg = cap) (hcb : cap * 8 ≤ 536870912) (hc : k + 1 ≤ rm.cells) (hl : n + cap ≤ rm.slots) (hd : decode bytes pc = .ok (.anewarray i, 3)) (hpc : pc + 3 = pc') (go : ∀ h' a, a = h.size → Ext h h' → AryR Z h' a K (List.replicate cap .null) → Go B n0 Q h' (k + 1) (n + cap) pc' L (.ref a :: st)) : Go B n0 Q h k n pc L (.int z :: st) := fun T locs X N eT => by
  obtain ⟨T', h', cA, X', e', E, A, O, f⟩ := newR X C.2.2.1 C.2.2.2.2.1 C.2.2.2.2.2.1 w w2 eT (g := mkF B.m pc L (.int z :: st)) rfl (hb C.2.2.2.1 hd) rfl hz (cap := cap) (Nat.le_of_eq hcap) hcb (by rw [C.2.1]; exact hc) (by rw [C.2.1]; exact hl)
  obtain ⟨t, o, q, r⟩ := go h' _ rfl E ⟨_, A, O, by rw [← hcap]; simp [newA, defaultValue], by rw [List.length_replicate]; omega⟩ T' _ X' N e'
  subst hpc
  exact ⟨t, o, f t q, r⟩
end ArraySteps
end Jvm.OwnKit
namespace Jvm.OwnKit
open Jvm Jvm.ClassFile Sem Op Lib Jvm.Stand Jvm.Free Jvm.LawKit Jvm.RoadKit
section More
variable {B : Bod} {l : Launch} {rm : Room} {bytes : ByteArray} {own nm : String} {maxL : Nat} {ret : Option FieldType} {Z : State} {n0 : Nat} {Q : Option Value → Heap → Prop} {h h' : Heap} {k n pc pc' : Nat} {L L' : Array Slot} {st st' : List Value} {a0 : Array Value} {a b : Addr} {ty : FieldType} {vs vd : List Value}
theorem g_sipush (C : Ctx B l rm bytes own nm maxL ret Z) {z : Int} {v : Int32} (hd : decode bytes pc = .ok (.sipush z, 3)) (hv : (Int16.ofInt z).toInt32 = v) (hpc : pc + 3 = pc') (go : Go B n0 Q h k n pc' L (.int v :: st)) : Go B n0 Q h k n pc L st := go.step fun T locs X eT t q => Jvm.Free.XS.sipush X.here C.2.2.1 rfl (hb C.2.2.2.1 hd) (by subst hpc hv; exact q)
theorem g_instanceof_null (C : Ctx B l rm bytes own nm maxL ret Z) {i : Nat} (hd : decode bytes pc = .ok (.instanceof i, 3)) (hpc : pc + 3 = pc') (go : Go B n0 Q h k n pc' L (.int 0 :: st)) : Go B n0 Q h k n pc L (.null :: st) := go.step fun T locs X eT t q => X.instanceofNull C.2.2.1 (g := mkF B.m pc L (.null :: st)) rfl rfl (hb C.2.2.2.1 hd) t (by subst hpc; exact q)
theorem g_checkcast_null (C : Ctx B l rm bytes own nm maxL ret Z) {i : Nat} (hd : decode bytes pc = .ok (.checkcast i, 3)) (hpc : pc + 3 = pc') (go : Go B n0 Q h k n pc' L (.null :: st)) : Go B n0 Q h k n pc L (.null :: st) := go.step fun T locs X eT t q => X.checkcastNull C.2.2.1 (g := mkF B.m pc L (.null :: st)) rfl rfl (hb C.2.2.2.1 hd) t (by subst hpc; exact q)
theorem g_private (C : Ctx B l rm bytes own nm maxL ret Z) {i nn : Nat} {y : MethodName} {b' : ByteArray} {mx : Nat} {rt : Option FieldType} {rm' : Room} {as' : Array Value} {Q' : Option Value → Heap → Prop} {K' : String} (w1 : (Jvm.Cond.methodLink own i y).before a0 Z = true) (w4 : (Jvm.Cond.instanceMethod y).before a0 Z = true) (wp : (Jvm.Cond.privateMethod y).before a0 Z = true) (wi : (Jvm.Cond.instantiable y.cls nn).before a0 Z = true) (wz : (Jvm.Cond.initialized y.cls).before a0 Z = true) (wc : (Jvm.Cond.code y b' mx rt).before a0 Z = true) (hy : y.cls ≠ "java/lang/invoke/MethodHandle" ∧ y.cls ≠ "java/lang/invoke/VarHandle") (E : Exa Z h a K') (K : Met1 l Z y b' mx rt rm' n0 as' h Q') (argsL : List Value) {stk : List Value} (hst : stk = argsL.reverse ++ .ref a :: st) (has : as' = (Value.ref a :: argsL).toArray) {ps : List FieldType} {r' : Option FieldType} (pd : parseMethodDescriptor y.desc = some ⟨ps, r'⟩) (hlen : argsL.length = ps.length) (hsz : L.size = maxL) (hf : rm'.frames + 1 ≤ rm.frames) {W : Nat} (hW : (st.map fun v => v.category).sum ≤ W) (hlo : W + (mx + 11) + rm'.locals ≤ rm.locals) (hc : k + rm'.cells ≤ rm.cells) (hs : n + rm'.slots ≤ rm.slots) (hd : decode bytes pc = .ok (.invokevirtual i, 3)) (hpc : pc + 3 = pc') (go : ∀ v h', Q' v h' → Go B n0 Q h' (k + rm'.cells) (n + rm'.slots) pc' L (v.toList ++ st)) : Go B n0 Q h k n pc L stk := fun T locs X N eT => by
  subst hst has
  obtain ⟨cq, kq, qa, qb, cellq, qc, qd, qe⟩ := isOf C.2.2.2.2.1 eT E
  obtain ⟨c9, k9, u1, u2, u3, u4, -⟩ := Cond.instantiable_spec (mvT (args := B.args) C.2.2.2.2.1 wi)
  have hni : k9.isInterface = false := by simp only [Bool.or_eq_false_iff] at u4; exact u4.1
  have hpr := Cond.privateMethod_at (mvP C.2.2.2.2.1 wp (args := B.args))
  have hsel := selects_self_of_private (args := B.args) u1 u2 hni hpr (mvT C.2.2.2.2.1 w4) hy
  obtain ⟨v, _, ⟨T', L1, k1, n1⟩, -, X', ⟨L2, ⟨N', hq⟩, l1, l2, l3⟩, f⟩ := X.privateBack C.2.2.1 (y := y) C.2.2.2.2.2.1 (mvT C.2.2.2.2.1 w1) (mvT C.2.2.2.2.1 w4) hsel hpr (mvT C.2.2.2.2.1 wc) hy (backOf (W := W) (Q := fun v h L => Fr n0 L ∧ Q' v h) (C.1 ▸ K []) C.2.2.2.2.1 wc wz (by rw [C.2.1]; exact hf) (by rw [C.2.1]; exact hlo)) (g := mkF B.m pc L (argsL.reverse ++ .ref a :: st)) rfl (by rw [C.2.2.2.2.2.2.2.1]; exact hsz) (Steps.refl _) (a := a) qc (fun z e => by rw [e] at qe; cases qe) (argsL := argsL) (rest := st) (lenOf pd hlen) rfl (by show 2 * 0 + _ ≤ _; omega) (hb C.2.2.2.1 hd) (fun _ _ => ⟨rfl, eT, by rw [C.2.1]; exact hc, by rw [C.2.1]; exact hs⟩)
  dsimp only [Pt.U, Pt.locs, Pt.cells, Pt.slots] at X' l1 l2 l3 f hq
  subst l1 l2 l3
  obtain ⟨t, o, q, r⟩ := go v _ hq T' _ X' (Fr.app N N') rfl
  subst hpc
  exact ⟨t, o, f.trans q, r⟩
theorem nat32 {m : Nat} (q : m < 2 ^ 31) : m.toInt32.toNatClampNeg = m := Int32.toNatClampNeg_ofNat_of_lt q
theorem nneg32 {m : Nat} (q : m < 2 ^ 31) : ¬ m.toInt32 < 0 := by
  have e := len_toInt q
  rw [Int32.lt_iff_toInt_lt, e]
  show ¬ (m : Int) < 0
  omega
theorem Ary.arv (F : Ary Z h a ty vs) (hf : ∀ v ∈ vs, fits ty v = true) (dv : Value) : ∃ kk, Arv Z h a kk ty vs.length.toInt32 vs dv := by
  obtain ⟨c, A, rfl, hl⟩ := F
  have hs : c.slots.toList.length = c.slots.size := Array.length_toList
  refine ⟨c.cls, c, A, rfl, ?_, nneg32 hl, fun i hi => ?_, fun i hi => ?_⟩
  · rw [nat32 hl, hs]
  · rw [List.getD_eq_getElem?_getD, Array.getElem?_toList, Array.getElem?_eq_getElem hi]; rfl
  · apply hf
    rw [List.getD_eq_getElem?_getD, Array.getElem?_toList, Array.getElem?_eq_getElem hi]
    exact Array.mem_toList_iff.mpr (Array.getElem_mem hi)
theorem Arv.ary {kk : ClassId} {z : Int32} {dv : Value} (F : Arv Z h a kk ty z vs dv) (hz : z.toNatClampNeg = vs.length) (hl : vs.length < 2 ^ 31) : Ary Z h a ty vs := by
  obtain ⟨c, A, -, S, -, H, -⟩ := F
  refine ⟨c, A, ?_, hl⟩
  apply List.ext_getElem?
  intro i
  by_cases hi : i < c.slots.size
  · rw [Array.getElem?_toList, H i hi, List.getD_eq_getElem?_getD, List.getElem?_eq_getElem (by omega)]; rfl
  · rw [List.getElem?_eq_none (by rw [Array.length_toList]; omega), List.getElem?_eq_none (by omega)]
theorem g_arraycopy (C : Ctx B l rm bytes own nm maxL ret Z) {i : Nat} {sp dp nn : Int32} {spN dpN nnN : Nat} (w1 : (Jvm.Cond.methodLink own i Jvm.Stand.acN).before a0 Z = true) (w2 : (Jvm.Cond.native Jvm.Stand.acN).before a0 Z = true) (w3 : (Jvm.Cond.static Jvm.Stand.acN).before a0 Z = true) (w4 : (Jvm.Cond.initialized "java/lang/System").before a0 Z = true) (F : Ary Z h a ty vs) (G : Ary Z h b ty vd) (hp : refKind ty = false) (hfa : ∀ v ∈ vs, fits ty v = true) (hfb : ∀ v ∈ vd, fits ty v = true) (h1 : ¬ sp < 0) (h2 : ¬ dp < 0) (h3 : ¬ nn < 0) (e1 : sp.toNatClampNeg = spN) (e2 : dp.toNatClampNeg = dpN) (e3 : nn.toNatClampNeg = nnN) (h4 : spN + nnN ≤ vs.length) (h5 : dpN + nnN ≤ vd.length) {out : List Value} (ho : vd.take dpN ++ (List.range nnN).map (fun j => vs.getD (spN + j) .null) ++ vd.drop (dpN + nnN) = out) (ge : n0 ≤ b) (hsz : L.size = maxL) (hf : 1 ≤ rm.frames) {W : Nat} (hW : (st.map fun v => v.category).sum ≤ W) (hlo : W + (nativeFrameWords "java/lang/System" "arraycopy" 5 + 11) ≤ rm.locals) (hd : decode bytes pc = .ok (.invokestatic i, 3)) (hpc : pc + 3 = pc') (go : ∀ h', Keep h h' [b] → Ary Z h' b ty out → Go B n0 Q h' k n pc' L st) : Go B n0 Q h k n pc L (.int nn :: .int dp :: .ref b :: .int sp :: .ref a :: st) := fun T locs X N eT => by
  obtain ⟨ka, A⟩ := F.arv hfa .null
  obtain ⟨kb, A'⟩ := G.arv hfb .null
  obtain ⟨-, -, -, hla⟩ := F
  have hlb : vd.length < 2 ^ 31 := by obtain ⟨-, -, -, q⟩ := G; exact q
  subst e1 e2 e3
  obtain ⟨T', h', L', X', e', N', Kp, R', f⟩ := cpA X C.2.2.1 C.2.2.2.2.1 C.2.2.2.2.2.1 w1 w2 w3 w4 eT A A' (us := (List.range nn.toNatClampNeg).map fun j => vs.getD (sp.toNatClampNeg + j) .null) (Or.inl ⟨rfl, hp⟩) h1 h2 h3 (by rw [nat32 hla]; exact h4) (by rw [nat32 hlb]; exact h5) rfl h5 N ge (g := mkF B.m pc L (.int nn :: .int dp :: .ref b :: .int sp :: .ref a :: st)) rfl (by rw [C.2.2.2.2.2.2.2.1]; exact hsz) rfl (hb C.2.2.2.1 hd) (by rw [C.2.1]; exact hf) (W := W) (by show 2 * 0 + _ ≤ _; omega) (by rw [C.2.1]; exact hlo)
  have ol : (vd.take dp.toNatClampNeg ++ (List.range nn.toNatClampNeg).map (fun j => vs.getD (sp.toNatClampNeg + j) .null) ++ vd.drop (dp.toNatClampNeg + nn.toNatClampNeg)).length = vd.length := by simp; omega
  obtain ⟨t, o, q, r⟩ := go h' Kp (ho ▸ Arv.ary R' (by rw [nat32 hlb, ol]) (by rw [ol]; exact hlb)) T' _ X' N' e'
  subst hpc
  exact ⟨t, o, f t q, r⟩
theorem g_newarrayE (C : Ctx B l rm bytes own nm maxL ret Z) {aty : ArrayType} {z : Int32} {cap : Nat} {ty : FieldType} {ad : String} (w : (Jvm.Cond.arrayClass (newarray.typeOf aty)).before a0 Z = true) (hty : newarray.typeOf aty = ty) (had : "[" ++ (newarray.typeOf aty).toString = ad) (hz : ¬ z < 0) (hcap : z.toNatClampNeg = cap) (hcb : cap * 8 ≤ 536870912) (hc : k + 1 ≤ rm.cells) (hl : n + cap ≤ rm.slots) (hd : decode bytes pc = .ok (.newarray aty, 2)) (hpc : pc + 2 = pc') (go : ∀ h' a, a = h.size → Ext h h' → Ary Z h' a ty (List.replicate cap (defaultValue ty)) → Exa Z h' a ad → Go B n0 Q h' (k + 1) (n + cap) pc' L (.ref a :: st)) : Go B n0 Q h k n pc L (.int z :: st) := fun T locs X N eT => by
  subst hty
  obtain ⟨T', h', cA, X', e', E, A, Ex, f⟩ := newPE X C.2.2.1 C.2.2.2.2.1 w eT (g := mkF B.m pc L (.int z :: st)) rfl (hb C.2.2.2.1 hd) rfl hz (cap := cap) (Nat.le_of_eq hcap) hcb (by rw [C.2.1]; exact hc) (by rw [C.2.1]; exact hl) had
  obtain ⟨t, o, q, r⟩ := go h' _ rfl E ⟨_, A, by rw [← hcap]; simp [newA], by rw [List.length_replicate]; omega⟩ Ex T' _ X' N e'
  subst hpc
  exact ⟨t, o, f t q, r⟩
theorem g_clone (C : Ctx B l rm bytes own nm maxL ret Z) {i cap : Nat} {ad : String} (w1 : (Jvm.Cond.methodLink own i ⟨ad, "clone", "()Ljava/lang/Object;"⟩).before a0 Z = true) (w2 : (Jvm.Cond.sameMethod ad "java/lang/Object" "clone" "()Ljava/lang/Object;").before a0 Z = true) (w3 : (Jvm.Cond.native ⟨"java/lang/Object", "clone", "()Ljava/lang/Object;"⟩).before a0 Z = true)
    (w4 : (Jvm.Cond.instanceMethod ⟨"java/lang/Object", "clone", "()Ljava/lang/Object;"⟩).before a0 Z = true) (w5 : (Jvm.Cond.selects ad ⟨ad, "clone", "()Ljava/lang/Object;"⟩ ⟨"java/lang/Object", "clone", "()Ljava/lang/Object;"⟩).before a0 Z = true) (w6 : (Jvm.Cond.castable ad "java/lang/Cloneable").before a0 Z = true)
    (F : Ary Z h a ty vs) (E : Exa Z h a ad) (hfa : ∀ v ∈ vs, fits ty v = true) (hsz : L.size = maxL) (hf : 1 ≤ rm.frames) {W : Nat} (hW : (st.map fun v => v.category).sum ≤ W) (hlo : W + 14 ≤ rm.locals) (hcap : vs.length ≤ cap) (hc : k + 1 ≤ rm.cells) (hl : n + cap ≤ rm.slots) (hd : decode bytes pc = .ok (.invokevirtual i, 3)) (hpc : pc + 3 = pc') (go : ∀ h' b, b = h.size → Ext h h' → Ary Z h' b ty vs → Exa Z h' b ad → Go B n0 Q h' (k + 1) (n + cap) pc' L (.ref b :: st)) : Go B n0 Q h k n pc L (.ref a :: st) := fun T locs X N eT => by
  obtain ⟨c, A, rfl, hlv⟩ := F
  have FC : FitC Z c := fitC_of A fun j hj v hv => hfa v (by rw [Array.mem_toList_iff]; exact Array.mem_of_getElem? hv)
  obtain ⟨T', h', X', e', Ex, A', E', f⟩ := cloneA X C.2.2.1 C.2.2.2.2.1 C.2.2.2.2.2.1 w1 w2 w3 w4 w5 w6 eT A E FC (g := mkF B.m pc L (.ref a :: st)) rfl (by rw [C.2.2.2.2.2.2.2.1]; exact hsz) rfl (hb C.2.2.2.1 hd) (by rw [C.2.1]; exact hf) (W := W) (cap := cap) (by show 2 * 0 + _ ≤ _; omega) (by rw [C.2.1]; exact hlo) (by rw [← Array.length_toList]; exact hcap) (by rw [C.2.1]; exact hc) (by rw [C.2.1]; exact hl)
  obtain ⟨t, o, q, r⟩ := go h' _ rfl Ex ⟨_, A', rfl, hlv⟩ E' T' _ X' N e'
  subst hpc
  exact ⟨t, o, f t q, r⟩
end More
end Jvm.OwnKit
namespace Jvm.OwnKit
open Jvm Jvm.ClassFile Sem Op Lib Jvm.Stand Jvm.Free Jvm.LawKit Jvm.RoadKit
section Third
variable {B : Bod} {l : Launch} {rm : Room} {bytes : ByteArray} {own nm : String} {maxL : Nat} {ret : Option FieldType} {Z : State} {n0 : Nat} {Q : Option Value → Heap → Prop} {h h' : Heap} {k n pc pc' : Nat} {L L' : Array Slot} {st st' : List Value} {a0 : Array Value} {a b : Addr} {ty : FieldType} {vs vd : List Value}
theorem own_pop2 {tb : Tables} [Ours tb] {e : Env} {below : List Frame} {T target : State} {m : MethodId} {c : Code} {g : JFrame} (h : At T m c below) (hx : tb.exec = Jvm.exec) (hg : g.method = m) {x : Int64} {rest : List Value} (hd : decode c.code g.pc = .ok (.pop2, 1)) (hs : g.stack = .long x :: rest)
    (hr : Steps tb e below (T.setTop { g with pc := g.pc + 1, stack := rest }) target) : Steps tb e below (T.setTop g) target := by
  subst hg
  jvm_step h [h.top, hx, hd, hs, Value.category]
  exact hr
theorem g_pop2L (C : Ctx B l rm bytes own nm maxL ret Z) {x : Int64} (hd : decode bytes pc = .ok (.pop2, 1)) (hpc : pc + 1 = pc') (go : Go B n0 Q h k n pc' L st) : Go B n0 Q h k n pc L (.long x :: st) := go.step fun T locs X eT t q => own_pop2 X.here C.2.2.1 rfl (hb C.2.2.2.1 hd) rfl (by subst hpc; exact q)
theorem g_interface (C : Ctx B l rm bytes own nm maxL ret Z) {i cnt : Nat} {y y0 : MethodName} {b' : ByteArray} {mx : Nat} {rt : Option FieldType} {rm' : Room} {as' : Array Value} {Q' : Option Value → Heap → Prop} {K' : String} (w1 : (Jvm.Cond.methodLink own i y0).before a0 Z = true) (w2 : (Jvm.Cond.declares y0).before a0 Z = true) (wf : (Jvm.Cond.interfaceMethod y0.cls y0.cls y0.name y0.desc).before a0 Z = true) (hwf : (Jvm.Cond.interfaceMethod y0.cls y0.cls y0.name y0.desc).faceAtom = true) (w3 : (Jvm.Cond.selects K' y0 y).before a0 Z = true) (w4 : (Jvm.Cond.instanceMethod y).before a0 Z = true) (wp : (Jvm.Cond.publicMethod y).before a0 Z = true) (wu : (Jvm.Cond.unhidden K' y0.name y0.desc).before a0 Z = true) (wk : (Jvm.Cond.castable K' y0.cls).before a0 Z = true) (wz : (Jvm.Cond.initialized y.cls).before a0 Z = true) (wc : (Jvm.Cond.code y b' mx rt).before a0 Z = true) (hy : y0.cls ≠ "java/lang/invoke/MethodHandle" ∧ y0.cls ≠ "java/lang/invoke/VarHandle") (E : Exa Z h a K') (K : Met1 l Z y b' mx rt rm' n0 as' h Q') (argsL : List Value) {stk : List Value} (hst : stk = argsL.reverse ++ .ref a :: st) (has : as' = (Value.ref a :: argsL).toArray) {ps : List FieldType} {r' : Option FieldType} (pd : parseMethodDescriptor y0.desc = some ⟨ps, r'⟩) (hlen : argsL.length = ps.length) (hsz : L.size = maxL) (hf : rm'.frames + 1 ≤ rm.frames) {W : Nat} (hW : (st.map fun v => v.category).sum ≤ W) (hlo : W + (mx + 11) + rm'.locals ≤ rm.locals) (hc : k + rm'.cells ≤ rm.cells) (hs : n + rm'.slots ≤ rm.slots) (hd : decode bytes pc = .ok (.invokeinterface i cnt, 5)) (hpc : pc + 5 = pc') (go : ∀ v h', Q' v h' → Go B n0 Q h' (k + rm'.cells) (n + rm'.slots) pc' L (v.toList ++ st)) : Go B n0 Q h k n pc L stk := fun T locs X N eT => by
  subst hst has
  obtain ⟨cq, kq, qa, qb, qc⟩ := isOf C.2.2.2.2.1 eT E
  obtain ⟨v, _, ⟨T', L1, k1, n1⟩, -, X', ⟨L2, ⟨N', hq⟩, l1, l2, l3⟩, f⟩ := X.interfaceBack C.2.2.1 (xi := y0) (y := y) C.2.2.2.2.2.1 (mvT C.2.2.2.2.1 w1) (mvT C.2.2.2.2.1 w2) (mvT C.2.2.2.2.1 wf (by simp [Cond.onTables, Cond.keepsFace, Cond.keeps, Cond.steady, hwf])) (mvT C.2.2.2.2.1 w3) (mvT C.2.2.2.2.1 w4) (mvT C.2.2.2.2.1 wp) (mvT C.2.2.2.2.1 wu) (mvT C.2.2.2.2.1 wk) hy (backOf (W := W) (Q := fun v h L => Fr n0 L ∧ Q' v h) (C.1 ▸ K []) C.2.2.2.2.1 wc wz (by rw [C.2.1]; exact hf) (by rw [C.2.1]; exact hlo)) qa qb qc (g := mkF B.m pc L (argsL.reverse ++ .ref a :: st)) rfl (by rw [C.2.2.2.2.2.2.2.1]; exact hsz) (Steps.refl _) (argsL := argsL) (rest := st) (lenOf pd hlen) rfl (by show 2 * 0 + _ ≤ _; omega) (hb C.2.2.2.1 hd) (fun _ _ => ⟨rfl, eT, by rw [C.2.1]; exact hc, by rw [C.2.1]; exact hs⟩)
  dsimp only [Pt.U, Pt.locs, Pt.cells, Pt.slots] at X' l1 l2 l3 f hq
  subst l1 l2 l3
  obtain ⟨t, o, q, r⟩ := go v _ hq T' _ X' (Fr.app N N') rfl
  subst hpc
  exact ⟨t, o, f.trans q, r⟩
theorem own_mvRef {Z T : State} {args : Array Value} {own : String} {i : Nat} {y : MethodName} {mq : MethodId} (hZ : Z.Warmed39 T.vm) (hn : Z.methodNamed? y = some mq) (hy : y.cls ≠ "java/lang/invoke/MethodHandle" ∧ y.cls ≠ "java/lang/invoke/VarHandle") (w : (Jvm.Cond.methodRef own i y).before a0 Z = true) : (Jvm.Cond.methodRef own i y).before args T = true := by
  have h1 : (Jvm.Cond.methodRef own i y).before a0 (Z.setVm T.vm) = true := Cond.methodRef_warmed39 hZ hn hy w
  exact h1
/-- a constructor by an entry that has been used before -/
theorem g_specialRef (C : Ctx B l rm bytes own nm maxL ret Z) {i : Nat} {y : MethodName} {b' : ByteArray} {mx : Nat} {rm' : Room} {as' : Array Value} {Q' : Option Value → Heap → Prop} (hy1 : y.name = "<init>") (w1 : (Jvm.Cond.methodRef own i y).before a0 Z = true) (w2 : (Jvm.Cond.instanceMethod y).before a0 Z = true) (wz : (Jvm.Cond.initialized y.cls).before a0 Z = true) (wc : (Jvm.Cond.code y b' mx none).before a0 Z = true) (hy : y.cls ≠ "java/lang/invoke/MethodHandle" ∧ y.cls ≠ "java/lang/invoke/VarHandle") (K : Met1 l Z y b' mx none rm' n0 as' h Q') (argsL : List Value) {stk : List Value} (hst : stk = argsL.reverse ++ .ref a :: st) (has : as' = (Value.ref a :: argsL).toArray) {ps : List FieldType} {r' : Option FieldType} (pd : parseMethodDescriptor y.desc = some ⟨ps, r'⟩) (hlen : argsL.length = ps.length) (hsz : L.size = maxL) (hf : rm'.frames + 1 ≤ rm.frames) {W : Nat} (hW : (st.map fun v => v.category).sum ≤ W) (hlo : W + (mx + 11) + rm'.locals ≤ rm.locals) (hc : k + rm'.cells ≤ rm.cells) (hs : n + rm'.slots ≤ rm.slots) (hd : decode bytes pc = .ok (.invokespecial i, 3)) (hpc : pc + 3 = pc') (go : ∀ v h', Q' v h' → Go B n0 Q h' (k + rm'.cells) (n + rm'.slots) pc' L (v.toList ++ st)) : Go B n0 Q h k n pc L stk := fun T locs X N eT => by
  subst hst has
  have hZT : Z.Warmed39 T.vm := wtrans C.2.2.2.2.1 X.warmed
  obtain ⟨mz, methZ, hnZ, -⟩ := Cond.instanceMethod_spec w2
  have hownT : T.vm.findClass own = some B.m.cls := by rw [X.warmed.alike.findClass]; exact C.2.2.2.2.2.1
  obtain ⟨m1, c1, hfound, hready, hcls, hnames⟩ := Cond.methodRef_named B.e hownT (own_mvRef (args := B.args) hZT hnZ hy w1)
  obtain ⟨mq, methM, hnamed, hmethM, hstM, habM⟩ := Cond.instanceMethod_spec (mv (args := B.args) hZT w2)
  obtain rfl : mq = m1 := Option.some.inj ((State.methodFound?_of_named hnamed hy).symm.trans hfound)
  obtain rfl : mq.cls = c1 := Option.some.inj ((findClass_of_methodNamed hnamed).symm.trans hcls)
  obtain ⟨kP, hkP, -⟩ := className_of_methodNamed hnamed
  obtain ⟨hnm1, hds1⟩ := name_of_methodNamed hnamed hmethM
  obtain ⟨methM', cM, hmethM', -, -, -, -, -, -, hsigM⟩ := Cond.code_spec hnamed (mv (args := B.args) hZT wc)
  cases hmethM.symm.trans hmethM'
  have hlook : lookupSpecial T.vm mq.cls "<init>" methM.desc = .method mq := by
    have q := lookupSpecial_of_named hnamed hmethM hstM
    rw [hy1] at q; rw [hds1]; exact q
  have hl : argsL.length = methM.sig.parameters.length := lenOf pd hlen _ hsigM
  have hdc : decode B.c.code pc = .ok (.invokespecial i, 3) := hb C.2.2.2.1 hd
  have step : ∀ target, (∀ acts, Steps B.p.tables B.e B.below (doInvoke B.e (T.setTop (mkF B.m pc L st)) acts mq (.ref a :: argsL).toArray).1 target) → Steps B.p.tables B.e B.below (T.setTop (mkF B.m pc L (argsL.reverse ++ .ref a :: st))) target := fun target hr => by
    jvm_step X.here [C.2.2.1, hdc, invokespecial.wp_init (e := B.e) (s := T) (f := mkF B.m pc L (argsL.reverse ++ .ref a :: st)) (k := kP) (meth := methM) (m := mq) (a := a) (args := argsL) (rest := st) X.here.top hnames hready hkP hmethM (hnm1.trans hy1) hstM habM hlook hl rfl]
    exact hr
  have hK := backOf (R := B.R) (l := B.l) (s := B.s) (p := B.p) (e := B.e) (below := B.below) (args := B.args) (len := 3) (W := W) (Q := fun v h L => Fr n0 L ∧ Q' v h) (C.1 ▸ K []) C.2.2.2.2.1 wc wz (by rw [C.2.1]; exact hf) (by rw [C.2.1]; exact hlo)
  obtain ⟨v, ⟨T', L1, k1, n1⟩, X', ⟨L2, ⟨N', hq⟩, l1, l2, l3⟩, f⟩ := hK B.m B.meth B.c ⟨T, locs, k, n⟩ (mkF B.m pc L st) (.invokespecial i) mq (.ref a :: argsL).toArray X rfl (by rw [C.2.2.2.2.2.2.2.1]; exact hsz) hdc (by show 2 * 0 + (st.map fun v => v.category).sum ≤ W; omega) hnamed ⟨rfl, eT, by rw [C.2.1]; exact hc, by rw [C.2.1]; exact hs⟩
  dsimp only [Pt.U, Pt.locs, Pt.cells, Pt.slots] at X' l1 l2 l3 f hq
  subst l1 l2 l3
  obtain ⟨t, o, q, r⟩ := go v _ hq T' _ X' (Fr.app N N') rfl
  subst hpc
  exact ⟨t, o, (step _ fun acts => by rw [doInvoke_state]; exact Steps.refl _).trans (f.trans q), r⟩
end Third
end Jvm.OwnKit
namespace Jvm.OwnKit
open Jvm Jvm.ClassFile Sem Op Lib Jvm.Stand Jvm.Free Jvm.LawKit Jvm.RoadKit
/-! roads on which a callee may load String constants: the wide end with a word on the tables it leaves -/
section WideV
variable {B : Bod} {l : Launch} {rm : Room} {bytes : ByteArray} {own nm : String} {maxL : Nat} {ret : Option FieldType} {Z : State} {n0 : Nat} {Q : Option Value → Heap → Prop} {h : Heap} {k n pc pc' : Nat} {L L' : Array Slot} {st st' : List Value} {a0 : Array Value} {V V' : Vm → Heap → Prop} {P : Vm → Prop}
theorem eN (hN : B.1 = none) : EndOk B h := fun V e => by rw [hN] at e; cases e
theorem eW (hW : B.1 = some V) (q : ∀ vm', B.s.WarmedH vm' → V vm' h) : EndOk B h := fun V' e => by rw [hW] at e; cases e; exact q
def Met1V (l : Launch) (Z : State) (y : MethodName) (bytes : ByteArray) (maxL : Nat) (ret : Option FieldType) (rm : Room) (n0 : Nat) (as' : Array Value) (h0 : Heap) (P : Vm → Prop) (V : Vm → Heap → Prop) (Q : Option Value → Heap → Prop) : Prop :=
  ∀ ws : List Jvm.Cond, MetFree l y (head1 (Jvm.Cond.code y bytes maxL ret :: ws) rm) (fun a U => a = as' ∧ Z.Warmed39 U.vm ∧ U.heap = h0 ∧ P U.vm) (fun _ _ _ _ _ => True) (fun _ U o U' => ∃ v L, o = .returned v ∧ (Fr n0 L ∧ Q v U'.heap ∧ V U'.vm U'.heap) ∧ ReturnedEndW U o U' L rm.cells rm.slots)
/-- at the body's first instruction, nothing written and nothing made -/
def Go0 (B : Bod) (n0 : Nat) (Q : Option Value → Heap → Prop) (h : Heap) (pc : Nat) (L : Array Slot) (st : List Value) : Prop :=
  ∀ T, St B T [] 0 0 → T.heap = h → Fin0 B n0 Q (mkF B.m pc L st) T
theorem Go.zero (go : Go B n0 Q h 0 0 pc L st) : Go0 B n0 Q h pc L st := fun T X eT => go T [] X (Fr.nil n0) eT
theorem Go0.step (f : ∀ T locs, St B T locs 0 0 → T.heap = h → ∀ t, Steps B.p.tables B.e B.below (T.setTop (mkF B.m pc' L' st')) t → Steps B.p.tables B.e B.below (T.setTop (mkF B.m pc L st)) t) (go : Go0 B n0 Q h pc' L' st') : Go0 B n0 Q h pc L st := fun T X eT => by
  obtain ⟨t, o, a, r⟩ := go T X eT
  exact ⟨t, o, f T [] X eT t a, r⟩
theorem met_ofV0 {y : MethodName} {as' : Array Value} (hp : plainFor y = true) {L0 : Array Slot} (hL : argsToLocals as' maxL = L0) (go : ∀ B : Bod, Ctx B l rm bytes y.cls y.name maxL ret Z → B.1 = some V → B.s.heap = h → P B.s.vm → Go0 B n0 Q h 0 L0 []) : Met1V l Z y bytes maxL ret rm n0 as' h P V Q := by
  intro ws
  refine MetFree.of_bodySF hp hisR ?_
  intro p e s m args below meth c s₁ Bd hml0 hP hK
  obtain ⟨rfl, hZ, hh, hPP⟩ := hP
  subst hL
  obtain ⟨t, o, h1, h2, h3, v, L, h4, h5, h6, h7⟩ := go (some V, p, l, e, rm, s, m, args, below, meth, c) ⟨rfl, rfl, Bd.exec, Bd.bytes, hZ, findClass_of_methodNamed Bd.named, (name_of_methodNamed Bd.named Bd.method).1, hml0, Bd.returns, BodyLoose.notSynchronized Bd⟩ rfl hh hPP s₁ (Stand.of_body Bd) (by rw [← hh, Bd.state]; rfl)
  exact ⟨t, o, h1, h2, h3, v, L, h4, ⟨h5.1, h5.2, h7⟩, h6⟩
theorem met_ofV {y : MethodName} {as' : Array Value} (hp : plainFor y = true) {L0 : Array Slot} (hL : argsToLocals as' maxL = L0) (go : ∀ B : Bod, Ctx B l rm bytes y.cls y.name maxL ret Z → B.1 = some V → P B.s.vm → Go B n0 Q h 0 0 0 L0 []) : Met1V l Z y bytes maxL ret rm n0 as' h P V Q :=
  met_ofV0 hp hL fun B C hW _ hPP => (go B C hW hPP).zero
def Bod.tab (B : Bod) (vm : Vm) : Bod := (B.1, B.p, B.l, B.e, B.R, B.s.setVm vm, B.m, B.args, B.below, B.meth, B.c)
theorem Fin0.tab {g g' : JFrame} {T T' : State} (hW : B.1 = some V) (hS : B.s.Since T'.vm T'.heap.size) (f : ∀ t, Steps B.p.tables B.e B.below (T'.setTop g') t → Steps B.p.tables B.e B.below (T.setTop g) t) (go : Fin0 (B.tab T'.vm) n0 Q g' T') : Fin0 B n0 Q g T := by
  obtain ⟨t, o, h1, h2, h3, v, L, h4, h5, h6⟩ := go
  have hle0 : (T'.setTop g').heap.size ≤ t.heap.size := Steps.heap_le h1
  have hle : T'.heap.size ≤ t.heap.size := hle0
  refine ⟨t, o, f t h1, h2, h3, v, L, h4, h5, ?_⟩
  have h7 : EndB B.1 (B.s.setVm T'.vm) o t L B.R.cells B.R.slots := h6
  rw [hW] at h7 ⊢
  obtain ⟨⟨q1, q2, q3, q4⟩, q5⟩ := h7
  have h8 := hS.trans ⟨q2, q3⟩ hle
  exact ⟨⟨q1, h8.1, h8.2, q4.setVm B.s.vm⟩, q5⟩
theorem Ctx.tab (C : Ctx B l rm bytes own nm maxL ret Z) {vm : Vm} (hW : B.s.Warmed39 vm) : Ctx (B.tab vm) l rm bytes own nm maxL ret Z :=
  ⟨C.1, C.2.1, C.2.2.1, C.2.2.2.1, State.Warmed39.trans C.2.2.2.2.1 hW, by show vm.findClass own = _; rw [hW.alike.findClass]; exact C.2.2.2.2.2.1, C.2.2.2.2.2.2⟩
theorem backOfV {p : Program} {e : Env} {R : Room} {s : State} {args : Array Value} {below : List Frame} {y : MethodName} {bytes : ByteArray} {maxL : Nat} {ret : Option FieldType} {rm : Room} {len W : Nat} {as' : Array Value} {Q : Option Value → Heap → Prop}
    (hM : Met1V l Z y bytes maxL ret rm n0 as' h P V Q) (hPw : ∀ vm', s.WarmedH vm' → P vm')
    (hZ : Z.Warmed39 s.vm) (wc : (Cond.code y bytes maxL ret).before a0 Z = true) (wz : (Cond.initialized y.cls).before a0 Z = true) (hf : rm.frames + 1 ≤ R.frames) (hl : W + (maxL + 11) + rm.locals ≤ R.locals) :
    BackS l R p e below s args y len W (fun A a => a = as' ∧ A.U.heap = h ∧ A.cells + rm.cells ≤ R.cells ∧ A.slots + rm.slots ≤ R.slots)
      (fun A _ v B => ∃ L, (Fr n0 L ∧ Q v B.U.heap ∧ V B.U.vm B.U.heap) ∧ B.locs = A.locs ++ L ∧ B.cells = A.cells + rm.cells ∧ B.slots = A.slots + rm.slots) :=
  BackS.of_freeW (bytes := bytes) (maxL := maxL) (ret := ret) (E := fun _ _ o t L k n => k = rm.cells ∧ n = rm.slots ∧ ∃ v, o = .returned v ∧ (Fr n0 L ∧ Q v t.heap ∧ V t.vm t.heap)) (hM []) hf hl
    (fun m meth c A a Y hp => have hU : Z.Warmed39 A.U.vm := wtrans hZ Y.warmed
      ⟨by show (Cond.and _ .tt).before a A.U = true; rw [Cond.before_and, mv hU wc]; rfl, mv hU wc, mv hU wz, hp.2.2.1, hp.2.2.2⟩)
    (fun m meth c A a g mk Y hp => ⟨hp.1, wtrans hZ Y.warmed, hp.2.1, hPw _ Y.warmed⟩) (fun _ _ _ _ _ _ _ _ _ => trivial)
    (fun _ _ _ _ ⟨v, L, h1, h2, h3⟩ => ⟨L, _, _, h3, rfl, rfl, v, h1, h2⟩)
    (fun m meth c A a g mk v t L k n Y hp _ _ ⟨e1, e2, v', e3, e4⟩ => by cases e3; subst e1 e2; exact ⟨L, e4, rfl, rfl, rfl⟩)
theorem g_staticV (C : Ctx B l rm bytes own nm maxL ret Z) (hB : B.1 = some V) {i : Nat} {y : MethodName} {b' : ByteArray} {mx : Nat} {rt : Option FieldType} {rm' : Room} {as' : Array Value} {Q' : Option Value → Heap → Prop} (w1 : (Jvm.Cond.methodLink own i y).before a0 Z = true) (w2 : (Jvm.Cond.static y).before a0 Z = true) (wz : (Jvm.Cond.initialized y.cls).before a0 Z = true) (wc : (Jvm.Cond.code y b' mx rt).before a0 Z = true) (hy : y.cls ≠ "java/lang/invoke/MethodHandle" ∧ y.cls ≠ "java/lang/invoke/VarHandle") (K : Met1V l Z y b' mx rt rm' n0 as' h P V' Q') (hP : ∀ vm', B.s.WarmedH vm' → P vm') (argsL : List Value) {stk : List Value} (hst : stk = argsL.reverse ++ st) (has : as' = argsL.toArray) {ps : List FieldType} {r' : Option FieldType} (pd : parseMethodDescriptor y.desc = some ⟨ps, r'⟩) (hlen : argsL.length = ps.length) (hsz : L.size = maxL) (hf : rm'.frames + 1 ≤ rm.frames) {W : Nat} (hW : (st.map fun v => v.category).sum ≤ W) (hlo : W + (mx + 11) + rm'.locals ≤ rm.locals) (hc : k + rm'.cells ≤ rm.cells) (hs : n + rm'.slots ≤ rm.slots) (hd : decode bytes pc = .ok (.invokestatic i, 3)) (hpc : pc + 3 = pc')
    (go : ∀ B' : Bod, Ctx B' l rm bytes own nm maxL ret Z → B'.1 = some V → ∀ v h', Q' v h' → V' B'.s.vm h' → Go B' n0 Q h' (k + rm'.cells) (n + rm'.slots) pc' L (v.toList ++ st)) : Go B n0 Q h k n pc L stk := fun T locs X N eT => by
  subst hst has
  obtain ⟨v, _, ⟨T', L1, k1, n1⟩, -, X', hS, -, ⟨L2, ⟨N', hq, hv⟩, l1, l2, l3⟩, f⟩ := Jvm.RoadKit.callSS X C.2.2.1 (y := y) C.2.2.2.2.2.1 (mvT C.2.2.2.2.1 w1) (mvT C.2.2.2.2.1 w2) (mvT C.2.2.2.2.1 wz) (mvT C.2.2.2.2.1 wc) hy (backOfV (W := W) (C.1 ▸ K) hP C.2.2.2.2.1 wc wz (by rw [C.2.1]; exact hf) (by rw [C.2.1]; exact hlo)) (g := mkF B.m pc L (argsL.reverse ++ st)) rfl (by rw [C.2.2.2.2.2.2.2.1]; exact hsz) (argsL := argsL) (rest := st) (lenOf pd hlen) rfl (by show 2 * 0 + _ ≤ _; omega) (hb C.2.2.2.1 hd) (fun _ _ => ⟨rfl, eT, by rw [C.2.1]; exact hc, by rw [C.2.1]; exact hs⟩)
  dsimp only [Pt.U, Pt.locs, Pt.cells, Pt.slots] at X' l1 l2 l3 f hq hS hv
  subst l1 l2 l3
  subst hpc
  exact Fin0.tab hB hS (fun t q => f.trans q) (go (B.tab T'.vm) (C.tab hS.1) hB v _ hq hv T' _ X' (Fr.app N N') rfl)
theorem g_specialV (C : Ctx B l rm bytes own nm maxL ret Z) (hB : B.1 = some V) {i : Nat} {y : MethodName} {b' : ByteArray} {mx : Nat} {rm' : Room} {as' : Array Value} {Q' : Option Value → Heap → Prop} {a : Addr} (hy1 : y.name = "<init>") (w1 : (Jvm.Cond.methodLink own i y).before a0 Z = true) (w2 : (Jvm.Cond.instanceMethod y).before a0 Z = true) (wz : (Jvm.Cond.initialized y.cls).before a0 Z = true) (wc : (Jvm.Cond.code y b' mx none).before a0 Z = true) (hy : y.cls ≠ "java/lang/invoke/MethodHandle" ∧ y.cls ≠ "java/lang/invoke/VarHandle") (K : Met1V l Z y b' mx none rm' n0 as' h P V' Q') (hP : ∀ vm', B.s.WarmedH vm' → P vm') (argsL : List Value) {stk : List Value} (hst : stk = argsL.reverse ++ .ref a :: st) (has : as' = (Value.ref a :: argsL).toArray) {ps : List FieldType} {r' : Option FieldType} (pd : parseMethodDescriptor y.desc = some ⟨ps, r'⟩) (hlen : argsL.length = ps.length) (hsz : L.size = maxL) (hf : rm'.frames + 1 ≤ rm.frames) {W : Nat} (hW : (st.map fun v => v.category).sum ≤ W) (hlo : W + (mx + 11) + rm'.locals ≤ rm.locals) (hc : k + rm'.cells ≤ rm.cells) (hs : n + rm'.slots ≤ rm.slots) (hd : decode bytes pc = .ok (.invokespecial i, 3)) (hpc : pc + 3 = pc')
    (go : ∀ B' : Bod, Ctx B' l rm bytes own nm maxL ret Z → B'.1 = some V → ∀ v h', Q' v h' → V' B'.s.vm h' → Go B' n0 Q h' (k + rm'.cells) (n + rm'.slots) pc' L (v.toList ++ st)) : Go B n0 Q h k n pc L stk := fun T locs X N eT => by
  subst hst has
  obtain ⟨v, _, ⟨T', L1, k1, n1⟩, -, X', hS, -, ⟨L2, ⟨N', hq, hv⟩, l1, l2, l3⟩, f⟩ := X.specialBackS C.2.2.1 (y := y) hy1 C.2.2.2.2.2.1 (mvT C.2.2.2.2.1 w1) (mvT C.2.2.2.2.1 w2) (mvT C.2.2.2.2.1 wc) hy (backOfV (W := W) (C.1 ▸ K) hP C.2.2.2.2.1 wc wz (by rw [C.2.1]; exact hf) (by rw [C.2.1]; exact hlo)) (g := mkF B.m pc L (argsL.reverse ++ .ref a :: st)) rfl (by rw [C.2.2.2.2.2.2.2.1]; exact hsz) (Steps.refl _) (a := a) (argsL := argsL) (rest := st) (lenOf pd hlen) rfl (by show 2 * 0 + _ ≤ _; omega) (hb C.2.2.2.1 hd) (fun _ _ => ⟨rfl, eT, by rw [C.2.1]; exact hc, by rw [C.2.1]; exact hs⟩)
  dsimp only [Pt.U, Pt.locs, Pt.cells, Pt.slots] at X' l1 l2 l3 f hq hS hv
  subst l1 l2 l3
  subst hpc
  exact Fin0.tab hB hS (fun t q => f.trans q) (go (B.tab T'.vm) (C.tab hS.1) hB v _ hq hv T' _ X' (Fr.app N N') rfl)
/-! the empty String's constant: what is known of it -/
def EStr (Z : State) (h : Heap) (a b : Addr) : Prop := Exa Z h a "java/lang/String" ∧ Fld Z h a "java/lang/String" "coder" "B" (.int 0) ∧ Fld Z h a "java/lang/String" "value" "[B" (.ref b) ∧ Ary Z h b .byte []
def Inv (Z : State) (vm : Vm) (h : Heap) : Prop := (∃ Ts : List String, "" ∉ Ts ∧ IB Z vm Ts) ∨ ∃ a b, Lit (Z.setVm vm) "java/lang/String" 7 a ∧ EStr Z h a b
theorem EStr.ext {h' : Heap} {a b : Addr} (F : EStr Z h a b) (E : Ext h h') : EStr Z h' a b := ⟨F.1.ext E, F.2.1.ext E, F.2.2.1.ext E, F.2.2.2.ext E⟩
theorem EStr.keep {h' : Heap} {a b : Addr} {ws : List Addr} (F : EStr Z h a b) (K : Keep h h' ws) (q1 : a ∉ ws) (q2 : b ∉ ws) : EStr Z h' a b := ⟨F.1.keep K, F.2.1.keep K q1, F.2.2.1.keep K q1, F.2.2.2.keep K q2⟩
theorem Inv.start : Inv Z Z.vm h := Or.inl ⟨[], by simp, IB.start⟩
theorem Inv.ext {vm : Vm} {h' : Heap} (I : Inv Z vm h) (E : Ext h h') : Inv Z vm h' := I.imp id fun ⟨a, b, L, F⟩ => ⟨a, b, L, F.ext E⟩
theorem Inv.keep0 {vm : Vm} {h' : Heap} (I : Inv Z vm h) (K : Keep h h' []) : Inv Z vm h' := I.imp id fun ⟨a, b, L, F⟩ => ⟨a, b, L, F.keep K nin0 nin0⟩
theorem Inv.warm {s : State} {vm' : Vm} (I : Inv Z s.vm h) (hW : s.WarmedH vm') : Inv Z vm' h := by
  rcases I with ⟨Ts, q, more, e, hm⟩ | ⟨a, b, L, F⟩
  · exact Or.inl ⟨Ts, q, more, by rw [hW.interned_eq]; exact e, hm⟩
  · exact Or.inr ⟨a, b, Lit.stays (s := s) (vm0 := s.vm) L hW.wide, F⟩
end WideV
end Jvm.OwnKit
namespace Jvm.OwnKit
open Jvm Jvm.ClassFile Sem Op Lib Jvm.Stand Jvm.Free Jvm.LawKit Jvm.RoadKit
section Fresh
variable {p : Program} {l : Launch} {e : Env} {R : Room} {s : State} {m : MethodId} {args : Array Value} {below : List Frame} {meth : Method} {c : Code} {T T' : State} {locs : List Loc} {cells slots c2 n2 : Nat} {vm1 : Vm}
abbrev frs (s T : State) : State := { s with heap := T.heap, slotsUsed := T.slotsUsed }
abbrev frR (R : Room) (cells slots : Nat) : Room := { R with cells := R.cells - cells, slots := R.slots - slots }
theorem st_fresh (X : Stand p l e R s m args below meth c T locs cells slots) (hc : cells ≤ R.cells) (hs : slots ≤ R.slots) : Stand p l e (frR R cells slots) (frs s T) m args below meth c T [] 0 0 := by
  have hroom := X.room
  have hsz := X.heapSize
  have hus := X.used
  refine ⟨X.admits, X.cas, X.clock, X.frames, ?_, X.hears, X.method, X.code, X.here, X.tail, X.warmed, X.limits, X.bytes, ?_⟩
  · have hb := X.book
    unfold State.hasRoom at hroom ⊢
    simp only [Bool.and_eq_true, decide_eq_true_eq] at hroom ⊢
    obtain ⟨⟨⟨⟨r1, r2⟩, r3⟩, r4⟩, r5⟩ := hroom
    refine ⟨⟨⟨⟨r1, r2⟩, ?_⟩, ?_⟩, hb⟩
    · show T.heap.size + (R.cells - cells) ≤ _; omega
    · show T.slotsUsed + (R.slots - slots) ≤ _; omega
  · have e1 := X.same.1
    refine ⟨?_, Nat.le_refl _, Nat.le_refl _, ?_, ?_, fun a c h => ⟨c, h, rfl, rfl, fun _ _ => rfl⟩⟩
    · refine e1.trans ?_
      rfl
    · show T.slotsUsed = T.slotsUsed + ((T.heap.toList.drop T.heap.size).map (·.slots.size)).sum
      rw [List.drop_of_length_le (by simp)]; rfl
    · show ((T.heap.toList.drop T.heap.size).map (·.slots.size)).sum ≤ 0
      rw [List.drop_of_length_le (by simp)]; exact Nat.le_refl _
theorem st_back (X : Stand p l e R s m args below meth c T locs cells slots) (hW : s.Warmed39 vm1) (X' : Stand p l e (frR R cells slots) ((frs s T).setVm vm1) m args below meth c T' [] c2 n2) : Stand p l e R (s.setVm vm1) m args below meth c T' locs (cells + c2) (slots + n2) := by
  have Y := X.retabled hW
  refine ⟨Y.admits, Y.cas, Y.clock, Y.frames, Y.room, Y.hears, Y.method, Y.code, X'.here, X'.tail, X'.warmed, X'.limits, X'.bytes, ?_⟩
  have h1 := Y.same
  have h2 := X'.same
  have e1 := h1.1
  have h3 : (T.setVm vm1).sameButNew (T'.setVm vm1) [] c2 n2 := by
    have e2 : (T.setVm vm1) = ((frs s T).setVm vm1).setFrames T.frames := e1.trans rfl
    rw [e2]
    refine ⟨h2.1.trans ?_, h2.2⟩
    simp
  have h4 := h1.trans h3
  rwa [List.append_nil] at h4
end Fresh
section LdcK
variable {B : Bod} {l : Launch} {rm : Room} {bytes : ByteArray} {own nm : String} {maxL : Nat} {ret : Option FieldType} {Z : State} {n0 n1 : Nat} {Q : Option Value → Heap → Prop} {h : Heap} {k n pc pc' : Nat} {L L' : Array Slot} {st st' : List Value} {a0 : Array Value} {V : Vm → Heap → Prop}
theorem g_ldcT (C : Ctx B l rm bytes own nm maxL ret Z) (hB : B.1 = some V) {i : Nat} {text : String} {Ts : List String} (w : (Jvm.Cond.stringLink own i text).before a0 Z = true) (wS : ∀ a ∈ Bundle.stringAtoms, a.before a0 Z = true) (O : Old Z n1 h) (I : IB Z B.s.vm Ts) (hnot : text ∉ Ts) (hh : Jvm.Lit.constHeld Z own i) (hcw : Jvm.Lit.compactW.before a0 Z = true) {vs : List Value} {z : Int32} (ht : (∀ c ∈ text.toList, c.toNat < 256) ∧ text.toList.map (fun c => Value.int (Jvm.Lit.byteI c.toNat.toUInt16)) = vs) (hz : ¬ z < 0) (hl : z.toNatClampNeg = vs.length)
    {nn : Nat} (hn : 4 * text.toList.length ≤ nn) (hbig : nn ≤ 536870912) (hc : k + 2 ≤ rm.cells) (hl' : n + (nn + 4) ≤ rm.slots) (hd : decode bytes pc = .ok (.ldc i, 2)) (hpc : pc + 2 = pc')
    (go : ∀ B' : Bod, Ctx B' l rm bytes own nm maxL ret Z → B'.1 = some V → B.s.Warmed39 B'.s.vm → ∀ h' a b kk, Ext h h' → Exa Z h' a "java/lang/String" → Fld Z h' a "java/lang/String" "coder" "B" (.int 0) → Fld Z h' a "java/lang/String" "value" "[B" (.ref b) → Arv Z h' b kk .byte z vs (.int 0) → IB Z B'.s.vm (text :: Ts) → Lit (Z.setVm B'.s.vm) own i a → Go B' n0 Q h' (k + 2) (n + (nn + 4)) pc' L (.ref a :: st)) : Go B n0 Q h k n pc L st := fun T locs X N eT => by
  have hR : B.R = rm := C.2.1
  have X0 := st_fresh X (by rw [hR]; omega) (by rw [hR]; omega)
  obtain ⟨a, T', h', k1, b, kk, X', e', E, hS, hk, hZ', hown', f1, f2, f3, f4, -, -, hI, hLit, f⟩ := ldcSVL (s := frs B.s T) (vm0 := B.s.vm) X0 C.2.2.1 C.2.2.2.2.1 C.2.2.2.2.2.1 w wS eT ((State.WarmedH.refl (frs B.s T)).since 0) (Nat.zero_le _) (Fr.nil _) (fun b cl q => by show T.heap[b]? = _; rw [eT]; exact O.2.2 b cl q) I hnot hh hcw ht hz hl (g := mkF B.m pc L st) rfl (hb C.2.2.2.1 hd) hn hbig (by show 0 + 2 ≤ B.R.cells - k; rw [hR]; omega) (by show 0 + (nn + 4) ≤ B.R.slots - n; rw [hR]; omega)
  have hW : B.s.Warmed39 T'.vm := hS.1
  have X2 := st_back X hW X'
  have hle : B.s.heap.size ≤ T.heap.size := X.same.2.1
  have hS' : B.s.Since T'.vm T'.heap.size := ⟨hW, fun j p hj hp => ⟨Nat.le_trans hle (hS.2 j p hj hp).1, Nat.lt_of_lt_of_le (hS.2 j p hj hp).2 (by rw [e']; exact hk)⟩⟩
  subst hpc
  exact Fin0.tab hB hS' f (go (B.tab T'.vm) (C.tab hW) hB hW h' a b kk E f1 f2 f3 f4 hI hLit T' locs (X2.mono (by omega) (by omega)) N e')
/-- what is known of the constants K since the case's start -/
def InvK (K : List (String × Nat × String)) (Z : State) (vm : Vm) (h : Heap) : Prop := ∃ Ts, IB Z vm Ts ∧ ∀ q ∈ K, q.2.2 ∉ Ts ∨ ∃ a, Lit (Z.setVm vm) q.1 q.2.1 a ∧ (q.2.2 = "" → ∃ b, EStr Z h a b)
variable {K : List (String × Nat × String)} {h' : Heap} {vm : Vm}
theorem InvK.start : InvK K Z Z.vm h := ⟨[], IB.start, fun q _ => Or.inl (by simp)⟩
theorem InvK.ext (I : InvK K Z vm h) (E : Ext h h') : InvK K Z vm h' := by
  obtain ⟨Ts, i1, i2⟩ := I
  exact ⟨Ts, i1, fun q hq => (i2 q hq).imp id fun ⟨a, La, F⟩ => ⟨a, La, fun e => (F e).imp fun b f => f.ext E⟩⟩
theorem InvK.keep0 (I : InvK K Z vm h) (Kp : Keep h h' []) : InvK K Z vm h' := by
  obtain ⟨Ts, i1, i2⟩ := I
  exact ⟨Ts, i1, fun q hq => (i2 q hq).imp id fun ⟨a, La, F⟩ => ⟨a, La, fun e => (F e).imp fun b f => f.keep Kp nin0 nin0⟩⟩
theorem InvK.warm {s : State} {vm' : Vm} (I : InvK K Z s.vm h) (hW : s.WarmedH vm') : InvK K Z vm' h := by
  obtain ⟨Ts, ⟨more, e, hm⟩, i2⟩ := I
  exact ⟨Ts, ⟨more, by rw [hW.interned_eq]; exact e, hm⟩, fun q hq => (i2 q hq).imp id fun ⟨a, La, F⟩ => ⟨a, Lit.stays (s := s) (vm0 := s.vm) La hW.wide, F⟩⟩
theorem g_ldcK (C : Ctx B l rm bytes own nm maxL ret Z) (hB : B.1 = some V) {i : Nat} {text : String} (hq : (own, i, text) ∈ K) (hK : ∀ q ∈ K, q.2.2 = text → q = (own, i, text)) (w : (Jvm.Cond.stringLink own i text).before a0 Z = true) (wS : ∀ a ∈ Bundle.stringAtoms, a.before a0 Z = true) (O : Old Z n1 h) (I : InvK K Z B.s.vm h) (hh : Jvm.Lit.constHeld Z own i) (hcw : Jvm.Lit.compactW.before a0 Z = true) {z : Int32} (ht : ∀ c ∈ text.toList, c.toNat < 256) (hz : ¬ z < 0) (hl : z.toNatClampNeg = text.toList.length)
    {nn : Nat} (hn : 4 * text.toList.length ≤ nn) (hbig : nn ≤ 536870912) (hc : k + 2 ≤ rm.cells) (hl' : n + (nn + 4) ≤ rm.slots) (hd : decode bytes pc = .ok (.ldc i, 2)) (hpc : pc + 2 = pc')
    (go : ∀ B' : Bod, Ctx B' l rm bytes own nm maxL ret Z → B'.1 = some V → ∀ h' a, Ext h h' → InvK K Z B'.s.vm h' → Lit (Z.setVm B'.s.vm) own i a → (text = "" → ∃ b, EStr Z h' a b) → Go B' n0 Q h' (k + 2) (n + (nn + 4)) pc' L (.ref a :: st)) : Go B n0 Q h k n pc L st := by
  obtain ⟨Ts, i1, i2⟩ := I
  rcases i2 _ hq with hnot | ⟨a, La, F⟩
  · refine g_ldcT C hB w wS O i1 hnot hh hcw (z := z) ⟨ht, rfl⟩ hz (by rw [List.length_map]; exact hl) hn hbig hc hl' hd hpc ?_
    intro B' C' hB' hW h' a b kk E f1 f2 f3 f4 hI hLit
    have hE : text = "" → ∃ b, EStr Z h' a b := fun e => ⟨b, f1, f2, f3, by subst e; exact Arv.ary (show Arv Z h' b kk .byte z [] (.int 0) from f4) hl (by decide)⟩
    refine go B' C' hB' h' a E ⟨_, hI, fun q hq' => ?_⟩ hLit hE
    by_cases e : q.2.2 = text
    · have := hK q hq' e
      subst this
      exact Or.inr ⟨a, hLit, hE⟩
    · rcases i2 q hq' with q1 | ⟨a', La', F'⟩
      · exact Or.inl (by simp [e, q1])
      · exact Or.inr ⟨a', Lit.stays (s := B.s) (vm0 := B.s.vm) La' hW, fun e => (F' e).imp fun b f => f.ext E⟩
  · have hE : Ext h h := ⟨Nat.le_refl _, fun _ _ q => q⟩
    have go' := go B C hB h a hE ⟨Ts, i1, i2⟩ La F
    intro T locs X N eT
    obtain ⟨t, o, q, r⟩ := go' T locs (X.mono (by omega) (by omega)) N eT
    refine ⟨t, o, ?_, r⟩
    subst hpc
    exact ldcAgain (s := B.s) (vm0 := B.s.vm) X C.2.2.1 C.2.2.2.2.1 C.2.2.2.2.2.1 w La (g := mkF B.m pc L st) rfl (hb C.2.2.2.1 hd) t q
end LdcK
end Jvm.OwnKit
namespace Jvm.OwnKit
open Jvm Jvm.ClassFile Sem Op Lib Jvm.Stand Jvm.Free Jvm.LawKit Jvm.RoadKit
section LdcL
variable {B : Bod} {l : Launch} {rm : Room} {bytes : ByteArray} {own nm : String} {maxL : Nat} {ret : Option FieldType} {Z : State} {n0 n1 : Nat} {Q : Option Value → Heap → Prop} {h h' : Heap} {k n pc pc' : Nat} {L L' : Array Slot} {st st' : List Value} {a0 : Array Value} {V : Vm → Heap → Prop} {K : List (String × Nat × String)} {vm : Vm}
/-- a second load in the same body -/
theorem g_ldcL (C : Ctx B l rm bytes own nm maxL ret Z) {i : Nat} {text : String} {a : Addr} (w : (Jvm.Cond.stringLink own i text).before a0 Z = true) (La : Lit (Z.setVm B.s.vm) own i a) (hd : decode bytes pc = .ok (.ldc i, 2)) (hpc : pc + 2 = pc') (go : Go B n0 Q h k n pc' L (.ref a :: st)) : Go B n0 Q h k n pc L st := fun T locs X N eT => by
  obtain ⟨t, o, q, r⟩ := go T locs X N eT
  refine ⟨t, o, ?_, r⟩
  subst hpc
  exact ldcAgain (s := B.s) (vm0 := B.s.vm) X C.2.2.1 C.2.2.2.2.1 C.2.2.2.2.2.1 w La (g := mkF B.m pc L st) rfl (hb C.2.2.2.1 hd) t q
theorem Fld.det {a : Addr} {O fn d : String} {v v' : Value} (F : Fld Z h a O fn d v) (G : Fld Z h a O fn d v') : v = v' := by
  obtain ⟨cell, cf, k, i, f, h1, h2, h3, h4, h5, h6, h7⟩ := F
  obtain ⟨cell', cf', k', i', f', g1, g2, g3, g4, g5, g6, g7⟩ := G
  cases h1.symm.trans g1
  cases h2.symm.trans g2
  exact Option.some.inj (h7.symm.trans g7)
theorem ne_val {a x b : Addr} {O fn d : String} (F : Fld Z h x O fn d .null) (G : Fld Z h a O fn d (.ref b)) : a ≠ x := fun e => by
  subst e; cases Fld.det F G
theorem ne_arr {x b : Addr} {C0 : String} {nn : Nat} (E : Exa Z h x C0) (A : Ary Z h b .byte []) (w : (Jvm.Cond.instantiable C0 nn).before a0 Z = true) : b ≠ x := by
  obtain ⟨kk, A'⟩ := A.arv (by simp) (.int 0)
  exact (Exa.neArv E A' w).symm
theorem InvK.keep1 {x : Addr} (I : InvK K Z vm h) (Kp : Keep h h' [x]) (q : ∀ a b, EStr Z h a b → a ≠ x ∧ b ≠ x) : InvK K Z vm h' := by
  obtain ⟨Ts, i1, i2⟩ := I
  exact ⟨Ts, i1, fun p hp => (i2 p hp).imp id fun ⟨a, La, F⟩ => ⟨a, La, fun e => (F e).imp fun b f => f.keep Kp (nin1 (q a b f).1) (nin1 (q a b f).2)⟩⟩
/-- a write to a String that isn't laid out yet -/
theorem InvK.keepS {x : Addr} {nn : Nat} (I : InvK K Z vm h) (Kp : Keep h h' [x]) (E : Exa Z h x "java/lang/String") (F : Fld Z h x "java/lang/String" "value" "[B" .null) (w : (Jvm.Cond.instantiable "java/lang/String" nn).before a0 Z = true) : InvK K Z vm h' :=
  I.keep1 Kp fun a b f => ⟨ne_val F f.2.2.1, ne_arr E f.2.2.2 w⟩
/-- a write to an object of another class -/
theorem InvK.keepO {x : Addr} {nn : Nat} {C0 : String} (I : InvK K Z vm h) (Kp : Keep h h' [x]) (E : Exa Z h x C0) (hne : "java/lang/String" ≠ C0) (w : (Jvm.Cond.instantiable C0 nn).before a0 Z = true) : InvK K Z vm h' :=
  I.keep1 Kp fun a b f => ⟨Exa.ne f.1 E hne, ne_arr E f.2.2.2 w⟩
end LdcL
end Jvm.OwnKit
namespace Jvm.Pilot.@@N@@
open Jvm Jvm.ClassFile Sem Op Lib Jvm.Free Jvm.Stand Jvm.LawKit Jvm.RoadKit Jvm.OwnKit Bundle Jvm.Pilot.@@N@@.Jvm.D
set_option maxRecDepth 65536
set_option maxHeartbeats 40000000
theorem own_w {a0 : Array Value} {Z : State} (hw : ∀ d ∈ tables_1, d.before a0 Z = true) (k : Nat) {d : Jvm.Cond} (e : tables_1[k]? = some d) : d.before a0 Z = true := hw _ (List.mem_of_getElem? e)
abbrev HW (a0 : Array Value) (Z : State) : Prop := ∀ d ∈ tables_1, d.before a0 Z = true
theorem oW {a0 : Array Value} {Z : State} (hw : HW a0 Z) (k : Nat) {d : Jvm.Cond} (e : tables_1[k]? = some d) : d.before a0 Z = true := hw _ (List.mem_of_getElem? e)
abbrev iV (x : Int32) : Slot := .val (.int x)
abbrev aV (a : Addr) : Slot := .val (.ref a)
abbrev uV : Slot := .unset
abbrev bY (x : Int32) : Int32 := Int8.toInt32 (Int32.toInt8 x)
theorem lT {a b c : Nat} (p : a ≤ b) (q : b ≤ c) : a ≤ c := Nat.le_trans p q
theorem lE {a b : Nat} (p : a = b) : a ≤ b := Nat.le_of_eq p
section Short
variable {B : Bod} {l : Launch} {rm : Room} {bytes : ByteArray} {own nm : String} {maxL : Nat} {ret : Option FieldType} {Z : State} {n0 : Nat} {Q : Option Value → Heap → Prop} {h : Heap} {k n pc p : Nat} {L : Array Slot} {st : List Value} {a0 : Array Value}
theorem iN (C : Ctx B l rm bytes own nm maxL ret Z) {i : Fin 4} (v : Int32) (hd : decode bytes pc = .ok (.iload_n i, 1)) (hl : L[i.val]? = some (.val (.int v))) (go : Go B n0 Q h k n (pc + 1) L (.int v :: st)) : Go B n0 Q h k n pc L st := g_iload_n C hd hl rfl go
theorem iC (C : Ctx B l rm bytes own nm maxL ret Z) {z : Int} (v : Int32) (hd : decode bytes pc = .ok (.iconst z, 1)) (hv : Int32.ofInt z = v) (go : Go B n0 Q h k n (pc + 1) L (.int v :: st)) : Go B n0 Q h k n pc L st := g_iconst C hd hv rfl go
theorem yiadd (C : Ctx B l rm bytes own nm maxL ret Z) {x : Int32} {y : Int32} (hd : decode bytes pc = .ok (.iadd, 1)) (go : Go B n0 Q h k n (pc + 1) L (.int (x + y) :: st)) : Go B n0 Q h k n pc L (.int y :: .int x :: st) := g_iadd C hd rfl go
theorem yiushr (C : Ctx B l rm bytes own nm maxL ret Z) {x : Int32} {y : Int32} (hd : decode bytes pc = .ok (.iushr, 1)) (go : Go B n0 Q h k n (pc + 1) L (.int (Jvm.Free.XT.ushr x y) :: st)) : Go B n0 Q h k n pc L (.int y :: .int x :: st) := g_iushr C hd rfl go
theorem yiand (C : Ctx B l rm bytes own nm maxL ret Z) {x : Int32} {y : Int32} (hd : decode bytes pc = .ok (.iand, 1)) (go : Go B n0 Q h k n (pc + 1) L (.int (x &&& y) :: st)) : Go B n0 Q h k n pc L (.int y :: .int x :: st) := g_iand C hd rfl go
theorem iP (C : Ctx B l rm bytes own nm maxL ret Z) {z : Int} (v : Int32) (hd : decode bytes pc = .ok (.sipush z, 3)) (hv : (Int16.ofInt z).toInt32 = v) (go : Go B n0 Q h k n (pc + 3) L (.int v :: st)) : Go B n0 Q h k n pc L st := g_sipush C hd hv rfl go
theorem yi2c (C : Ctx B l rm bytes own nm maxL ret Z) {x : Int32} (hd : decode bytes pc = .ok (.i2c, 1)) (go : Go B n0 Q h k n (pc + 1) L (.int (x.toUInt32.toUInt16.toUInt32.toInt32) :: st)) : Go B n0 Q h k n pc L (.int x :: st) := g_i2c C hd rfl go
theorem yif_n (C : Ctx B l rm bytes own nm maxL ret Z) {cd : ClassFile.Cond} {x : Int32} {o : Int} (hd : decode bytes pc = .ok (.ifCond cd o, 3)) (hc : ifCond.holds cd x = false) (go : Go B n0 Q h k n (pc + 3) L st) : Go B n0 Q h k n pc L (.int x :: st) := g_if_n C hd hc rfl go
theorem iB (C : Ctx B l rm bytes own nm maxL ret Z) {z : Int} (v : Int32) (hd : decode bytes pc = .ok (.bipush z, 2)) (hv : (Int8.ofInt z).toInt32 = v) (go : Go B n0 Q h k n (pc + 2) L (.int v :: st)) : Go B n0 Q h k n pc L st := g_bipush C hd hv rfl go
theorem ynewarray (C : Ctx B l rm bytes own nm maxL ret Z) {aty : ArrayType} {z : Int32} {cap : Nat} {ty : FieldType} (w : (Jvm.Cond.arrayClass (newarray.typeOf aty)).before a0 Z = true) (hty : newarray.typeOf aty = ty) (hz : ¬ z < 0) (hcap : z.toNatClampNeg = cap) (hcb : cap * 8 ≤ 536870912) (hc : k + 1 ≤ rm.cells) (hl : n + cap ≤ rm.slots) (hd : decode bytes pc = .ok (.newarray aty, 2)) (go : ∀ h' a, a = h.size → Ext h h' → Ary Z h' a ty (List.replicate cap (defaultValue ty)) → Go B n0 Q h' (k + 1) (n + cap) (pc + 2) L (.ref a :: st)) : Go B n0 Q h k n pc L (.int z :: st) := g_newarray C w hty hz hcap hcb hc hl hd rfl go
theorem yicmp_n (C : Ctx B l rm bytes own nm maxL ret Z) {cd : ClassFile.Cond} {x : Int32} {y : Int32} {o : Int} (hd : decode bytes pc = .ok (.if_icmp cd o, 3)) (hc : if_icmp.holds cd x y = false) (go : Go B n0 Q h k n (pc + 3) L st) : Go B n0 Q h k n pc L (.int y :: .int x :: st) := g_icmp_n C hd hc rfl go
theorem ydup (C : Ctx B l rm bytes own nm maxL ret Z) {x : Value} (hd : decode bytes pc = .ok (.dup, 1)) (hc : x.category = 1) (go : Go B n0 Q h k n (pc + 1) L (x :: x :: st)) : Go B n0 Q h k n pc L (x :: st) := g_dup C hd hc rfl go
theorem ycastore (C : Ctx B l rm bytes own nm maxL ret Z) {a : Addr} {vs : List Value} {j : Int32} {i : Nat} {v : Int32} {w : Value} (F : Ary Z h a .char vs) (h0 : ¬ j < 0) (hj : j.toNatClampNeg = i) (hi : i < vs.length) (hw : Value.int (nar .char v) = w) (ge : n0 ≤ a) (hd : decode bytes pc = .ok (.castore, 1)) (go : ∀ h', Keep h h' [a] → Ary Z h' a .char (vs.set i w) → Go B n0 Q h' k n (pc + 1) L st) : Go B n0 Q h k n pc L (.int v :: .int j :: .ref a :: st) := g_castore C F h0 hj hi hw ge hd rfl go
theorem iS (C : Ctx B l rm bytes own nm maxL ret Z) {i : Nat} {v : Int32} (hd : decode bytes pc = .ok (.istore i, 2)) (L' : Array Slot) (hl : storeLocals L i (.int v) = some L') (go : Go B n0 Q h k n (pc + 2) L' st) : Go B n0 Q h k n pc L (.int v :: st) := g_istore C hd hl rfl go
theorem iL (C : Ctx B l rm bytes own nm maxL ret Z) {i : Nat} (v : Int32) (hd : decode bytes pc = .ok (.iload i, 2)) (hl : L[i]? = some (.val (.int v))) (go : Go B n0 Q h k n (pc + 2) L (.int v :: st)) : Go B n0 Q h k n pc L st := g_iload C hd hl rfl go
theorem aN (C : Ctx B l rm bytes own nm maxL ret Z) {i : Fin 4} (v : Value) (hd : decode bytes pc = .ok (.aload_n i, 1)) (hl : L[i.val]? = some (.val v)) (hv : v.isRef = true) (go : Go B n0 Q h k n (pc + 1) L (v :: st)) : Go B n0 Q h k n pc L st := g_aload_n C hd hl hv rfl go
theorem ycaload (C : Ctx B l rm bytes own nm maxL ret Z) {a : Addr} {vs : List Value} {j : Int32} {i : Nat} {v : Int32} (F : Ary Z h a .char vs) (h0 : ¬ j < 0) (hj : j.toNatClampNeg = i) (hv : vs[i]? = some (.int v)) (hd : decode bytes pc = .ok (.caload, 1)) (go : Go B n0 Q h k n (pc + 1) L (.int v :: st)) : Go B n0 Q h k n pc L (.int j :: .ref a :: st) := g_caload C F h0 hj hv hd rfl go
theorem yi2b (C : Ctx B l rm bytes own nm maxL ret Z) {x : Int32} (hd : decode bytes pc = .ok (.i2b, 1)) (go : Go B n0 Q h k n (pc + 1) L (.int (x.toInt8.toInt32) :: st)) : Go B n0 Q h k n pc L (.int x :: st) := g_i2b C hd rfl go
theorem ybastoreB (C : Ctx B l rm bytes own nm maxL ret Z) {a : Addr} {vs : List Value} {j : Int32} {i : Nat} {v : Int32} {w : Value} (F : Ary Z h a .byte vs) (h0 : ¬ j < 0) (hj : j.toNatClampNeg = i) (hi : i < vs.length) (hw : Value.int (nar .byte v) = w) (ge : n0 ≤ a) (hd : decode bytes pc = .ok (.bastore, 1)) (go : ∀ h', Keep h h' [a] → Ary Z h' a .byte (vs.set i w) → Go B n0 Q h' k n (pc + 1) L st) : Go B n0 Q h k n pc L (.int v :: .int j :: .ref a :: st) := g_bastoreB C F h0 hj hi hw ge hd rfl go
theorem nC (C : Ctx B l rm bytes own nm maxL ret Z) {i : Nat} {z : Int} (v : Int32) (w : Int32) (hd : decode bytes pc = .ok (.iinc i z, 3)) (hl : L[i]? = some (.val (.int v))) (hw : v + Int32.ofInt z = w) (L' : Array Slot) (hl' : storeLocals L i (.int w) = some L') (go : Go B n0 Q h k n (pc + 3) L' st) : Go B n0 Q h k n pc L st := g_iinc C hd hl hw hl' rfl go
theorem aT (C : Ctx B l rm bytes own nm maxL ret Z) {i : Fin 4} {v : Value} (hd : decode bytes pc = .ok (.astore_n i, 1)) (L' : Array Slot) (hl : storeLocals L i.val v = some L') (hv : v.isRef = true) (go : Go B n0 Q h k n (pc + 1) L' st) : Go B n0 Q h k n pc L (v :: st) := g_astore_n C hd hl hv rfl go
theorem yarraylength (C : Ctx B l rm bytes own nm maxL ret Z) {a : Addr} {vs : List Value} {ty : FieldType} {z : Int32} (F : Ary Z h a ty vs) (hz : vs.length.toInt32 = z) (hd : decode bytes pc = .ok (.arraylength, 1)) (go : Go B n0 Q h k n (pc + 1) L (.int z :: st)) : Go B n0 Q h k n pc L (.ref a :: st) := g_arraylength C F hz hd rfl go
theorem yisub (C : Ctx B l rm bytes own nm maxL ret Z) {x : Int32} {y : Int32} (hd : decode bytes pc = .ok (.isub, 1)) (go : Go B n0 Q h k n (pc + 1) L (.int (x - y) :: st)) : Go B n0 Q h k n pc L (.int y :: .int x :: st) := g_isub C hd rfl go
theorem yinitObj (C : Ctx B l rm bytes own nm maxL ret Z) {i : Nat} {a : Addr} (w1 : (Jvm.Cond.methodLink own i Lib.objectInit).before a0 Z = true) (w2 : (Jvm.Cond.instanceMethod Lib.objectInit).before a0 Z = true) (w3 : (Jvm.Cond.code Lib.objectInit ⟨#[0xb1]⟩ 1 none).before a0 Z = true) (hsz : L.size = maxL) (hf : 1 ≤ rm.frames) {W : Nat} (hW : (st.map fun v => v.category).sum ≤ W) (hl : W + 12 ≤ rm.locals) (hd : decode bytes pc = .ok (.invokespecial i, 3)) (go : Go B n0 Q h k n (pc + 3) L st) : Go B n0 Q h k n pc L (.ref a :: st) := g_initObj C w1 w2 w3 hsz hf hW hl hd rfl go
theorem ygetstatic (C : Ctx B l rm bytes own nm maxL ret Z) {i : Nat} {R0 : String} {O : String} {fn : String} {d : String} {host : String} {v : Value} (w : (Jvm.Cond.fieldLink own i R0 fn d).before a0 Z = true ∨ (Jvm.Cond.fieldLinkNest own i R0 fn d host).before a0 Z = true) (via : Via Z R0 O fn d) (F : Sta Z h O fn d v) (hd : decode bytes pc = .ok (.getstatic i, 3)) (go : Go B n0 Q h k n (pc + 3) L (v :: st)) : Go B n0 Q h k n pc L st := g_getstatic C w via F hd rfl go
theorem aS (C : Ctx B l rm bytes own nm maxL ret Z) {i : Nat} {v : Value} (hd : decode bytes pc = .ok (.astore i, 2)) (L' : Array Slot) (hl : storeLocals L i v = some L') (hv : v.isRef = true) (go : Go B n0 Q h k n (pc + 2) L' st) : Go B n0 Q h k n pc L (v :: st) := g_astore C hd hl hv rfl go
theorem aL (C : Ctx B l rm bytes own nm maxL ret Z) {i : Nat} (v : Value) (hd : decode bytes pc = .ok (.aload i, 2)) (hl : L[i]? = some (.val v)) (hv : v.isRef = true) (go : Go B n0 Q h k n (pc + 2) L (v :: st)) : Go B n0 Q h k n pc L st := g_aload C hd hl hv rfl go
theorem yputfield (C : Ctx B l rm bytes own nm maxL ret Z) {i : Nat} {kk : Nat} {R0 : String} {O : String} {fn : String} {d : String} {host : String} {K : String} {ty : FieldType} {a : Addr} {v : Value} {old : Value} (w : (Jvm.Cond.fieldLink own i R0 fn d).before a0 Z = true ∨ (Jvm.Cond.fieldLinkNest own i R0 fn d host).before a0 Z = true) (via : Via Z R0 O fn d) (F : Fld Z h a O fn d old) (E : Exa Z h a K) (Ly : (Jvm.Cond.lays K O fn d).before a0 Z = true ∨ ((Jvm.Cond.laysFinal K O fn d).before a0 Z = true ∧ own = O ∧ nm = "<init>")) (wi : (Jvm.Cond.instantiable K kk).before a0 Z = true) (hty : parseFieldDescriptor d = some ty) (hn : narrow ty v = v) (hf : fits ty v = true) (ge : n0 ≤ a) (hd : decode bytes pc = .ok (.putfield i, 3)) (go : ∀ h', Wr h h' a (Jvm.RoadKit.slotOf Z O fn d) v → Go B n0 Q h' k n (pc + 3) L st) : Go B n0 Q h k n pc L (v :: .ref a :: st) := g_putfield C w via F E Ly wi hty hn hf ge hd rfl go
theorem yaconst_null (C : Ctx B l rm bytes own nm maxL ret Z) (hd : decode bytes pc = .ok (.aconst_null, 1)) (go : Go B n0 Q h k n (pc + 1) L (.null :: st)) : Go B n0 Q h k n pc L st := g_aconst_null C hd rfl go
theorem yldcK (C : Ctx B l rm bytes own nm maxL ret Z) (hB : B.1 = some V) {i : Nat} {text : String} (hq : (own, i, text) ∈ K) (hK : ∀ q ∈ K, q.2.2 = text → q = (own, i, text)) (w : (Jvm.Cond.stringLink own i text).before a0 Z = true) (wS : ∀ a ∈ Bundle.stringAtoms, a.before a0 Z = true) (O : Old Z n1 h) (I : InvK K Z B.s.vm h) (hh : Jvm.Lit.constHeld Z own i) (hcw : Jvm.Lit.compactW.before a0 Z = true) {z : Int32} (ht : ∀ c ∈ text.toList, c.toNat < 256) (hz : ¬ z < 0) (hl : z.toNatClampNeg = text.toList.length) {nn : Nat} (hn : 4 * text.toList.length ≤ nn) (hbig : nn ≤ 536870912) (hc : k + 2 ≤ rm.cells) (hl' : n + (nn + 4) ≤ rm.slots) (hd : decode bytes pc = .ok (.ldc i, 2)) (go : ∀ B' : Bod, Ctx B' l rm bytes own nm maxL ret Z → B'.1 = some V → ∀ h' a, Ext h h' → InvK K Z B'.s.vm h' → Lit (Z.setVm B'.s.vm) own i a → (text = "" → ∃ b, EStr Z h' a b) → Go B' n0 Q h' (k + 2) (n + (nn + 4)) (pc + 2) L (.ref a :: st)) : Go B n0 Q h k n pc L st := g_ldcK C hB hq hK w wS O I hh hcw ht hz hl hn hbig hc hl' hd rfl go
theorem ygetfield (C : Ctx B l rm bytes own nm maxL ret Z) {i : Nat} {R0 : String} {O : String} {fn : String} {d : String} {host : String} {a : Addr} {v : Value} (w : (Jvm.Cond.fieldLink own i R0 fn d).before a0 Z = true ∨ (Jvm.Cond.fieldLinkNest own i R0 fn d host).before a0 Z = true) (via : Via Z R0 O fn d) (F : Fld Z h a O fn d v) (hd : decode bytes pc = .ok (.getfield i, 3)) (go : Go B n0 Q h k n (pc + 3) L (v :: st)) : Go B n0 Q h k n pc L (.ref a :: st) := g_getfield C w via F hd rfl go
theorem yldcL (C : Ctx B l rm bytes own nm maxL ret Z) {i : Nat} {text : String} {a : Addr} (w : (Jvm.Cond.stringLink own i text).before a0 Z = true) (La : Lit (Z.setVm B.s.vm) own i a) (hd : decode bytes pc = .ok (.ldc i, 2)) (go : Go B n0 Q h k n (pc + 2) L (.ref a :: st)) : Go B n0 Q h k n pc L st := g_ldcL C w La hd rfl go
theorem yspecialV (C : Ctx B l rm bytes own nm maxL ret Z) (hB : B.1 = some V) {i : Nat} {y : MethodName} {b' : ByteArray} {mx : Nat} {rm' : Room} {as' : Array Value} {Q' : Option Value → Heap → Prop} {a : Addr} (hy1 : y.name = "<init>") (w1 : (Jvm.Cond.methodLink own i y).before a0 Z = true) (w2 : (Jvm.Cond.instanceMethod y).before a0 Z = true) (wz : (Jvm.Cond.initialized y.cls).before a0 Z = true) (wc : (Jvm.Cond.code y b' mx none).before a0 Z = true) (hy : y.cls ≠ "java/lang/invoke/MethodHandle" ∧ y.cls ≠ "java/lang/invoke/VarHandle") (K : Met1V l Z y b' mx none rm' n0 as' h P V' Q') (hP : ∀ vm', B.s.WarmedH vm' → P vm') (argsL : List Value) {stk : List Value} (hst : stk = argsL.reverse ++ .ref a :: st) (has : as' = (Value.ref a :: argsL).toArray) {ps : List FieldType} {r' : Option FieldType} (pd : parseMethodDescriptor y.desc = some ⟨ps, r'⟩) (hlen : argsL.length = ps.length) (hsz : L.size = maxL) (hf : rm'.frames + 1 ≤ rm.frames) {W : Nat} (hW : (st.map fun v => v.category).sum ≤ W) (hlo : W + (mx + 11) + rm'.locals ≤ rm.locals) (hc : k + rm'.cells ≤ rm.cells) (hs : n + rm'.slots ≤ rm.slots) (hd : decode bytes pc = .ok (.invokespecial i, 3)) (go : ∀ B' : Bod, Ctx B' l rm bytes own nm maxL ret Z → B'.1 = some V → ∀ v h', Q' v h' → V' B'.s.vm h' → Go B' n0 Q h' (k + rm'.cells) (n + rm'.slots) (pc + 3) L (v.toList ++ st)) : Go B n0 Q h k n pc L stk := g_specialV C hB hy1 w1 w2 wz wc hy K hP argsL hst has pd hlen hsz hf hW hlo hc hs hd rfl go
theorem yiastore (C : Ctx B l rm bytes own nm maxL ret Z) {a : Addr} {vs : List Value} {j : Int32} {i : Nat} {v : Int32} {w : Value} (F : Ary Z h a .int vs) (h0 : ¬ j < 0) (hj : j.toNatClampNeg = i) (hi : i < vs.length) (hw : Value.int v = w) (ge : n0 ≤ a) (hd : decode bytes pc = .ok (.iastore, 1)) (go : ∀ h', Keep h h' [a] → Ary Z h' a .int (vs.set i w) → Go B n0 Q h' k n (pc + 1) L st) : Go B n0 Q h k n pc L (.int v :: .int j :: .ref a :: st) := g_iastore C F h0 hj hi hw ge hd rfl go
theorem yishr (C : Ctx B l rm bytes own nm maxL ret Z) {x : Int32} {y : Int32} (hd : decode bytes pc = .ok (.ishr, 1)) (go : Go B n0 Q h k n (pc + 1) L (.int (x >>> (y &&& 31)) :: st)) : Go B n0 Q h k n pc L (.int y :: .int x :: st) := g_ishr C hd rfl go
theorem ybaloadB (C : Ctx B l rm bytes own nm maxL ret Z) {a : Addr} {vs : List Value} {j : Int32} {i : Nat} {v : Int32} (F : Ary Z h a .byte vs) (h0 : ¬ j < 0) (hj : j.toNatClampNeg = i) (hv : vs[i]? = some (.int v)) (hd : decode bytes pc = .ok (.baload, 1)) (go : Go B n0 Q h k n (pc + 1) L (.int v :: st)) : Go B n0 Q h k n pc L (.int j :: .ref a :: st) := g_baloadB C F h0 hj hv hd rfl go
theorem iT (C : Ctx B l rm bytes own nm maxL ret Z) {i : Fin 4} {v : Int32} (hd : decode bytes pc = .ok (.istore_n i, 1)) (L' : Array Slot) (hl : storeLocals L i.val (.int v) = some L') (go : Go B n0 Q h k n (pc + 1) L' st) : Go B n0 Q h k n pc L (.int v :: st) := g_istore_n C hd hl rfl go
theorem yiaload (C : Ctx B l rm bytes own nm maxL ret Z) {a : Addr} {vs : List Value} {j : Int32} {i : Nat} {v : Int32} (F : Ary Z h a .int vs) (h0 : ¬ j < 0) (hj : j.toNatClampNeg = i) (hv : vs[i]? = some (.int v)) (hd : decode bytes pc = .ok (.iaload, 1)) (go : Go B n0 Q h k n (pc + 1) L (.int v :: st)) : Go B n0 Q h k n pc L (.int j :: .ref a :: st) := g_iaload C F h0 hj hv hd rfl go
theorem yirem (C : Ctx B l rm bytes own nm maxL ret Z) {x : Int32} {y : Int32} (hd : decode bytes pc = .ok (.irem, 1)) (hy : y ≠ 0) (go : Go B n0 Q h k n (pc + 1) L (.int (x - (x / y) * y) :: st)) : Go B n0 Q h k n pc L (.int y :: .int x :: st) := g_irem C hd hy rfl go
theorem ynew (C : Ctx B l rm bytes own nm maxL ret Z) {i : Nat} {nn : Nat} {K : String} (w : (Jvm.Cond.classLink own i K).before a0 Z = true) (wi : (Jvm.Cond.instantiable K nn).before a0 Z = true) (wz : (Jvm.Cond.initialized K).before a0 Z = true) (hc : k + 1 ≤ rm.cells) (hl : n + nn ≤ rm.slots) (hd : decode bytes pc = .ok (.new i, 3)) (go : ∀ h' a, a = h.size → Ext h h' → Exa Z h' a K → (∀ {O fn d : String} {ty : FieldType}, Laid Z a0 K O fn d → parseFieldDescriptor d = some ty → Fld Z h' a O fn d (defaultValue ty)) → Go B n0 Q h' (k + 1) (n + nn) (pc + 3) L (.ref a :: st)) : Go B n0 Q h k n pc L st := g_new C w wi wz hc hl hd rfl go
theorem cS (C : Ctx B l rm bytes own nm maxL ret Z) {i : Nat} {y : MethodName} {b' : ByteArray} {mx : Nat} {rm' : Room} {as' : Array Value} {Q' : Option Value → Heap → Prop} {rt : Option FieldType} (hw : HW a0 Z) (j1 j2 j3 j4 : Nat) (e1 : tables_1[j1]? = some (.methodLink own i y)) (e2 : tables_1[j2]? = some (.static y)) (e3 : tables_1[j3]? = some (.initialized y.cls)) (e4 : tables_1[j4]? = some (.code y b' mx rt)) (K : Met1 l Z y b' mx rt rm' n0 as' h Q') (st : List Value) (argsL : List Value) {stk : List Value} {ps : List FieldType} {r' : Option FieldType} (pd : parseMethodDescriptor y.desc = some ⟨ps, r'⟩) (W : Nat) (hd : decode bytes pc = .ok (.invokestatic i, 3)) (e : stk = argsL.reverse ++ st ∧ as' = argsL.toArray ∧ argsL.length = ps.length ∧ L.size = maxL ∧ (st.map fun v => v.category).sum = W) (f : (y.cls ≠ "java/lang/invoke/MethodHandle" ∧ y.cls ≠ "java/lang/invoke/VarHandle") ∧ rm'.frames + 1 ≤ rm.frames ∧ W + (mx + 11) + rm'.locals ≤ rm.locals ∧ k + rm'.cells ≤ rm.cells ∧ n + rm'.slots ≤ rm.slots) (go : ∀ v h', Q' v h' → Go B n0 Q h' (k + rm'.cells) (n + rm'.slots) (pc + 3) L (v.toList ++ st)) : Go B n0 Q h k n pc L stk := g_static C (oW hw j1 e1) (oW hw j2 e2) (oW hw j3 e3) (oW hw j4 e4) f.1 K argsL e.1 e.2.1 pd e.2.2.1 e.2.2.2.1 f.2.1 (W := W) (Nat.le_of_eq e.2.2.2.2) f.2.2.1 f.2.2.2.1 f.2.2.2.2 hd rfl go
theorem cP (C : Ctx B l rm bytes own nm maxL ret Z) {i : Nat} {y : MethodName} {b' : ByteArray} {mx : Nat} {rm' : Room} {as' : Array Value} {Q' : Option Value → Heap → Prop} {a : Addr} (hw : HW a0 Z) (j1 j2 j3 j4 : Nat) (e1 : tables_1[j1]? = some (.methodLink own i y)) (e2 : tables_1[j2]? = some (.instanceMethod y)) (e3 : tables_1[j3]? = some (.initialized y.cls)) (e4 : tables_1[j4]? = some (.code y b' mx none)) (hy1 : y.name = "<init>") (K : Met1 l Z y b' mx none rm' n0 as' h Q') (st : List Value) (argsL : List Value) {stk : List Value} {ps : List FieldType} {r' : Option FieldType} (pd : parseMethodDescriptor y.desc = some ⟨ps, r'⟩) (W : Nat) (hd : decode bytes pc = .ok (.invokespecial i, 3)) (e : stk = argsL.reverse ++ .ref a :: st ∧ as' = (Value.ref a :: argsL).toArray ∧ argsL.length = ps.length ∧ L.size = maxL ∧ (st.map fun v => v.category).sum = W) (f : (y.cls ≠ "java/lang/invoke/MethodHandle" ∧ y.cls ≠ "java/lang/invoke/VarHandle") ∧ rm'.frames + 1 ≤ rm.frames ∧ W + (mx + 11) + rm'.locals ≤ rm.locals ∧ k + rm'.cells ≤ rm.cells ∧ n + rm'.slots ≤ rm.slots) (go : ∀ v h', Q' v h' → Go B n0 Q h' (k + rm'.cells) (n + rm'.slots) (pc + 3) L (v.toList ++ st)) : Go B n0 Q h k n pc L stk := g_special C hy1 (oW hw j1 e1) (oW hw j2 e2) (oW hw j3 e3) (oW hw j4 e4) f.1 K argsL e.1 e.2.1 pd e.2.2.1 e.2.2.2.1 f.2.1 (W := W) (Nat.le_of_eq e.2.2.2.2) f.2.2.1 f.2.2.2.1 f.2.2.2.2 hd rfl go
theorem cV (C : Ctx B l rm bytes own nm maxL ret Z) {i : Nat} {y : MethodName} {b' : ByteArray} {mx : Nat} {rm' : Room} {as' : Array Value} {Q' : Option Value → Heap → Prop} {a : Addr} {K' : String} {rt : Option FieldType} (hw : HW a0 Z) (j1 j2 j3 j4 j5 j6 : Nat) (e1 : tables_1[j1]? = some (.methodLink own i y)) (e2 : tables_1[j2]? = some (.declares y)) (e3 : tables_1[j3]? = some (.selects K' y y)) (e4 : tables_1[j4]? = some (.instanceMethod y)) (e5 : tables_1[j5]? = some (.initialized y.cls)) (e6 : tables_1[j6]? = some (.code y b' mx rt)) (E : Exa Z h a K') (K : Met1 l Z y b' mx rt rm' n0 as' h Q') (st : List Value) (argsL : List Value) {stk : List Value} {ps : List FieldType} {r' : Option FieldType} (pd : parseMethodDescriptor y.desc = some ⟨ps, r'⟩) (W : Nat) (hd : decode bytes pc = .ok (.invokevirtual i, 3)) (e : stk = argsL.reverse ++ .ref a :: st ∧ as' = (Value.ref a :: argsL).toArray ∧ argsL.length = ps.length ∧ L.size = maxL ∧ (st.map fun v => v.category).sum = W) (f : (y.cls ≠ "java/lang/invoke/MethodHandle" ∧ y.cls ≠ "java/lang/invoke/VarHandle") ∧ rm'.frames + 1 ≤ rm.frames ∧ W + (mx + 11) + rm'.locals ≤ rm.locals ∧ k + rm'.cells ≤ rm.cells ∧ n + rm'.slots ≤ rm.slots) (go : ∀ v h', Q' v h' → Go B n0 Q h' (k + rm'.cells) (n + rm'.slots) (pc + 3) L (v.toList ++ st)) : Go B n0 Q h k n pc L stk := g_virtual C (oW hw j1 e1) (oW hw j2 e2) (oW hw j3 e3) (oW hw j4 e4) (oW hw j5 e5) (oW hw j6 e6) (notFace_of_selects (args := #[]) (mvT C.2.2.2.2.1 (oW hw j3 e3))) f.1 E K argsL e.1 e.2.1 pd e.2.2.1 e.2.2.2.1 f.2.1 (W := W) (Nat.le_of_eq e.2.2.2.2) f.2.2.1 f.2.2.2.1 f.2.2.2.2 hd rfl go
theorem r_int (C : Ctx B l rm bytes own nm maxL ret Z) (hE : EndOk B h) {z : Int32} (hret : ret = some .int) (hn : narrow .int (.int z) = .int z) (hd : decode bytes pc = .ok (.ireturn, 1)) (f : k ≤ rm.cells ∧ n ≤ rm.slots) (go : Q (some (.int z)) h) : Go B n0 Q h k n pc L (.int z :: st) := g_ret C hE hret hn (Or.inl ⟨rfl, Or.inl rfl, _, rfl⟩) hd f.1 f.2 go
theorem r_boolean (C : Ctx B l rm bytes own nm maxL ret Z) (hE : EndOk B h) {z : Int32} (hret : ret = some .boolean) (hn : narrow .boolean (.int z) = .int z) (hd : decode bytes pc = .ok (.ireturn, 1)) (f : k ≤ rm.cells ∧ n ≤ rm.slots) (go : Q (some (.int z)) h) : Go B n0 Q h k n pc L (.int z :: st) := g_ret C hE hret hn (Or.inl ⟨rfl, Or.inr (Or.inl rfl), _, rfl⟩) hd f.1 f.2 go
theorem r_byte (C : Ctx B l rm bytes own nm maxL ret Z) (hE : EndOk B h) {z : Int32} (hret : ret = some .byte) (hn : narrow .byte (.int z) = .int z) (hd : decode bytes pc = .ok (.ireturn, 1)) (f : k ≤ rm.cells ∧ n ≤ rm.slots) (go : Q (some (.int z)) h) : Go B n0 Q h k n pc L (.int z :: st) := g_ret C hE hret hn (Or.inl ⟨rfl, Or.inr (Or.inr (Or.inl rfl)), _, rfl⟩) hd f.1 f.2 go
theorem r_char (C : Ctx B l rm bytes own nm maxL ret Z) (hE : EndOk B h) {z : Int32} (hret : ret = some .char) (hn : narrow .char (.int z) = .int z) (hd : decode bytes pc = .ok (.ireturn, 1)) (f : k ≤ rm.cells ∧ n ≤ rm.slots) (go : Q (some (.int z)) h) : Go B n0 Q h k n pc L (.int z :: st) := g_ret C hE hret hn (Or.inl ⟨rfl, Or.inr (Or.inr (Or.inr (Or.inl rfl))), _, rfl⟩) hd f.1 f.2 go
theorem gT (C : Ctx B l rm bytes own nm maxL ret Z) {o : Int} (hd : decode bytes pc = .ok (.goto o, 3)) (p : Nat) (f : 0 ≤ (pc : Int) + o ∧ ((pc : Int) + o).toNat = p) (go : Go B n0 Q h k n p L st) : Go B n0 Q h k n pc L st := g_goto C hd f.1 f.2 go
theorem fY (C : Ctx B l rm bytes own nm maxL ret Z) {cd : ClassFile.Cond} {x : Int32} {o : Int} (hd : decode bytes pc = .ok (.ifCond cd o, 3)) (hc : ifCond.holds cd x = true) (p : Nat) (f : 0 ≤ (pc : Int) + o ∧ ((pc : Int) + o).toNat = p) (go : Go B n0 Q h k n p L st) : Go B n0 Q h k n pc L (.int x :: st) := g_if_y C hd hc f.1 f.2 go
theorem cY (C : Ctx B l rm bytes own nm maxL ret Z) {cd : ClassFile.Cond} {x y : Int32} {o : Int} (hd : decode bytes pc = .ok (.if_icmp cd o, 3)) (hc : if_icmp.holds cd x y = true) (p : Nat) (f : 0 ≤ (pc : Int) + o ∧ ((pc : Int) + o).toNat = p) (go : Go B n0 Q h k n p L st) : Go B n0 Q h k n pc L (.int y :: .int x :: st) := g_icmp_y C hd hc f.1 f.2 go
theorem eS (st2 : List Value) (e : st = st2) (go : Go B n0 Q h k n pc L st2) : Go B n0 Q h k n pc L st := e ▸ go
end Short
section Rm
variable {l : Launch} {Z : State} {a0 : Array Value} {n0 : Nat}
def own_K : List (String × Nat × String) := tables_1.filterMap fun | .stringLink o i t => some (o, i, t) | _ => none
theorem own_narb (x : Int32) : nar .byte (Int8.toInt32 (Int32.toInt8 x)) = (Int8.toInt32 (Int32.toInt8 x)) := by
  show (Int8.toInt32 (Int32.toInt8 (Int8.toInt32 (Int32.toInt8 x)))) = _
  rw [Int8.toInt8_toInt32]
/-- a char that one byte holds -/
def Ch (c : Int32) : Prop := nar .char c = c ∧ ¬ (255 : Int32) < c ∧ ¬ c < (0 : Int32)
theorem own_nch {c : Int32} (h : nar .char c = c) : narrow .char (.int c) = .int c := congrArg Value.int h
theorem own_chM (x : Int32) : Ch (x &&& (255 : Int32)) := by
  refine ⟨i2c_mask x, ?_, ?_⟩
  · have h := c_mask x (255 : Int32) 8 (by decide) (by decide)
    have e : (255 : Int32).toInt = 255 := rfl
    rw [Int32.lt_iff_toInt_lt]; omega
  · have h := c_mask x (255 : Int32) 8 (by decide) (by decide)
    have e : (0 : Int32).toInt = 0 := rfl
    rw [Int32.lt_iff_toInt_lt]; omega
/-- compact Strings are on -/
def Cmp (Z : State) : Prop := ∃ z : Int32, Sta Z Z.heap "java/lang/String" "COMPACT_STRINGS" "Z" (.int z) ∧ ¬ z = (0 : Int32)
theorem own_cmp {args : Array Value} {s : State} (w0 : (Jvm.Cond.initializedFor "java/lang/String" "COMPACT_STRINGS" "Z").before args s = true) (w1 : (Jvm.Cond.isInt (.static "java/lang/String" "COMPACT_STRINGS" "Z")).before args s = true) (w2 : (Jvm.Cond.not (.eq (.static "java/lang/String" "COMPACT_STRINGS" "Z") (.int 0))).before args s = true) : Cmp s := by
  obtain ⟨z, e⟩ := is_v (Cond.before_iff.mp w1)
  refine ⟨z, Sta.start e (Or.inl w0), fun q => ?_⟩
  have h := not_v (Cond.before_iff.mp w2)
  subst q
  simp only [Jvm.Cond.value, e, Jvm.Term.int_eval] at h
  simp at h
theorem own_nn (x : Int32) : 0 ≤ (x &&& (2147483647 : Int32)).toInt := by
  have h := c_mask x (2147483647 : Int32) 31 (by decide) (by decide)
  rw [h]; exact Int.emod_nonneg _ (by decide)
theorem own_rem6 {x : Int32} (hx : 0 ≤ x.toInt) : 0 ≤ (x - (x / (6 : Int32)) * (6 : Int32)).toInt ∧ (x - (x / (6 : Int32)) * (6 : Int32)).toInt < 6 := by
  have e : (6 : Int32).toInt = 6 := rfl
  have h1 := (c_idiv x (6 : Int32) 6 rfl (by decide)).1 hx
  have h2 := c_imul (x / (6 : Int32)) (6 : Int32)
  have h3 := c_isub x (x / (6 : Int32) * (6 : Int32))
  have r1 := rng32 x
  have r2 := rng32 (x - x / (6 : Int32) * (6 : Int32))
  rw [h1, e] at h2
  omega
theorem own_m7 (x : Int32) : 0 ≤ (x &&& (7 : Int32)).toInt := by
  have h := c_mask x (7 : Int32) 3 (by decide) (by decide)
  omega
theorem own_by9 {c : Int32} (k : Ch c) (h : ¬ c = (9 : Int32)) : ¬ (Int8.toInt32 (Int32.toInt8 c)) = (9 : Int32) := fun q => h (by
  have e := c_i2b c
  obtain ⟨k1, k2, k3⟩ := k
  rw [Int32.lt_iff_toInt_lt] at k2 k3
  have t1 : (255 : Int32).toInt = 255 := rfl
  have t0 : (0 : Int32).toInt = 0 := rfl
  rw [q] at e
  have t9 : (9 : Int32).toInt = 9 := rfl
  apply Int32.toInt_inj.mp
  omega)
theorem own_by9' {c : Int32} (h : c = (9 : Int32)) : (Int8.toInt32 (Int32.toInt8 c)) = (9 : Int32) := by rw [h]; rfl
theorem d1_0 : decode method_2_code 0 = .ok (.iload_n 1, 1) := by decide +kernel
theorem d1_1 : decode method_2_code 1 = .ok (.iconst 3, 1) := by decide +kernel
theorem d1_2 : decode method_2_code 2 = .ok (.iload_n 2, 1) := by decide +kernel
theorem d1_3 : decode method_2_code 3 = .ok (.iadd, 1) := by decide +kernel
theorem d1_4 : decode method_2_code 4 = .ok (.iushr, 1) := by decide +kernel
theorem d1_5 : decode method_2_code 5 = .ok (.iconst 1, 1) := by decide +kernel
theorem d1_6 : decode method_2_code 6 = .ok (.iand, 1) := by decide +kernel
theorem d1_7 : decode method_2_code 7 = .ok (.ifCond .eq 6, 3) := by decide +kernel
theorem d1_10 : decode method_2_code 10 = .ok (.bipush 9, 2) := by decide +kernel
theorem d1_12 : decode method_2_code 12 = .ok (.ireturn, 1) := by decide +kernel
theorem d1_13 : decode method_2_code 13 = .ok (.iload_n 0, 1) := by decide +kernel
theorem d1_14 : decode method_2_code 14 = .ok (.sipush 255, 3) := by decide +kernel
theorem d1_17 : decode method_2_code 17 = .ok (.iand, 1) := by decide +kernel
theorem d1_18 : decode method_2_code 18 = .ok (.i2c, 1) := by decide +kernel
theorem d1_19 : decode method_2_code 19 = .ok (.ireturn, 1) := by decide +kernel
theorem pn_0 : plainName "org/linkloom/io/FieldsSplitPinLaw" = true := by first | (simp [plainName, overriddenIn]; done) | decide +kernel
theorem rm_ch (hw : HW a0 Z) (x0 x1 x2 : Int32) (h0 : Heap) (Z0 : n0 ≤ h0.size)  :
    Met1 l Z ⟨"org/linkloom/io/FieldsSplitPinLaw", "ch", "(III)C"⟩ method_2_code 3 (some .char) ⟨0, 0, 0, 0⟩ n0 #[(.int x0), (.int x1), (.int x2)] h0 (fun v h => ∃ p : Int32, v = some (.int p) ∧ Ch p ∧ h0 = h) := by
  refine met_of (plainFor_of_name pn_0) (L0 := #[.val (.int x0), .val (.int x1), .val (.int x2)]) (by first | (simp [argsToLocals, Value.category]; done) | rfl) ?_
  intro B C hN
  change Ctx B l _ _ "org/linkloom/io/FieldsSplitPinLaw" "ch" _ _ Z at C
  refine iN C x1 d1_0 rfl <| iC C 3 d1_1 rfl <| iN C x2 d1_2 rfl <| yiadd C d1_3 <| yiushr C d1_4 <| iC C 1 d1_5 rfl <| yiand C d1_6 ?_
  by_cases hb_1 : ((XT.ushr x1 (3 + x2)) &&& 1) = 0
  · refine fY C d1_7 (XT.i0_eq_t hb_1) 13 (by decide) <| iN C x0 d1_13 rfl <| iP C 255 d1_14 rfl <| yiand C d1_17 <| yi2c C d1_18 ?_
    rw [i2c_mask x0]
    obtain ⟨cr, ecr⟩ : ∃ z : Int32, z = (x0 &&& 255) := ⟨_, rfl⟩
    have kcr : Ch cr := by rw [ecr]; exact own_chM x0
    rw [← ecr]
    refine g_ret C (eN hN) (v := (.int cr)) (ty := .char) rfl (own_nch kcr.1) (Or.inl ⟨rfl, Or.inr (Or.inr (Or.inr (Or.inl rfl))), _, rfl⟩) d1_19 (by decide) (by decide) ?_
    exact ⟨_, rfl, kcr, rfl⟩
  · refine yif_n C d1_7 (XT.i0_eq_f hb_1) <| iB C 9 d1_10 rfl ?_
    refine g_ret C (eN hN) (v := (.int 9)) (ty := .char) rfl rfl (Or.inl ⟨rfl, Or.inr (Or.inr (Or.inr (Or.inl rfl))), _, rfl⟩) d1_12 (by decide) (by decide) ?_
    exact ⟨_, rfl, (by refine ⟨?_, ?_, ?_⟩ <;> decide), rfl⟩
theorem d2_0 : decode method_3_code 0 = .ok (.iload_n 0, 1) := by decide +kernel
theorem d2_1 : decode method_3_code 1 = .ok (.ifCond .ne 7, 3) := by decide +kernel
theorem d2_4 : decode method_3_code 4 = .ok (.iconst 0, 1) := by decide +kernel
theorem d2_5 : decode method_3_code 5 = .ok (.newarray .char, 2) := by decide +kernel
theorem d2_7 : decode method_3_code 7 = .ok (.areturn, 1) := by decide +kernel
theorem rm_chars_0 (hw : HW a0 Z) (c0 c1 c2 c3 c4 : Int32) (h0 : Heap) (Z0 : n0 ≤ h0.size) (k0 : Ch c0) (k1 : Ch c1) (k2 : Ch c2) (k3 : Ch c3) (k4 : Ch c4) :
    Met1 l Z ⟨"org/linkloom/io/FieldsSplitPinLaw", "chars", "(ICCCCC)[C"⟩ method_3_code 6 (some (.array .char)) ⟨0, 1, 0, 0⟩ n0 #[(.int 0), (.int c0), (.int c1), (.int c2), (.int c3), (.int c4)] h0 (fun v h => ∃ b : Addr, v = some (.ref b) ∧ h0.size ≤ b ∧ Keep h0 h [] ∧ Ary Z h b .char []) := by
  refine met_of (plainFor_of_name pn_0) (L0 := #[.val (.int 0), .val (.int c0), .val (.int c1), .val (.int c2), .val (.int c3), .val (.int c4)]) (by first | (simp [argsToLocals, Value.category]; done) | rfl) ?_
  intro B C hN
  change Ctx B l _ _ "org/linkloom/io/FieldsSplitPinLaw" "chars" _ _ Z at C
  refine iN C 0 d2_0 rfl <| yif_n C d2_1 (XT.i0_ne_f (by decide)) <| iC C 0 d2_4 rfl <| ynewarray C (oW hw 10 rfl) (ty := .char) rfl (by decide) (cap := 0) (by decide) (by decide) (by decide) (by decide) d2_5 ?_
  intro h_1 a_2 g_3 E_4 A_5
  have ge_a_2 : n0 ≤ a_2 := lT Z0 (lE g_3.symm)
  have gs_a_2 : h0.size ≤ a_2 := lT (Nat.le_refl h0.size) (lE g_3.symm)
  have f_6 : Ary Z h_1 a_2 .char [] := A_5
  show Go _ _ _ _ 1 0 7 _ [(.ref a_2)]
  refine g_ret C (eN hN) (v := (.ref a_2)) (ty := (.array .char)) rfl rfl (Or.inr (Or.inr (Or.inr (Or.inr ⟨rfl, rfl, rfl⟩)))) d2_7 (by decide) (by decide) ?_
  exact ⟨a_2, rfl, gs_a_2, ((Keep.refl h0 []).ext E_4), f_6⟩
theorem d2_8 : decode method_3_code 8 = .ok (.iload_n 0, 1) := by decide +kernel
theorem d2_9 : decode method_3_code 9 = .ok (.iconst 1, 1) := by decide +kernel
theorem d2_10 : decode method_3_code 10 = .ok (.if_icmp .ne 11, 3) := by decide +kernel
theorem d2_13 : decode method_3_code 13 = .ok (.iconst 1, 1) := by decide +kernel
theorem d2_14 : decode method_3_code 14 = .ok (.newarray .char, 2) := by decide +kernel
theorem d2_16 : decode method_3_code 16 = .ok (.dup, 1) := by decide +kernel
theorem d2_17 : decode method_3_code 17 = .ok (.iconst 0, 1) := by decide +kernel
theorem d2_18 : decode method_3_code 18 = .ok (.iload_n 1, 1) := by decide +kernel
theorem d2_19 : decode method_3_code 19 = .ok (.castore, 1) := by decide +kernel
theorem d2_20 : decode method_3_code 20 = .ok (.areturn, 1) := by decide +kernel
theorem rm_chars_1 (hw : HW a0 Z) (c0 c1 c2 c3 c4 : Int32) (h0 : Heap) (Z0 : n0 ≤ h0.size) (k0 : Ch c0) (k1 : Ch c1) (k2 : Ch c2) (k3 : Ch c3) (k4 : Ch c4) :
    Met1 l Z ⟨"org/linkloom/io/FieldsSplitPinLaw", "chars", "(ICCCCC)[C"⟩ method_3_code 6 (some (.array .char)) ⟨0, 1, 1, 0⟩ n0 #[(.int 1), (.int c0), (.int c1), (.int c2), (.int c3), (.int c4)] h0 (fun v h => ∃ b : Addr, v = some (.ref b) ∧ h0.size ≤ b ∧ Keep h0 h [] ∧ Ary Z h b .char [.int c0]) := by
  refine met_of (plainFor_of_name pn_0) (L0 := #[.val (.int 1), .val (.int c0), .val (.int c1), .val (.int c2), .val (.int c3), .val (.int c4)]) (by first | (simp [argsToLocals, Value.category]; done) | rfl) ?_
  intro B C hN
  change Ctx B l _ _ "org/linkloom/io/FieldsSplitPinLaw" "chars" _ _ Z at C
  refine iN C 1 d2_0 rfl <| fY C d2_1 (XT.i0_ne_t (by decide)) 8 (by decide) <| iN C 1 d2_8 rfl <| iC C 1 d2_9 rfl <| yicmp_n C d2_10 (XT.ii_ne_f (by decide)) <| iC C 1 d2_13 rfl <| ynewarray C (oW hw 10 rfl) (ty := .char) rfl (by decide) (cap := 1) (by decide) (by decide) (by decide) (by decide) d2_14 ?_
  intro h_1 a_2 g_3 E_4 A_5
  have ge_a_2 : n0 ≤ a_2 := lT Z0 (lE g_3.symm)
  have gs_a_2 : h0.size ≤ a_2 := lT (Nat.le_refl h0.size) (lE g_3.symm)
  have f_6 : Ary Z h_1 a_2 .char [(.int 0)] := A_5
  show Go _ _ _ _ 1 1 16 _ [(.ref a_2)]
  refine ydup C d2_16 rfl <| iC C 0 d2_17 rfl <| iN C c0 d2_18 rfl <| ycastore C f_6 (by decide) (i := 0) (by decide) (show 0 < 1 by decide) (w := (.int c0)) (congrArg Value.int k0.1) ge_a_2 d2_19 ?_
  intro h_7 K_8 A_9
  have f_10 : Ary Z h_7 a_2 .char [(.int c0)] := A_9
  refine g_ret C (eN hN) (v := (.ref a_2)) (ty := (.array .char)) rfl rfl (Or.inr (Or.inr (Or.inr (Or.inr ⟨rfl, rfl, rfl⟩)))) d2_20 (by decide) (by decide) ?_
  exact ⟨a_2, rfl, gs_a_2, (((Keep.refl h0 []).ext E_4).trans K_8 (allS (Or.inr gs_a_2) all0)), f_10⟩
theorem d7_0 : decode jdk_52_method_21_code 0 = .ok (.iconst 0, 1) := by decide +kernel
theorem d7_1 : decode jdk_52_method_21_code 1 = .ok (.istore 5, 2) := by decide +kernel
theorem d7_3 : decode jdk_52_method_21_code 3 = .ok (.iload 5, 2) := by decide +kernel
theorem d7_5 : decode jdk_52_method_21_code 5 = .ok (.iload 4, 2) := by decide +kernel
theorem d7_7 : decode jdk_52_method_21_code 7 = .ok (.if_icmp .ge 37, 3) := by decide +kernel
theorem d7_10 : decode jdk_52_method_21_code 10 = .ok (.aload_n 0, 1) := by decide +kernel
theorem d7_11 : decode jdk_52_method_21_code 11 = .ok (.iload_n 1, 1) := by decide +kernel
theorem d7_12 : decode jdk_52_method_21_code 12 = .ok (.caload, 1) := by decide +kernel
theorem d7_13 : decode jdk_52_method_21_code 13 = .ok (.istore 6, 2) := by decide +kernel
theorem d7_15 : decode jdk_52_method_21_code 15 = .ok (.iload 6, 2) := by decide +kernel
theorem d7_17 : decode jdk_52_method_21_code 17 = .ok (.sipush 255, 3) := by decide +kernel
theorem d7_20 : decode jdk_52_method_21_code 20 = .ok (.if_icmp .le 6, 3) := by decide +kernel
theorem d7_26 : decode jdk_52_method_21_code 26 = .ok (.aload_n 2, 1) := by decide +kernel
theorem d7_27 : decode jdk_52_method_21_code 27 = .ok (.iload_n 3, 1) := by decide +kernel
theorem d7_28 : decode jdk_52_method_21_code 28 = .ok (.iload 6, 2) := by decide +kernel
theorem d7_30 : decode jdk_52_method_21_code 30 = .ok (.i2b, 1) := by decide +kernel
theorem d7_31 : decode jdk_52_method_21_code 31 = .ok (.bastore, 1) := by decide +kernel
theorem d7_32 : decode jdk_52_method_21_code 32 = .ok (.iinc 1 1, 3) := by decide +kernel
theorem d7_35 : decode jdk_52_method_21_code 35 = .ok (.iinc 3 1, 3) := by decide +kernel
theorem d7_38 : decode jdk_52_method_21_code 38 = .ok (.iinc 5 1, 3) := by decide +kernel
theorem d7_41 : decode jdk_52_method_21_code 41 = .ok (.goto (-38), 3) := by decide +kernel
theorem d7_44 : decode jdk_52_method_21_code 44 = .ok (.iload 4, 2) := by decide +kernel
theorem d7_46 : decode jdk_52_method_21_code 46 = .ok (.ireturn, 1) := by decide +kernel
theorem pn_3 : plainName "java/lang/StringUTF16" = true := by first | (simp [plainName, overriddenIn]; done) | decide +kernel
theorem rm_comp1_1 (hw : HW a0 Z) (a1 a2 : Addr) (c0 : Int32) (h0 : Heap) (Z0 : n0 ≤ h0.size) (A1 : Ary Z h0 a1 .char [.int c0]) (A2 : Ary Z h0 a2 .byte [.int 0]) (g2 : n0 ≤ a2) (n12 : a1 ≠ a2) (k0 : Ch c0) :
    Met1 l Z ⟨"java/lang/StringUTF16", "compress", "([CI[BII)I"⟩ jdk_52_method_21_code 7 (some .int) ⟨0, 0, 0, 0⟩ n0 #[(.ref a1), (.int 0), (.ref a2), (.int 0), (.int 1)] h0 (fun v h => v = some (.int 1) ∧ Keep h0 h [a2] ∧ Ary Z h a2 .byte [.int (bY c0)]) := by
  refine met_of (plainFor_of_name pn_3) (L0 := #[.val (.ref a1), .val (.int 0), .val (.ref a2), .val (.int 0), .val (.int 1), .unset, .unset]) (by first | (simp [argsToLocals, Value.category]; done) | rfl) ?_
  intro B C hN
  change Ctx B l _ _ "java/lang/StringUTF16" "compress" _ _ Z at C
  refine iC C 0 d7_0 rfl <| iS C d7_1 (#[aV a1, iV 0, aV a2, iV 0, iV 1, iV 0, uV]) rfl <| iL C 0 d7_3 rfl <| iL C 1 d7_5 rfl <| yicmp_n C d7_7 (XT.ii_ge_f (by decide)) <| aN C ((.ref a1)) d7_10 rfl rfl <| iN C 0 d7_11 rfl <| ycaload C A1 (by decide) (i := 0) (by decide) (v := c0) rfl d7_12 <| iS C d7_13 (#[aV a1, iV 0, aV a2, iV 0, iV 1, iV 0, iV c0]) rfl <| iL C c0 d7_15 rfl <| iP C 255 d7_17 rfl <| cY C d7_20 (XT.ii_le_t k0.2.1) 26 (by decide) <| aN C ((.ref a2)) d7_26 rfl rfl <| iN C 0 d7_27 rfl <| iL C c0 d7_28 rfl <| yi2b C d7_30 <| ybastoreB C A2 (by decide) (i := 0) (by decide) (show 0 < 1 by decide) (w := (.int (bY c0))) (congrArg Value.int (own_narb _)) g2 d7_31 ?_
  intro h_1 K_2 A_3
  have f_4 : Ary Z h_1 a2 .byte [(.int (bY c0))] := A_3
  refine nC C 0 1 d7_32 rfl rfl (#[aV a1, iV 1, aV a2, iV 0, iV 1, iV 0, iV c0]) rfl <| nC C 0 1 d7_35 rfl rfl (#[aV a1, iV 1, aV a2, iV 1, iV 1, iV 0, iV c0]) rfl <| nC C 0 1 d7_38 rfl rfl (#[aV a1, iV 1, aV a2, iV 1, iV 1, iV 1, iV c0]) rfl <| gT C d7_41 3 (by decide) <| iL C 1 d7_3 rfl <| iL C 1 d7_5 rfl <| cY C d7_7 (XT.ii_ge_t (by decide)) 44 (by decide) <| iL C 1 d7_44 rfl ?_
  refine g_ret C (eN hN) (v := (.int 1)) (ty := .int) rfl rfl (Or.inl ⟨rfl, Or.inl rfl, _, rfl⟩) d7_46 (by decide) (by decide) ?_
  exact ⟨rfl, ((Keep.refl h0 [a2]).trans K_2 (allS (Or.inl (List.mem_of_getElem? (i := 0) rfl)) all0)), f_4⟩
theorem pd_7 : parseMethodDescriptor "([CI[BII)I" = some ⟨[(.array .char), .int, (.array .byte), .int, .int], (some .int)⟩ := by decide +kernel
theorem d6_0 : decode jdk_52_method_16_code 0 = .ok (.iload_n 2, 1) := by decide +kernel
theorem d6_1 : decode jdk_52_method_16_code 1 = .ok (.newarray .byte, 2) := by decide +kernel
theorem d6_3 : decode jdk_52_method_16_code 3 = .ok (.astore_n 3, 1) := by decide +kernel
theorem d6_4 : decode jdk_52_method_16_code 4 = .ok (.aload_n 0, 1) := by decide +kernel
theorem d6_5 : decode jdk_52_method_16_code 5 = .ok (.iload_n 1, 1) := by decide +kernel
theorem d6_6 : decode jdk_52_method_16_code 6 = .ok (.aload_n 3, 1) := by decide +kernel
theorem d6_7 : decode jdk_52_method_16_code 7 = .ok (.iconst 0, 1) := by decide +kernel
theorem d6_8 : decode jdk_52_method_16_code 8 = .ok (.iload_n 2, 1) := by decide +kernel
theorem d6_9 : decode jdk_52_method_16_code 9 = .ok (.invokestatic 115, 3) := by decide +kernel
theorem d6_12 : decode jdk_52_method_16_code 12 = .ok (.istore 4, 2) := by decide +kernel
theorem d6_14 : decode jdk_52_method_16_code 14 = .ok (.iload 4, 2) := by decide +kernel
theorem d6_16 : decode jdk_52_method_16_code 16 = .ok (.iload_n 2, 1) := by decide +kernel
theorem d6_17 : decode jdk_52_method_16_code 17 = .ok (.if_icmp .eq 40, 3) := by decide +kernel
theorem d6_57 : decode jdk_52_method_16_code 57 = .ok (.aload_n 3, 1) := by decide +kernel
theorem d6_58 : decode jdk_52_method_16_code 58 = .ok (.areturn, 1) := by decide +kernel
theorem rm_comp2_1 (hw : HW a0 Z) (a1 : Addr) (c0 : Int32) (h0 : Heap) (Z0 : n0 ≤ h0.size) (A1 : Ary Z h0 a1 .char [.int c0]) (k0 : Ch c0) :
    Met1 l Z ⟨"java/lang/StringUTF16", "compress", "([CII)[B"⟩ jdk_52_method_16_code 6 (some (.array .byte)) ⟨1, 1, 1, 18⟩ n0 #[(.ref a1), (.int 0), (.int 1)] h0 (fun v h => ∃ b : Addr, v = some (.ref b) ∧ h0.size ≤ b ∧ Keep h0 h [] ∧ Ary Z h b .byte [.int (bY c0)]) := by
  refine met_of (plainFor_of_name pn_3) (L0 := #[.val (.ref a1), .val (.int 0), .val (.int 1), .unset, .unset, .unset]) (by first | (simp [argsToLocals, Value.category]; done) | rfl) ?_
  intro B C hN
  change Ctx B l _ _ "java/lang/StringUTF16" "compress" _ _ Z at C
  refine iN C 1 d6_0 rfl <| ynewarray C (oW hw 26 rfl) (ty := .byte) rfl (by decide) (cap := 1) (by decide) (by decide) (by decide) (by decide) d6_1 ?_
  intro h_1 a_2 g_3 E_4 A_5
  have ne_6 : a1 ≠ a_2 := ne_new A1.lt g_3
  have ge_a_2 : n0 ≤ a_2 := lT Z0 (lE g_3.symm)
  have gs_a_2 : h0.size ≤ a_2 := lT (Nat.le_refl h0.size) (lE g_3.symm)
  have f_7 : Ary Z h_1 a_2 .byte [(.int 0)] := A_5
  show Go _ _ _ _ 1 1 3 _ [(.ref a_2)]
  refine aT C d6_3 (#[aV a1, iV 0, iV 1, aV a_2, uV, uV]) rfl rfl <| aN C ((.ref a1)) d6_4 rfl rfl <| iN C 0 d6_5 rfl <| aN C ((.ref a_2)) d6_6 rfl rfl <| iC C 0 d6_7 rfl <| iN C 1 d6_8 rfl ?_
  have f_8 := (A1.ext E_4)
  have f_9 := (lT Z0 E_4.1)
  refine cS C hw 27 28 24 29 rfl rfl rfl rfl (rm_comp1_1 hw a1 a_2 c0 h_1 f_9 f_8 f_7 ge_a_2 ne_6 k0) [] [(.ref a1), (.int 0), (.ref a_2), (.int 0), (.int 1)] pd_7 0 d6_9 ⟨rfl, rfl, rfl, rfl, rfl⟩ (by decide) ?_
  intro v_12 h_10 q_11
  obtain ⟨rfl, K_14, f_15⟩ := q_11
  show Go _ _ _ _ 1 1 12 _ [(.int 1)]
  refine iS C d6_12 (#[aV a1, iV 0, iV 1, aV a_2, iV 1, uV]) rfl <| iL C 1 d6_14 rfl <| iN C 1 d6_16 rfl <| cY C d6_17 (XT.ii_eq_t (by decide)) 57 (by decide) <| aN C ((.ref a_2)) d6_57 rfl rfl ?_
  refine g_ret C (eN hN) (v := (.ref a_2)) (ty := (.array .byte)) rfl rfl (Or.inr (Or.inr (Or.inr (Or.inr ⟨rfl, rfl, rfl⟩)))) d6_58 (by decide) (by decide) ?_
  exact ⟨a_2, rfl, gs_a_2, (((Keep.refl h0 []).ext E_4).trans K_14 (allS (Or.inr gs_a_2) all0)), f_15⟩
theorem d8_0 : decode jdk_52_method_15_code 0 = .ok (.iload_n 1, 1) := by decide +kernel
theorem d8_1 : decode jdk_52_method_15_code 1 = .ok (.aload_n 0, 1) := by decide +kernel
theorem d8_2 : decode jdk_52_method_15_code 2 = .ok (.arraylength, 1) := by decide +kernel
theorem d8_3 : decode jdk_52_method_15_code 3 = .ok (.isub, 1) := by decide +kernel
theorem d8_4 : decode jdk_52_method_15_code 4 = .ok (.bipush 31, 2) := by decide +kernel
theorem d8_6 : decode jdk_52_method_15_code 6 = .ok (.iushr, 1) := by decide +kernel
theorem d8_7 : decode jdk_52_method_15_code 7 = .ok (.i2b, 1) := by decide +kernel
theorem d8_8 : decode jdk_52_method_15_code 8 = .ok (.ireturn, 1) := by decide +kernel
theorem rm_coderF_1 (hw : HW a0 Z) (a1 : Addr) (x0 : Int32) (h0 : Heap) (Z0 : n0 ≤ h0.size) (A1 : Ary Z h0 a1 .byte [.int x0]) :
    Met1 l Z ⟨"java/lang/StringUTF16", "coderFromArrayLen", "([BI)B"⟩ jdk_52_method_15_code 2 (some .byte) ⟨0, 0, 0, 0⟩ n0 #[(.ref a1), (.int 1)] h0 (fun v h => v = some (.int 0) ∧ h0 = h) := by
  refine met_of (plainFor_of_name pn_3) (L0 := #[.val (.ref a1), .val (.int 1)]) (by first | (simp [argsToLocals, Value.category]; done) | rfl) ?_
  intro B C hN
  change Ctx B l _ _ "java/lang/StringUTF16" "coderFromArrayLen" _ _ Z at C
  refine iN C 1 d8_0 rfl <| aN C ((.ref a1)) d8_1 rfl rfl <| yarraylength C A1 (z := 1) rfl d8_2 <| yisub C d8_3 <| eS [(.int 0)] rfl <| iB C 31 d8_4 rfl <| yiushr C d8_6 <| eS [(.int 0)] rfl <| yi2b C d8_7 <| eS [(.int 0)] rfl ?_
  refine g_ret C (eN hN) (v := (.int 0)) (ty := .byte) rfl rfl (Or.inl ⟨rfl, Or.inr (Or.inr (Or.inl rfl)), _, rfl⟩) d8_8 (by decide) (by decide) ?_
  exact ⟨rfl, rfl⟩
theorem pd_8 : parseMethodDescriptor "([CII)[B" = some ⟨[(.array .char), .int, .int], (some (.array .byte))⟩ := by decide +kernel
theorem pd_5 : parseMethodDescriptor "([BI)B" = some ⟨[(.array .byte), .int], (some .byte)⟩ := by decide +kernel
theorem d4_0 : decode jdk_42_method_149_code 0 = .ok (.aload_n 0, 1) := by decide +kernel
theorem d4_1 : decode jdk_42_method_149_code 1 = .ok (.invokespecial 1, 3) := by decide +kernel
theorem d4_4 : decode jdk_42_method_149_code 4 = .ok (.iload_n 3, 1) := by decide +kernel
theorem d4_5 : decode jdk_42_method_149_code 5 = .ok (.ifCond .ne 22, 3) := by decide +kernel
theorem d4_27 : decode jdk_42_method_149_code 27 = .ok (.getstatic 38, 3) := by decide +kernel
theorem d4_30 : decode jdk_42_method_149_code 30 = .ok (.ifCond .eq 28, 3) := by decide +kernel
theorem d4_33 : decode jdk_42_method_149_code 33 = .ok (.aload_n 1, 1) := by decide +kernel
theorem d4_34 : decode jdk_42_method_149_code 34 = .ok (.iload_n 2, 1) := by decide +kernel
theorem d4_35 : decode jdk_42_method_149_code 35 = .ok (.iload_n 3, 1) := by decide +kernel
theorem d4_36 : decode jdk_42_method_149_code 36 = .ok (.invokestatic 177, 3) := by decide +kernel
theorem d4_39 : decode jdk_42_method_149_code 39 = .ok (.astore 5, 2) := by decide +kernel
theorem d4_41 : decode jdk_42_method_149_code 41 = .ok (.aload_n 0, 1) := by decide +kernel
theorem d4_42 : decode jdk_42_method_149_code 42 = .ok (.aload 5, 2) := by decide +kernel
theorem d4_44 : decode jdk_42_method_149_code 44 = .ok (.iload_n 3, 1) := by decide +kernel
theorem d4_45 : decode jdk_42_method_149_code 45 = .ok (.invokestatic 47, 3) := by decide +kernel
theorem d4_48 : decode jdk_42_method_149_code 48 = .ok (.putfield 15, 3) := by decide +kernel
theorem d4_51 : decode jdk_42_method_149_code 51 = .ok (.aload_n 0, 1) := by decide +kernel
theorem d4_52 : decode jdk_42_method_149_code 52 = .ok (.aload 5, 2) := by decide +kernel
theorem d4_54 : decode jdk_42_method_149_code 54 = .ok (.putfield 9, 3) := by decide +kernel
theorem d4_57 : decode jdk_42_method_149_code 57 = .ok (.return_, 1) := by decide +kernel
theorem pn_4 : plainName "java/lang/String" = true := by first | (simp [plainName, overriddenIn]; done) | decide +kernel
theorem rm_init4_1 (hw : HW a0 Z) (a1 a2 : Addr) (c0 : Int32) (h0 : Heap) (Z0 : n0 ≤ h0.size) (cm : Cmp Z) (O : Old Z n0 h0) (E0 : Exa Z h0 a1 "java/lang/String") (F0 : Fld Z h0 a1 "java/lang/String" "value" "[B" .null) (F1 : Fld Z h0 a1 "java/lang/String" "coder" "B" (.int 0)) (g1 : n0 ≤ a1) (A2 : Ary Z h0 a2 .char [.int c0]) (n12 : a1 ≠ a2) (k0 : Ch c0) :
    Met1 l Z ⟨"java/lang/String", "<init>", "([CIILjava/lang/Void;)V"⟩ jdk_42_method_149_code 6 none ⟨2, 1, 1, 35⟩ n0 #[(.ref a1), (.ref a2), (.int 0), (.int 1), .null] h0 (fun v h => v = none ∧ Keep h0 h [a1] ∧ ∃ b : Addr, h0.size ≤ b ∧ Fld Z h a1 "java/lang/String" "value" "[B" (.ref b) ∧ Fld Z h a1 "java/lang/String" "coder" "B" (.int 0) ∧ Ary Z h b .byte [.int (bY c0)]) := by
  refine met_of (plainFor_of_name pn_4) (L0 := #[.val (.ref a1), .val (.ref a2), .val (.int 0), .val (.int 1), .val .null, .unset]) (by first | (simp [argsToLocals, Value.category]; done) | rfl) ?_
  intro B C hN
  change Ctx B l _ _ "java/lang/String" "<init>" _ _ Z at C
  have cm' := cm
  obtain ⟨cz, Scz, hcz⟩ := cm'
  refine aN C ((.ref a1)) d4_0 rfl rfl <| yinitObj C (oW hw 18 rfl) (oW hw 19 rfl) (oW hw 20 rfl) rfl (by decide) (W := 0) (lE rfl) (by decide) d4_1 <| iN C 1 d4_4 rfl <| fY C d4_5 (XT.i0_ne_t (by decide)) 27 (by decide) <| ygetstatic C (host := "") (v := (.int cz)) (Or.inl (oW hw 21 rfl)) Via.refl (Scz.ext O.2) d4_27 <| yif_n C d4_30 (XT.i0_eq_f hcz) <| aN C ((.ref a2)) d4_33 rfl rfl <| iN C 0 d4_34 rfl <| iN C 1 d4_35 rfl <| cS C hw 22 23 24 25 rfl rfl rfl rfl (rm_comp2_1 hw a2 c0 h0 Z0 A2 k0) [] [(.ref a2), (.int 0), (.int 1)] pd_8 0 d4_36 ⟨rfl, rfl, rfl, rfl, rfl⟩ (by decide) ?_
  intro v_3 h_1 q_2
  obtain ⟨b_5, rfl, le_6, K_7, f_8⟩ := q_2
  have ne_9 : a1 ≠ b_5 := ne_ge E0.lt le_6
  have ne_10 : a2 ≠ b_5 := ne_ge A2.lt le_6
  have ge_b_5 : n0 ≤ b_5 := lT Z0 le_6
  have gs_b_5 : h0.size ≤ b_5 := lT (Nat.le_refl h0.size) le_6
  show Go _ _ _ _ 1 1 39 _ [(.ref b_5)]
  refine aS C d4_39 (#[aV a1, aV a2, iV 0, iV 1, .val .null, aV b_5]) rfl rfl <| aN C ((.ref a1)) d4_41 rfl rfl <| aL C ((.ref b_5)) d4_42 rfl rfl <| iN C 1 d4_44 rfl ?_
  have f_11 := (lT Z0 K_7.1)
  refine cS C hw 30 31 24 32 rfl rfl rfl rfl (rm_coderF_1 hw b_5 (bY c0) h_1 f_11 f_8) [(.ref a1)] [(.ref b_5), (.int 1)] pd_5 1 d4_45 ⟨rfl, rfl, rfl, rfl, rfl⟩ (by decide) ?_
  intro v_14 h_12 q_13
  obtain ⟨rfl, rfl⟩ := q_13
  show Go _ _ _ _ 1 1 48 _ [(.int 0), (.ref a1)]
  have f_16 := (F1.keep K_7 nin0)
  have f_17 := (E0.keep K_7)
  refine yputfield C (host := "") (v := (.int 0)) (Or.inl (oW hw 33 rfl)) Via.refl f_16 f_17 (Or.inr ⟨(oW hw 34 rfl), rfl, rfl⟩) (oW hw 5 rfl) (ty := .byte) (by decide) rfl rfl g1 d4_48 ?_
  intro h_18 W_19
  have f_20 := f_16.same W_19
  refine aN C ((.ref a1)) d4_51 rfl rfl <| aL C ((.ref b_5)) d4_52 rfl rfl ?_
  have f_21 := ((F0.keep K_7 nin0).other W_19 (Or.inr (slot_ne (Or.inr (oW hw 36 rfl)) (Or.inr (oW hw 34 rfl)) (by decide) (t := (.array .byte)) (t' := .byte) (by decide) (by decide))))
  have f_22 := (f_17.wr W_19)
  refine yputfield C (host := "") (v := (.ref b_5)) (Or.inl (oW hw 35 rfl)) Via.refl f_21 f_22 (Or.inr ⟨(oW hw 36 rfl), rfl, rfl⟩) (oW hw 5 rfl) (ty := (.array .byte)) (by decide) rfl rfl g1 d4_54 ?_
  intro h_23 W_24
  have f_25 := f_21.same W_24
  refine g_return C (eN hN) rfl d4_57 (by decide) (by decide) ?_
  have f_26 := (f_20.other W_24 (Or.inr (slot_ne (Or.inr (oW hw 34 rfl)) (Or.inr (oW hw 36 rfl)) (by decide) (t := .byte) (t' := (.array .byte)) (by decide) (by decide))))
  have f_27 := ((f_8.keep (Keep.of_wr W_19) (nin1 (Ne.symm ne_9))).keep (Keep.of_wr W_24) (nin1 (Ne.symm ne_9)))
  exact ⟨rfl, ((((Keep.refl h0 [a1]).trans K_7 all0).wr W_19 (Or.inl (List.mem_of_getElem? (i := 0) rfl))).wr W_24 (Or.inl (List.mem_of_getElem? (i := 0) rfl))), b_5, gs_b_5, f_25, f_26, f_27⟩
theorem pd_17 : parseMethodDescriptor "([CIILjava/lang/Void;)V" = some ⟨[(.array .char), .int, .int, (.object "java/lang/Void")], none⟩ := by decide +kernel
theorem d3_0 : decode jdk_42_method_3_code 0 = .ok (.aload_n 0, 1) := by decide +kernel
theorem d3_1 : decode jdk_42_method_3_code 1 = .ok (.aload_n 1, 1) := by decide +kernel
theorem d3_2 : decode jdk_42_method_3_code 2 = .ok (.iconst 0, 1) := by decide +kernel
theorem d3_3 : decode jdk_42_method_3_code 3 = .ok (.aload_n 1, 1) := by decide +kernel
theorem d3_4 : decode jdk_42_method_3_code 4 = .ok (.arraylength, 1) := by decide +kernel
theorem d3_5 : decode jdk_42_method_3_code 5 = .ok (.aconst_null, 1) := by decide +kernel
theorem d3_6 : decode jdk_42_method_3_code 6 = .ok (.invokespecial 27, 3) := by decide +kernel
theorem d3_9 : decode jdk_42_method_3_code 9 = .ok (.return_, 1) := by decide +kernel
theorem rm_init1_1 (hw : HW a0 Z) (a1 a2 : Addr) (c0 : Int32) (h0 : Heap) (Z0 : n0 ≤ h0.size) (cm : Cmp Z) (O : Old Z n0 h0) (E0 : Exa Z h0 a1 "java/lang/String") (F0 : Fld Z h0 a1 "java/lang/String" "value" "[B" .null) (F1 : Fld Z h0 a1 "java/lang/String" "coder" "B" (.int 0)) (g1 : n0 ≤ a1) (A2 : Ary Z h0 a2 .char [.int c0]) (n12 : a1 ≠ a2) (k0 : Ch c0) :
    Met1 l Z ⟨"java/lang/String", "<init>", "([C)V"⟩ jdk_42_method_3_code 2 none ⟨3, 1, 1, 52⟩ n0 #[(.ref a1), (.ref a2)] h0 (fun v h => v = none ∧ Keep h0 h [a1] ∧ ∃ b : Addr, h0.size ≤ b ∧ Fld Z h a1 "java/lang/String" "value" "[B" (.ref b) ∧ Fld Z h a1 "java/lang/String" "coder" "B" (.int 0) ∧ Ary Z h b .byte [.int (bY c0)]) := by
  refine met_of (plainFor_of_name pn_4) (L0 := #[.val (.ref a1), .val (.ref a2)]) (by first | (simp [argsToLocals, Value.category]; done) | rfl) ?_
  intro B C hN
  change Ctx B l _ _ "java/lang/String" "<init>" _ _ Z at C
  have cm' := cm
  obtain ⟨cz, Scz, hcz⟩ := cm'
  refine aN C ((.ref a1)) d3_0 rfl rfl <| aN C ((.ref a2)) d3_1 rfl rfl <| iC C 0 d3_2 rfl <| aN C ((.ref a2)) d3_3 rfl rfl <| yarraylength C A2 (z := 1) rfl d3_4 <| yaconst_null C d3_5 <| cP C hw 14 15 6 17 rfl rfl rfl rfl rfl (rm_init4_1 hw a1 a2 c0 h0 Z0 cm O E0 F0 F1 g1 A2 n12 k0) [] [(.ref a2), (.int 0), (.int 1), .null] pd_17 0 d3_6 ⟨rfl, rfl, rfl, rfl, rfl⟩ (by decide) ?_
  intro v_3 h_1 q_2
  obtain ⟨rfl, K_5, b_6, le_7, f_8, f_9, f_10⟩ := q_2
  have ne_11 : a1 ≠ b_6 := ne_ge E0.lt le_7
  have ne_12 : a2 ≠ b_6 := ne_ge A2.lt le_7
  have ge_b_6 : n0 ≤ b_6 := lT Z0 le_7
  have gs_b_6 : h0.size ≤ b_6 := lT (Nat.le_refl h0.size) le_7
  show Go _ _ _ _ 1 1 9 _ []
  refine g_return C (eN hN) rfl d3_9 (by decide) (by decide) ?_
  exact ⟨rfl, ((Keep.refl h0 [a1]).trans K_5 (allS (Or.inl (List.mem_of_getElem? (i := 0) rfl)) all0)), b_6, gs_b_6, f_8, f_9, f_10⟩
theorem d2_21 : decode method_3_code 21 = .ok (.iload_n 0, 1) := by decide +kernel
theorem d2_22 : decode method_3_code 22 = .ok (.iconst 2, 1) := by decide +kernel
theorem d2_23 : decode method_3_code 23 = .ok (.if_icmp .ne 15, 3) := by decide +kernel
theorem d2_26 : decode method_3_code 26 = .ok (.iconst 2, 1) := by decide +kernel
theorem d2_27 : decode method_3_code 27 = .ok (.newarray .char, 2) := by decide +kernel
theorem d2_29 : decode method_3_code 29 = .ok (.dup, 1) := by decide +kernel
theorem d2_30 : decode method_3_code 30 = .ok (.iconst 0, 1) := by decide +kernel
theorem d2_31 : decode method_3_code 31 = .ok (.iload_n 1, 1) := by decide +kernel
theorem d2_32 : decode method_3_code 32 = .ok (.castore, 1) := by decide +kernel
theorem d2_33 : decode method_3_code 33 = .ok (.dup, 1) := by decide +kernel
theorem d2_34 : decode method_3_code 34 = .ok (.iconst 1, 1) := by decide +kernel
theorem d2_35 : decode method_3_code 35 = .ok (.iload_n 2, 1) := by decide +kernel
theorem d2_36 : decode method_3_code 36 = .ok (.castore, 1) := by decide +kernel
theorem d2_37 : decode method_3_code 37 = .ok (.areturn, 1) := by decide +kernel
theorem rm_chars_2 (hw : HW a0 Z) (c0 c1 c2 c3 c4 : Int32) (h0 : Heap) (Z0 : n0 ≤ h0.size) (k0 : Ch c0) (k1 : Ch c1) (k2 : Ch c2) (k3 : Ch c3) (k4 : Ch c4) :
    Met1 l Z ⟨"org/linkloom/io/FieldsSplitPinLaw", "chars", "(ICCCCC)[C"⟩ method_3_code 6 (some (.array .char)) ⟨0, 1, 2, 0⟩ n0 #[(.int 2), (.int c0), (.int c1), (.int c2), (.int c3), (.int c4)] h0 (fun v h => ∃ b : Addr, v = some (.ref b) ∧ h0.size ≤ b ∧ Keep h0 h [] ∧ Ary Z h b .char [.int c0, .int c1]) := by
  refine met_of (plainFor_of_name pn_0) (L0 := #[.val (.int 2), .val (.int c0), .val (.int c1), .val (.int c2), .val (.int c3), .val (.int c4)]) (by first | (simp [argsToLocals, Value.category]; done) | rfl) ?_
  intro B C hN
  change Ctx B l _ _ "org/linkloom/io/FieldsSplitPinLaw" "chars" _ _ Z at C
  refine iN C 2 d2_0 rfl <| fY C d2_1 (XT.i0_ne_t (by decide)) 8 (by decide) <| iN C 2 d2_8 rfl <| iC C 1 d2_9 rfl <| cY C d2_10 (XT.ii_ne_t (by decide)) 21 (by decide) <| iN C 2 d2_21 rfl <| iC C 2 d2_22 rfl <| yicmp_n C d2_23 (XT.ii_ne_f (by decide)) <| iC C 2 d2_26 rfl <| ynewarray C (oW hw 10 rfl) (ty := .char) rfl (by decide) (cap := 2) (by decide) (by decide) (by decide) (by decide) d2_27 ?_
  intro h_1 a_2 g_3 E_4 A_5
  have ge_a_2 : n0 ≤ a_2 := lT Z0 (lE g_3.symm)
  have gs_a_2 : h0.size ≤ a_2 := lT (Nat.le_refl h0.size) (lE g_3.symm)
  have f_6 : Ary Z h_1 a_2 .char [(.int 0), (.int 0)] := A_5
  show Go _ _ _ _ 1 2 29 _ [(.ref a_2)]
  refine ydup C d2_29 rfl <| iC C 0 d2_30 rfl <| iN C c0 d2_31 rfl <| ycastore C f_6 (by decide) (i := 0) (by decide) (show 0 < 2 by decide) (w := (.int c0)) (congrArg Value.int k0.1) ge_a_2 d2_32 ?_
  intro h_7 K_8 A_9
  have f_10 : Ary Z h_7 a_2 .char [(.int c0), (.int 0)] := A_9
  refine ydup C d2_33 rfl <| iC C 1 d2_34 rfl <| iN C c1 d2_35 rfl <| ycastore C f_10 (by decide) (i := 1) (by decide) (show 1 < 2 by decide) (w := (.int c1)) (congrArg Value.int k1.1) ge_a_2 d2_36 ?_
  intro h_11 K_12 A_13
  have f_14 : Ary Z h_11 a_2 .char [(.int c0), (.int c1)] := A_13
  refine g_ret C (eN hN) (v := (.ref a_2)) (ty := (.array .char)) rfl rfl (Or.inr (Or.inr (Or.inr (Or.inr ⟨rfl, rfl, rfl⟩)))) d2_37 (by decide) (by decide) ?_
  exact ⟨a_2, rfl, gs_a_2, ((((Keep.refl h0 []).ext E_4).trans K_8 (allS (Or.inr gs_a_2) all0)).trans K_12 (allS (Or.inr gs_a_2) all0)), f_14⟩
theorem rm_comp1_2 (hw : HW a0 Z) (a1 a2 : Addr) (c0 c1 : Int32) (h0 : Heap) (Z0 : n0 ≤ h0.size) (A1 : Ary Z h0 a1 .char [.int c0, .int c1]) (A2 : Ary Z h0 a2 .byte [.int 0, .int 0]) (g2 : n0 ≤ a2) (n12 : a1 ≠ a2) (k0 : Ch c0) (k1 : Ch c1) :
    Met1 l Z ⟨"java/lang/StringUTF16", "compress", "([CI[BII)I"⟩ jdk_52_method_21_code 7 (some .int) ⟨0, 0, 0, 0⟩ n0 #[(.ref a1), (.int 0), (.ref a2), (.int 0), (.int 2)] h0 (fun v h => v = some (.int 2) ∧ Keep h0 h [a2] ∧ Ary Z h a2 .byte [.int (bY c0), .int (bY c1)]) := by
  refine met_of (plainFor_of_name pn_3) (L0 := #[.val (.ref a1), .val (.int 0), .val (.ref a2), .val (.int 0), .val (.int 2), .unset, .unset]) (by first | (simp [argsToLocals, Value.category]; done) | rfl) ?_
  intro B C hN
  change Ctx B l _ _ "java/lang/StringUTF16" "compress" _ _ Z at C
  refine iC C 0 d7_0 rfl <| iS C d7_1 (#[aV a1, iV 0, aV a2, iV 0, iV 2, iV 0, uV]) rfl <| iL C 0 d7_3 rfl <| iL C 2 d7_5 rfl <| yicmp_n C d7_7 (XT.ii_ge_f (by decide)) <| aN C ((.ref a1)) d7_10 rfl rfl <| iN C 0 d7_11 rfl <| ycaload C A1 (by decide) (i := 0) (by decide) (v := c0) rfl d7_12 <| iS C d7_13 (#[aV a1, iV 0, aV a2, iV 0, iV 2, iV 0, iV c0]) rfl <| iL C c0 d7_15 rfl <| iP C 255 d7_17 rfl <| cY C d7_20 (XT.ii_le_t k0.2.1) 26 (by decide) <| aN C ((.ref a2)) d7_26 rfl rfl <| iN C 0 d7_27 rfl <| iL C c0 d7_28 rfl <| yi2b C d7_30 <| ybastoreB C A2 (by decide) (i := 0) (by decide) (show 0 < 2 by decide) (w := (.int (bY c0))) (congrArg Value.int (own_narb _)) g2 d7_31 ?_
  intro h_1 K_2 A_3
  have f_4 : Ary Z h_1 a2 .byte [(.int (bY c0)), (.int 0)] := A_3
  refine nC C 0 1 d7_32 rfl rfl (#[aV a1, iV 1, aV a2, iV 0, iV 2, iV 0, iV c0]) rfl <| nC C 0 1 d7_35 rfl rfl (#[aV a1, iV 1, aV a2, iV 1, iV 2, iV 0, iV c0]) rfl <| nC C 0 1 d7_38 rfl rfl (#[aV a1, iV 1, aV a2, iV 1, iV 2, iV 1, iV c0]) rfl <| gT C d7_41 3 (by decide) <| iL C 1 d7_3 rfl <| iL C 2 d7_5 rfl <| yicmp_n C d7_7 (XT.ii_ge_f (by decide)) <| aN C ((.ref a1)) d7_10 rfl rfl <| iN C 1 d7_11 rfl ?_
  have f_5 := (A1.keep K_2 (ninS n12 nin0))
  refine ycaload C f_5 (by decide) (i := 1) (by decide) (v := c1) rfl d7_12 <| iS C d7_13 (#[aV a1, iV 1, aV a2, iV 1, iV 2, iV 1, iV c1]) rfl <| iL C c1 d7_15 rfl <| iP C 255 d7_17 rfl <| cY C d7_20 (XT.ii_le_t k1.2.1) 26 (by decide) <| aN C ((.ref a2)) d7_26 rfl rfl <| iN C 1 d7_27 rfl <| iL C c1 d7_28 rfl <| yi2b C d7_30 <| ybastoreB C f_4 (by decide) (i := 1) (by decide) (show 1 < 2 by decide) (w := (.int (bY c1))) (congrArg Value.int (own_narb _)) g2 d7_31 ?_
  intro h_6 K_7 A_8
  have f_9 : Ary Z h_6 a2 .byte [(.int (bY c0)), (.int (bY c1))] := A_8
  refine nC C 1 2 d7_32 rfl rfl (#[aV a1, iV 2, aV a2, iV 1, iV 2, iV 1, iV c1]) rfl <| nC C 1 2 d7_35 rfl rfl (#[aV a1, iV 2, aV a2, iV 2, iV 2, iV 1, iV c1]) rfl <| nC C 1 2 d7_38 rfl rfl (#[aV a1, iV 2, aV a2, iV 2, iV 2, iV 2, iV c1]) rfl <| gT C d7_41 3 (by decide) <| iL C 2 d7_3 rfl <| iL C 2 d7_5 rfl <| cY C d7_7 (XT.ii_ge_t (by decide)) 44 (by decide) <| iL C 2 d7_44 rfl ?_
  refine g_ret C (eN hN) (v := (.int 2)) (ty := .int) rfl rfl (Or.inl ⟨rfl, Or.inl rfl, _, rfl⟩) d7_46 (by decide) (by decide) ?_
  exact ⟨rfl, (((Keep.refl h0 [a2]).trans K_2 (allS (Or.inl (List.mem_of_getElem? (i := 0) rfl)) all0)).trans K_7 (allS (Or.inl (List.mem_of_getElem? (i := 0) rfl)) all0)), f_9⟩
theorem rm_comp2_2 (hw : HW a0 Z) (a1 : Addr) (c0 c1 : Int32) (h0 : Heap) (Z0 : n0 ≤ h0.size) (A1 : Ary Z h0 a1 .char [.int c0, .int c1]) (k0 : Ch c0) (k1 : Ch c1) :
    Met1 l Z ⟨"java/lang/StringUTF16", "compress", "([CII)[B"⟩ jdk_52_method_16_code 6 (some (.array .byte)) ⟨1, 1, 2, 18⟩ n0 #[(.ref a1), (.int 0), (.int 2)] h0 (fun v h => ∃ b : Addr, v = some (.ref b) ∧ h0.size ≤ b ∧ Keep h0 h [] ∧ Ary Z h b .byte [.int (bY c0), .int (bY c1)]) := by
  refine met_of (plainFor_of_name pn_3) (L0 := #[.val (.ref a1), .val (.int 0), .val (.int 2), .unset, .unset, .unset]) (by first | (simp [argsToLocals, Value.category]; done) | rfl) ?_
  intro B C hN
  change Ctx B l _ _ "java/lang/StringUTF16" "compress" _ _ Z at C
  refine iN C 2 d6_0 rfl <| ynewarray C (oW hw 26 rfl) (ty := .byte) rfl (by decide) (cap := 2) (by decide) (by decide) (by decide) (by decide) d6_1 ?_
  intro h_1 a_2 g_3 E_4 A_5
  have ne_6 : a1 ≠ a_2 := ne_new A1.lt g_3
  have ge_a_2 : n0 ≤ a_2 := lT Z0 (lE g_3.symm)
  have gs_a_2 : h0.size ≤ a_2 := lT (Nat.le_refl h0.size) (lE g_3.symm)
  have f_7 : Ary Z h_1 a_2 .byte [(.int 0), (.int 0)] := A_5
  show Go _ _ _ _ 1 2 3 _ [(.ref a_2)]
  refine aT C d6_3 (#[aV a1, iV 0, iV 2, aV a_2, uV, uV]) rfl rfl <| aN C ((.ref a1)) d6_4 rfl rfl <| iN C 0 d6_5 rfl <| aN C ((.ref a_2)) d6_6 rfl rfl <| iC C 0 d6_7 rfl <| iN C 2 d6_8 rfl ?_
  have f_8 := (A1.ext E_4)
  have f_9 := (lT Z0 E_4.1)
  refine cS C hw 27 28 24 29 rfl rfl rfl rfl (rm_comp1_2 hw a1 a_2 c0 c1 h_1 f_9 f_8 f_7 ge_a_2 ne_6 k0 k1) [] [(.ref a1), (.int 0), (.ref a_2), (.int 0), (.int 2)] pd_7 0 d6_9 ⟨rfl, rfl, rfl, rfl, rfl⟩ (by decide) ?_
  intro v_12 h_10 q_11
  obtain ⟨rfl, K_14, f_15⟩ := q_11
  show Go _ _ _ _ 1 2 12 _ [(.int 2)]
  refine iS C d6_12 (#[aV a1, iV 0, iV 2, aV a_2, iV 2, uV]) rfl <| iL C 2 d6_14 rfl <| iN C 2 d6_16 rfl <| cY C d6_17 (XT.ii_eq_t (by decide)) 57 (by decide) <| aN C ((.ref a_2)) d6_57 rfl rfl ?_
  refine g_ret C (eN hN) (v := (.ref a_2)) (ty := (.array .byte)) rfl rfl (Or.inr (Or.inr (Or.inr (Or.inr ⟨rfl, rfl, rfl⟩)))) d6_58 (by decide) (by decide) ?_
  exact ⟨a_2, rfl, gs_a_2, (((Keep.refl h0 []).ext E_4).trans K_14 (allS (Or.inr gs_a_2) all0)), f_15⟩
theorem rm_coderF_2 (hw : HW a0 Z) (a1 : Addr) (x0 x1 : Int32) (h0 : Heap) (Z0 : n0 ≤ h0.size) (A1 : Ary Z h0 a1 .byte [.int x0, .int x1]) :
    Met1 l Z ⟨"java/lang/StringUTF16", "coderFromArrayLen", "([BI)B"⟩ jdk_52_method_15_code 2 (some .byte) ⟨0, 0, 0, 0⟩ n0 #[(.ref a1), (.int 2)] h0 (fun v h => v = some (.int 0) ∧ h0 = h) := by
  refine met_of (plainFor_of_name pn_3) (L0 := #[.val (.ref a1), .val (.int 2)]) (by first | (simp [argsToLocals, Value.category]; done) | rfl) ?_
  intro B C hN
  change Ctx B l _ _ "java/lang/StringUTF16" "coderFromArrayLen" _ _ Z at C
  refine iN C 2 d8_0 rfl <| aN C ((.ref a1)) d8_1 rfl rfl <| yarraylength C A1 (z := 2) rfl d8_2 <| yisub C d8_3 <| eS [(.int 0)] rfl <| iB C 31 d8_4 rfl <| yiushr C d8_6 <| eS [(.int 0)] rfl <| yi2b C d8_7 <| eS [(.int 0)] rfl ?_
  refine g_ret C (eN hN) (v := (.int 0)) (ty := .byte) rfl rfl (Or.inl ⟨rfl, Or.inr (Or.inr (Or.inl rfl)), _, rfl⟩) d8_8 (by decide) (by decide) ?_
  exact ⟨rfl, rfl⟩
theorem rm_init4_2 (hw : HW a0 Z) (a1 a2 : Addr) (c0 c1 : Int32) (h0 : Heap) (Z0 : n0 ≤ h0.size) (cm : Cmp Z) (O : Old Z n0 h0) (E0 : Exa Z h0 a1 "java/lang/String") (F0 : Fld Z h0 a1 "java/lang/String" "value" "[B" .null) (F1 : Fld Z h0 a1 "java/lang/String" "coder" "B" (.int 0)) (g1 : n0 ≤ a1) (A2 : Ary Z h0 a2 .char [.int c0, .int c1]) (n12 : a1 ≠ a2) (k0 : Ch c0) (k1 : Ch c1) :
    Met1 l Z ⟨"java/lang/String", "<init>", "([CIILjava/lang/Void;)V"⟩ jdk_42_method_149_code 6 none ⟨2, 1, 2, 35⟩ n0 #[(.ref a1), (.ref a2), (.int 0), (.int 2), .null] h0 (fun v h => v = none ∧ Keep h0 h [a1] ∧ ∃ b : Addr, h0.size ≤ b ∧ Fld Z h a1 "java/lang/String" "value" "[B" (.ref b) ∧ Fld Z h a1 "java/lang/String" "coder" "B" (.int 0) ∧ Ary Z h b .byte [.int (bY c0), .int (bY c1)]) := by
  refine met_of (plainFor_of_name pn_4) (L0 := #[.val (.ref a1), .val (.ref a2), .val (.int 0), .val (.int 2), .val .null, .unset]) (by first | (simp [argsToLocals, Value.category]; done) | rfl) ?_
  intro B C hN
  change Ctx B l _ _ "java/lang/String" "<init>" _ _ Z at C
  have cm' := cm
  obtain ⟨cz, Scz, hcz⟩ := cm'
  refine aN C ((.ref a1)) d4_0 rfl rfl <| yinitObj C (oW hw 18 rfl) (oW hw 19 rfl) (oW hw 20 rfl) rfl (by decide) (W := 0) (lE rfl) (by decide) d4_1 <| iN C 2 d4_4 rfl <| fY C d4_5 (XT.i0_ne_t (by decide)) 27 (by decide) <| ygetstatic C (host := "") (v := (.int cz)) (Or.inl (oW hw 21 rfl)) Via.refl (Scz.ext O.2) d4_27 <| yif_n C d4_30 (XT.i0_eq_f hcz) <| aN C ((.ref a2)) d4_33 rfl rfl <| iN C 0 d4_34 rfl <| iN C 2 d4_35 rfl <| cS C hw 22 23 24 25 rfl rfl rfl rfl (rm_comp2_2 hw a2 c0 c1 h0 Z0 A2 k0 k1) [] [(.ref a2), (.int 0), (.int 2)] pd_8 0 d4_36 ⟨rfl, rfl, rfl, rfl, rfl⟩ (by decide) ?_
  intro v_3 h_1 q_2
  obtain ⟨b_5, rfl, le_6, K_7, f_8⟩ := q_2
  have ne_9 : a1 ≠ b_5 := ne_ge E0.lt le_6
  have ne_10 : a2 ≠ b_5 := ne_ge A2.lt le_6
  have ge_b_5 : n0 ≤ b_5 := lT Z0 le_6
  have gs_b_5 : h0.size ≤ b_5 := lT (Nat.le_refl h0.size) le_6
  show Go _ _ _ _ 1 2 39 _ [(.ref b_5)]
  refine aS C d4_39 (#[aV a1, aV a2, iV 0, iV 2, .val .null, aV b_5]) rfl rfl <| aN C ((.ref a1)) d4_41 rfl rfl <| aL C ((.ref b_5)) d4_42 rfl rfl <| iN C 2 d4_44 rfl ?_
  have f_11 := (lT Z0 K_7.1)
  refine cS C hw 30 31 24 32 rfl rfl rfl rfl (rm_coderF_2 hw b_5 (bY c0) (bY c1) h_1 f_11 f_8) [(.ref a1)] [(.ref b_5), (.int 2)] pd_5 1 d4_45 ⟨rfl, rfl, rfl, rfl, rfl⟩ (by decide) ?_
  intro v_14 h_12 q_13
  obtain ⟨rfl, rfl⟩ := q_13
  show Go _ _ _ _ 1 2 48 _ [(.int 0), (.ref a1)]
  have f_16 := (F1.keep K_7 nin0)
  have f_17 := (E0.keep K_7)
  refine yputfield C (host := "") (v := (.int 0)) (Or.inl (oW hw 33 rfl)) Via.refl f_16 f_17 (Or.inr ⟨(oW hw 34 rfl), rfl, rfl⟩) (oW hw 5 rfl) (ty := .byte) (by decide) rfl rfl g1 d4_48 ?_
  intro h_18 W_19
  have f_20 := f_16.same W_19
  refine aN C ((.ref a1)) d4_51 rfl rfl <| aL C ((.ref b_5)) d4_52 rfl rfl ?_
  have f_21 := ((F0.keep K_7 nin0).other W_19 (Or.inr (slot_ne (Or.inr (oW hw 36 rfl)) (Or.inr (oW hw 34 rfl)) (by decide) (t := (.array .byte)) (t' := .byte) (by decide) (by decide))))
  have f_22 := (f_17.wr W_19)
  refine yputfield C (host := "") (v := (.ref b_5)) (Or.inl (oW hw 35 rfl)) Via.refl f_21 f_22 (Or.inr ⟨(oW hw 36 rfl), rfl, rfl⟩) (oW hw 5 rfl) (ty := (.array .byte)) (by decide) rfl rfl g1 d4_54 ?_
  intro h_23 W_24
  have f_25 := f_21.same W_24
  refine g_return C (eN hN) rfl d4_57 (by decide) (by decide) ?_
  have f_26 := (f_20.other W_24 (Or.inr (slot_ne (Or.inr (oW hw 34 rfl)) (Or.inr (oW hw 36 rfl)) (by decide) (t := .byte) (t' := (.array .byte)) (by decide) (by decide))))
  have f_27 := ((f_8.keep (Keep.of_wr W_19) (nin1 (Ne.symm ne_9))).keep (Keep.of_wr W_24) (nin1 (Ne.symm ne_9)))
  exact ⟨rfl, ((((Keep.refl h0 [a1]).trans K_7 all0).wr W_19 (Or.inl (List.mem_of_getElem? (i := 0) rfl))).wr W_24 (Or.inl (List.mem_of_getElem? (i := 0) rfl))), b_5, gs_b_5, f_25, f_26, f_27⟩
theorem rm_init1_2 (hw : HW a0 Z) (a1 a2 : Addr) (c0 c1 : Int32) (h0 : Heap) (Z0 : n0 ≤ h0.size) (cm : Cmp Z) (O : Old Z n0 h0) (E0 : Exa Z h0 a1 "java/lang/String") (F0 : Fld Z h0 a1 "java/lang/String" "value" "[B" .null) (F1 : Fld Z h0 a1 "java/lang/String" "coder" "B" (.int 0)) (g1 : n0 ≤ a1) (A2 : Ary Z h0 a2 .char [.int c0, .int c1]) (n12 : a1 ≠ a2) (k0 : Ch c0) (k1 : Ch c1) :
    Met1 l Z ⟨"java/lang/String", "<init>", "([C)V"⟩ jdk_42_method_3_code 2 none ⟨3, 1, 2, 52⟩ n0 #[(.ref a1), (.ref a2)] h0 (fun v h => v = none ∧ Keep h0 h [a1] ∧ ∃ b : Addr, h0.size ≤ b ∧ Fld Z h a1 "java/lang/String" "value" "[B" (.ref b) ∧ Fld Z h a1 "java/lang/String" "coder" "B" (.int 0) ∧ Ary Z h b .byte [.int (bY c0), .int (bY c1)]) := by
  refine met_of (plainFor_of_name pn_4) (L0 := #[.val (.ref a1), .val (.ref a2)]) (by first | (simp [argsToLocals, Value.category]; done) | rfl) ?_
  intro B C hN
  change Ctx B l _ _ "java/lang/String" "<init>" _ _ Z at C
  have cm' := cm
  obtain ⟨cz, Scz, hcz⟩ := cm'
  refine aN C ((.ref a1)) d3_0 rfl rfl <| aN C ((.ref a2)) d3_1 rfl rfl <| iC C 0 d3_2 rfl <| aN C ((.ref a2)) d3_3 rfl rfl <| yarraylength C A2 (z := 2) rfl d3_4 <| yaconst_null C d3_5 <| cP C hw 14 15 6 17 rfl rfl rfl rfl rfl (rm_init4_2 hw a1 a2 c0 c1 h0 Z0 cm O E0 F0 F1 g1 A2 n12 k0 k1) [] [(.ref a2), (.int 0), (.int 2), .null] pd_17 0 d3_6 ⟨rfl, rfl, rfl, rfl, rfl⟩ (by decide) ?_
  intro v_3 h_1 q_2
  obtain ⟨rfl, K_5, b_6, le_7, f_8, f_9, f_10⟩ := q_2
  have ne_11 : a1 ≠ b_6 := ne_ge E0.lt le_7
  have ne_12 : a2 ≠ b_6 := ne_ge A2.lt le_7
  have ge_b_6 : n0 ≤ b_6 := lT Z0 le_7
  have gs_b_6 : h0.size ≤ b_6 := lT (Nat.le_refl h0.size) le_7
  show Go _ _ _ _ 1 2 9 _ []
  refine g_return C (eN hN) rfl d3_9 (by decide) (by decide) ?_
  exact ⟨rfl, ((Keep.refl h0 [a1]).trans K_5 (allS (Or.inl (List.mem_of_getElem? (i := 0) rfl)) all0)), b_6, gs_b_6, f_8, f_9, f_10⟩
theorem d2_38 : decode method_3_code 38 = .ok (.iload_n 0, 1) := by decide +kernel
theorem d2_39 : decode method_3_code 39 = .ok (.iconst 3, 1) := by decide +kernel
theorem d2_40 : decode method_3_code 40 = .ok (.if_icmp .ne 19, 3) := by decide +kernel
theorem d2_43 : decode method_3_code 43 = .ok (.iconst 3, 1) := by decide +kernel
theorem d2_44 : decode method_3_code 44 = .ok (.newarray .char, 2) := by decide +kernel
theorem d2_46 : decode method_3_code 46 = .ok (.dup, 1) := by decide +kernel
theorem d2_47 : decode method_3_code 47 = .ok (.iconst 0, 1) := by decide +kernel
theorem d2_48 : decode method_3_code 48 = .ok (.iload_n 1, 1) := by decide +kernel
theorem d2_49 : decode method_3_code 49 = .ok (.castore, 1) := by decide +kernel
theorem d2_50 : decode method_3_code 50 = .ok (.dup, 1) := by decide +kernel
theorem d2_51 : decode method_3_code 51 = .ok (.iconst 1, 1) := by decide +kernel
theorem d2_52 : decode method_3_code 52 = .ok (.iload_n 2, 1) := by decide +kernel
theorem d2_53 : decode method_3_code 53 = .ok (.castore, 1) := by decide +kernel
theorem d2_54 : decode method_3_code 54 = .ok (.dup, 1) := by decide +kernel
theorem d2_55 : decode method_3_code 55 = .ok (.iconst 2, 1) := by decide +kernel
theorem d2_56 : decode method_3_code 56 = .ok (.iload_n 3, 1) := by decide +kernel
theorem d2_57 : decode method_3_code 57 = .ok (.castore, 1) := by decide +kernel
theorem d2_58 : decode method_3_code 58 = .ok (.areturn, 1) := by decide +kernel
theorem rm_chars_3 (hw : HW a0 Z) (c0 c1 c2 c3 c4 : Int32) (h0 : Heap) (Z0 : n0 ≤ h0.size) (k0 : Ch c0) (k1 : Ch c1) (k2 : Ch c2) (k3 : Ch c3) (k4 : Ch c4) :
    Met1 l Z ⟨"org/linkloom/io/FieldsSplitPinLaw", "chars", "(ICCCCC)[C"⟩ method_3_code 6 (some (.array .char)) ⟨0, 1, 3, 0⟩ n0 #[(.int 3), (.int c0), (.int c1), (.int c2), (.int c3), (.int c4)] h0 (fun v h => ∃ b : Addr, v = some (.ref b) ∧ h0.size ≤ b ∧ Keep h0 h [] ∧ Ary Z h b .char [.int c0, .int c1, .int c2]) := by
  refine met_of (plainFor_of_name pn_0) (L0 := #[.val (.int 3), .val (.int c0), .val (.int c1), .val (.int c2), .val (.int c3), .val (.int c4)]) (by first | (simp [argsToLocals, Value.category]; done) | rfl) ?_
  intro B C hN
  change Ctx B l _ _ "org/linkloom/io/FieldsSplitPinLaw" "chars" _ _ Z at C
  refine iN C 3 d2_0 rfl <| fY C d2_1 (XT.i0_ne_t (by decide)) 8 (by decide) <| iN C 3 d2_8 rfl <| iC C 1 d2_9 rfl <| cY C d2_10 (XT.ii_ne_t (by decide)) 21 (by decide) <| iN C 3 d2_21 rfl <| iC C 2 d2_22 rfl <| cY C d2_23 (XT.ii_ne_t (by decide)) 38 (by decide) <| iN C 3 d2_38 rfl <| iC C 3 d2_39 rfl <| yicmp_n C d2_40 (XT.ii_ne_f (by decide)) <| iC C 3 d2_43 rfl <| ynewarray C (oW hw 10 rfl) (ty := .char) rfl (by decide) (cap := 3) (by decide) (by decide) (by decide) (by decide) d2_44 ?_
  intro h_1 a_2 g_3 E_4 A_5
  have ge_a_2 : n0 ≤ a_2 := lT Z0 (lE g_3.symm)
  have gs_a_2 : h0.size ≤ a_2 := lT (Nat.le_refl h0.size) (lE g_3.symm)
  have f_6 : Ary Z h_1 a_2 .char [(.int 0), (.int 0), (.int 0)] := A_5
  show Go _ _ _ _ 1 3 46 _ [(.ref a_2)]
  refine ydup C d2_46 rfl <| iC C 0 d2_47 rfl <| iN C c0 d2_48 rfl <| ycastore C f_6 (by decide) (i := 0) (by decide) (show 0 < 3 by decide) (w := (.int c0)) (congrArg Value.int k0.1) ge_a_2 d2_49 ?_
  intro h_7 K_8 A_9
  have f_10 : Ary Z h_7 a_2 .char [(.int c0), (.int 0), (.int 0)] := A_9
  refine ydup C d2_50 rfl <| iC C 1 d2_51 rfl <| iN C c1 d2_52 rfl <| ycastore C f_10 (by decide) (i := 1) (by decide) (show 1 < 3 by decide) (w := (.int c1)) (congrArg Value.int k1.1) ge_a_2 d2_53 ?_
  intro h_11 K_12 A_13
  have f_14 : Ary Z h_11 a_2 .char [(.int c0), (.int c1), (.int 0)] := A_13
  refine ydup C d2_54 rfl <| iC C 2 d2_55 rfl <| iN C c2 d2_56 rfl <| ycastore C f_14 (by decide) (i := 2) (by decide) (show 2 < 3 by decide) (w := (.int c2)) (congrArg Value.int k2.1) ge_a_2 d2_57 ?_
  intro h_15 K_16 A_17
  have f_18 : Ary Z h_15 a_2 .char [(.int c0), (.int c1), (.int c2)] := A_17
  refine g_ret C (eN hN) (v := (.ref a_2)) (ty := (.array .char)) rfl rfl (Or.inr (Or.inr (Or.inr (Or.inr ⟨rfl, rfl, rfl⟩)))) d2_58 (by decide) (by decide) ?_
  exact ⟨a_2, rfl, gs_a_2, (((((Keep.refl h0 []).ext E_4).trans K_8 (allS (Or.inr gs_a_2) all0)).trans K_12 (allS (Or.inr gs_a_2) all0)).trans K_16 (allS (Or.inr gs_a_2) all0)), f_18⟩
theorem rm_comp1_3 (hw : HW a0 Z) (a1 a2 : Addr) (c0 c1 c2 : Int32) (h0 : Heap) (Z0 : n0 ≤ h0.size) (A1 : Ary Z h0 a1 .char [.int c0, .int c1, .int c2]) (A2 : Ary Z h0 a2 .byte [.int 0, .int 0, .int 0]) (g2 : n0 ≤ a2) (n12 : a1 ≠ a2) (k0 : Ch c0) (k1 : Ch c1) (k2 : Ch c2) :
    Met1 l Z ⟨"java/lang/StringUTF16", "compress", "([CI[BII)I"⟩ jdk_52_method_21_code 7 (some .int) ⟨0, 0, 0, 0⟩ n0 #[(.ref a1), (.int 0), (.ref a2), (.int 0), (.int 3)] h0 (fun v h => v = some (.int 3) ∧ Keep h0 h [a2] ∧ Ary Z h a2 .byte [.int (bY c0), .int (bY c1), .int (bY c2)]) := by
  refine met_of (plainFor_of_name pn_3) (L0 := #[.val (.ref a1), .val (.int 0), .val (.ref a2), .val (.int 0), .val (.int 3), .unset, .unset]) (by first | (simp [argsToLocals, Value.category]; done) | rfl) ?_
  intro B C hN
  change Ctx B l _ _ "java/lang/StringUTF16" "compress" _ _ Z at C
  refine iC C 0 d7_0 rfl <| iS C d7_1 (#[aV a1, iV 0, aV a2, iV 0, iV 3, iV 0, uV]) rfl <| iL C 0 d7_3 rfl <| iL C 3 d7_5 rfl <| yicmp_n C d7_7 (XT.ii_ge_f (by decide)) <| aN C ((.ref a1)) d7_10 rfl rfl <| iN C 0 d7_11 rfl <| ycaload C A1 (by decide) (i := 0) (by decide) (v := c0) rfl d7_12 <| iS C d7_13 (#[aV a1, iV 0, aV a2, iV 0, iV 3, iV 0, iV c0]) rfl <| iL C c0 d7_15 rfl <| iP C 255 d7_17 rfl <| cY C d7_20 (XT.ii_le_t k0.2.1) 26 (by decide) <| aN C ((.ref a2)) d7_26 rfl rfl <| iN C 0 d7_27 rfl <| iL C c0 d7_28 rfl <| yi2b C d7_30 <| ybastoreB C A2 (by decide) (i := 0) (by decide) (show 0 < 3 by decide) (w := (.int (bY c0))) (congrArg Value.int (own_narb _)) g2 d7_31 ?_
  intro h_1 K_2 A_3
  have f_4 : Ary Z h_1 a2 .byte [(.int (bY c0)), (.int 0), (.int 0)] := A_3
  refine nC C 0 1 d7_32 rfl rfl (#[aV a1, iV 1, aV a2, iV 0, iV 3, iV 0, iV c0]) rfl <| nC C 0 1 d7_35 rfl rfl (#[aV a1, iV 1, aV a2, iV 1, iV 3, iV 0, iV c0]) rfl <| nC C 0 1 d7_38 rfl rfl (#[aV a1, iV 1, aV a2, iV 1, iV 3, iV 1, iV c0]) rfl <| gT C d7_41 3 (by decide) <| iL C 1 d7_3 rfl <| iL C 3 d7_5 rfl <| yicmp_n C d7_7 (XT.ii_ge_f (by decide)) <| aN C ((.ref a1)) d7_10 rfl rfl <| iN C 1 d7_11 rfl ?_
  have f_5 := (A1.keep K_2 (ninS n12 nin0))
  refine ycaload C f_5 (by decide) (i := 1) (by decide) (v := c1) rfl d7_12 <| iS C d7_13 (#[aV a1, iV 1, aV a2, iV 1, iV 3, iV 1, iV c1]) rfl <| iL C c1 d7_15 rfl <| iP C 255 d7_17 rfl <| cY C d7_20 (XT.ii_le_t k1.2.1) 26 (by decide) <| aN C ((.ref a2)) d7_26 rfl rfl <| iN C 1 d7_27 rfl <| iL C c1 d7_28 rfl <| yi2b C d7_30 <| ybastoreB C f_4 (by decide) (i := 1) (by decide) (show 1 < 3 by decide) (w := (.int (bY c1))) (congrArg Value.int (own_narb _)) g2 d7_31 ?_
  intro h_6 K_7 A_8
  have f_9 : Ary Z h_6 a2 .byte [(.int (bY c0)), (.int (bY c1)), (.int 0)] := A_8
  refine nC C 1 2 d7_32 rfl rfl (#[aV a1, iV 2, aV a2, iV 1, iV 3, iV 1, iV c1]) rfl <| nC C 1 2 d7_35 rfl rfl (#[aV a1, iV 2, aV a2, iV 2, iV 3, iV 1, iV c1]) rfl <| nC C 1 2 d7_38 rfl rfl (#[aV a1, iV 2, aV a2, iV 2, iV 3, iV 2, iV c1]) rfl <| gT C d7_41 3 (by decide) <| iL C 2 d7_3 rfl <| iL C 3 d7_5 rfl <| yicmp_n C d7_7 (XT.ii_ge_f (by decide)) <| aN C ((.ref a1)) d7_10 rfl rfl <| iN C 2 d7_11 rfl ?_
  have f_10 := (f_5.keep K_7 (ninS n12 nin0))
  refine ycaload C f_10 (by decide) (i := 2) (by decide) (v := c2) rfl d7_12 <| iS C d7_13 (#[aV a1, iV 2, aV a2, iV 2, iV 3, iV 2, iV c2]) rfl <| iL C c2 d7_15 rfl <| iP C 255 d7_17 rfl <| cY C d7_20 (XT.ii_le_t k2.2.1) 26 (by decide) <| aN C ((.ref a2)) d7_26 rfl rfl <| iN C 2 d7_27 rfl <| iL C c2 d7_28 rfl <| yi2b C d7_30 <| ybastoreB C f_9 (by decide) (i := 2) (by decide) (show 2 < 3 by decide) (w := (.int (bY c2))) (congrArg Value.int (own_narb _)) g2 d7_31 ?_
  intro h_11 K_12 A_13
  have f_14 : Ary Z h_11 a2 .byte [(.int (bY c0)), (.int (bY c1)), (.int (bY c2))] := A_13
  refine nC C 2 3 d7_32 rfl rfl (#[aV a1, iV 3, aV a2, iV 2, iV 3, iV 2, iV c2]) rfl <| nC C 2 3 d7_35 rfl rfl (#[aV a1, iV 3, aV a2, iV 3, iV 3, iV 2, iV c2]) rfl <| nC C 2 3 d7_38 rfl rfl (#[aV a1, iV 3, aV a2, iV 3, iV 3, iV 3, iV c2]) rfl <| gT C d7_41 3 (by decide) <| iL C 3 d7_3 rfl <| iL C 3 d7_5 rfl <| cY C d7_7 (XT.ii_ge_t (by decide)) 44 (by decide) <| iL C 3 d7_44 rfl ?_
  refine g_ret C (eN hN) (v := (.int 3)) (ty := .int) rfl rfl (Or.inl ⟨rfl, Or.inl rfl, _, rfl⟩) d7_46 (by decide) (by decide) ?_
  exact ⟨rfl, ((((Keep.refl h0 [a2]).trans K_2 (allS (Or.inl (List.mem_of_getElem? (i := 0) rfl)) all0)).trans K_7 (allS (Or.inl (List.mem_of_getElem? (i := 0) rfl)) all0)).trans K_12 (allS (Or.inl (List.mem_of_getElem? (i := 0) rfl)) all0)), f_14⟩
theorem rm_comp2_3 (hw : HW a0 Z) (a1 : Addr) (c0 c1 c2 : Int32) (h0 : Heap) (Z0 : n0 ≤ h0.size) (A1 : Ary Z h0 a1 .char [.int c0, .int c1, .int c2]) (k0 : Ch c0) (k1 : Ch c1) (k2 : Ch c2) :
    Met1 l Z ⟨"java/lang/StringUTF16", "compress", "([CII)[B"⟩ jdk_52_method_16_code 6 (some (.array .byte)) ⟨1, 1, 3, 18⟩ n0 #[(.ref a1), (.int 0), (.int 3)] h0 (fun v h => ∃ b : Addr, v = some (.ref b) ∧ h0.size ≤ b ∧ Keep h0 h [] ∧ Ary Z h b .byte [.int (bY c0), .int (bY c1), .int (bY c2)]) := by
  refine met_of (plainFor_of_name pn_3) (L0 := #[.val (.ref a1), .val (.int 0), .val (.int 3), .unset, .unset, .unset]) (by first | (simp [argsToLocals, Value.category]; done) | rfl) ?_
  intro B C hN
  change Ctx B l _ _ "java/lang/StringUTF16" "compress" _ _ Z at C
  refine iN C 3 d6_0 rfl <| ynewarray C (oW hw 26 rfl) (ty := .byte) rfl (by decide) (cap := 3) (by decide) (by decide) (by decide) (by decide) d6_1 ?_
  intro h_1 a_2 g_3 E_4 A_5
  have ne_6 : a1 ≠ a_2 := ne_new A1.lt g_3
  have ge_a_2 : n0 ≤ a_2 := lT Z0 (lE g_3.symm)
  have gs_a_2 : h0.size ≤ a_2 := lT (Nat.le_refl h0.size) (lE g_3.symm)
  have f_7 : Ary Z h_1 a_2 .byte [(.int 0), (.int 0), (.int 0)] := A_5
  show Go _ _ _ _ 1 3 3 _ [(.ref a_2)]
  refine aT C d6_3 (#[aV a1, iV 0, iV 3, aV a_2, uV, uV]) rfl rfl <| aN C ((.ref a1)) d6_4 rfl rfl <| iN C 0 d6_5 rfl <| aN C ((.ref a_2)) d6_6 rfl rfl <| iC C 0 d6_7 rfl <| iN C 3 d6_8 rfl ?_
  have f_8 := (A1.ext E_4)
  have f_9 := (lT Z0 E_4.1)
  refine cS C hw 27 28 24 29 rfl rfl rfl rfl (rm_comp1_3 hw a1 a_2 c0 c1 c2 h_1 f_9 f_8 f_7 ge_a_2 ne_6 k0 k1 k2) [] [(.ref a1), (.int 0), (.ref a_2), (.int 0), (.int 3)] pd_7 0 d6_9 ⟨rfl, rfl, rfl, rfl, rfl⟩ (by decide) ?_
  intro v_12 h_10 q_11
  obtain ⟨rfl, K_14, f_15⟩ := q_11
  show Go _ _ _ _ 1 3 12 _ [(.int 3)]
  refine iS C d6_12 (#[aV a1, iV 0, iV 3, aV a_2, iV 3, uV]) rfl <| iL C 3 d6_14 rfl <| iN C 3 d6_16 rfl <| cY C d6_17 (XT.ii_eq_t (by decide)) 57 (by decide) <| aN C ((.ref a_2)) d6_57 rfl rfl ?_
  refine g_ret C (eN hN) (v := (.ref a_2)) (ty := (.array .byte)) rfl rfl (Or.inr (Or.inr (Or.inr (Or.inr ⟨rfl, rfl, rfl⟩)))) d6_58 (by decide) (by decide) ?_
  exact ⟨a_2, rfl, gs_a_2, (((Keep.refl h0 []).ext E_4).trans K_14 (allS (Or.inr gs_a_2) all0)), f_15⟩
theorem rm_coderF_3 (hw : HW a0 Z) (a1 : Addr) (x0 x1 x2 : Int32) (h0 : Heap) (Z0 : n0 ≤ h0.size) (A1 : Ary Z h0 a1 .byte [.int x0, .int x1, .int x2]) :
    Met1 l Z ⟨"java/lang/StringUTF16", "coderFromArrayLen", "([BI)B"⟩ jdk_52_method_15_code 2 (some .byte) ⟨0, 0, 0, 0⟩ n0 #[(.ref a1), (.int 3)] h0 (fun v h => v = some (.int 0) ∧ h0 = h) := by
  refine met_of (plainFor_of_name pn_3) (L0 := #[.val (.ref a1), .val (.int 3)]) (by first | (simp [argsToLocals, Value.category]; done) | rfl) ?_
  intro B C hN
  change Ctx B l _ _ "java/lang/StringUTF16" "coderFromArrayLen" _ _ Z at C
  refine iN C 3 d8_0 rfl <| aN C ((.ref a1)) d8_1 rfl rfl <| yarraylength C A1 (z := 3) rfl d8_2 <| yisub C d8_3 <| eS [(.int 0)] rfl <| iB C 31 d8_4 rfl <| yiushr C d8_6 <| eS [(.int 0)] rfl <| yi2b C d8_7 <| eS [(.int 0)] rfl ?_
  refine g_ret C (eN hN) (v := (.int 0)) (ty := .byte) rfl rfl (Or.inl ⟨rfl, Or.inr (Or.inr (Or.inl rfl)), _, rfl⟩) d8_8 (by decide) (by decide) ?_
  exact ⟨rfl, rfl⟩
theorem rm_init4_3 (hw : HW a0 Z) (a1 a2 : Addr) (c0 c1 c2 : Int32) (h0 : Heap) (Z0 : n0 ≤ h0.size) (cm : Cmp Z) (O : Old Z n0 h0) (E0 : Exa Z h0 a1 "java/lang/String") (F0 : Fld Z h0 a1 "java/lang/String" "value" "[B" .null) (F1 : Fld Z h0 a1 "java/lang/String" "coder" "B" (.int 0)) (g1 : n0 ≤ a1) (A2 : Ary Z h0 a2 .char [.int c0, .int c1, .int c2]) (n12 : a1 ≠ a2) (k0 : Ch c0) (k1 : Ch c1) (k2 : Ch c2) :
    Met1 l Z ⟨"java/lang/String", "<init>", "([CIILjava/lang/Void;)V"⟩ jdk_42_method_149_code 6 none ⟨2, 1, 3, 35⟩ n0 #[(.ref a1), (.ref a2), (.int 0), (.int 3), .null] h0 (fun v h => v = none ∧ Keep h0 h [a1] ∧ ∃ b : Addr, h0.size ≤ b ∧ Fld Z h a1 "java/lang/String" "value" "[B" (.ref b) ∧ Fld Z h a1 "java/lang/String" "coder" "B" (.int 0) ∧ Ary Z h b .byte [.int (bY c0), .int (bY c1), .int (bY c2)]) := by
  refine met_of (plainFor_of_name pn_4) (L0 := #[.val (.ref a1), .val (.ref a2), .val (.int 0), .val (.int 3), .val .null, .unset]) (by first | (simp [argsToLocals, Value.category]; done) | rfl) ?_
  intro B C hN
  change Ctx B l _ _ "java/lang/String" "<init>" _ _ Z at C
  have cm' := cm
  obtain ⟨cz, Scz, hcz⟩ := cm'
  refine aN C ((.ref a1)) d4_0 rfl rfl <| yinitObj C (oW hw 18 rfl) (oW hw 19 rfl) (oW hw 20 rfl) rfl (by decide) (W := 0) (lE rfl) (by decide) d4_1 <| iN C 3 d4_4 rfl <| fY C d4_5 (XT.i0_ne_t (by decide)) 27 (by decide) <| ygetstatic C (host := "") (v := (.int cz)) (Or.inl (oW hw 21 rfl)) Via.refl (Scz.ext O.2) d4_27 <| yif_n C d4_30 (XT.i0_eq_f hcz) <| aN C ((.ref a2)) d4_33 rfl rfl <| iN C 0 d4_34 rfl <| iN C 3 d4_35 rfl <| cS C hw 22 23 24 25 rfl rfl rfl rfl (rm_comp2_3 hw a2 c0 c1 c2 h0 Z0 A2 k0 k1 k2) [] [(.ref a2), (.int 0), (.int 3)] pd_8 0 d4_36 ⟨rfl, rfl, rfl, rfl, rfl⟩ (by decide) ?_
  intro v_3 h_1 q_2
  obtain ⟨b_5, rfl, le_6, K_7, f_8⟩ := q_2
  have ne_9 : a1 ≠ b_5 := ne_ge E0.lt le_6
  have ne_10 : a2 ≠ b_5 := ne_ge A2.lt le_6
  have ge_b_5 : n0 ≤ b_5 := lT Z0 le_6
  have gs_b_5 : h0.size ≤ b_5 := lT (Nat.le_refl h0.size) le_6
  show Go _ _ _ _ 1 3 39 _ [(.ref b_5)]
  refine aS C d4_39 (#[aV a1, aV a2, iV 0, iV 3, .val .null, aV b_5]) rfl rfl <| aN C ((.ref a1)) d4_41 rfl rfl <| aL C ((.ref b_5)) d4_42 rfl rfl <| iN C 3 d4_44 rfl ?_
  have f_11 := (lT Z0 K_7.1)
  refine cS C hw 30 31 24 32 rfl rfl rfl rfl (rm_coderF_3 hw b_5 (bY c0) (bY c1) (bY c2) h_1 f_11 f_8) [(.ref a1)] [(.ref b_5), (.int 3)] pd_5 1 d4_45 ⟨rfl, rfl, rfl, rfl, rfl⟩ (by decide) ?_
  intro v_14 h_12 q_13
  obtain ⟨rfl, rfl⟩ := q_13
  show Go _ _ _ _ 1 3 48 _ [(.int 0), (.ref a1)]
  have f_16 := (F1.keep K_7 nin0)
  have f_17 := (E0.keep K_7)
  refine yputfield C (host := "") (v := (.int 0)) (Or.inl (oW hw 33 rfl)) Via.refl f_16 f_17 (Or.inr ⟨(oW hw 34 rfl), rfl, rfl⟩) (oW hw 5 rfl) (ty := .byte) (by decide) rfl rfl g1 d4_48 ?_
  intro h_18 W_19
  have f_20 := f_16.same W_19
  refine aN C ((.ref a1)) d4_51 rfl rfl <| aL C ((.ref b_5)) d4_52 rfl rfl ?_
  have f_21 := ((F0.keep K_7 nin0).other W_19 (Or.inr (slot_ne (Or.inr (oW hw 36 rfl)) (Or.inr (oW hw 34 rfl)) (by decide) (t := (.array .byte)) (t' := .byte) (by decide) (by decide))))
  have f_22 := (f_17.wr W_19)
  refine yputfield C (host := "") (v := (.ref b_5)) (Or.inl (oW hw 35 rfl)) Via.refl f_21 f_22 (Or.inr ⟨(oW hw 36 rfl), rfl, rfl⟩) (oW hw 5 rfl) (ty := (.array .byte)) (by decide) rfl rfl g1 d4_54 ?_
  intro h_23 W_24
  have f_25 := f_21.same W_24
  refine g_return C (eN hN) rfl d4_57 (by decide) (by decide) ?_
  have f_26 := (f_20.other W_24 (Or.inr (slot_ne (Or.inr (oW hw 34 rfl)) (Or.inr (oW hw 36 rfl)) (by decide) (t := .byte) (t' := (.array .byte)) (by decide) (by decide))))
  have f_27 := ((f_8.keep (Keep.of_wr W_19) (nin1 (Ne.symm ne_9))).keep (Keep.of_wr W_24) (nin1 (Ne.symm ne_9)))
  exact ⟨rfl, ((((Keep.refl h0 [a1]).trans K_7 all0).wr W_19 (Or.inl (List.mem_of_getElem? (i := 0) rfl))).wr W_24 (Or.inl (List.mem_of_getElem? (i := 0) rfl))), b_5, gs_b_5, f_25, f_26, f_27⟩
theorem rm_init1_3 (hw : HW a0 Z) (a1 a2 : Addr) (c0 c1 c2 : Int32) (h0 : Heap) (Z0 : n0 ≤ h0.size) (cm : Cmp Z) (O : Old Z n0 h0) (E0 : Exa Z h0 a1 "java/lang/String") (F0 : Fld Z h0 a1 "java/lang/String" "value" "[B" .null) (F1 : Fld Z h0 a1 "java/lang/String" "coder" "B" (.int 0)) (g1 : n0 ≤ a1) (A2 : Ary Z h0 a2 .char [.int c0, .int c1, .int c2]) (n12 : a1 ≠ a2) (k0 : Ch c0) (k1 : Ch c1) (k2 : Ch c2) :
    Met1 l Z ⟨"java/lang/String", "<init>", "([C)V"⟩ jdk_42_method_3_code 2 none ⟨3, 1, 3, 52⟩ n0 #[(.ref a1), (.ref a2)] h0 (fun v h => v = none ∧ Keep h0 h [a1] ∧ ∃ b : Addr, h0.size ≤ b ∧ Fld Z h a1 "java/lang/String" "value" "[B" (.ref b) ∧ Fld Z h a1 "java/lang/String" "coder" "B" (.int 0) ∧ Ary Z h b .byte [.int (bY c0), .int (bY c1), .int (bY c2)]) := by
  refine met_of (plainFor_of_name pn_4) (L0 := #[.val (.ref a1), .val (.ref a2)]) (by first | (simp [argsToLocals, Value.category]; done) | rfl) ?_
  intro B C hN
  change Ctx B l _ _ "java/lang/String" "<init>" _ _ Z at C
  have cm' := cm
  obtain ⟨cz, Scz, hcz⟩ := cm'
  refine aN C ((.ref a1)) d3_0 rfl rfl <| aN C ((.ref a2)) d3_1 rfl rfl <| iC C 0 d3_2 rfl <| aN C ((.ref a2)) d3_3 rfl rfl <| yarraylength C A2 (z := 3) rfl d3_4 <| yaconst_null C d3_5 <| cP C hw 14 15 6 17 rfl rfl rfl rfl rfl (rm_init4_3 hw a1 a2 c0 c1 c2 h0 Z0 cm O E0 F0 F1 g1 A2 n12 k0 k1 k2) [] [(.ref a2), (.int 0), (.int 3), .null] pd_17 0 d3_6 ⟨rfl, rfl, rfl, rfl, rfl⟩ (by decide) ?_
  intro v_3 h_1 q_2
  obtain ⟨rfl, K_5, b_6, le_7, f_8, f_9, f_10⟩ := q_2
  have ne_11 : a1 ≠ b_6 := ne_ge E0.lt le_7
  have ne_12 : a2 ≠ b_6 := ne_ge A2.lt le_7
  have ge_b_6 : n0 ≤ b_6 := lT Z0 le_7
  have gs_b_6 : h0.size ≤ b_6 := lT (Nat.le_refl h0.size) le_7
  show Go _ _ _ _ 1 3 9 _ []
  refine g_return C (eN hN) rfl d3_9 (by decide) (by decide) ?_
  exact ⟨rfl, ((Keep.refl h0 [a1]).trans K_5 (allS (Or.inl (List.mem_of_getElem? (i := 0) rfl)) all0)), b_6, gs_b_6, f_8, f_9, f_10⟩
theorem d2_59 : decode method_3_code 59 = .ok (.iload_n 0, 1) := by decide +kernel
theorem d2_60 : decode method_3_code 60 = .ok (.iconst 4, 1) := by decide +kernel
theorem d2_61 : decode method_3_code 61 = .ok (.if_icmp .ne 24, 3) := by decide +kernel
theorem d2_64 : decode method_3_code 64 = .ok (.iconst 4, 1) := by decide +kernel
theorem d2_65 : decode method_3_code 65 = .ok (.newarray .char, 2) := by decide +kernel
theorem d2_67 : decode method_3_code 67 = .ok (.dup, 1) := by decide +kernel
theorem d2_68 : decode method_3_code 68 = .ok (.iconst 0, 1) := by decide +kernel
theorem d2_69 : decode method_3_code 69 = .ok (.iload_n 1, 1) := by decide +kernel
theorem d2_70 : decode method_3_code 70 = .ok (.castore, 1) := by decide +kernel
theorem d2_71 : decode method_3_code 71 = .ok (.dup, 1) := by decide +kernel
theorem d2_72 : decode method_3_code 72 = .ok (.iconst 1, 1) := by decide +kernel
theorem d2_73 : decode method_3_code 73 = .ok (.iload_n 2, 1) := by decide +kernel
theorem d2_74 : decode method_3_code 74 = .ok (.castore, 1) := by decide +kernel
theorem d2_75 : decode method_3_code 75 = .ok (.dup, 1) := by decide +kernel
theorem d2_76 : decode method_3_code 76 = .ok (.iconst 2, 1) := by decide +kernel
theorem d2_77 : decode method_3_code 77 = .ok (.iload_n 3, 1) := by decide +kernel
theorem d2_78 : decode method_3_code 78 = .ok (.castore, 1) := by decide +kernel
theorem d2_79 : decode method_3_code 79 = .ok (.dup, 1) := by decide +kernel
theorem d2_80 : decode method_3_code 80 = .ok (.iconst 3, 1) := by decide +kernel
theorem d2_81 : decode method_3_code 81 = .ok (.iload 4, 2) := by decide +kernel
theorem d2_83 : decode method_3_code 83 = .ok (.castore, 1) := by decide +kernel
theorem d2_84 : decode method_3_code 84 = .ok (.areturn, 1) := by decide +kernel
theorem rm_chars_4 (hw : HW a0 Z) (c0 c1 c2 c3 c4 : Int32) (h0 : Heap) (Z0 : n0 ≤ h0.size) (k0 : Ch c0) (k1 : Ch c1) (k2 : Ch c2) (k3 : Ch c3) (k4 : Ch c4) :
    Met1 l Z ⟨"org/linkloom/io/FieldsSplitPinLaw", "chars", "(ICCCCC)[C"⟩ method_3_code 6 (some (.array .char)) ⟨0, 1, 4, 0⟩ n0 #[(.int 4), (.int c0), (.int c1), (.int c2), (.int c3), (.int c4)] h0 (fun v h => ∃ b : Addr, v = some (.ref b) ∧ h0.size ≤ b ∧ Keep h0 h [] ∧ Ary Z h b .char [.int c0, .int c1, .int c2, .int c3]) := by
  refine met_of (plainFor_of_name pn_0) (L0 := #[.val (.int 4), .val (.int c0), .val (.int c1), .val (.int c2), .val (.int c3), .val (.int c4)]) (by first | (simp [argsToLocals, Value.category]; done) | rfl) ?_
  intro B C hN
  change Ctx B l _ _ "org/linkloom/io/FieldsSplitPinLaw" "chars" _ _ Z at C
  refine iN C 4 d2_0 rfl <| fY C d2_1 (XT.i0_ne_t (by decide)) 8 (by decide) <| iN C 4 d2_8 rfl <| iC C 1 d2_9 rfl <| cY C d2_10 (XT.ii_ne_t (by decide)) 21 (by decide) <| iN C 4 d2_21 rfl <| iC C 2 d2_22 rfl <| cY C d2_23 (XT.ii_ne_t (by decide)) 38 (by decide) <| iN C 4 d2_38 rfl <| iC C 3 d2_39 rfl <| cY C d2_40 (XT.ii_ne_t (by decide)) 59 (by decide) <| iN C 4 d2_59 rfl <| iC C 4 d2_60 rfl <| yicmp_n C d2_61 (XT.ii_ne_f (by decide)) <| iC C 4 d2_64 rfl <| ynewarray C (oW hw 10 rfl) (ty := .char) rfl (by decide) (cap := 4) (by decide) (by decide) (by decide) (by decide) d2_65 ?_
  intro h_1 a_2 g_3 E_4 A_5
  have ge_a_2 : n0 ≤ a_2 := lT Z0 (lE g_3.symm)
  have gs_a_2 : h0.size ≤ a_2 := lT (Nat.le_refl h0.size) (lE g_3.symm)
  have f_6 : Ary Z h_1 a_2 .char [(.int 0), (.int 0), (.int 0), (.int 0)] := A_5
  show Go _ _ _ _ 1 4 67 _ [(.ref a_2)]
  refine ydup C d2_67 rfl <| iC C 0 d2_68 rfl <| iN C c0 d2_69 rfl <| ycastore C f_6 (by decide) (i := 0) (by decide) (show 0 < 4 by decide) (w := (.int c0)) (congrArg Value.int k0.1) ge_a_2 d2_70 ?_
  intro h_7 K_8 A_9
  have f_10 : Ary Z h_7 a_2 .char [(.int c0), (.int 0), (.int 0), (.int 0)] := A_9
  refine ydup C d2_71 rfl <| iC C 1 d2_72 rfl <| iN C c1 d2_73 rfl <| ycastore C f_10 (by decide) (i := 1) (by decide) (show 1 < 4 by decide) (w := (.int c1)) (congrArg Value.int k1.1) ge_a_2 d2_74 ?_
  intro h_11 K_12 A_13
  have f_14 : Ary Z h_11 a_2 .char [(.int c0), (.int c1), (.int 0), (.int 0)] := A_13
  refine ydup C d2_75 rfl <| iC C 2 d2_76 rfl <| iN C c2 d2_77 rfl <| ycastore C f_14 (by decide) (i := 2) (by decide) (show 2 < 4 by decide) (w := (.int c2)) (congrArg Value.int k2.1) ge_a_2 d2_78 ?_
  intro h_15 K_16 A_17
  have f_18 : Ary Z h_15 a_2 .char [(.int c0), (.int c1), (.int c2), (.int 0)] := A_17
  refine ydup C d2_79 rfl <| iC C 3 d2_80 rfl <| iL C c3 d2_81 rfl <| ycastore C f_18 (by decide) (i := 3) (by decide) (show 3 < 4 by decide) (w := (.int c3)) (congrArg Value.int k3.1) ge_a_2 d2_83 ?_
  intro h_19 K_20 A_21
  have f_22 : Ary Z h_19 a_2 .char [(.int c0), (.int c1), (.int c2), (.int c3)] := A_21
  refine g_ret C (eN hN) (v := (.ref a_2)) (ty := (.array .char)) rfl rfl (Or.inr (Or.inr (Or.inr (Or.inr ⟨rfl, rfl, rfl⟩)))) d2_84 (by decide) (by decide) ?_
  exact ⟨a_2, rfl, gs_a_2, ((((((Keep.refl h0 []).ext E_4).trans K_8 (allS (Or.inr gs_a_2) all0)).trans K_12 (allS (Or.inr gs_a_2) all0)).trans K_16 (allS (Or.inr gs_a_2) all0)).trans K_20 (allS (Or.inr gs_a_2) all0)), f_22⟩
theorem rm_comp1_4 (hw : HW a0 Z) (a1 a2 : Addr) (c0 c1 c2 c3 : Int32) (h0 : Heap) (Z0 : n0 ≤ h0.size) (A1 : Ary Z h0 a1 .char [.int c0, .int c1, .int c2, .int c3]) (A2 : Ary Z h0 a2 .byte [.int 0, .int 0, .int 0, .int 0]) (g2 : n0 ≤ a2) (n12 : a1 ≠ a2) (k0 : Ch c0) (k1 : Ch c1) (k2 : Ch c2) (k3 : Ch c3) :
    Met1 l Z ⟨"java/lang/StringUTF16", "compress", "([CI[BII)I"⟩ jdk_52_method_21_code 7 (some .int) ⟨0, 0, 0, 0⟩ n0 #[(.ref a1), (.int 0), (.ref a2), (.int 0), (.int 4)] h0 (fun v h => v = some (.int 4) ∧ Keep h0 h [a2] ∧ Ary Z h a2 .byte [.int (bY c0), .int (bY c1), .int (bY c2), .int (bY c3)]) := by
  refine met_of (plainFor_of_name pn_3) (L0 := #[.val (.ref a1), .val (.int 0), .val (.ref a2), .val (.int 0), .val (.int 4), .unset, .unset]) (by first | (simp [argsToLocals, Value.category]; done) | rfl) ?_
  intro B C hN
  change Ctx B l _ _ "java/lang/StringUTF16" "compress" _ _ Z at C
  refine iC C 0 d7_0 rfl <| iS C d7_1 (#[aV a1, iV 0, aV a2, iV 0, iV 4, iV 0, uV]) rfl <| iL C 0 d7_3 rfl <| iL C 4 d7_5 rfl <| yicmp_n C d7_7 (XT.ii_ge_f (by decide)) <| aN C ((.ref a1)) d7_10 rfl rfl <| iN C 0 d7_11 rfl <| ycaload C A1 (by decide) (i := 0) (by decide) (v := c0) rfl d7_12 <| iS C d7_13 (#[aV a1, iV 0, aV a2, iV 0, iV 4, iV 0, iV c0]) rfl <| iL C c0 d7_15 rfl <| iP C 255 d7_17 rfl <| cY C d7_20 (XT.ii_le_t k0.2.1) 26 (by decide) <| aN C ((.ref a2)) d7_26 rfl rfl <| iN C 0 d7_27 rfl <| iL C c0 d7_28 rfl <| yi2b C d7_30 <| ybastoreB C A2 (by decide) (i := 0) (by decide) (show 0 < 4 by decide) (w := (.int (bY c0))) (congrArg Value.int (own_narb _)) g2 d7_31 ?_
  intro h_1 K_2 A_3
  have f_4 : Ary Z h_1 a2 .byte [(.int (bY c0)), (.int 0), (.int 0), (.int 0)] := A_3
  refine nC C 0 1 d7_32 rfl rfl (#[aV a1, iV 1, aV a2, iV 0, iV 4, iV 0, iV c0]) rfl <| nC C 0 1 d7_35 rfl rfl (#[aV a1, iV 1, aV a2, iV 1, iV 4, iV 0, iV c0]) rfl <| nC C 0 1 d7_38 rfl rfl (#[aV a1, iV 1, aV a2, iV 1, iV 4, iV 1, iV c0]) rfl <| gT C d7_41 3 (by decide) <| iL C 1 d7_3 rfl <| iL C 4 d7_5 rfl <| yicmp_n C d7_7 (XT.ii_ge_f (by decide)) <| aN C ((.ref a1)) d7_10 rfl rfl <| iN C 1 d7_11 rfl ?_
  have f_5 := (A1.keep K_2 (ninS n12 nin0))
  refine ycaload C f_5 (by decide) (i := 1) (by decide) (v := c1) rfl d7_12 <| iS C d7_13 (#[aV a1, iV 1, aV a2, iV 1, iV 4, iV 1, iV c1]) rfl <| iL C c1 d7_15 rfl <| iP C 255 d7_17 rfl <| cY C d7_20 (XT.ii_le_t k1.2.1) 26 (by decide) <| aN C ((.ref a2)) d7_26 rfl rfl <| iN C 1 d7_27 rfl <| iL C c1 d7_28 rfl <| yi2b C d7_30 <| ybastoreB C f_4 (by decide) (i := 1) (by decide) (show 1 < 4 by decide) (w := (.int (bY c1))) (congrArg Value.int (own_narb _)) g2 d7_31 ?_
  intro h_6 K_7 A_8
  have f_9 : Ary Z h_6 a2 .byte [(.int (bY c0)), (.int (bY c1)), (.int 0), (.int 0)] := A_8
  refine nC C 1 2 d7_32 rfl rfl (#[aV a1, iV 2, aV a2, iV 1, iV 4, iV 1, iV c1]) rfl <| nC C 1 2 d7_35 rfl rfl (#[aV a1, iV 2, aV a2, iV 2, iV 4, iV 1, iV c1]) rfl <| nC C 1 2 d7_38 rfl rfl (#[aV a1, iV 2, aV a2, iV 2, iV 4, iV 2, iV c1]) rfl <| gT C d7_41 3 (by decide) <| iL C 2 d7_3 rfl <| iL C 4 d7_5 rfl <| yicmp_n C d7_7 (XT.ii_ge_f (by decide)) <| aN C ((.ref a1)) d7_10 rfl rfl <| iN C 2 d7_11 rfl ?_
  have f_10 := (f_5.keep K_7 (ninS n12 nin0))
  refine ycaload C f_10 (by decide) (i := 2) (by decide) (v := c2) rfl d7_12 <| iS C d7_13 (#[aV a1, iV 2, aV a2, iV 2, iV 4, iV 2, iV c2]) rfl <| iL C c2 d7_15 rfl <| iP C 255 d7_17 rfl <| cY C d7_20 (XT.ii_le_t k2.2.1) 26 (by decide) <| aN C ((.ref a2)) d7_26 rfl rfl <| iN C 2 d7_27 rfl <| iL C c2 d7_28 rfl <| yi2b C d7_30 <| ybastoreB C f_9 (by decide) (i := 2) (by decide) (show 2 < 4 by decide) (w := (.int (bY c2))) (congrArg Value.int (own_narb _)) g2 d7_31 ?_
  intro h_11 K_12 A_13
  have f_14 : Ary Z h_11 a2 .byte [(.int (bY c0)), (.int (bY c1)), (.int (bY c2)), (.int 0)] := A_13
  refine nC C 2 3 d7_32 rfl rfl (#[aV a1, iV 3, aV a2, iV 2, iV 4, iV 2, iV c2]) rfl <| nC C 2 3 d7_35 rfl rfl (#[aV a1, iV 3, aV a2, iV 3, iV 4, iV 2, iV c2]) rfl <| nC C 2 3 d7_38 rfl rfl (#[aV a1, iV 3, aV a2, iV 3, iV 4, iV 3, iV c2]) rfl <| gT C d7_41 3 (by decide) <| iL C 3 d7_3 rfl <| iL C 4 d7_5 rfl <| yicmp_n C d7_7 (XT.ii_ge_f (by decide)) <| aN C ((.ref a1)) d7_10 rfl rfl <| iN C 3 d7_11 rfl ?_
  have f_15 := (f_10.keep K_12 (ninS n12 nin0))
  refine ycaload C f_15 (by decide) (i := 3) (by decide) (v := c3) rfl d7_12 <| iS C d7_13 (#[aV a1, iV 3, aV a2, iV 3, iV 4, iV 3, iV c3]) rfl <| iL C c3 d7_15 rfl <| iP C 255 d7_17 rfl <| cY C d7_20 (XT.ii_le_t k3.2.1) 26 (by decide) <| aN C ((.ref a2)) d7_26 rfl rfl <| iN C 3 d7_27 rfl <| iL C c3 d7_28 rfl <| yi2b C d7_30 <| ybastoreB C f_14 (by decide) (i := 3) (by decide) (show 3 < 4 by decide) (w := (.int (bY c3))) (congrArg Value.int (own_narb _)) g2 d7_31 ?_
  intro h_16 K_17 A_18
  have f_19 : Ary Z h_16 a2 .byte [(.int (bY c0)), (.int (bY c1)), (.int (bY c2)), (.int (bY c3))] := A_18
  refine nC C 3 4 d7_32 rfl rfl (#[aV a1, iV 4, aV a2, iV 3, iV 4, iV 3, iV c3]) rfl <| nC C 3 4 d7_35 rfl rfl (#[aV a1, iV 4, aV a2, iV 4, iV 4, iV 3, iV c3]) rfl <| nC C 3 4 d7_38 rfl rfl (#[aV a1, iV 4, aV a2, iV 4, iV 4, iV 4, iV c3]) rfl <| gT C d7_41 3 (by decide) <| iL C 4 d7_3 rfl <| iL C 4 d7_5 rfl <| cY C d7_7 (XT.ii_ge_t (by decide)) 44 (by decide) <| iL C 4 d7_44 rfl ?_
  refine g_ret C (eN hN) (v := (.int 4)) (ty := .int) rfl rfl (Or.inl ⟨rfl, Or.inl rfl, _, rfl⟩) d7_46 (by decide) (by decide) ?_
  exact ⟨rfl, (((((Keep.refl h0 [a2]).trans K_2 (allS (Or.inl (List.mem_of_getElem? (i := 0) rfl)) all0)).trans K_7 (allS (Or.inl (List.mem_of_getElem? (i := 0) rfl)) all0)).trans K_12 (allS (Or.inl (List.mem_of_getElem? (i := 0) rfl)) all0)).trans K_17 (allS (Or.inl (List.mem_of_getElem? (i := 0) rfl)) all0)), f_19⟩
theorem rm_comp2_4 (hw : HW a0 Z) (a1 : Addr) (c0 c1 c2 c3 : Int32) (h0 : Heap) (Z0 : n0 ≤ h0.size) (A1 : Ary Z h0 a1 .char [.int c0, .int c1, .int c2, .int c3]) (k0 : Ch c0) (k1 : Ch c1) (k2 : Ch c2) (k3 : Ch c3) :
    Met1 l Z ⟨"java/lang/StringUTF16", "compress", "([CII)[B"⟩ jdk_52_method_16_code 6 (some (.array .byte)) ⟨1, 1, 4, 18⟩ n0 #[(.ref a1), (.int 0), (.int 4)] h0 (fun v h => ∃ b : Addr, v = some (.ref b) ∧ h0.size ≤ b ∧ Keep h0 h [] ∧ Ary Z h b .byte [.int (bY c0), .int (bY c1), .int (bY c2), .int (bY c3)]) := by
  refine met_of (plainFor_of_name pn_3) (L0 := #[.val (.ref a1), .val (.int 0), .val (.int 4), .unset, .unset, .unset]) (by first | (simp [argsToLocals, Value.category]; done) | rfl) ?_
  intro B C hN
  change Ctx B l _ _ "java/lang/StringUTF16" "compress" _ _ Z at C
  refine iN C 4 d6_0 rfl <| ynewarray C (oW hw 26 rfl) (ty := .byte) rfl (by decide) (cap := 4) (by decide) (by decide) (by decide) (by decide) d6_1 ?_
  intro h_1 a_2 g_3 E_4 A_5
  have ne_6 : a1 ≠ a_2 := ne_new A1.lt g_3
  have ge_a_2 : n0 ≤ a_2 := lT Z0 (lE g_3.symm)
  have gs_a_2 : h0.size ≤ a_2 := lT (Nat.le_refl h0.size) (lE g_3.symm)
  have f_7 : Ary Z h_1 a_2 .byte [(.int 0), (.int 0), (.int 0), (.int 0)] := A_5
  show Go _ _ _ _ 1 4 3 _ [(.ref a_2)]
  refine aT C d6_3 (#[aV a1, iV 0, iV 4, aV a_2, uV, uV]) rfl rfl <| aN C ((.ref a1)) d6_4 rfl rfl <| iN C 0 d6_5 rfl <| aN C ((.ref a_2)) d6_6 rfl rfl <| iC C 0 d6_7 rfl <| iN C 4 d6_8 rfl ?_
  have f_8 := (A1.ext E_4)
  have f_9 := (lT Z0 E_4.1)
  refine cS C hw 27 28 24 29 rfl rfl rfl rfl (rm_comp1_4 hw a1 a_2 c0 c1 c2 c3 h_1 f_9 f_8 f_7 ge_a_2 ne_6 k0 k1 k2 k3) [] [(.ref a1), (.int 0), (.ref a_2), (.int 0), (.int 4)] pd_7 0 d6_9 ⟨rfl, rfl, rfl, rfl, rfl⟩ (by decide) ?_
  intro v_12 h_10 q_11
  obtain ⟨rfl, K_14, f_15⟩ := q_11
  show Go _ _ _ _ 1 4 12 _ [(.int 4)]
  refine iS C d6_12 (#[aV a1, iV 0, iV 4, aV a_2, iV 4, uV]) rfl <| iL C 4 d6_14 rfl <| iN C 4 d6_16 rfl <| cY C d6_17 (XT.ii_eq_t (by decide)) 57 (by decide) <| aN C ((.ref a_2)) d6_57 rfl rfl ?_
  refine g_ret C (eN hN) (v := (.ref a_2)) (ty := (.array .byte)) rfl rfl (Or.inr (Or.inr (Or.inr (Or.inr ⟨rfl, rfl, rfl⟩)))) d6_58 (by decide) (by decide) ?_
  exact ⟨a_2, rfl, gs_a_2, (((Keep.refl h0 []).ext E_4).trans K_14 (allS (Or.inr gs_a_2) all0)), f_15⟩
theorem rm_coderF_4 (hw : HW a0 Z) (a1 : Addr) (x0 x1 x2 x3 : Int32) (h0 : Heap) (Z0 : n0 ≤ h0.size) (A1 : Ary Z h0 a1 .byte [.int x0, .int x1, .int x2, .int x3]) :
    Met1 l Z ⟨"java/lang/StringUTF16", "coderFromArrayLen", "([BI)B"⟩ jdk_52_method_15_code 2 (some .byte) ⟨0, 0, 0, 0⟩ n0 #[(.ref a1), (.int 4)] h0 (fun v h => v = some (.int 0) ∧ h0 = h) := by
  refine met_of (plainFor_of_name pn_3) (L0 := #[.val (.ref a1), .val (.int 4)]) (by first | (simp [argsToLocals, Value.category]; done) | rfl) ?_
  intro B C hN
  change Ctx B l _ _ "java/lang/StringUTF16" "coderFromArrayLen" _ _ Z at C
  refine iN C 4 d8_0 rfl <| aN C ((.ref a1)) d8_1 rfl rfl <| yarraylength C A1 (z := 4) rfl d8_2 <| yisub C d8_3 <| eS [(.int 0)] rfl <| iB C 31 d8_4 rfl <| yiushr C d8_6 <| eS [(.int 0)] rfl <| yi2b C d8_7 <| eS [(.int 0)] rfl ?_
  refine g_ret C (eN hN) (v := (.int 0)) (ty := .byte) rfl rfl (Or.inl ⟨rfl, Or.inr (Or.inr (Or.inl rfl)), _, rfl⟩) d8_8 (by decide) (by decide) ?_
  exact ⟨rfl, rfl⟩
theorem rm_init4_4 (hw : HW a0 Z) (a1 a2 : Addr) (c0 c1 c2 c3 : Int32) (h0 : Heap) (Z0 : n0 ≤ h0.size) (cm : Cmp Z) (O : Old Z n0 h0) (E0 : Exa Z h0 a1 "java/lang/String") (F0 : Fld Z h0 a1 "java/lang/String" "value" "[B" .null) (F1 : Fld Z h0 a1 "java/lang/String" "coder" "B" (.int 0)) (g1 : n0 ≤ a1) (A2 : Ary Z h0 a2 .char [.int c0, .int c1, .int c2, .int c3]) (n12 : a1 ≠ a2) (k0 : Ch c0) (k1 : Ch c1) (k2 : Ch c2) (k3 : Ch c3) :
    Met1 l Z ⟨"java/lang/String", "<init>", "([CIILjava/lang/Void;)V"⟩ jdk_42_method_149_code 6 none ⟨2, 1, 4, 35⟩ n0 #[(.ref a1), (.ref a2), (.int 0), (.int 4), .null] h0 (fun v h => v = none ∧ Keep h0 h [a1] ∧ ∃ b : Addr, h0.size ≤ b ∧ Fld Z h a1 "java/lang/String" "value" "[B" (.ref b) ∧ Fld Z h a1 "java/lang/String" "coder" "B" (.int 0) ∧ Ary Z h b .byte [.int (bY c0), .int (bY c1), .int (bY c2), .int (bY c3)]) := by
  refine met_of (plainFor_of_name pn_4) (L0 := #[.val (.ref a1), .val (.ref a2), .val (.int 0), .val (.int 4), .val .null, .unset]) (by first | (simp [argsToLocals, Value.category]; done) | rfl) ?_
  intro B C hN
  change Ctx B l _ _ "java/lang/String" "<init>" _ _ Z at C
  have cm' := cm
  obtain ⟨cz, Scz, hcz⟩ := cm'
  refine aN C ((.ref a1)) d4_0 rfl rfl <| yinitObj C (oW hw 18 rfl) (oW hw 19 rfl) (oW hw 20 rfl) rfl (by decide) (W := 0) (lE rfl) (by decide) d4_1 <| iN C 4 d4_4 rfl <| fY C d4_5 (XT.i0_ne_t (by decide)) 27 (by decide) <| ygetstatic C (host := "") (v := (.int cz)) (Or.inl (oW hw 21 rfl)) Via.refl (Scz.ext O.2) d4_27 <| yif_n C d4_30 (XT.i0_eq_f hcz) <| aN C ((.ref a2)) d4_33 rfl rfl <| iN C 0 d4_34 rfl <| iN C 4 d4_35 rfl <| cS C hw 22 23 24 25 rfl rfl rfl rfl (rm_comp2_4 hw a2 c0 c1 c2 c3 h0 Z0 A2 k0 k1 k2 k3) [] [(.ref a2), (.int 0), (.int 4)] pd_8 0 d4_36 ⟨rfl, rfl, rfl, rfl, rfl⟩ (by decide) ?_
  intro v_3 h_1 q_2
  obtain ⟨b_5, rfl, le_6, K_7, f_8⟩ := q_2
  have ne_9 : a1 ≠ b_5 := ne_ge E0.lt le_6
  have ne_10 : a2 ≠ b_5 := ne_ge A2.lt le_6
  have ge_b_5 : n0 ≤ b_5 := lT Z0 le_6
  have gs_b_5 : h0.size ≤ b_5 := lT (Nat.le_refl h0.size) le_6
  show Go _ _ _ _ 1 4 39 _ [(.ref b_5)]
  refine aS C d4_39 (#[aV a1, aV a2, iV 0, iV 4, .val .null, aV b_5]) rfl rfl <| aN C ((.ref a1)) d4_41 rfl rfl <| aL C ((.ref b_5)) d4_42 rfl rfl <| iN C 4 d4_44 rfl ?_
  have f_11 := (lT Z0 K_7.1)
  refine cS C hw 30 31 24 32 rfl rfl rfl rfl (rm_coderF_4 hw b_5 (bY c0) (bY c1) (bY c2) (bY c3) h_1 f_11 f_8) [(.ref a1)] [(.ref b_5), (.int 4)] pd_5 1 d4_45 ⟨rfl, rfl, rfl, rfl, rfl⟩ (by decide) ?_
  intro v_14 h_12 q_13
  obtain ⟨rfl, rfl⟩ := q_13
  show Go _ _ _ _ 1 4 48 _ [(.int 0), (.ref a1)]
  have f_16 := (F1.keep K_7 nin0)
  have f_17 := (E0.keep K_7)
  refine yputfield C (host := "") (v := (.int 0)) (Or.inl (oW hw 33 rfl)) Via.refl f_16 f_17 (Or.inr ⟨(oW hw 34 rfl), rfl, rfl⟩) (oW hw 5 rfl) (ty := .byte) (by decide) rfl rfl g1 d4_48 ?_
  intro h_18 W_19
  have f_20 := f_16.same W_19
  refine aN C ((.ref a1)) d4_51 rfl rfl <| aL C ((.ref b_5)) d4_52 rfl rfl ?_
  have f_21 := ((F0.keep K_7 nin0).other W_19 (Or.inr (slot_ne (Or.inr (oW hw 36 rfl)) (Or.inr (oW hw 34 rfl)) (by decide) (t := (.array .byte)) (t' := .byte) (by decide) (by decide))))
  have f_22 := (f_17.wr W_19)
  refine yputfield C (host := "") (v := (.ref b_5)) (Or.inl (oW hw 35 rfl)) Via.refl f_21 f_22 (Or.inr ⟨(oW hw 36 rfl), rfl, rfl⟩) (oW hw 5 rfl) (ty := (.array .byte)) (by decide) rfl rfl g1 d4_54 ?_
  intro h_23 W_24
  have f_25 := f_21.same W_24
  refine g_return C (eN hN) rfl d4_57 (by decide) (by decide) ?_
  have f_26 := (f_20.other W_24 (Or.inr (slot_ne (Or.inr (oW hw 34 rfl)) (Or.inr (oW hw 36 rfl)) (by decide) (t := .byte) (t' := (.array .byte)) (by decide) (by decide))))
  have f_27 := ((f_8.keep (Keep.of_wr W_19) (nin1 (Ne.symm ne_9))).keep (Keep.of_wr W_24) (nin1 (Ne.symm ne_9)))
  exact ⟨rfl, ((((Keep.refl h0 [a1]).trans K_7 all0).wr W_19 (Or.inl (List.mem_of_getElem? (i := 0) rfl))).wr W_24 (Or.inl (List.mem_of_getElem? (i := 0) rfl))), b_5, gs_b_5, f_25, f_26, f_27⟩
theorem rm_init1_4 (hw : HW a0 Z) (a1 a2 : Addr) (c0 c1 c2 c3 : Int32) (h0 : Heap) (Z0 : n0 ≤ h0.size) (cm : Cmp Z) (O : Old Z n0 h0) (E0 : Exa Z h0 a1 "java/lang/String") (F0 : Fld Z h0 a1 "java/lang/String" "value" "[B" .null) (F1 : Fld Z h0 a1 "java/lang/String" "coder" "B" (.int 0)) (g1 : n0 ≤ a1) (A2 : Ary Z h0 a2 .char [.int c0, .int c1, .int c2, .int c3]) (n12 : a1 ≠ a2) (k0 : Ch c0) (k1 : Ch c1) (k2 : Ch c2) (k3 : Ch c3) :
    Met1 l Z ⟨"java/lang/String", "<init>", "([C)V"⟩ jdk_42_method_3_code 2 none ⟨3, 1, 4, 52⟩ n0 #[(.ref a1), (.ref a2)] h0 (fun v h => v = none ∧ Keep h0 h [a1] ∧ ∃ b : Addr, h0.size ≤ b ∧ Fld Z h a1 "java/lang/String" "value" "[B" (.ref b) ∧ Fld Z h a1 "java/lang/String" "coder" "B" (.int 0) ∧ Ary Z h b .byte [.int (bY c0), .int (bY c1), .int (bY c2), .int (bY c3)]) := by
  refine met_of (plainFor_of_name pn_4) (L0 := #[.val (.ref a1), .val (.ref a2)]) (by first | (simp [argsToLocals, Value.category]; done) | rfl) ?_
  intro B C hN
  change Ctx B l _ _ "java/lang/String" "<init>" _ _ Z at C
  have cm' := cm
  obtain ⟨cz, Scz, hcz⟩ := cm'
  refine aN C ((.ref a1)) d3_0 rfl rfl <| aN C ((.ref a2)) d3_1 rfl rfl <| iC C 0 d3_2 rfl <| aN C ((.ref a2)) d3_3 rfl rfl <| yarraylength C A2 (z := 4) rfl d3_4 <| yaconst_null C d3_5 <| cP C hw 14 15 6 17 rfl rfl rfl rfl rfl (rm_init4_4 hw a1 a2 c0 c1 c2 c3 h0 Z0 cm O E0 F0 F1 g1 A2 n12 k0 k1 k2 k3) [] [(.ref a2), (.int 0), (.int 4), .null] pd_17 0 d3_6 ⟨rfl, rfl, rfl, rfl, rfl⟩ (by decide) ?_
  intro v_3 h_1 q_2
  obtain ⟨rfl, K_5, b_6, le_7, f_8, f_9, f_10⟩ := q_2
  have ne_11 : a1 ≠ b_6 := ne_ge E0.lt le_7
  have ne_12 : a2 ≠ b_6 := ne_ge A2.lt le_7
  have ge_b_6 : n0 ≤ b_6 := lT Z0 le_7
  have gs_b_6 : h0.size ≤ b_6 := lT (Nat.le_refl h0.size) le_7
  show Go _ _ _ _ 1 4 9 _ []
  refine g_return C (eN hN) rfl d3_9 (by decide) (by decide) ?_
  exact ⟨rfl, ((Keep.refl h0 [a1]).trans K_5 (allS (Or.inl (List.mem_of_getElem? (i := 0) rfl)) all0)), b_6, gs_b_6, f_8, f_9, f_10⟩
theorem d2_85 : decode method_3_code 85 = .ok (.iconst 5, 1) := by decide +kernel
theorem d2_86 : decode method_3_code 86 = .ok (.newarray .char, 2) := by decide +kernel
theorem d2_88 : decode method_3_code 88 = .ok (.dup, 1) := by decide +kernel
theorem d2_89 : decode method_3_code 89 = .ok (.iconst 0, 1) := by decide +kernel
theorem d2_90 : decode method_3_code 90 = .ok (.iload_n 1, 1) := by decide +kernel
theorem d2_91 : decode method_3_code 91 = .ok (.castore, 1) := by decide +kernel
theorem d2_92 : decode method_3_code 92 = .ok (.dup, 1) := by decide +kernel
theorem d2_93 : decode method_3_code 93 = .ok (.iconst 1, 1) := by decide +kernel
theorem d2_94 : decode method_3_code 94 = .ok (.iload_n 2, 1) := by decide +kernel
theorem d2_95 : decode method_3_code 95 = .ok (.castore, 1) := by decide +kernel
theorem d2_96 : decode method_3_code 96 = .ok (.dup, 1) := by decide +kernel
theorem d2_97 : decode method_3_code 97 = .ok (.iconst 2, 1) := by decide +kernel
theorem d2_98 : decode method_3_code 98 = .ok (.iload_n 3, 1) := by decide +kernel
theorem d2_99 : decode method_3_code 99 = .ok (.castore, 1) := by decide +kernel
theorem d2_100 : decode method_3_code 100 = .ok (.dup, 1) := by decide +kernel
theorem d2_101 : decode method_3_code 101 = .ok (.iconst 3, 1) := by decide +kernel
theorem d2_102 : decode method_3_code 102 = .ok (.iload 4, 2) := by decide +kernel
theorem d2_104 : decode method_3_code 104 = .ok (.castore, 1) := by decide +kernel
theorem d2_105 : decode method_3_code 105 = .ok (.dup, 1) := by decide +kernel
theorem d2_106 : decode method_3_code 106 = .ok (.iconst 4, 1) := by decide +kernel
theorem d2_107 : decode method_3_code 107 = .ok (.iload 5, 2) := by decide +kernel
theorem d2_109 : decode method_3_code 109 = .ok (.castore, 1) := by decide +kernel
theorem d2_110 : decode method_3_code 110 = .ok (.areturn, 1) := by decide +kernel
theorem rm_chars_5 (hw : HW a0 Z) (c0 c1 c2 c3 c4 : Int32) (h0 : Heap) (Z0 : n0 ≤ h0.size) (k0 : Ch c0) (k1 : Ch c1) (k2 : Ch c2) (k3 : Ch c3) (k4 : Ch c4) :
    Met1 l Z ⟨"org/linkloom/io/FieldsSplitPinLaw", "chars", "(ICCCCC)[C"⟩ method_3_code 6 (some (.array .char)) ⟨0, 1, 5, 0⟩ n0 #[(.int 5), (.int c0), (.int c1), (.int c2), (.int c3), (.int c4)] h0 (fun v h => ∃ b : Addr, v = some (.ref b) ∧ h0.size ≤ b ∧ Keep h0 h [] ∧ Ary Z h b .char [.int c0, .int c1, .int c2, .int c3, .int c4]) := by
  refine met_of (plainFor_of_name pn_0) (L0 := #[.val (.int 5), .val (.int c0), .val (.int c1), .val (.int c2), .val (.int c3), .val (.int c4)]) (by first | (simp [argsToLocals, Value.category]; done) | rfl) ?_
  intro B C hN
  change Ctx B l _ _ "org/linkloom/io/FieldsSplitPinLaw" "chars" _ _ Z at C
  refine iN C 5 d2_0 rfl <| fY C d2_1 (XT.i0_ne_t (by decide)) 8 (by decide) <| iN C 5 d2_8 rfl <| iC C 1 d2_9 rfl <| cY C d2_10 (XT.ii_ne_t (by decide)) 21 (by decide) <| iN C 5 d2_21 rfl <| iC C 2 d2_22 rfl <| cY C d2_23 (XT.ii_ne_t (by decide)) 38 (by decide) <| iN C 5 d2_38 rfl <| iC C 3 d2_39 rfl <| cY C d2_40 (XT.ii_ne_t (by decide)) 59 (by decide) <| iN C 5 d2_59 rfl <| iC C 4 d2_60 rfl <| cY C d2_61 (XT.ii_ne_t (by decide)) 85 (by decide) <| iC C 5 d2_85 rfl <| ynewarray C (oW hw 10 rfl) (ty := .char) rfl (by decide) (cap := 5) (by decide) (by decide) (by decide) (by decide) d2_86 ?_
  intro h_1 a_2 g_3 E_4 A_5
  have ge_a_2 : n0 ≤ a_2 := lT Z0 (lE g_3.symm)
  have gs_a_2 : h0.size ≤ a_2 := lT (Nat.le_refl h0.size) (lE g_3.symm)
  have f_6 : Ary Z h_1 a_2 .char [(.int 0), (.int 0), (.int 0), (.int 0), (.int 0)] := A_5
  show Go _ _ _ _ 1 5 88 _ [(.ref a_2)]
  refine ydup C d2_88 rfl <| iC C 0 d2_89 rfl <| iN C c0 d2_90 rfl <| ycastore C f_6 (by decide) (i := 0) (by decide) (show 0 < 5 by decide) (w := (.int c0)) (congrArg Value.int k0.1) ge_a_2 d2_91 ?_
  intro h_7 K_8 A_9
  have f_10 : Ary Z h_7 a_2 .char [(.int c0), (.int 0), (.int 0), (.int 0), (.int 0)] := A_9
  refine ydup C d2_92 rfl <| iC C 1 d2_93 rfl <| iN C c1 d2_94 rfl <| ycastore C f_10 (by decide) (i := 1) (by decide) (show 1 < 5 by decide) (w := (.int c1)) (congrArg Value.int k1.1) ge_a_2 d2_95 ?_
  intro h_11 K_12 A_13
  have f_14 : Ary Z h_11 a_2 .char [(.int c0), (.int c1), (.int 0), (.int 0), (.int 0)] := A_13
  refine ydup C d2_96 rfl <| iC C 2 d2_97 rfl <| iN C c2 d2_98 rfl <| ycastore C f_14 (by decide) (i := 2) (by decide) (show 2 < 5 by decide) (w := (.int c2)) (congrArg Value.int k2.1) ge_a_2 d2_99 ?_
  intro h_15 K_16 A_17
  have f_18 : Ary Z h_15 a_2 .char [(.int c0), (.int c1), (.int c2), (.int 0), (.int 0)] := A_17
  refine ydup C d2_100 rfl <| iC C 3 d2_101 rfl <| iL C c3 d2_102 rfl <| ycastore C f_18 (by decide) (i := 3) (by decide) (show 3 < 5 by decide) (w := (.int c3)) (congrArg Value.int k3.1) ge_a_2 d2_104 ?_
  intro h_19 K_20 A_21
  have f_22 : Ary Z h_19 a_2 .char [(.int c0), (.int c1), (.int c2), (.int c3), (.int 0)] := A_21
  refine ydup C d2_105 rfl <| iC C 4 d2_106 rfl <| iL C c4 d2_107 rfl <| ycastore C f_22 (by decide) (i := 4) (by decide) (show 4 < 5 by decide) (w := (.int c4)) (congrArg Value.int k4.1) ge_a_2 d2_109 ?_
  intro h_23 K_24 A_25
  have f_26 : Ary Z h_23 a_2 .char [(.int c0), (.int c1), (.int c2), (.int c3), (.int c4)] := A_25
  refine g_ret C (eN hN) (v := (.ref a_2)) (ty := (.array .char)) rfl rfl (Or.inr (Or.inr (Or.inr (Or.inr ⟨rfl, rfl, rfl⟩)))) d2_110 (by decide) (by decide) ?_
  exact ⟨a_2, rfl, gs_a_2, (((((((Keep.refl h0 []).ext E_4).trans K_8 (allS (Or.inr gs_a_2) all0)).trans K_12 (allS (Or.inr gs_a_2) all0)).trans K_16 (allS (Or.inr gs_a_2) all0)).trans K_20 (allS (Or.inr gs_a_2) all0)).trans K_24 (allS (Or.inr gs_a_2) all0)), f_26⟩
theorem rm_comp1_5 (hw : HW a0 Z) (a1 a2 : Addr) (c0 c1 c2 c3 c4 : Int32) (h0 : Heap) (Z0 : n0 ≤ h0.size) (A1 : Ary Z h0 a1 .char [.int c0, .int c1, .int c2, .int c3, .int c4]) (A2 : Ary Z h0 a2 .byte [.int 0, .int 0, .int 0, .int 0, .int 0]) (g2 : n0 ≤ a2) (n12 : a1 ≠ a2) (k0 : Ch c0) (k1 : Ch c1) (k2 : Ch c2) (k3 : Ch c3) (k4 : Ch c4) :
    Met1 l Z ⟨"java/lang/StringUTF16", "compress", "([CI[BII)I"⟩ jdk_52_method_21_code 7 (some .int) ⟨0, 0, 0, 0⟩ n0 #[(.ref a1), (.int 0), (.ref a2), (.int 0), (.int 5)] h0 (fun v h => v = some (.int 5) ∧ Keep h0 h [a2] ∧ Ary Z h a2 .byte [.int (bY c0), .int (bY c1), .int (bY c2), .int (bY c3), .int (bY c4)]) := by
  refine met_of (plainFor_of_name pn_3) (L0 := #[.val (.ref a1), .val (.int 0), .val (.ref a2), .val (.int 0), .val (.int 5), .unset, .unset]) (by first | (simp [argsToLocals, Value.category]; done) | rfl) ?_
  intro B C hN
  change Ctx B l _ _ "java/lang/StringUTF16" "compress" _ _ Z at C
  refine iC C 0 d7_0 rfl <| iS C d7_1 (#[aV a1, iV 0, aV a2, iV 0, iV 5, iV 0, uV]) rfl <| iL C 0 d7_3 rfl <| iL C 5 d7_5 rfl <| yicmp_n C d7_7 (XT.ii_ge_f (by decide)) <| aN C ((.ref a1)) d7_10 rfl rfl <| iN C 0 d7_11 rfl <| ycaload C A1 (by decide) (i := 0) (by decide) (v := c0) rfl d7_12 <| iS C d7_13 (#[aV a1, iV 0, aV a2, iV 0, iV 5, iV 0, iV c0]) rfl <| iL C c0 d7_15 rfl <| iP C 255 d7_17 rfl <| cY C d7_20 (XT.ii_le_t k0.2.1) 26 (by decide) <| aN C ((.ref a2)) d7_26 rfl rfl <| iN C 0 d7_27 rfl <| iL C c0 d7_28 rfl <| yi2b C d7_30 <| ybastoreB C A2 (by decide) (i := 0) (by decide) (show 0 < 5 by decide) (w := (.int (bY c0))) (congrArg Value.int (own_narb _)) g2 d7_31 ?_
  intro h_1 K_2 A_3
  have f_4 : Ary Z h_1 a2 .byte [(.int (bY c0)), (.int 0), (.int 0), (.int 0), (.int 0)] := A_3
  refine nC C 0 1 d7_32 rfl rfl (#[aV a1, iV 1, aV a2, iV 0, iV 5, iV 0, iV c0]) rfl <| nC C 0 1 d7_35 rfl rfl (#[aV a1, iV 1, aV a2, iV 1, iV 5, iV 0, iV c0]) rfl <| nC C 0 1 d7_38 rfl rfl (#[aV a1, iV 1, aV a2, iV 1, iV 5, iV 1, iV c0]) rfl <| gT C d7_41 3 (by decide) <| iL C 1 d7_3 rfl <| iL C 5 d7_5 rfl <| yicmp_n C d7_7 (XT.ii_ge_f (by decide)) <| aN C ((.ref a1)) d7_10 rfl rfl <| iN C 1 d7_11 rfl ?_
  have f_5 := (A1.keep K_2 (ninS n12 nin0))
  refine ycaload C f_5 (by decide) (i := 1) (by decide) (v := c1) rfl d7_12 <| iS C d7_13 (#[aV a1, iV 1, aV a2, iV 1, iV 5, iV 1, iV c1]) rfl <| iL C c1 d7_15 rfl <| iP C 255 d7_17 rfl <| cY C d7_20 (XT.ii_le_t k1.2.1) 26 (by decide) <| aN C ((.ref a2)) d7_26 rfl rfl <| iN C 1 d7_27 rfl <| iL C c1 d7_28 rfl <| yi2b C d7_30 <| ybastoreB C f_4 (by decide) (i := 1) (by decide) (show 1 < 5 by decide) (w := (.int (bY c1))) (congrArg Value.int (own_narb _)) g2 d7_31 ?_
  intro h_6 K_7 A_8
  have f_9 : Ary Z h_6 a2 .byte [(.int (bY c0)), (.int (bY c1)), (.int 0), (.int 0), (.int 0)] := A_8
  refine nC C 1 2 d7_32 rfl rfl (#[aV a1, iV 2, aV a2, iV 1, iV 5, iV 1, iV c1]) rfl <| nC C 1 2 d7_35 rfl rfl (#[aV a1, iV 2, aV a2, iV 2, iV 5, iV 1, iV c1]) rfl <| nC C 1 2 d7_38 rfl rfl (#[aV a1, iV 2, aV a2, iV 2, iV 5, iV 2, iV c1]) rfl <| gT C d7_41 3 (by decide) <| iL C 2 d7_3 rfl <| iL C 5 d7_5 rfl <| yicmp_n C d7_7 (XT.ii_ge_f (by decide)) <| aN C ((.ref a1)) d7_10 rfl rfl <| iN C 2 d7_11 rfl ?_
  have f_10 := (f_5.keep K_7 (ninS n12 nin0))
  refine ycaload C f_10 (by decide) (i := 2) (by decide) (v := c2) rfl d7_12 <| iS C d7_13 (#[aV a1, iV 2, aV a2, iV 2, iV 5, iV 2, iV c2]) rfl <| iL C c2 d7_15 rfl <| iP C 255 d7_17 rfl <| cY C d7_20 (XT.ii_le_t k2.2.1) 26 (by decide) <| aN C ((.ref a2)) d7_26 rfl rfl <| iN C 2 d7_27 rfl <| iL C c2 d7_28 rfl <| yi2b C d7_30 <| ybastoreB C f_9 (by decide) (i := 2) (by decide) (show 2 < 5 by decide) (w := (.int (bY c2))) (congrArg Value.int (own_narb _)) g2 d7_31 ?_
  intro h_11 K_12 A_13
  have f_14 : Ary Z h_11 a2 .byte [(.int (bY c0)), (.int (bY c1)), (.int (bY c2)), (.int 0), (.int 0)] := A_13
  refine nC C 2 3 d7_32 rfl rfl (#[aV a1, iV 3, aV a2, iV 2, iV 5, iV 2, iV c2]) rfl <| nC C 2 3 d7_35 rfl rfl (#[aV a1, iV 3, aV a2, iV 3, iV 5, iV 2, iV c2]) rfl <| nC C 2 3 d7_38 rfl rfl (#[aV a1, iV 3, aV a2, iV 3, iV 5, iV 3, iV c2]) rfl <| gT C d7_41 3 (by decide) <| iL C 3 d7_3 rfl <| iL C 5 d7_5 rfl <| yicmp_n C d7_7 (XT.ii_ge_f (by decide)) <| aN C ((.ref a1)) d7_10 rfl rfl <| iN C 3 d7_11 rfl ?_
  have f_15 := (f_10.keep K_12 (ninS n12 nin0))
  refine ycaload C f_15 (by decide) (i := 3) (by decide) (v := c3) rfl d7_12 <| iS C d7_13 (#[aV a1, iV 3, aV a2, iV 3, iV 5, iV 3, iV c3]) rfl <| iL C c3 d7_15 rfl <| iP C 255 d7_17 rfl <| cY C d7_20 (XT.ii_le_t k3.2.1) 26 (by decide) <| aN C ((.ref a2)) d7_26 rfl rfl <| iN C 3 d7_27 rfl <| iL C c3 d7_28 rfl <| yi2b C d7_30 <| ybastoreB C f_14 (by decide) (i := 3) (by decide) (show 3 < 5 by decide) (w := (.int (bY c3))) (congrArg Value.int (own_narb _)) g2 d7_31 ?_
  intro h_16 K_17 A_18
  have f_19 : Ary Z h_16 a2 .byte [(.int (bY c0)), (.int (bY c1)), (.int (bY c2)), (.int (bY c3)), (.int 0)] := A_18
  refine nC C 3 4 d7_32 rfl rfl (#[aV a1, iV 4, aV a2, iV 3, iV 5, iV 3, iV c3]) rfl <| nC C 3 4 d7_35 rfl rfl (#[aV a1, iV 4, aV a2, iV 4, iV 5, iV 3, iV c3]) rfl <| nC C 3 4 d7_38 rfl rfl (#[aV a1, iV 4, aV a2, iV 4, iV 5, iV 4, iV c3]) rfl <| gT C d7_41 3 (by decide) <| iL C 4 d7_3 rfl <| iL C 5 d7_5 rfl <| yicmp_n C d7_7 (XT.ii_ge_f (by decide)) <| aN C ((.ref a1)) d7_10 rfl rfl <| iN C 4 d7_11 rfl ?_
  have f_20 := (f_15.keep K_17 (ninS n12 nin0))
  refine ycaload C f_20 (by decide) (i := 4) (by decide) (v := c4) rfl d7_12 <| iS C d7_13 (#[aV a1, iV 4, aV a2, iV 4, iV 5, iV 4, iV c4]) rfl <| iL C c4 d7_15 rfl <| iP C 255 d7_17 rfl <| cY C d7_20 (XT.ii_le_t k4.2.1) 26 (by decide) <| aN C ((.ref a2)) d7_26 rfl rfl <| iN C 4 d7_27 rfl <| iL C c4 d7_28 rfl <| yi2b C d7_30 <| ybastoreB C f_19 (by decide) (i := 4) (by decide) (show 4 < 5 by decide) (w := (.int (bY c4))) (congrArg Value.int (own_narb _)) g2 d7_31 ?_
  intro h_21 K_22 A_23
  have f_24 : Ary Z h_21 a2 .byte [(.int (bY c0)), (.int (bY c1)), (.int (bY c2)), (.int (bY c3)), (.int (bY c4))] := A_23
  refine nC C 4 5 d7_32 rfl rfl (#[aV a1, iV 5, aV a2, iV 4, iV 5, iV 4, iV c4]) rfl <| nC C 4 5 d7_35 rfl rfl (#[aV a1, iV 5, aV a2, iV 5, iV 5, iV 4, iV c4]) rfl <| nC C 4 5 d7_38 rfl rfl (#[aV a1, iV 5, aV a2, iV 5, iV 5, iV 5, iV c4]) rfl <| gT C d7_41 3 (by decide) <| iL C 5 d7_3 rfl <| iL C 5 d7_5 rfl <| cY C d7_7 (XT.ii_ge_t (by decide)) 44 (by decide) <| iL C 5 d7_44 rfl ?_
  refine g_ret C (eN hN) (v := (.int 5)) (ty := .int) rfl rfl (Or.inl ⟨rfl, Or.inl rfl, _, rfl⟩) d7_46 (by decide) (by decide) ?_
  exact ⟨rfl, ((((((Keep.refl h0 [a2]).trans K_2 (allS (Or.inl (List.mem_of_getElem? (i := 0) rfl)) all0)).trans K_7 (allS (Or.inl (List.mem_of_getElem? (i := 0) rfl)) all0)).trans K_12 (allS (Or.inl (List.mem_of_getElem? (i := 0) rfl)) all0)).trans K_17 (allS (Or.inl (List.mem_of_getElem? (i := 0) rfl)) all0)).trans K_22 (allS (Or.inl (List.mem_of_getElem? (i := 0) rfl)) all0)), f_24⟩
theorem rm_comp2_5 (hw : HW a0 Z) (a1 : Addr) (c0 c1 c2 c3 c4 : Int32) (h0 : Heap) (Z0 : n0 ≤ h0.size) (A1 : Ary Z h0 a1 .char [.int c0, .int c1, .int c2, .int c3, .int c4]) (k0 : Ch c0) (k1 : Ch c1) (k2 : Ch c2) (k3 : Ch c3) (k4 : Ch c4) :
    Met1 l Z ⟨"java/lang/StringUTF16", "compress", "([CII)[B"⟩ jdk_52_method_16_code 6 (some (.array .byte)) ⟨1, 1, 5, 18⟩ n0 #[(.ref a1), (.int 0), (.int 5)] h0 (fun v h => ∃ b : Addr, v = some (.ref b) ∧ h0.size ≤ b ∧ Keep h0 h [] ∧ Ary Z h b .byte [.int (bY c0), .int (bY c1), .int (bY c2), .int (bY c3), .int (bY c4)]) := by
  refine met_of (plainFor_of_name pn_3) (L0 := #[.val (.ref a1), .val (.int 0), .val (.int 5), .unset, .unset, .unset]) (by first | (simp [argsToLocals, Value.category]; done) | rfl) ?_
  intro B C hN
  change Ctx B l _ _ "java/lang/StringUTF16" "compress" _ _ Z at C
  refine iN C 5 d6_0 rfl <| ynewarray C (oW hw 26 rfl) (ty := .byte) rfl (by decide) (cap := 5) (by decide) (by decide) (by decide) (by decide) d6_1 ?_
  intro h_1 a_2 g_3 E_4 A_5
  have ne_6 : a1 ≠ a_2 := ne_new A1.lt g_3
  have ge_a_2 : n0 ≤ a_2 := lT Z0 (lE g_3.symm)
  have gs_a_2 : h0.size ≤ a_2 := lT (Nat.le_refl h0.size) (lE g_3.symm)
  have f_7 : Ary Z h_1 a_2 .byte [(.int 0), (.int 0), (.int 0), (.int 0), (.int 0)] := A_5
  show Go _ _ _ _ 1 5 3 _ [(.ref a_2)]
  refine aT C d6_3 (#[aV a1, iV 0, iV 5, aV a_2, uV, uV]) rfl rfl <| aN C ((.ref a1)) d6_4 rfl rfl <| iN C 0 d6_5 rfl <| aN C ((.ref a_2)) d6_6 rfl rfl <| iC C 0 d6_7 rfl <| iN C 5 d6_8 rfl ?_
  have f_8 := (A1.ext E_4)
  have f_9 := (lT Z0 E_4.1)
  refine cS C hw 27 28 24 29 rfl rfl rfl rfl (rm_comp1_5 hw a1 a_2 c0 c1 c2 c3 c4 h_1 f_9 f_8 f_7 ge_a_2 ne_6 k0 k1 k2 k3 k4) [] [(.ref a1), (.int 0), (.ref a_2), (.int 0), (.int 5)] pd_7 0 d6_9 ⟨rfl, rfl, rfl, rfl, rfl⟩ (by decide) ?_
  intro v_12 h_10 q_11
  obtain ⟨rfl, K_14, f_15⟩ := q_11
  show Go _ _ _ _ 1 5 12 _ [(.int 5)]
  refine iS C d6_12 (#[aV a1, iV 0, iV 5, aV a_2, iV 5, uV]) rfl <| iL C 5 d6_14 rfl <| iN C 5 d6_16 rfl <| cY C d6_17 (XT.ii_eq_t (by decide)) 57 (by decide) <| aN C ((.ref a_2)) d6_57 rfl rfl ?_
  refine g_ret C (eN hN) (v := (.ref a_2)) (ty := (.array .byte)) rfl rfl (Or.inr (Or.inr (Or.inr (Or.inr ⟨rfl, rfl, rfl⟩)))) d6_58 (by decide) (by decide) ?_
  exact ⟨a_2, rfl, gs_a_2, (((Keep.refl h0 []).ext E_4).trans K_14 (allS (Or.inr gs_a_2) all0)), f_15⟩
theorem rm_coderF_5 (hw : HW a0 Z) (a1 : Addr) (x0 x1 x2 x3 x4 : Int32) (h0 : Heap) (Z0 : n0 ≤ h0.size) (A1 : Ary Z h0 a1 .byte [.int x0, .int x1, .int x2, .int x3, .int x4]) :
    Met1 l Z ⟨"java/lang/StringUTF16", "coderFromArrayLen", "([BI)B"⟩ jdk_52_method_15_code 2 (some .byte) ⟨0, 0, 0, 0⟩ n0 #[(.ref a1), (.int 5)] h0 (fun v h => v = some (.int 0) ∧ h0 = h) := by
  refine met_of (plainFor_of_name pn_3) (L0 := #[.val (.ref a1), .val (.int 5)]) (by first | (simp [argsToLocals, Value.category]; done) | rfl) ?_
  intro B C hN
  change Ctx B l _ _ "java/lang/StringUTF16" "coderFromArrayLen" _ _ Z at C
  refine iN C 5 d8_0 rfl <| aN C ((.ref a1)) d8_1 rfl rfl <| yarraylength C A1 (z := 5) rfl d8_2 <| yisub C d8_3 <| eS [(.int 0)] rfl <| iB C 31 d8_4 rfl <| yiushr C d8_6 <| eS [(.int 0)] rfl <| yi2b C d8_7 <| eS [(.int 0)] rfl ?_
  refine g_ret C (eN hN) (v := (.int 0)) (ty := .byte) rfl rfl (Or.inl ⟨rfl, Or.inr (Or.inr (Or.inl rfl)), _, rfl⟩) d8_8 (by decide) (by decide) ?_
  exact ⟨rfl, rfl⟩
theorem rm_init4_5 (hw : HW a0 Z) (a1 a2 : Addr) (c0 c1 c2 c3 c4 : Int32) (h0 : Heap) (Z0 : n0 ≤ h0.size) (cm : Cmp Z) (O : Old Z n0 h0) (E0 : Exa Z h0 a1 "java/lang/String") (F0 : Fld Z h0 a1 "java/lang/String" "value" "[B" .null) (F1 : Fld Z h0 a1 "java/lang/String" "coder" "B" (.int 0)) (g1 : n0 ≤ a1) (A2 : Ary Z h0 a2 .char [.int c0, .int c1, .int c2, .int c3, .int c4]) (n12 : a1 ≠ a2) (k0 : Ch c0) (k1 : Ch c1) (k2 : Ch c2) (k3 : Ch c3) (k4 : Ch c4) :
    Met1 l Z ⟨"java/lang/String", "<init>", "([CIILjava/lang/Void;)V"⟩ jdk_42_method_149_code 6 none ⟨2, 1, 5, 35⟩ n0 #[(.ref a1), (.ref a2), (.int 0), (.int 5), .null] h0 (fun v h => v = none ∧ Keep h0 h [a1] ∧ ∃ b : Addr, h0.size ≤ b ∧ Fld Z h a1 "java/lang/String" "value" "[B" (.ref b) ∧ Fld Z h a1 "java/lang/String" "coder" "B" (.int 0) ∧ Ary Z h b .byte [.int (bY c0), .int (bY c1), .int (bY c2), .int (bY c3), .int (bY c4)]) := by
  refine met_of (plainFor_of_name pn_4) (L0 := #[.val (.ref a1), .val (.ref a2), .val (.int 0), .val (.int 5), .val .null, .unset]) (by first | (simp [argsToLocals, Value.category]; done) | rfl) ?_
  intro B C hN
  change Ctx B l _ _ "java/lang/String" "<init>" _ _ Z at C
  have cm' := cm
  obtain ⟨cz, Scz, hcz⟩ := cm'
  refine aN C ((.ref a1)) d4_0 rfl rfl <| yinitObj C (oW hw 18 rfl) (oW hw 19 rfl) (oW hw 20 rfl) rfl (by decide) (W := 0) (lE rfl) (by decide) d4_1 <| iN C 5 d4_4 rfl <| fY C d4_5 (XT.i0_ne_t (by decide)) 27 (by decide) <| ygetstatic C (host := "") (v := (.int cz)) (Or.inl (oW hw 21 rfl)) Via.refl (Scz.ext O.2) d4_27 <| yif_n C d4_30 (XT.i0_eq_f hcz) <| aN C ((.ref a2)) d4_33 rfl rfl <| iN C 0 d4_34 rfl <| iN C 5 d4_35 rfl <| cS C hw 22 23 24 25 rfl rfl rfl rfl (rm_comp2_5 hw a2 c0 c1 c2 c3 c4 h0 Z0 A2 k0 k1 k2 k3 k4) [] [(.ref a2), (.int 0), (.int 5)] pd_8 0 d4_36 ⟨rfl, rfl, rfl, rfl, rfl⟩ (by decide) ?_
  intro v_3 h_1 q_2
  obtain ⟨b_5, rfl, le_6, K_7, f_8⟩ := q_2
  have ne_9 : a1 ≠ b_5 := ne_ge E0.lt le_6
  have ne_10 : a2 ≠ b_5 := ne_ge A2.lt le_6
  have ge_b_5 : n0 ≤ b_5 := lT Z0 le_6
  have gs_b_5 : h0.size ≤ b_5 := lT (Nat.le_refl h0.size) le_6
  show Go _ _ _ _ 1 5 39 _ [(.ref b_5)]
  refine aS C d4_39 (#[aV a1, aV a2, iV 0, iV 5, .val .null, aV b_5]) rfl rfl <| aN C ((.ref a1)) d4_41 rfl rfl <| aL C ((.ref b_5)) d4_42 rfl rfl <| iN C 5 d4_44 rfl ?_
  have f_11 := (lT Z0 K_7.1)
  refine cS C hw 30 31 24 32 rfl rfl rfl rfl (rm_coderF_5 hw b_5 (bY c0) (bY c1) (bY c2) (bY c3) (bY c4) h_1 f_11 f_8) [(.ref a1)] [(.ref b_5), (.int 5)] pd_5 1 d4_45 ⟨rfl, rfl, rfl, rfl, rfl⟩ (by decide) ?_
  intro v_14 h_12 q_13
  obtain ⟨rfl, rfl⟩ := q_13
  show Go _ _ _ _ 1 5 48 _ [(.int 0), (.ref a1)]
  have f_16 := (F1.keep K_7 nin0)
  have f_17 := (E0.keep K_7)
  refine yputfield C (host := "") (v := (.int 0)) (Or.inl (oW hw 33 rfl)) Via.refl f_16 f_17 (Or.inr ⟨(oW hw 34 rfl), rfl, rfl⟩) (oW hw 5 rfl) (ty := .byte) (by decide) rfl rfl g1 d4_48 ?_
  intro h_18 W_19
  have f_20 := f_16.same W_19
  refine aN C ((.ref a1)) d4_51 rfl rfl <| aL C ((.ref b_5)) d4_52 rfl rfl ?_
  have f_21 := ((F0.keep K_7 nin0).other W_19 (Or.inr (slot_ne (Or.inr (oW hw 36 rfl)) (Or.inr (oW hw 34 rfl)) (by decide) (t := (.array .byte)) (t' := .byte) (by decide) (by decide))))
  have f_22 := (f_17.wr W_19)
  refine yputfield C (host := "") (v := (.ref b_5)) (Or.inl (oW hw 35 rfl)) Via.refl f_21 f_22 (Or.inr ⟨(oW hw 36 rfl), rfl, rfl⟩) (oW hw 5 rfl) (ty := (.array .byte)) (by decide) rfl rfl g1 d4_54 ?_
  intro h_23 W_24
  have f_25 := f_21.same W_24
  refine g_return C (eN hN) rfl d4_57 (by decide) (by decide) ?_
  have f_26 := (f_20.other W_24 (Or.inr (slot_ne (Or.inr (oW hw 34 rfl)) (Or.inr (oW hw 36 rfl)) (by decide) (t := .byte) (t' := (.array .byte)) (by decide) (by decide))))
  have f_27 := ((f_8.keep (Keep.of_wr W_19) (nin1 (Ne.symm ne_9))).keep (Keep.of_wr W_24) (nin1 (Ne.symm ne_9)))
  exact ⟨rfl, ((((Keep.refl h0 [a1]).trans K_7 all0).wr W_19 (Or.inl (List.mem_of_getElem? (i := 0) rfl))).wr W_24 (Or.inl (List.mem_of_getElem? (i := 0) rfl))), b_5, gs_b_5, f_25, f_26, f_27⟩
theorem rm_init1_5 (hw : HW a0 Z) (a1 a2 : Addr) (c0 c1 c2 c3 c4 : Int32) (h0 : Heap) (Z0 : n0 ≤ h0.size) (cm : Cmp Z) (O : Old Z n0 h0) (E0 : Exa Z h0 a1 "java/lang/String") (F0 : Fld Z h0 a1 "java/lang/String" "value" "[B" .null) (F1 : Fld Z h0 a1 "java/lang/String" "coder" "B" (.int 0)) (g1 : n0 ≤ a1) (A2 : Ary Z h0 a2 .char [.int c0, .int c1, .int c2, .int c3, .int c4]) (n12 : a1 ≠ a2) (k0 : Ch c0) (k1 : Ch c1) (k2 : Ch c2) (k3 : Ch c3) (k4 : Ch c4) :
    Met1 l Z ⟨"java/lang/String", "<init>", "([C)V"⟩ jdk_42_method_3_code 2 none ⟨3, 1, 5, 52⟩ n0 #[(.ref a1), (.ref a2)] h0 (fun v h => v = none ∧ Keep h0 h [a1] ∧ ∃ b : Addr, h0.size ≤ b ∧ Fld Z h a1 "java/lang/String" "value" "[B" (.ref b) ∧ Fld Z h a1 "java/lang/String" "coder" "B" (.int 0) ∧ Ary Z h b .byte [.int (bY c0), .int (bY c1), .int (bY c2), .int (bY c3), .int (bY c4)]) := by
  refine met_of (plainFor_of_name pn_4) (L0 := #[.val (.ref a1), .val (.ref a2)]) (by first | (simp [argsToLocals, Value.category]; done) | rfl) ?_
  intro B C hN
  change Ctx B l _ _ "java/lang/String" "<init>" _ _ Z at C
  have cm' := cm
  obtain ⟨cz, Scz, hcz⟩ := cm'
  refine aN C ((.ref a1)) d3_0 rfl rfl <| aN C ((.ref a2)) d3_1 rfl rfl <| iC C 0 d3_2 rfl <| aN C ((.ref a2)) d3_3 rfl rfl <| yarraylength C A2 (z := 5) rfl d3_4 <| yaconst_null C d3_5 <| cP C hw 14 15 6 17 rfl rfl rfl rfl rfl (rm_init4_5 hw a1 a2 c0 c1 c2 c3 c4 h0 Z0 cm O E0 F0 F1 g1 A2 n12 k0 k1 k2 k3 k4) [] [(.ref a2), (.int 0), (.int 5), .null] pd_17 0 d3_6 ⟨rfl, rfl, rfl, rfl, rfl⟩ (by decide) ?_
  intro v_3 h_1 q_2
  obtain ⟨rfl, K_5, b_6, le_7, f_8, f_9, f_10⟩ := q_2
  have ne_11 : a1 ≠ b_6 := ne_ge E0.lt le_7
  have ne_12 : a2 ≠ b_6 := ne_ge A2.lt le_7
  have ge_b_6 : n0 ≤ b_6 := lT Z0 le_7
  have gs_b_6 : h0.size ≤ b_6 := lT (Nat.le_refl h0.size) le_7
  show Go _ _ _ _ 1 5 9 _ []
  refine g_return C (eN hN) rfl d3_9 (by decide) (by decide) ?_
  exact ⟨rfl, ((Keep.refl h0 [a1]).trans K_5 (allS (Or.inl (List.mem_of_getElem? (i := 0) rfl)) all0)), b_6, gs_b_6, f_8, f_9, f_10⟩
theorem own_satoms {a0 : Array Value} {Z : State} (hw : ∀ d ∈ tables_1, d.before a0 Z = true) : ∀ a ∈ Bundle.stringAtoms, a.before a0 Z = true := by
  intro d hd
  simp only [Bundle.stringAtoms, List.mem_cons, List.not_mem_nil, or_false] at hd
  rcases hd with rfl | rfl | rfl | rfl | rfl | rfl | rfl
  · exact (own_w hw 6 rfl)
  · exact (own_w hw 5 rfl)
  · exact (own_w hw 26 rfl)
  · exact (own_w hw 36 rfl)
  · exact (own_w hw 34 rfl)
  · exact (own_w hw 93 rfl)
  · exact (own_w hw 94 rfl)
theorem d4_8 : decode jdk_42_method_149_code 8 = .ok (.aload_n 0, 1) := by decide +kernel
theorem d4_9 : decode jdk_42_method_149_code 9 = .ok (.ldc 7, 2) := by decide +kernel
theorem d4_11 : decode jdk_42_method_149_code 11 = .ok (.getfield 9, 3) := by decide +kernel
theorem d4_14 : decode jdk_42_method_149_code 14 = .ok (.putfield 9, 3) := by decide +kernel
theorem d4_17 : decode jdk_42_method_149_code 17 = .ok (.aload_n 0, 1) := by decide +kernel
theorem d4_18 : decode jdk_42_method_149_code 18 = .ok (.ldc 7, 2) := by decide +kernel
theorem d4_20 : decode jdk_42_method_149_code 20 = .ok (.getfield 15, 3) := by decide +kernel
theorem d4_23 : decode jdk_42_method_149_code 23 = .ok (.putfield 15, 3) := by decide +kernel
theorem d4_26 : decode jdk_42_method_149_code 26 = .ok (.return_, 1) := by decide +kernel
theorem rm_init4_0 (hw : HW a0 Z) (a1 a2 : Addr) (h0 : Heap) (Z0 : n0 ≤ h0.size) (cm : Cmp Z) (O : Old Z n0 h0) (ch0 : Jvm.Lit.constHeld Z "java/lang/String" 7) (cw : Jvm.Lit.compactW.before a0 Z = true) (E0 : Exa Z h0 a1 "java/lang/String") (F0 : Fld Z h0 a1 "java/lang/String" "value" "[B" .null) (F1 : Fld Z h0 a1 "java/lang/String" "coder" "B" (.int 0)) (g1 : n0 ≤ a1) (A2 : Ary Z h0 a2 .char []) (n12 : a1 ≠ a2) :
    Met1V l Z ⟨"java/lang/String", "<init>", "([CIILjava/lang/Void;)V"⟩ jdk_42_method_149_code 6 none ⟨1, 2, 4, 12⟩ n0 #[(.ref a1), (.ref a2), (.int 0), (.int 0), .null] h0 (fun vm => InvK own_K Z vm h0) (fun vm h => InvK own_K Z vm h) (fun v h => v = none ∧ Keep h0 h [a1] ∧ ∃ b : Addr, b ≠ a1 ∧ Fld Z h a1 "java/lang/String" "value" "[B" (.ref b) ∧ Fld Z h a1 "java/lang/String" "coder" "B" (.int 0) ∧ Ary Z h b .byte []) := by
  refine met_ofV (plainFor_of_name pn_4) (L0 := #[.val (.ref a1), .val (.ref a2), .val (.int 0), .val (.int 0), .val .null, .unset]) (by first | (simp [argsToLocals, Value.category]; done) | rfl) ?_
  intro B C hW hP
  change Ctx B l _ _ "java/lang/String" "<init>" _ _ Z at C
  have cm' := cm
  obtain ⟨cz, Scz, hcz⟩ := cm'
  have I0 : InvK own_K Z B.s.vm h0 := hP
  refine aN C ((.ref a1)) d4_0 rfl rfl <| yinitObj C (oW hw 18 rfl) (oW hw 19 rfl) (oW hw 20 rfl) rfl (by decide) (W := 0) (lE rfl) (by decide) d4_1 <| iN C 0 d4_4 rfl <| yif_n C d4_5 (XT.i0_ne_f (by decide)) <| aN C ((.ref a1)) d4_8 rfl rfl <| yldcK C hW (K := own_K) (List.mem_of_getElem? (i := 0) rfl) (by decide +kernel) (oW hw 92 rfl) (own_satoms hw) O I0 ch0 cw (z := 0) (by decide +kernel) (by decide) (by decide +kernel) (nn := 0) (by decide +kernel) (by decide) (by decide) (by decide) d4_9 ?_
  intro B C hW h_1 a_2 E_3 I_4 Lt_5 Es_6
  have f_7 := (F0.ext E_3)
  have f_8 := (E0.ext E_3)
  obtain ⟨b_9, es_10⟩ := Es_6 rfl
  have ne_11 : a_2 ≠ a1 := ne_val f_7 es_10.2.2.1
  have ne_12 : b_9 ≠ a1 := ne_arr f_8 es_10.2.2.2 (oW hw 5 rfl)
  show Go _ _ _ _ 2 4 11 _ [(.ref a_2), (.ref a1)]
  refine ygetfield C (host := "") (v := (.ref b_9)) (Or.inl (oW hw 35 rfl)) Via.refl es_10.2.2.1 d4_11 <| yputfield C (host := "") (v := (.ref b_9)) (Or.inl (oW hw 35 rfl)) Via.refl f_7 f_8 (Or.inr ⟨(oW hw 36 rfl), rfl, rfl⟩) (oW hw 5 rfl) (ty := (.array .byte)) (by decide) rfl rfl g1 d4_14 ?_
  intro h_13 W_14
  have f_15 := f_7.same W_14
  refine aN C ((.ref a1)) d4_17 rfl rfl <| yldcL C (oW hw 92 rfl) Lt_5 d4_18 ?_
  have f_16 := (es_10.2.1.other W_14 (Or.inl ne_11))
  refine ygetfield C (host := "") (v := (.int 0)) (Or.inl (oW hw 33 rfl)) Via.refl f_16 d4_20 ?_
  have f_17 := ((F1.ext E_3).other W_14 (Or.inr (slot_ne (Or.inr (oW hw 34 rfl)) (Or.inr (oW hw 36 rfl)) (by decide) (t := .byte) (t' := (.array .byte)) (by decide) (by decide))))
  have f_18 := (f_8.wr W_14)
  refine yputfield C (host := "") (v := (.int 0)) (Or.inl (oW hw 33 rfl)) Via.refl f_17 f_18 (Or.inr ⟨(oW hw 34 rfl), rfl, rfl⟩) (oW hw 5 rfl) (ty := .byte) (by decide) rfl rfl g1 d4_23 ?_
  intro h_19 W_20
  have f_21 := f_17.same W_20
  refine g_return C (eW hW fun vm' hw' => InvK.warm (InvK.keepS I_4 (((Keep.refl h_1 [a1]).wr W_14 (Or.inl (List.mem_of_getElem? (i := 0) rfl))).wr W_20 (Or.inl (List.mem_of_getElem? (i := 0) rfl))) f_8 f_7 (oW hw 5 rfl)) hw') rfl d4_26 (by decide) (by decide) ?_
  have f_22 := (f_15.other W_20 (Or.inr (slot_ne (Or.inr (oW hw 36 rfl)) (Or.inr (oW hw 34 rfl)) (by decide) (t := (.array .byte)) (t' := .byte) (by decide) (by decide))))
  have f_23 := ((es_10.2.2.2.keep (Keep.of_wr W_14) (nin1 ne_12)).keep (Keep.of_wr W_20) (nin1 ne_12))
  exact ⟨rfl, ((((Keep.refl h0 [a1]).ext E_3).wr W_14 (Or.inl (List.mem_of_getElem? (i := 0) rfl))).wr W_20 (Or.inl (List.mem_of_getElem? (i := 0) rfl))), b_9, ne_12, f_22, f_21, f_23⟩
theorem rm_init1_0 (hw : HW a0 Z) (a1 a2 : Addr) (h0 : Heap) (Z0 : n0 ≤ h0.size) (cm : Cmp Z) (O : Old Z n0 h0) (ch0 : Jvm.Lit.constHeld Z "java/lang/String" 7) (cw : Jvm.Lit.compactW.before a0 Z = true) (E0 : Exa Z h0 a1 "java/lang/String") (F0 : Fld Z h0 a1 "java/lang/String" "value" "[B" .null) (F1 : Fld Z h0 a1 "java/lang/String" "coder" "B" (.int 0)) (g1 : n0 ≤ a1) (A2 : Ary Z h0 a2 .char []) (n12 : a1 ≠ a2) :
    Met1V l Z ⟨"java/lang/String", "<init>", "([C)V"⟩ jdk_42_method_3_code 2 none ⟨2, 2, 4, 29⟩ n0 #[(.ref a1), (.ref a2)] h0 (fun vm => InvK own_K Z vm h0) (fun vm h => InvK own_K Z vm h) (fun v h => v = none ∧ Keep h0 h [a1] ∧ ∃ b : Addr, b ≠ a1 ∧ Fld Z h a1 "java/lang/String" "value" "[B" (.ref b) ∧ Fld Z h a1 "java/lang/String" "coder" "B" (.int 0) ∧ Ary Z h b .byte []) := by
  refine met_ofV (plainFor_of_name pn_4) (L0 := #[.val (.ref a1), .val (.ref a2)]) (by first | (simp [argsToLocals, Value.category]; done) | rfl) ?_
  intro B C hW hP
  change Ctx B l _ _ "java/lang/String" "<init>" _ _ Z at C
  have cm' := cm
  obtain ⟨cz, Scz, hcz⟩ := cm'
  have I0 : InvK own_K Z B.s.vm h0 := hP
  refine aN C ((.ref a1)) d3_0 rfl rfl <| aN C ((.ref a2)) d3_1 rfl rfl <| iC C 0 d3_2 rfl <| aN C ((.ref a2)) d3_3 rfl rfl <| yarraylength C A2 (z := 0) rfl d3_4 <| yaconst_null C d3_5 <| yspecialV C hW (a := a1) rfl (oW hw 14 rfl) (oW hw 15 rfl) (oW hw 6 rfl) (oW hw 17 rfl) (by decide) (rm_init4_0 hw a1 a2 h0 Z0 cm O ch0 cw E0 F0 F1 g1 A2 n12) (fun vm' hw' => InvK.warm I0 hw') (st := []) [(.ref a2), (.int 0), (.int 0), .null] rfl rfl pd_17 rfl rfl (by decide) (W := 0) (lE rfl) (by decide) (by decide) (by decide) d3_6 ?_
  intro B C hW v_3 h_1 q_2 I_4
  obtain ⟨rfl, K_5, b_6, nb_7, f_8, f_9, f_10⟩ := q_2
  show Go _ _ _ _ 2 4 9 _ []
  refine g_return C (eW hW fun vm' hw' => InvK.warm I_4 hw') rfl d3_9 (by decide) (by decide) ?_
  exact ⟨rfl, ((Keep.refl h0 [a1]).trans K_5 (allS (Or.inl (List.mem_of_getElem? (i := 0) rfl)) all0)), b_6, nb_7, f_8, f_9, f_10⟩
theorem d9_0 : decode method_4_code 0 = .ok (.iload_n 3, 1) := by decide +kernel
theorem d9_1 : decode method_4_code 1 = .ok (.iload_n 2, 1) := by decide +kernel
theorem d9_2 : decode method_4_code 2 = .ok (.if_icmp .ge 18, 3) := by decide +kernel
theorem d9_5 : decode method_4_code 5 = .ok (.iload 4, 2) := by decide +kernel
theorem d9_7 : decode method_4_code 7 = .ok (.bipush 9, 2) := by decide +kernel
theorem d9_9 : decode method_4_code 9 = .ok (.if_icmp .ne 11, 3) := by decide +kernel
theorem d9_12 : decode method_4_code 12 = .ok (.aload_n 0, 1) := by decide +kernel
theorem d9_13 : decode method_4_code 13 = .ok (.iload_n 1, 1) := by decide +kernel
theorem d9_14 : decode method_4_code 14 = .ok (.iload_n 3, 1) := by decide +kernel
theorem d9_15 : decode method_4_code 15 = .ok (.iastore, 1) := by decide +kernel
theorem d9_16 : decode method_4_code 16 = .ok (.iload_n 1, 1) := by decide +kernel
theorem d9_17 : decode method_4_code 17 = .ok (.iconst 1, 1) := by decide +kernel
theorem d9_18 : decode method_4_code 18 = .ok (.iadd, 1) := by decide +kernel
theorem d9_19 : decode method_4_code 19 = .ok (.ireturn, 1) := by decide +kernel
theorem rm_noteY_0 (hw : HW a0 Z) (a1 : Addr) (x0 x1 x2 x3 x4 x5 nn ix c : Int32) (h0 : Heap) (Z0 : n0 ≤ h0.size) (A1 : Ary Z h0 a1 .int [.int x0, .int x1, .int x2, .int x3, .int x4, .int x5]) (g1 : n0 ≤ a1) (hl : ix < nn) (e : c = 9) :
    Met1 l Z ⟨"org/linkloom/io/FieldsSplitPinLaw", "note", "([IIIIC)I"⟩ method_4_code 5 (some .int) ⟨0, 0, 0, 0⟩ n0 #[(.ref a1), (.int 0), (.int nn), (.int ix), (.int c)] h0 (fun v h => v = some (.int 1) ∧ Keep h0 h [a1] ∧ Ary Z h a1 .int [.int ix, .int x1, .int x2, .int x3, .int x4, .int x5]) := by
  refine met_of (plainFor_of_name pn_0) (L0 := #[.val (.ref a1), .val (.int 0), .val (.int nn), .val (.int ix), .val (.int c)]) (by first | (simp [argsToLocals, Value.category]; done) | rfl) ?_
  intro B C hN
  change Ctx B l _ _ "org/linkloom/io/FieldsSplitPinLaw" "note" _ _ Z at C
  refine iN C ix d9_0 rfl <| iN C nn d9_1 rfl <| yicmp_n C d9_2 (XT.ii_ge_f hl) <| iL C c d9_5 rfl <| iB C 9 d9_7 rfl <| yicmp_n C d9_9 (XT.ii_ne_f e) <| aN C ((.ref a1)) d9_12 rfl rfl <| iN C 0 d9_13 rfl <| iN C ix d9_14 rfl <| yiastore C A1 (by decide) (i := 0) (by decide) (show 0 < 6 by decide) (w := (.int ix)) rfl g1 d9_15 ?_
  intro h_1 K_2 A_3
  have f_4 : Ary Z h_1 a1 .int [(.int ix), (.int x1), (.int x2), (.int x3), (.int x4), (.int x5)] := A_3
  refine iN C 0 d9_16 rfl <| iC C 1 d9_17 rfl <| yiadd C d9_18 <| eS [(.int 1)] rfl ?_
  refine g_ret C (eN hN) (v := (.int 1)) (ty := .int) rfl rfl (Or.inl ⟨rfl, Or.inl rfl, _, rfl⟩) d9_19 (by decide) (by decide) ?_
  exact ⟨rfl, ((Keep.refl h0 [a1]).trans K_2 (allS (Or.inl (List.mem_of_getElem? (i := 0) rfl)) all0)), f_4⟩
theorem rm_noteY_1 (hw : HW a0 Z) (a1 : Addr) (x0 x1 x2 x3 x4 x5 nn ix c : Int32) (h0 : Heap) (Z0 : n0 ≤ h0.size) (A1 : Ary Z h0 a1 .int [.int x0, .int x1, .int x2, .int x3, .int x4, .int x5]) (g1 : n0 ≤ a1) (hl : ix < nn) (e : c = 9) :
    Met1 l Z ⟨"org/linkloom/io/FieldsSplitPinLaw", "note", "([IIIIC)I"⟩ method_4_code 5 (some .int) ⟨0, 0, 0, 0⟩ n0 #[(.ref a1), (.int 1), (.int nn), (.int ix), (.int c)] h0 (fun v h => v = some (.int 2) ∧ Keep h0 h [a1] ∧ Ary Z h a1 .int [.int x0, .int ix, .int x2, .int x3, .int x4, .int x5]) := by
  refine met_of (plainFor_of_name pn_0) (L0 := #[.val (.ref a1), .val (.int 1), .val (.int nn), .val (.int ix), .val (.int c)]) (by first | (simp [argsToLocals, Value.category]; done) | rfl) ?_
  intro B C hN
  change Ctx B l _ _ "org/linkloom/io/FieldsSplitPinLaw" "note" _ _ Z at C
  refine iN C ix d9_0 rfl <| iN C nn d9_1 rfl <| yicmp_n C d9_2 (XT.ii_ge_f hl) <| iL C c d9_5 rfl <| iB C 9 d9_7 rfl <| yicmp_n C d9_9 (XT.ii_ne_f e) <| aN C ((.ref a1)) d9_12 rfl rfl <| iN C 1 d9_13 rfl <| iN C ix d9_14 rfl <| yiastore C A1 (by decide) (i := 1) (by decide) (show 1 < 6 by decide) (w := (.int ix)) rfl g1 d9_15 ?_
  intro h_1 K_2 A_3
  have f_4 : Ary Z h_1 a1 .int [(.int x0), (.int ix), (.int x2), (.int x3), (.int x4), (.int x5)] := A_3
  refine iN C 1 d9_16 rfl <| iC C 1 d9_17 rfl <| yiadd C d9_18 <| eS [(.int 2)] rfl ?_
  refine g_ret C (eN hN) (v := (.int 2)) (ty := .int) rfl rfl (Or.inl ⟨rfl, Or.inl rfl, _, rfl⟩) d9_19 (by decide) (by decide) ?_
  exact ⟨rfl, ((Keep.refl h0 [a1]).trans K_2 (allS (Or.inl (List.mem_of_getElem? (i := 0) rfl)) all0)), f_4⟩
theorem rm_noteY_2 (hw : HW a0 Z) (a1 : Addr) (x0 x1 x2 x3 x4 x5 nn ix c : Int32) (h0 : Heap) (Z0 : n0 ≤ h0.size) (A1 : Ary Z h0 a1 .int [.int x0, .int x1, .int x2, .int x3, .int x4, .int x5]) (g1 : n0 ≤ a1) (hl : ix < nn) (e : c = 9) :
    Met1 l Z ⟨"org/linkloom/io/FieldsSplitPinLaw", "note", "([IIIIC)I"⟩ method_4_code 5 (some .int) ⟨0, 0, 0, 0⟩ n0 #[(.ref a1), (.int 2), (.int nn), (.int ix), (.int c)] h0 (fun v h => v = some (.int 3) ∧ Keep h0 h [a1] ∧ Ary Z h a1 .int [.int x0, .int x1, .int ix, .int x3, .int x4, .int x5]) := by
  refine met_of (plainFor_of_name pn_0) (L0 := #[.val (.ref a1), .val (.int 2), .val (.int nn), .val (.int ix), .val (.int c)]) (by first | (simp [argsToLocals, Value.category]; done) | rfl) ?_
  intro B C hN
  change Ctx B l _ _ "org/linkloom/io/FieldsSplitPinLaw" "note" _ _ Z at C
  refine iN C ix d9_0 rfl <| iN C nn d9_1 rfl <| yicmp_n C d9_2 (XT.ii_ge_f hl) <| iL C c d9_5 rfl <| iB C 9 d9_7 rfl <| yicmp_n C d9_9 (XT.ii_ne_f e) <| aN C ((.ref a1)) d9_12 rfl rfl <| iN C 2 d9_13 rfl <| iN C ix d9_14 rfl <| yiastore C A1 (by decide) (i := 2) (by decide) (show 2 < 6 by decide) (w := (.int ix)) rfl g1 d9_15 ?_
  intro h_1 K_2 A_3
  have f_4 : Ary Z h_1 a1 .int [(.int x0), (.int x1), (.int ix), (.int x3), (.int x4), (.int x5)] := A_3
  refine iN C 2 d9_16 rfl <| iC C 1 d9_17 rfl <| yiadd C d9_18 <| eS [(.int 3)] rfl ?_
  refine g_ret C (eN hN) (v := (.int 3)) (ty := .int) rfl rfl (Or.inl ⟨rfl, Or.inl rfl, _, rfl⟩) d9_19 (by decide) (by decide) ?_
  exact ⟨rfl, ((Keep.refl h0 [a1]).trans K_2 (allS (Or.inl (List.mem_of_getElem? (i := 0) rfl)) all0)), f_4⟩
theorem rm_noteY_3 (hw : HW a0 Z) (a1 : Addr) (x0 x1 x2 x3 x4 x5 nn ix c : Int32) (h0 : Heap) (Z0 : n0 ≤ h0.size) (A1 : Ary Z h0 a1 .int [.int x0, .int x1, .int x2, .int x3, .int x4, .int x5]) (g1 : n0 ≤ a1) (hl : ix < nn) (e : c = 9) :
    Met1 l Z ⟨"org/linkloom/io/FieldsSplitPinLaw", "note", "([IIIIC)I"⟩ method_4_code 5 (some .int) ⟨0, 0, 0, 0⟩ n0 #[(.ref a1), (.int 3), (.int nn), (.int ix), (.int c)] h0 (fun v h => v = some (.int 4) ∧ Keep h0 h [a1] ∧ Ary Z h a1 .int [.int x0, .int x1, .int x2, .int ix, .int x4, .int x5]) := by
  refine met_of (plainFor_of_name pn_0) (L0 := #[.val (.ref a1), .val (.int 3), .val (.int nn), .val (.int ix), .val (.int c)]) (by first | (simp [argsToLocals, Value.category]; done) | rfl) ?_
  intro B C hN
  change Ctx B l _ _ "org/linkloom/io/FieldsSplitPinLaw" "note" _ _ Z at C
  refine iN C ix d9_0 rfl <| iN C nn d9_1 rfl <| yicmp_n C d9_2 (XT.ii_ge_f hl) <| iL C c d9_5 rfl <| iB C 9 d9_7 rfl <| yicmp_n C d9_9 (XT.ii_ne_f e) <| aN C ((.ref a1)) d9_12 rfl rfl <| iN C 3 d9_13 rfl <| iN C ix d9_14 rfl <| yiastore C A1 (by decide) (i := 3) (by decide) (show 3 < 6 by decide) (w := (.int ix)) rfl g1 d9_15 ?_
  intro h_1 K_2 A_3
  have f_4 : Ary Z h_1 a1 .int [(.int x0), (.int x1), (.int x2), (.int ix), (.int x4), (.int x5)] := A_3
  refine iN C 3 d9_16 rfl <| iC C 1 d9_17 rfl <| yiadd C d9_18 <| eS [(.int 4)] rfl ?_
  refine g_ret C (eN hN) (v := (.int 4)) (ty := .int) rfl rfl (Or.inl ⟨rfl, Or.inl rfl, _, rfl⟩) d9_19 (by decide) (by decide) ?_
  exact ⟨rfl, ((Keep.refl h0 [a1]).trans K_2 (allS (Or.inl (List.mem_of_getElem? (i := 0) rfl)) all0)), f_4⟩
theorem rm_noteY_4 (hw : HW a0 Z) (a1 : Addr) (x0 x1 x2 x3 x4 x5 nn ix c : Int32) (h0 : Heap) (Z0 : n0 ≤ h0.size) (A1 : Ary Z h0 a1 .int [.int x0, .int x1, .int x2, .int x3, .int x4, .int x5]) (g1 : n0 ≤ a1) (hl : ix < nn) (e : c = 9) :
    Met1 l Z ⟨"org/linkloom/io/FieldsSplitPinLaw", "note", "([IIIIC)I"⟩ method_4_code 5 (some .int) ⟨0, 0, 0, 0⟩ n0 #[(.ref a1), (.int 4), (.int nn), (.int ix), (.int c)] h0 (fun v h => v = some (.int 5) ∧ Keep h0 h [a1] ∧ Ary Z h a1 .int [.int x0, .int x1, .int x2, .int x3, .int ix, .int x5]) := by
  refine met_of (plainFor_of_name pn_0) (L0 := #[.val (.ref a1), .val (.int 4), .val (.int nn), .val (.int ix), .val (.int c)]) (by first | (simp [argsToLocals, Value.category]; done) | rfl) ?_
  intro B C hN
  change Ctx B l _ _ "org/linkloom/io/FieldsSplitPinLaw" "note" _ _ Z at C
  refine iN C ix d9_0 rfl <| iN C nn d9_1 rfl <| yicmp_n C d9_2 (XT.ii_ge_f hl) <| iL C c d9_5 rfl <| iB C 9 d9_7 rfl <| yicmp_n C d9_9 (XT.ii_ne_f e) <| aN C ((.ref a1)) d9_12 rfl rfl <| iN C 4 d9_13 rfl <| iN C ix d9_14 rfl <| yiastore C A1 (by decide) (i := 4) (by decide) (show 4 < 6 by decide) (w := (.int ix)) rfl g1 d9_15 ?_
  intro h_1 K_2 A_3
  have f_4 : Ary Z h_1 a1 .int [(.int x0), (.int x1), (.int x2), (.int x3), (.int ix), (.int x5)] := A_3
  refine iN C 4 d9_16 rfl <| iC C 1 d9_17 rfl <| yiadd C d9_18 <| eS [(.int 5)] rfl ?_
  refine g_ret C (eN hN) (v := (.int 5)) (ty := .int) rfl rfl (Or.inl ⟨rfl, Or.inl rfl, _, rfl⟩) d9_19 (by decide) (by decide) ?_
  exact ⟨rfl, ((Keep.refl h0 [a1]).trans K_2 (allS (Or.inl (List.mem_of_getElem? (i := 0) rfl)) all0)), f_4⟩
theorem d9_20 : decode method_4_code 20 = .ok (.iload_n 1, 1) := by decide +kernel
theorem d9_21 : decode method_4_code 21 = .ok (.ireturn, 1) := by decide +kernel
theorem rm_noteN_0 (hw : HW a0 Z) (a1 : Addr) (ct nn ix c : Int32) (h0 : Heap) (Z0 : n0 ≤ h0.size) (hl : ¬ ix < nn) :
    Met1 l Z ⟨"org/linkloom/io/FieldsSplitPinLaw", "note", "([IIIIC)I"⟩ method_4_code 5 (some .int) ⟨0, 0, 0, 0⟩ n0 #[(.ref a1), (.int ct), (.int nn), (.int ix), (.int c)] h0 (fun v h => v = some (.int ct) ∧ h0 = h) := by
  refine met_of (plainFor_of_name pn_0) (L0 := #[.val (.ref a1), .val (.int ct), .val (.int nn), .val (.int ix), .val (.int c)]) (by first | (simp [argsToLocals, Value.category]; done) | rfl) ?_
  intro B C hN
  change Ctx B l _ _ "org/linkloom/io/FieldsSplitPinLaw" "note" _ _ Z at C
  refine iN C ix d9_0 rfl <| iN C nn d9_1 rfl <| cY C d9_2 (XT.ii_ge_t hl) 20 (by decide) <| iN C ct d9_20 rfl ?_
  refine g_ret C (eN hN) (v := (.int ct)) (ty := .int) rfl rfl (Or.inl ⟨rfl, Or.inl rfl, _, rfl⟩) d9_21 (by decide) (by decide) ?_
  exact ⟨rfl, rfl⟩
theorem rm_noteN_1 (hw : HW a0 Z) (a1 : Addr) (ct nn ix c : Int32) (h0 : Heap) (Z0 : n0 ≤ h0.size) (hl : ix < nn) (e : ¬ c = 9) :
    Met1 l Z ⟨"org/linkloom/io/FieldsSplitPinLaw", "note", "([IIIIC)I"⟩ method_4_code 5 (some .int) ⟨0, 0, 0, 0⟩ n0 #[(.ref a1), (.int ct), (.int nn), (.int ix), (.int c)] h0 (fun v h => v = some (.int ct) ∧ h0 = h) := by
  refine met_of (plainFor_of_name pn_0) (L0 := #[.val (.ref a1), .val (.int ct), .val (.int nn), .val (.int ix), .val (.int c)]) (by first | (simp [argsToLocals, Value.category]; done) | rfl) ?_
  intro B C hN
  change Ctx B l _ _ "org/linkloom/io/FieldsSplitPinLaw" "note" _ _ Z at C
  refine iN C ix d9_0 rfl <| iN C nn d9_1 rfl <| yicmp_n C d9_2 (XT.ii_ge_f hl) <| iL C c d9_5 rfl <| iB C 9 d9_7 rfl <| cY C d9_9 (XT.ii_ne_t e) 20 (by decide) <| iN C ct d9_20 rfl ?_
  refine g_ret C (eN hN) (v := (.int ct)) (ty := .int) rfl rfl (Or.inl ⟨rfl, Or.inl rfl, _, rfl⟩) d9_21 (by decide) (by decide) ?_
  exact ⟨rfl, rfl⟩
theorem d17_0 : decode jdk_43_method_4_code 0 = .ok (.iload_n 0, 1) := by decide +kernel
theorem d17_1 : decode jdk_43_method_4_code 1 = .ok (.ifCond .lt 14, 3) := by decide +kernel
theorem d17_4 : decode jdk_43_method_4_code 4 = .ok (.iload_n 0, 1) := by decide +kernel
theorem d17_5 : decode jdk_43_method_4_code 5 = .ok (.sipush 255, 3) := by decide +kernel
theorem d17_8 : decode jdk_43_method_4_code 8 = .ok (.if_icmp .gt 7, 3) := by decide +kernel
theorem d17_11 : decode jdk_43_method_4_code 11 = .ok (.iconst 1, 1) := by decide +kernel
theorem d17_12 : decode jdk_43_method_4_code 12 = .ok (.goto 4, 3) := by decide +kernel
theorem d17_16 : decode jdk_43_method_4_code 16 = .ok (.ireturn, 1) := by decide +kernel
theorem pn_2 : plainName "java/lang/StringLatin1" = true := by first | (simp [plainName, overriddenIn]; done) | decide +kernel
theorem rm_can (hw : HW a0 Z)  (h0 : Heap) (Z0 : n0 ≤ h0.size)  :
    Met1 l Z ⟨"java/lang/StringLatin1", "canEncode", "(I)Z"⟩ jdk_43_method_4_code 1 (some .boolean) ⟨0, 0, 0, 0⟩ n0 #[(.int 9)] h0 (fun v h => v = some (.int 1) ∧ h0 = h) := by
  refine met_of (plainFor_of_name pn_2) (L0 := #[.val (.int 9)]) (by first | (simp [argsToLocals, Value.category]; done) | rfl) ?_
  intro B C hN
  change Ctx B l _ _ "java/lang/StringLatin1" "canEncode" _ _ Z at C
  refine iN C 9 d17_0 rfl <| yif_n C d17_1 (XT.i0_lt_f (by decide)) <| iN C 9 d17_4 rfl <| iP C 255 d17_5 rfl <| yicmp_n C d17_8 (XT.ii_gt_f (by decide)) <| iC C 1 d17_11 rfl <| gT C d17_12 16 (by decide) ?_
  refine g_ret C (eN hN) (v := (.int 1)) (ty := .boolean) rfl rfl (Or.inl ⟨rfl, Or.inr (Or.inl rfl), _, rfl⟩) d17_16 (by decide) (by decide) ?_
  exact ⟨rfl, rfl⟩
theorem d18_0 : decode jdk_29_method_65_code 0 = .ok (.iload_n 0, 1) := by decide +kernel
theorem d18_1 : decode jdk_29_method_65_code 1 = .ok (.iload_n 1, 1) := by decide +kernel
theorem d18_2 : decode jdk_29_method_65_code 2 = .ok (.if_icmp .lt 7, 3) := by decide +kernel
theorem d18_5 : decode jdk_29_method_65_code 5 = .ok (.iload_n 0, 1) := by decide +kernel
theorem d18_6 : decode jdk_29_method_65_code 6 = .ok (.goto 4, 3) := by decide +kernel
theorem d18_10 : decode jdk_29_method_65_code 10 = .ok (.ireturn, 1) := by decide +kernel
theorem rm_max (hw : HW a0 Z) (ff : Int32) (h0 : Heap) (Z0 : n0 ≤ h0.size) (hf : ¬ ff < 0) :
    Met1 l Z ⟨"java/lang/Math", "max", "(II)I"⟩ jdk_29_method_65_code 2 (some .int) ⟨0, 0, 0, 0⟩ n0 #[(.int ff), (.int 0)] h0 (fun v h => v = some (.int ff) ∧ h0 = h) := by
  refine met_of (Jvm.Free.JP.mathPlain rfl (by decide +kernel)) (L0 := #[.val (.int ff), .val (.int 0)]) (by first | (simp [argsToLocals, Value.category]; done) | rfl) ?_
  intro B C hN
  change Ctx B l _ _ "java/lang/Math" "max" _ _ Z at C
  refine iN C ff d18_0 rfl <| iN C 0 d18_1 rfl <| yicmp_n C d18_2 (XT.ii_lt_f hf) <| iN C ff d18_5 rfl <| gT C d18_6 10 (by decide) ?_
  refine g_ret C (eN hN) (v := (.int ff)) (ty := .int) rfl rfl (Or.inl ⟨rfl, Or.inl rfl, _, rfl⟩) d18_10 (by decide) (by decide) ?_
  exact ⟨rfl, rfl⟩
theorem d19_0 : decode jdk_29_method_69_code 0 = .ok (.iload_n 0, 1) := by decide +kernel
theorem d19_1 : decode jdk_29_method_69_code 1 = .ok (.iload_n 1, 1) := by decide +kernel
theorem d19_2 : decode jdk_29_method_69_code 2 = .ok (.if_icmp .gt 7, 3) := by decide +kernel
theorem d19_5 : decode jdk_29_method_69_code 5 = .ok (.iload_n 0, 1) := by decide +kernel
theorem d19_6 : decode jdk_29_method_69_code 6 = .ok (.goto 4, 3) := by decide +kernel
theorem d19_10 : decode jdk_29_method_69_code 10 = .ok (.ireturn, 1) := by decide +kernel
theorem rm_min (hw : HW a0 Z) (nn : Int32) (h0 : Heap) (Z0 : n0 ≤ h0.size) (hz : ¬ nn < nn) :
    Met1 l Z ⟨"java/lang/Math", "min", "(II)I"⟩ jdk_29_method_69_code 2 (some .int) ⟨0, 0, 0, 0⟩ n0 #[(.int nn), (.int nn)] h0 (fun v h => v = some (.int nn) ∧ h0 = h) := by
  refine met_of (Jvm.Free.JP.mathPlain rfl (by decide +kernel)) (L0 := #[.val (.int nn), .val (.int nn)]) (by first | (simp [argsToLocals, Value.category]; done) | rfl) ?_
  intro B C hN
  change Ctx B l _ _ "java/lang/Math" "min" _ _ Z at C
  refine iN C nn d19_0 rfl <| iN C nn d19_1 rfl <| yicmp_n C d19_2 (XT.ii_gt_f hz) <| iN C nn d19_5 rfl <| gT C d19_6 10 (by decide) ?_
  refine g_ret C (eN hN) (v := (.int nn)) (ty := .int) rfl rfl (Or.inl ⟨rfl, Or.inl rfl, _, rfl⟩) d19_10 (by decide) (by decide) ?_
  exact ⟨rfl, rfl⟩
theorem d15_0 : decode jdk_42_method_152_code 0 = .ok (.getstatic 38, 3) := by decide +kernel
theorem d15_3 : decode jdk_42_method_152_code 3 = .ok (.ifCond .eq 10, 3) := by decide +kernel
theorem d15_6 : decode jdk_42_method_152_code 6 = .ok (.aload_n 0, 1) := by decide +kernel
theorem d15_7 : decode jdk_42_method_152_code 7 = .ok (.getfield 15, 3) := by decide +kernel
theorem d15_10 : decode jdk_42_method_152_code 10 = .ok (.goto 4, 3) := by decide +kernel
theorem d15_14 : decode jdk_42_method_152_code 14 = .ok (.ireturn, 1) := by decide +kernel
theorem rm_coder (hw : HW a0 Z) (a1 : Addr) (h0 : Heap) (Z0 : n0 ≤ h0.size) (cm : Cmp Z) (O : Old Z n0 h0) (F1 : Fld Z h0 a1 "java/lang/String" "coder" "B" (.int 0)) :
    Met1 l Z ⟨"java/lang/String", "coder", "()B"⟩ jdk_42_method_152_code 1 (some .byte) ⟨0, 0, 0, 0⟩ n0 #[(.ref a1)] h0 (fun v h => v = some (.int 0) ∧ h0 = h) := by
  refine met_of (plainFor_of_name pn_4) (L0 := #[.val (.ref a1)]) (by first | (simp [argsToLocals, Value.category]; done) | rfl) ?_
  intro B C hN
  change Ctx B l _ _ "java/lang/String" "coder" _ _ Z at C
  have cm' := cm
  obtain ⟨cz, Scz, hcz⟩ := cm'
  refine ygetstatic C (host := "") (v := (.int cz)) (Or.inl (oW hw 21 rfl)) Via.refl (Scz.ext O.2) d15_0 <| yif_n C d15_3 (XT.i0_eq_f hcz) <| aN C ((.ref a1)) d15_6 rfl rfl <| ygetfield C (host := "") (v := (.int 0)) (Or.inl (oW hw 33 rfl)) Via.refl F1 d15_7 <| gT C d15_10 14 (by decide) ?_
  refine g_ret C (eN hN) (v := (.int 0)) (ty := .byte) rfl rfl (Or.inl ⟨rfl, Or.inr (Or.inr (Or.inl rfl)), _, rfl⟩) d15_14 (by decide) (by decide) ?_
  exact ⟨rfl, rfl⟩
theorem d13_0 : decode jdk_42_method_154_code 0 = .ok (.getstatic 38, 3) := by decide +kernel
theorem d13_3 : decode jdk_42_method_154_code 3 = .ok (.ifCond .eq 14, 3) := by decide +kernel
theorem d13_6 : decode jdk_42_method_154_code 6 = .ok (.aload_n 0, 1) := by decide +kernel
theorem d13_7 : decode jdk_42_method_154_code 7 = .ok (.getfield 15, 3) := by decide +kernel
theorem d13_10 : decode jdk_42_method_154_code 10 = .ok (.ifCond .ne 7, 3) := by decide +kernel
theorem d13_13 : decode jdk_42_method_154_code 13 = .ok (.iconst 1, 1) := by decide +kernel
theorem d13_14 : decode jdk_42_method_154_code 14 = .ok (.goto 4, 3) := by decide +kernel
theorem d13_18 : decode jdk_42_method_154_code 18 = .ok (.ireturn, 1) := by decide +kernel
theorem rm_isLatin1 (hw : HW a0 Z) (a1 : Addr) (h0 : Heap) (Z0 : n0 ≤ h0.size) (cm : Cmp Z) (O : Old Z n0 h0) (F1 : Fld Z h0 a1 "java/lang/String" "coder" "B" (.int 0)) :
    Met1 l Z ⟨"java/lang/String", "isLatin1", "()Z"⟩ jdk_42_method_154_code 1 (some .boolean) ⟨0, 0, 0, 0⟩ n0 #[(.ref a1)] h0 (fun v h => v = some (.int 1) ∧ h0 = h) := by
  refine met_of (plainFor_of_name pn_4) (L0 := #[.val (.ref a1)]) (by first | (simp [argsToLocals, Value.category]; done) | rfl) ?_
  intro B C hN
  change Ctx B l _ _ "java/lang/String" "isLatin1" _ _ Z at C
  have cm' := cm
  obtain ⟨cz, Scz, hcz⟩ := cm'
  refine ygetstatic C (host := "") (v := (.int cz)) (Or.inl (oW hw 21 rfl)) Via.refl (Scz.ext O.2) d13_0 <| yif_n C d13_3 (XT.i0_eq_f hcz) <| aN C ((.ref a1)) d13_6 rfl rfl <| ygetfield C (host := "") (v := (.int 0)) (Or.inl (oW hw 33 rfl)) Via.refl F1 d13_7 <| yif_n C d13_10 (XT.i0_ne_f (by decide)) <| iC C 1 d13_13 rfl <| gT C d13_14 18 (by decide) ?_
  refine g_ret C (eN hN) (v := (.int 1)) (ty := .boolean) rfl rfl (Or.inl ⟨rfl, Or.inr (Or.inl rfl), _, rfl⟩) d13_18 (by decide) (by decide) ?_
  exact ⟨rfl, rfl⟩
theorem pd_18 : parseMethodDescriptor "()B" = some ⟨[], (some .byte)⟩ := by decide +kernel
theorem d14_0 : decode jdk_42_method_54_code 0 = .ok (.aload_n 0, 1) := by decide +kernel
theorem d14_1 : decode jdk_42_method_54_code 1 = .ok (.getfield 9, 3) := by decide +kernel
theorem d14_4 : decode jdk_42_method_54_code 4 = .ok (.arraylength, 1) := by decide +kernel
theorem d14_5 : decode jdk_42_method_54_code 5 = .ok (.aload_n 0, 1) := by decide +kernel
theorem d14_6 : decode jdk_42_method_54_code 6 = .ok (.invokevirtual 335, 3) := by decide +kernel
theorem d14_9 : decode jdk_42_method_54_code 9 = .ok (.ishr, 1) := by decide +kernel
theorem d14_10 : decode jdk_42_method_54_code 10 = .ok (.ireturn, 1) := by decide +kernel
theorem rm_length_0 (hw : HW a0 Z) (a1 b1 : Addr)  (h0 : Heap) (Z0 : n0 ≤ h0.size) (cm : Cmp Z) (O : Old Z n0 h0) (E0 : Exa Z h0 a1 "java/lang/String") (F0 : Fld Z h0 a1 "java/lang/String" "value" "[B" (.ref b1)) (F1 : Fld Z h0 a1 "java/lang/String" "coder" "B" (.int 0)) (A1 : Ary Z h0 b1 .byte []) :
    Met1 l Z ⟨"java/lang/String", "length", "()I"⟩ jdk_42_method_54_code 1 (some .int) ⟨1, 0, 0, 13⟩ n0 #[(.ref a1)] h0 (fun v h => v = some (.int 0) ∧ h0 = h) := by
  refine met_of (plainFor_of_name pn_4) (L0 := #[.val (.ref a1)]) (by first | (simp [argsToLocals, Value.category]; done) | rfl) ?_
  intro B C hN
  change Ctx B l _ _ "java/lang/String" "length" _ _ Z at C
  have cm' := cm
  obtain ⟨cz, Scz, hcz⟩ := cm'
  refine aN C ((.ref a1)) d14_0 rfl rfl <| ygetfield C (host := "") (v := (.ref b1)) (Or.inl (oW hw 35 rfl)) Via.refl F0 d14_1 <| yarraylength C A1 (z := 0) rfl d14_4 <| aN C ((.ref a1)) d14_5 rfl rfl <| cV C hw 65 66 68 67 6 69 rfl rfl rfl rfl rfl rfl E0 (rm_coder hw a1 h0 Z0 cm O F1) [(.int 0)] [] pd_18 1 d14_6 ⟨rfl, rfl, rfl, rfl, rfl⟩ (by decide) ?_
  intro v_3 h_1 q_2
  obtain ⟨rfl, rfl⟩ := q_2
  show Go _ _ _ _ 0 0 9 _ [(.int 0), (.int 0)]
  refine yishr C d14_9 <| eS [(.int 0)] rfl ?_
  refine g_ret C (eN hN) (v := (.int 0)) (ty := .int) rfl rfl (Or.inl ⟨rfl, Or.inl rfl, _, rfl⟩) d14_10 (by decide) (by decide) ?_
  exact ⟨rfl, rfl⟩
theorem rm_length_1 (hw : HW a0 Z) (a1 b1 : Addr) (x0 : Int32) (h0 : Heap) (Z0 : n0 ≤ h0.size) (cm : Cmp Z) (O : Old Z n0 h0) (E0 : Exa Z h0 a1 "java/lang/String") (F0 : Fld Z h0 a1 "java/lang/String" "value" "[B" (.ref b1)) (F1 : Fld Z h0 a1 "java/lang/String" "coder" "B" (.int 0)) (A1 : Ary Z h0 b1 .byte [.int x0]) :
    Met1 l Z ⟨"java/lang/String", "length", "()I"⟩ jdk_42_method_54_code 1 (some .int) ⟨1, 0, 0, 13⟩ n0 #[(.ref a1)] h0 (fun v h => v = some (.int 1) ∧ h0 = h) := by
  refine met_of (plainFor_of_name pn_4) (L0 := #[.val (.ref a1)]) (by first | (simp [argsToLocals, Value.category]; done) | rfl) ?_
  intro B C hN
  change Ctx B l _ _ "java/lang/String" "length" _ _ Z at C
  have cm' := cm
  obtain ⟨cz, Scz, hcz⟩ := cm'
  refine aN C ((.ref a1)) d14_0 rfl rfl <| ygetfield C (host := "") (v := (.ref b1)) (Or.inl (oW hw 35 rfl)) Via.refl F0 d14_1 <| yarraylength C A1 (z := 1) rfl d14_4 <| aN C ((.ref a1)) d14_5 rfl rfl <| cV C hw 65 66 68 67 6 69 rfl rfl rfl rfl rfl rfl E0 (rm_coder hw a1 h0 Z0 cm O F1) [(.int 1)] [] pd_18 1 d14_6 ⟨rfl, rfl, rfl, rfl, rfl⟩ (by decide) ?_
  intro v_3 h_1 q_2
  obtain ⟨rfl, rfl⟩ := q_2
  show Go _ _ _ _ 0 0 9 _ [(.int 0), (.int 1)]
  refine yishr C d14_9 <| eS [(.int 1)] rfl ?_
  refine g_ret C (eN hN) (v := (.int 1)) (ty := .int) rfl rfl (Or.inl ⟨rfl, Or.inl rfl, _, rfl⟩) d14_10 (by decide) (by decide) ?_
  exact ⟨rfl, rfl⟩
theorem rm_length_2 (hw : HW a0 Z) (a1 b1 : Addr) (x0 x1 : Int32) (h0 : Heap) (Z0 : n0 ≤ h0.size) (cm : Cmp Z) (O : Old Z n0 h0) (E0 : Exa Z h0 a1 "java/lang/String") (F0 : Fld Z h0 a1 "java/lang/String" "value" "[B" (.ref b1)) (F1 : Fld Z h0 a1 "java/lang/String" "coder" "B" (.int 0)) (A1 : Ary Z h0 b1 .byte [.int x0, .int x1]) :
    Met1 l Z ⟨"java/lang/String", "length", "()I"⟩ jdk_42_method_54_code 1 (some .int) ⟨1, 0, 0, 13⟩ n0 #[(.ref a1)] h0 (fun v h => v = some (.int 2) ∧ h0 = h) := by
  refine met_of (plainFor_of_name pn_4) (L0 := #[.val (.ref a1)]) (by first | (simp [argsToLocals, Value.category]; done) | rfl) ?_
  intro B C hN
  change Ctx B l _ _ "java/lang/String" "length" _ _ Z at C
  have cm' := cm
  obtain ⟨cz, Scz, hcz⟩ := cm'
  refine aN C ((.ref a1)) d14_0 rfl rfl <| ygetfield C (host := "") (v := (.ref b1)) (Or.inl (oW hw 35 rfl)) Via.refl F0 d14_1 <| yarraylength C A1 (z := 2) rfl d14_4 <| aN C ((.ref a1)) d14_5 rfl rfl <| cV C hw 65 66 68 67 6 69 rfl rfl rfl rfl rfl rfl E0 (rm_coder hw a1 h0 Z0 cm O F1) [(.int 2)] [] pd_18 1 d14_6 ⟨rfl, rfl, rfl, rfl, rfl⟩ (by decide) ?_
  intro v_3 h_1 q_2
  obtain ⟨rfl, rfl⟩ := q_2
  show Go _ _ _ _ 0 0 9 _ [(.int 0), (.int 2)]
  refine yishr C d14_9 <| eS [(.int 2)] rfl ?_
  refine g_ret C (eN hN) (v := (.int 2)) (ty := .int) rfl rfl (Or.inl ⟨rfl, Or.inl rfl, _, rfl⟩) d14_10 (by decide) (by decide) ?_
  exact ⟨rfl, rfl⟩
theorem rm_length_3 (hw : HW a0 Z) (a1 b1 : Addr) (x0 x1 x2 : Int32) (h0 : Heap) (Z0 : n0 ≤ h0.size) (cm : Cmp Z) (O : Old Z n0 h0) (E0 : Exa Z h0 a1 "java/lang/String") (F0 : Fld Z h0 a1 "java/lang/String" "value" "[B" (.ref b1)) (F1 : Fld Z h0 a1 "java/lang/String" "coder" "B" (.int 0)) (A1 : Ary Z h0 b1 .byte [.int x0, .int x1, .int x2]) :
    Met1 l Z ⟨"java/lang/String", "length", "()I"⟩ jdk_42_method_54_code 1 (some .int) ⟨1, 0, 0, 13⟩ n0 #[(.ref a1)] h0 (fun v h => v = some (.int 3) ∧ h0 = h) := by
  refine met_of (plainFor_of_name pn_4) (L0 := #[.val (.ref a1)]) (by first | (simp [argsToLocals, Value.category]; done) | rfl) ?_
  intro B C hN
  change Ctx B l _ _ "java/lang/String" "length" _ _ Z at C
  have cm' := cm
  obtain ⟨cz, Scz, hcz⟩ := cm'
  refine aN C ((.ref a1)) d14_0 rfl rfl <| ygetfield C (host := "") (v := (.ref b1)) (Or.inl (oW hw 35 rfl)) Via.refl F0 d14_1 <| yarraylength C A1 (z := 3) rfl d14_4 <| aN C ((.ref a1)) d14_5 rfl rfl <| cV C hw 65 66 68 67 6 69 rfl rfl rfl rfl rfl rfl E0 (rm_coder hw a1 h0 Z0 cm O F1) [(.int 3)] [] pd_18 1 d14_6 ⟨rfl, rfl, rfl, rfl, rfl⟩ (by decide) ?_
  intro v_3 h_1 q_2
  obtain ⟨rfl, rfl⟩ := q_2
  show Go _ _ _ _ 0 0 9 _ [(.int 0), (.int 3)]
  refine yishr C d14_9 <| eS [(.int 3)] rfl ?_
  refine g_ret C (eN hN) (v := (.int 3)) (ty := .int) rfl rfl (Or.inl ⟨rfl, Or.inl rfl, _, rfl⟩) d14_10 (by decide) (by decide) ?_
  exact ⟨rfl, rfl⟩
theorem rm_length_4 (hw : HW a0 Z) (a1 b1 : Addr) (x0 x1 x2 x3 : Int32) (h0 : Heap) (Z0 : n0 ≤ h0.size) (cm : Cmp Z) (O : Old Z n0 h0) (E0 : Exa Z h0 a1 "java/lang/String") (F0 : Fld Z h0 a1 "java/lang/String" "value" "[B" (.ref b1)) (F1 : Fld Z h0 a1 "java/lang/String" "coder" "B" (.int 0)) (A1 : Ary Z h0 b1 .byte [.int x0, .int x1, .int x2, .int x3]) :
    Met1 l Z ⟨"java/lang/String", "length", "()I"⟩ jdk_42_method_54_code 1 (some .int) ⟨1, 0, 0, 13⟩ n0 #[(.ref a1)] h0 (fun v h => v = some (.int 4) ∧ h0 = h) := by
  refine met_of (plainFor_of_name pn_4) (L0 := #[.val (.ref a1)]) (by first | (simp [argsToLocals, Value.category]; done) | rfl) ?_
  intro B C hN
  change Ctx B l _ _ "java/lang/String" "length" _ _ Z at C
  have cm' := cm
  obtain ⟨cz, Scz, hcz⟩ := cm'
  refine aN C ((.ref a1)) d14_0 rfl rfl <| ygetfield C (host := "") (v := (.ref b1)) (Or.inl (oW hw 35 rfl)) Via.refl F0 d14_1 <| yarraylength C A1 (z := 4) rfl d14_4 <| aN C ((.ref a1)) d14_5 rfl rfl <| cV C hw 65 66 68 67 6 69 rfl rfl rfl rfl rfl rfl E0 (rm_coder hw a1 h0 Z0 cm O F1) [(.int 4)] [] pd_18 1 d14_6 ⟨rfl, rfl, rfl, rfl, rfl⟩ (by decide) ?_
  intro v_3 h_1 q_2
  obtain ⟨rfl, rfl⟩ := q_2
  show Go _ _ _ _ 0 0 9 _ [(.int 0), (.int 4)]
  refine yishr C d14_9 <| eS [(.int 4)] rfl ?_
  refine g_ret C (eN hN) (v := (.int 4)) (ty := .int) rfl rfl (Or.inl ⟨rfl, Or.inl rfl, _, rfl⟩) d14_10 (by decide) (by decide) ?_
  exact ⟨rfl, rfl⟩
theorem rm_length_5 (hw : HW a0 Z) (a1 b1 : Addr) (x0 x1 x2 x3 x4 : Int32) (h0 : Heap) (Z0 : n0 ≤ h0.size) (cm : Cmp Z) (O : Old Z n0 h0) (E0 : Exa Z h0 a1 "java/lang/String") (F0 : Fld Z h0 a1 "java/lang/String" "value" "[B" (.ref b1)) (F1 : Fld Z h0 a1 "java/lang/String" "coder" "B" (.int 0)) (A1 : Ary Z h0 b1 .byte [.int x0, .int x1, .int x2, .int x3, .int x4]) :
    Met1 l Z ⟨"java/lang/String", "length", "()I"⟩ jdk_42_method_54_code 1 (some .int) ⟨1, 0, 0, 13⟩ n0 #[(.ref a1)] h0 (fun v h => v = some (.int 5) ∧ h0 = h) := by
  refine met_of (plainFor_of_name pn_4) (L0 := #[.val (.ref a1)]) (by first | (simp [argsToLocals, Value.category]; done) | rfl) ?_
  intro B C hN
  change Ctx B l _ _ "java/lang/String" "length" _ _ Z at C
  have cm' := cm
  obtain ⟨cz, Scz, hcz⟩ := cm'
  refine aN C ((.ref a1)) d14_0 rfl rfl <| ygetfield C (host := "") (v := (.ref b1)) (Or.inl (oW hw 35 rfl)) Via.refl F0 d14_1 <| yarraylength C A1 (z := 5) rfl d14_4 <| aN C ((.ref a1)) d14_5 rfl rfl <| cV C hw 65 66 68 67 6 69 rfl rfl rfl rfl rfl rfl E0 (rm_coder hw a1 h0 Z0 cm O F1) [(.int 5)] [] pd_18 1 d14_6 ⟨rfl, rfl, rfl, rfl, rfl⟩ (by decide) ?_
  intro v_3 h_1 q_2
  obtain ⟨rfl, rfl⟩ := q_2
  show Go _ _ _ _ 0 0 9 _ [(.int 0), (.int 5)]
  refine yishr C d14_9 <| eS [(.int 5)] rfl ?_
  refine g_ret C (eN hN) (v := (.int 5)) (ty := .int) rfl rfl (Or.inl ⟨rfl, Or.inl rfl, _, rfl⟩) d14_10 (by decide) (by decide) ?_
  exact ⟨rfl, rfl⟩
theorem d20_0 : decode jdk_43_method_23_code 0 = .ok (.iload_n 1, 1) := by decide +kernel
theorem d20_1 : decode jdk_43_method_23_code 1 = .ok (.i2b, 1) := by decide +kernel
theorem d20_2 : decode jdk_43_method_23_code 2 = .ok (.istore 4, 2) := by decide +kernel
theorem d20_4 : decode jdk_43_method_23_code 4 = .ok (.iload_n 2, 1) := by decide +kernel
theorem d20_5 : decode jdk_43_method_23_code 5 = .ok (.istore 5, 2) := by decide +kernel
theorem d20_7 : decode jdk_43_method_23_code 7 = .ok (.iload 5, 2) := by decide +kernel
theorem d20_9 : decode jdk_43_method_23_code 9 = .ok (.iload_n 3, 1) := by decide +kernel
theorem d20_10 : decode jdk_43_method_23_code 10 = .ok (.if_icmp .ge 21, 3) := by decide +kernel
theorem d20_13 : decode jdk_43_method_23_code 13 = .ok (.aload_n 0, 1) := by decide +kernel
theorem d20_14 : decode jdk_43_method_23_code 14 = .ok (.iload 5, 2) := by decide +kernel
theorem d20_16 : decode jdk_43_method_23_code 16 = .ok (.baload, 1) := by decide +kernel
theorem d20_17 : decode jdk_43_method_23_code 17 = .ok (.iload 4, 2) := by decide +kernel
theorem d20_19 : decode jdk_43_method_23_code 19 = .ok (.if_icmp .ne 6, 3) := by decide +kernel
theorem d20_22 : decode jdk_43_method_23_code 22 = .ok (.iload 5, 2) := by decide +kernel
theorem d20_24 : decode jdk_43_method_23_code 24 = .ok (.ireturn, 1) := by decide +kernel
theorem rm_ioc_1_0_1 (hw : HW a0 Z) (a1 : Addr) (x0 : Int32) (h0 : Heap) (Z0 : n0 ≤ h0.size) (A1 : Ary Z h0 a1 .byte [.int x0]) (e0 : x0 = 9) :
    Met1 l Z ⟨"java/lang/StringLatin1", "indexOfChar", "([BIII)I"⟩ jdk_43_method_23_code 6 (some .int) ⟨0, 0, 0, 0⟩ n0 #[(.ref a1), (.int 9), (.int 0), (.int 1)] h0 (fun v h => v = some (.int 0) ∧ h0 = h) := by
  refine met_of (plainFor_of_name pn_2) (L0 := #[.val (.ref a1), .val (.int 9), .val (.int 0), .val (.int 1), .unset, .unset]) (by first | (simp [argsToLocals, Value.category]; done) | rfl) ?_
  intro B C hN
  change Ctx B l _ _ "java/lang/StringLatin1" "indexOfChar" _ _ Z at C
  refine iN C 9 d20_0 rfl <| yi2b C d20_1 <| eS [(.int 9)] rfl <| iS C d20_2 (#[aV a1, iV 9, iV 0, iV 1, iV 9, uV]) rfl <| iN C 0 d20_4 rfl <| iS C d20_5 (#[aV a1, iV 9, iV 0, iV 1, iV 9, iV 0]) rfl <| iL C 0 d20_7 rfl <| iN C 1 d20_9 rfl <| yicmp_n C d20_10 (XT.ii_ge_f (by decide)) <| aN C ((.ref a1)) d20_13 rfl rfl <| iL C 0 d20_14 rfl <| ybaloadB C A1 (by decide) (i := 0) (by decide) (v := x0) rfl d20_16 <| iL C 9 d20_17 rfl <| yicmp_n C d20_19 (XT.ii_ne_f e0) <| iL C 0 d20_22 rfl ?_
  refine g_ret C (eN hN) (v := (.int 0)) (ty := .int) rfl rfl (Or.inl ⟨rfl, Or.inl rfl, _, rfl⟩) d20_24 (by decide) (by decide) ?_
  exact ⟨rfl, rfl⟩
theorem d20_25 : decode jdk_43_method_23_code 25 = .ok (.iinc 5 1, 3) := by decide +kernel
theorem d20_28 : decode jdk_43_method_23_code 28 = .ok (.goto (-21), 3) := by decide +kernel
theorem d20_31 : decode jdk_43_method_23_code 31 = .ok (.iconst (-1), 1) := by decide +kernel
theorem d20_32 : decode jdk_43_method_23_code 32 = .ok (.ireturn, 1) := by decide +kernel
theorem rm_ioc_1_0_0 (hw : HW a0 Z) (a1 : Addr) (x0 : Int32) (h0 : Heap) (Z0 : n0 ≤ h0.size) (A1 : Ary Z h0 a1 .byte [.int x0]) (e0 : ¬ x0 = 9) :
    Met1 l Z ⟨"java/lang/StringLatin1", "indexOfChar", "([BIII)I"⟩ jdk_43_method_23_code 6 (some .int) ⟨0, 0, 0, 0⟩ n0 #[(.ref a1), (.int 9), (.int 0), (.int 1)] h0 (fun v h => v = some (.int (-1 : Int32)) ∧ h0 = h) := by
  refine met_of (plainFor_of_name pn_2) (L0 := #[.val (.ref a1), .val (.int 9), .val (.int 0), .val (.int 1), .unset, .unset]) (by first | (simp [argsToLocals, Value.category]; done) | rfl) ?_
  intro B C hN
  change Ctx B l _ _ "java/lang/StringLatin1" "indexOfChar" _ _ Z at C
  refine iN C 9 d20_0 rfl <| yi2b C d20_1 <| eS [(.int 9)] rfl <| iS C d20_2 (#[aV a1, iV 9, iV 0, iV 1, iV 9, uV]) rfl <| iN C 0 d20_4 rfl <| iS C d20_5 (#[aV a1, iV 9, iV 0, iV 1, iV 9, iV 0]) rfl <| iL C 0 d20_7 rfl <| iN C 1 d20_9 rfl <| yicmp_n C d20_10 (XT.ii_ge_f (by decide)) <| aN C ((.ref a1)) d20_13 rfl rfl <| iL C 0 d20_14 rfl <| ybaloadB C A1 (by decide) (i := 0) (by decide) (v := x0) rfl d20_16 <| iL C 9 d20_17 rfl <| cY C d20_19 (XT.ii_ne_t e0) 25 (by decide) <| nC C 0 1 d20_25 rfl rfl (#[aV a1, iV 9, iV 0, iV 1, iV 9, iV 1]) rfl <| gT C d20_28 7 (by decide) <| iL C 1 d20_7 rfl <| iN C 1 d20_9 rfl <| cY C d20_10 (XT.ii_ge_t (by decide)) 31 (by decide) <| iC C ((-1 : Int32)) d20_31 rfl ?_
  refine g_ret C (eN hN) (v := (.int (-1 : Int32))) (ty := .int) rfl rfl (Or.inl ⟨rfl, Or.inl rfl, _, rfl⟩) d20_32 (by decide) (by decide) ?_
  exact ⟨rfl, rfl⟩
theorem rm_ioc_2_0_1 (hw : HW a0 Z) (a1 : Addr) (x0 x1 : Int32) (h0 : Heap) (Z0 : n0 ≤ h0.size) (A1 : Ary Z h0 a1 .byte [.int x0, .int x1]) (e0 : x0 = 9) :
    Met1 l Z ⟨"java/lang/StringLatin1", "indexOfChar", "([BIII)I"⟩ jdk_43_method_23_code 6 (some .int) ⟨0, 0, 0, 0⟩ n0 #[(.ref a1), (.int 9), (.int 0), (.int 2)] h0 (fun v h => v = some (.int 0) ∧ h0 = h) := by
  refine met_of (plainFor_of_name pn_2) (L0 := #[.val (.ref a1), .val (.int 9), .val (.int 0), .val (.int 2), .unset, .unset]) (by first | (simp [argsToLocals, Value.category]; done) | rfl) ?_
  intro B C hN
  change Ctx B l _ _ "java/lang/StringLatin1" "indexOfChar" _ _ Z at C
  refine iN C 9 d20_0 rfl <| yi2b C d20_1 <| eS [(.int 9)] rfl <| iS C d20_2 (#[aV a1, iV 9, iV 0, iV 2, iV 9, uV]) rfl <| iN C 0 d20_4 rfl <| iS C d20_5 (#[aV a1, iV 9, iV 0, iV 2, iV 9, iV 0]) rfl <| iL C 0 d20_7 rfl <| iN C 2 d20_9 rfl <| yicmp_n C d20_10 (XT.ii_ge_f (by decide)) <| aN C ((.ref a1)) d20_13 rfl rfl <| iL C 0 d20_14 rfl <| ybaloadB C A1 (by decide) (i := 0) (by decide) (v := x0) rfl d20_16 <| iL C 9 d20_17 rfl <| yicmp_n C d20_19 (XT.ii_ne_f e0) <| iL C 0 d20_22 rfl ?_
  refine g_ret C (eN hN) (v := (.int 0)) (ty := .int) rfl rfl (Or.inl ⟨rfl, Or.inl rfl, _, rfl⟩) d20_24 (by decide) (by decide) ?_
  exact ⟨rfl, rfl⟩
theorem rm_ioc_2_0_2 (hw : HW a0 Z) (a1 : Addr) (x0 x1 : Int32) (h0 : Heap) (Z0 : n0 ≤ h0.size) (A1 : Ary Z h0 a1 .byte [.int x0, .int x1]) (e0 : ¬ x0 = 9) (e1 : x1 = 9) :
    Met1 l Z ⟨"java/lang/StringLatin1", "indexOfChar", "([BIII)I"⟩ jdk_43_method_23_code 6 (some .int) ⟨0, 0, 0, 0⟩ n0 #[(.ref a1), (.int 9), (.int 0), (.int 2)] h0 (fun v h => v = some (.int 1) ∧ h0 = h) := by
  refine met_of (plainFor_of_name pn_2) (L0 := #[.val (.ref a1), .val (.int 9), .val (.int 0), .val (.int 2), .unset, .unset]) (by first | (simp [argsToLocals, Value.category]; done) | rfl) ?_
  intro B C hN
  change Ctx B l _ _ "java/lang/StringLatin1" "indexOfChar" _ _ Z at C
  refine iN C 9 d20_0 rfl <| yi2b C d20_1 <| eS [(.int 9)] rfl <| iS C d20_2 (#[aV a1, iV 9, iV 0, iV 2, iV 9, uV]) rfl <| iN C 0 d20_4 rfl <| iS C d20_5 (#[aV a1, iV 9, iV 0, iV 2, iV 9, iV 0]) rfl <| iL C 0 d20_7 rfl <| iN C 2 d20_9 rfl <| yicmp_n C d20_10 (XT.ii_ge_f (by decide)) <| aN C ((.ref a1)) d20_13 rfl rfl <| iL C 0 d20_14 rfl <| ybaloadB C A1 (by decide) (i := 0) (by decide) (v := x0) rfl d20_16 <| iL C 9 d20_17 rfl <| cY C d20_19 (XT.ii_ne_t e0) 25 (by decide) <| nC C 0 1 d20_25 rfl rfl (#[aV a1, iV 9, iV 0, iV 2, iV 9, iV 1]) rfl <| gT C d20_28 7 (by decide) <| iL C 1 d20_7 rfl <| iN C 2 d20_9 rfl <| yicmp_n C d20_10 (XT.ii_ge_f (by decide)) <| aN C ((.ref a1)) d20_13 rfl rfl <| iL C 1 d20_14 rfl <| ybaloadB C A1 (by decide) (i := 1) (by decide) (v := x1) rfl d20_16 <| iL C 9 d20_17 rfl <| yicmp_n C d20_19 (XT.ii_ne_f e1) <| iL C 1 d20_22 rfl ?_
  refine g_ret C (eN hN) (v := (.int 1)) (ty := .int) rfl rfl (Or.inl ⟨rfl, Or.inl rfl, _, rfl⟩) d20_24 (by decide) (by decide) ?_
  exact ⟨rfl, rfl⟩
theorem rm_ioc_2_0_0 (hw : HW a0 Z) (a1 : Addr) (x0 x1 : Int32) (h0 : Heap) (Z0 : n0 ≤ h0.size) (A1 : Ary Z h0 a1 .byte [.int x0, .int x1]) (e0 : ¬ x0 = 9) (e1 : ¬ x1 = 9) :
    Met1 l Z ⟨"java/lang/StringLatin1", "indexOfChar", "([BIII)I"⟩ jdk_43_method_23_code 6 (some .int) ⟨0, 0, 0, 0⟩ n0 #[(.ref a1), (.int 9), (.int 0), (.int 2)] h0 (fun v h => v = some (.int (-1 : Int32)) ∧ h0 = h) := by
  refine met_of (plainFor_of_name pn_2) (L0 := #[.val (.ref a1), .val (.int 9), .val (.int 0), .val (.int 2), .unset, .unset]) (by first | (simp [argsToLocals, Value.category]; done) | rfl) ?_
  intro B C hN
  change Ctx B l _ _ "java/lang/StringLatin1" "indexOfChar" _ _ Z at C
  refine iN C 9 d20_0 rfl <| yi2b C d20_1 <| eS [(.int 9)] rfl <| iS C d20_2 (#[aV a1, iV 9, iV 0, iV 2, iV 9, uV]) rfl <| iN C 0 d20_4 rfl <| iS C d20_5 (#[aV a1, iV 9, iV 0, iV 2, iV 9, iV 0]) rfl <| iL C 0 d20_7 rfl <| iN C 2 d20_9 rfl <| yicmp_n C d20_10 (XT.ii_ge_f (by decide)) <| aN C ((.ref a1)) d20_13 rfl rfl <| iL C 0 d20_14 rfl <| ybaloadB C A1 (by decide) (i := 0) (by decide) (v := x0) rfl d20_16 <| iL C 9 d20_17 rfl <| cY C d20_19 (XT.ii_ne_t e0) 25 (by decide) <| nC C 0 1 d20_25 rfl rfl (#[aV a1, iV 9, iV 0, iV 2, iV 9, iV 1]) rfl <| gT C d20_28 7 (by decide) <| iL C 1 d20_7 rfl <| iN C 2 d20_9 rfl <| yicmp_n C d20_10 (XT.ii_ge_f (by decide)) <| aN C ((.ref a1)) d20_13 rfl rfl <| iL C 1 d20_14 rfl <| ybaloadB C A1 (by decide) (i := 1) (by decide) (v := x1) rfl d20_16 <| iL C 9 d20_17 rfl <| cY C d20_19 (XT.ii_ne_t e1) 25 (by decide) <| nC C 1 2 d20_25 rfl rfl (#[aV a1, iV 9, iV 0, iV 2, iV 9, iV 2]) rfl <| gT C d20_28 7 (by decide) <| iL C 2 d20_7 rfl <| iN C 2 d20_9 rfl <| cY C d20_10 (XT.ii_ge_t (by decide)) 31 (by decide) <| iC C ((-1 : Int32)) d20_31 rfl ?_
  refine g_ret C (eN hN) (v := (.int (-1 : Int32))) (ty := .int) rfl rfl (Or.inl ⟨rfl, Or.inl rfl, _, rfl⟩) d20_32 (by decide) (by decide) ?_
  exact ⟨rfl, rfl⟩
theorem rm_ioc_2_1_2 (hw : HW a0 Z) (a1 : Addr) (x0 x1 : Int32) (h0 : Heap) (Z0 : n0 ≤ h0.size) (A1 : Ary Z h0 a1 .byte [.int x0, .int x1]) (e1 : x1 = 9) :
    Met1 l Z ⟨"java/lang/StringLatin1", "indexOfChar", "([BIII)I"⟩ jdk_43_method_23_code 6 (some .int) ⟨0, 0, 0, 0⟩ n0 #[(.ref a1), (.int 9), (.int 1), (.int 2)] h0 (fun v h => v = some (.int 1) ∧ h0 = h) := by
  refine met_of (plainFor_of_name pn_2) (L0 := #[.val (.ref a1), .val (.int 9), .val (.int 1), .val (.int 2), .unset, .unset]) (by first | (simp [argsToLocals, Value.category]; done) | rfl) ?_
  intro B C hN
  change Ctx B l _ _ "java/lang/StringLatin1" "indexOfChar" _ _ Z at C
  refine iN C 9 d20_0 rfl <| yi2b C d20_1 <| eS [(.int 9)] rfl <| iS C d20_2 (#[aV a1, iV 9, iV 1, iV 2, iV 9, uV]) rfl <| iN C 1 d20_4 rfl <| iS C d20_5 (#[aV a1, iV 9, iV 1, iV 2, iV 9, iV 1]) rfl <| iL C 1 d20_7 rfl <| iN C 2 d20_9 rfl <| yicmp_n C d20_10 (XT.ii_ge_f (by decide)) <| aN C ((.ref a1)) d20_13 rfl rfl <| iL C 1 d20_14 rfl <| ybaloadB C A1 (by decide) (i := 1) (by decide) (v := x1) rfl d20_16 <| iL C 9 d20_17 rfl <| yicmp_n C d20_19 (XT.ii_ne_f e1) <| iL C 1 d20_22 rfl ?_
  refine g_ret C (eN hN) (v := (.int 1)) (ty := .int) rfl rfl (Or.inl ⟨rfl, Or.inl rfl, _, rfl⟩) d20_24 (by decide) (by decide) ?_
  exact ⟨rfl, rfl⟩
theorem rm_ioc_2_1_0 (hw : HW a0 Z) (a1 : Addr) (x0 x1 : Int32) (h0 : Heap) (Z0 : n0 ≤ h0.size) (A1 : Ary Z h0 a1 .byte [.int x0, .int x1]) (e1 : ¬ x1 = 9) :
    Met1 l Z ⟨"java/lang/StringLatin1", "indexOfChar", "([BIII)I"⟩ jdk_43_method_23_code 6 (some .int) ⟨0, 0, 0, 0⟩ n0 #[(.ref a1), (.int 9), (.int 1), (.int 2)] h0 (fun v h => v = some (.int (-1 : Int32)) ∧ h0 = h) := by
  refine met_of (plainFor_of_name pn_2) (L0 := #[.val (.ref a1), .val (.int 9), .val (.int 1), .val (.int 2), .unset, .unset]) (by first | (simp [argsToLocals, Value.category]; done) | rfl) ?_
  intro B C hN
  change Ctx B l _ _ "java/lang/StringLatin1" "indexOfChar" _ _ Z at C
  refine iN C 9 d20_0 rfl <| yi2b C d20_1 <| eS [(.int 9)] rfl <| iS C d20_2 (#[aV a1, iV 9, iV 1, iV 2, iV 9, uV]) rfl <| iN C 1 d20_4 rfl <| iS C d20_5 (#[aV a1, iV 9, iV 1, iV 2, iV 9, iV 1]) rfl <| iL C 1 d20_7 rfl <| iN C 2 d20_9 rfl <| yicmp_n C d20_10 (XT.ii_ge_f (by decide)) <| aN C ((.ref a1)) d20_13 rfl rfl <| iL C 1 d20_14 rfl <| ybaloadB C A1 (by decide) (i := 1) (by decide) (v := x1) rfl d20_16 <| iL C 9 d20_17 rfl <| cY C d20_19 (XT.ii_ne_t e1) 25 (by decide) <| nC C 1 2 d20_25 rfl rfl (#[aV a1, iV 9, iV 1, iV 2, iV 9, iV 2]) rfl <| gT C d20_28 7 (by decide) <| iL C 2 d20_7 rfl <| iN C 2 d20_9 rfl <| cY C d20_10 (XT.ii_ge_t (by decide)) 31 (by decide) <| iC C ((-1 : Int32)) d20_31 rfl ?_
  refine g_ret C (eN hN) (v := (.int (-1 : Int32))) (ty := .int) rfl rfl (Or.inl ⟨rfl, Or.inl rfl, _, rfl⟩) d20_32 (by decide) (by decide) ?_
  exact ⟨rfl, rfl⟩
theorem rm_ioc_3_0_1 (hw : HW a0 Z) (a1 : Addr) (x0 x1 x2 : Int32) (h0 : Heap) (Z0 : n0 ≤ h0.size) (A1 : Ary Z h0 a1 .byte [.int x0, .int x1, .int x2]) (e0 : x0 = 9) :
    Met1 l Z ⟨"java/lang/StringLatin1", "indexOfChar", "([BIII)I"⟩ jdk_43_method_23_code 6 (some .int) ⟨0, 0, 0, 0⟩ n0 #[(.ref a1), (.int 9), (.int 0), (.int 3)] h0 (fun v h => v = some (.int 0) ∧ h0 = h) := by
  refine met_of (plainFor_of_name pn_2) (L0 := #[.val (.ref a1), .val (.int 9), .val (.int 0), .val (.int 3), .unset, .unset]) (by first | (simp [argsToLocals, Value.category]; done) | rfl) ?_
  intro B C hN
  change Ctx B l _ _ "java/lang/StringLatin1" "indexOfChar" _ _ Z at C
  refine iN C 9 d20_0 rfl <| yi2b C d20_1 <| eS [(.int 9)] rfl <| iS C d20_2 (#[aV a1, iV 9, iV 0, iV 3, iV 9, uV]) rfl <| iN C 0 d20_4 rfl <| iS C d20_5 (#[aV a1, iV 9, iV 0, iV 3, iV 9, iV 0]) rfl <| iL C 0 d20_7 rfl <| iN C 3 d20_9 rfl <| yicmp_n C d20_10 (XT.ii_ge_f (by decide)) <| aN C ((.ref a1)) d20_13 rfl rfl <| iL C 0 d20_14 rfl <| ybaloadB C A1 (by decide) (i := 0) (by decide) (v := x0) rfl d20_16 <| iL C 9 d20_17 rfl <| yicmp_n C d20_19 (XT.ii_ne_f e0) <| iL C 0 d20_22 rfl ?_
  refine g_ret C (eN hN) (v := (.int 0)) (ty := .int) rfl rfl (Or.inl ⟨rfl, Or.inl rfl, _, rfl⟩) d20_24 (by decide) (by decide) ?_
  exact ⟨rfl, rfl⟩
theorem rm_ioc_3_0_2 (hw : HW a0 Z) (a1 : Addr) (x0 x1 x2 : Int32) (h0 : Heap) (Z0 : n0 ≤ h0.size) (A1 : Ary Z h0 a1 .byte [.int x0, .int x1, .int x2]) (e0 : ¬ x0 = 9) (e1 : x1 = 9) :
    Met1 l Z ⟨"java/lang/StringLatin1", "indexOfChar", "([BIII)I"⟩ jdk_43_method_23_code 6 (some .int) ⟨0, 0, 0, 0⟩ n0 #[(.ref a1), (.int 9), (.int 0), (.int 3)] h0 (fun v h => v = some (.int 1) ∧ h0 = h) := by
  refine met_of (plainFor_of_name pn_2) (L0 := #[.val (.ref a1), .val (.int 9), .val (.int 0), .val (.int 3), .unset, .unset]) (by first | (simp [argsToLocals, Value.category]; done) | rfl) ?_
  intro B C hN
  change Ctx B l _ _ "java/lang/StringLatin1" "indexOfChar" _ _ Z at C
  refine iN C 9 d20_0 rfl <| yi2b C d20_1 <| eS [(.int 9)] rfl <| iS C d20_2 (#[aV a1, iV 9, iV 0, iV 3, iV 9, uV]) rfl <| iN C 0 d20_4 rfl <| iS C d20_5 (#[aV a1, iV 9, iV 0, iV 3, iV 9, iV 0]) rfl <| iL C 0 d20_7 rfl <| iN C 3 d20_9 rfl <| yicmp_n C d20_10 (XT.ii_ge_f (by decide)) <| aN C ((.ref a1)) d20_13 rfl rfl <| iL C 0 d20_14 rfl <| ybaloadB C A1 (by decide) (i := 0) (by decide) (v := x0) rfl d20_16 <| iL C 9 d20_17 rfl <| cY C d20_19 (XT.ii_ne_t e0) 25 (by decide) <| nC C 0 1 d20_25 rfl rfl (#[aV a1, iV 9, iV 0, iV 3, iV 9, iV 1]) rfl <| gT C d20_28 7 (by decide) <| iL C 1 d20_7 rfl <| iN C 3 d20_9 rfl <| yicmp_n C d20_10 (XT.ii_ge_f (by decide)) <| aN C ((.ref a1)) d20_13 rfl rfl <| iL C 1 d20_14 rfl <| ybaloadB C A1 (by decide) (i := 1) (by decide) (v := x1) rfl d20_16 <| iL C 9 d20_17 rfl <| yicmp_n C d20_19 (XT.ii_ne_f e1) <| iL C 1 d20_22 rfl ?_
  refine g_ret C (eN hN) (v := (.int 1)) (ty := .int) rfl rfl (Or.inl ⟨rfl, Or.inl rfl, _, rfl⟩) d20_24 (by decide) (by decide) ?_
  exact ⟨rfl, rfl⟩
theorem rm_ioc_3_0_3 (hw : HW a0 Z) (a1 : Addr) (x0 x1 x2 : Int32) (h0 : Heap) (Z0 : n0 ≤ h0.size) (A1 : Ary Z h0 a1 .byte [.int x0, .int x1, .int x2]) (e0 : ¬ x0 = 9) (e1 : ¬ x1 = 9) (e2 : x2 = 9) :
    Met1 l Z ⟨"java/lang/StringLatin1", "indexOfChar", "([BIII)I"⟩ jdk_43_method_23_code 6 (some .int) ⟨0, 0, 0, 0⟩ n0 #[(.ref a1), (.int 9), (.int 0), (.int 3)] h0 (fun v h => v = some (.int 2) ∧ h0 = h) := by
  refine met_of (plainFor_of_name pn_2) (L0 := #[.val (.ref a1), .val (.int 9), .val (.int 0), .val (.int 3), .unset, .unset]) (by first | (simp [argsToLocals, Value.category]; done) | rfl) ?_
  intro B C hN
  change Ctx B l _ _ "java/lang/StringLatin1" "indexOfChar" _ _ Z at C
  refine iN C 9 d20_0 rfl <| yi2b C d20_1 <| eS [(.int 9)] rfl <| iS C d20_2 (#[aV a1, iV 9, iV 0, iV 3, iV 9, uV]) rfl <| iN C 0 d20_4 rfl <| iS C d20_5 (#[aV a1, iV 9, iV 0, iV 3, iV 9, iV 0]) rfl <| iL C 0 d20_7 rfl <| iN C 3 d20_9 rfl <| yicmp_n C d20_10 (XT.ii_ge_f (by decide)) <| aN C ((.ref a1)) d20_13 rfl rfl <| iL C 0 d20_14 rfl <| ybaloadB C A1 (by decide) (i := 0) (by decide) (v := x0) rfl d20_16 <| iL C 9 d20_17 rfl <| cY C d20_19 (XT.ii_ne_t e0) 25 (by decide) <| nC C 0 1 d20_25 rfl rfl (#[aV a1, iV 9, iV 0, iV 3, iV 9, iV 1]) rfl <| gT C d20_28 7 (by decide) <| iL C 1 d20_7 rfl <| iN C 3 d20_9 rfl <| yicmp_n C d20_10 (XT.ii_ge_f (by decide)) <| aN C ((.ref a1)) d20_13 rfl rfl <| iL C 1 d20_14 rfl <| ybaloadB C A1 (by decide) (i := 1) (by decide) (v := x1) rfl d20_16 <| iL C 9 d20_17 rfl <| cY C d20_19 (XT.ii_ne_t e1) 25 (by decide) <| nC C 1 2 d20_25 rfl rfl (#[aV a1, iV 9, iV 0, iV 3, iV 9, iV 2]) rfl <| gT C d20_28 7 (by decide) <| iL C 2 d20_7 rfl <| iN C 3 d20_9 rfl <| yicmp_n C d20_10 (XT.ii_ge_f (by decide)) <| aN C ((.ref a1)) d20_13 rfl rfl <| iL C 2 d20_14 rfl <| ybaloadB C A1 (by decide) (i := 2) (by decide) (v := x2) rfl d20_16 <| iL C 9 d20_17 rfl <| yicmp_n C d20_19 (XT.ii_ne_f e2) <| iL C 2 d20_22 rfl ?_
  refine g_ret C (eN hN) (v := (.int 2)) (ty := .int) rfl rfl (Or.inl ⟨rfl, Or.inl rfl, _, rfl⟩) d20_24 (by decide) (by decide) ?_
  exact ⟨rfl, rfl⟩
theorem rm_ioc_3_0_0 (hw : HW a0 Z) (a1 : Addr) (x0 x1 x2 : Int32) (h0 : Heap) (Z0 : n0 ≤ h0.size) (A1 : Ary Z h0 a1 .byte [.int x0, .int x1, .int x2]) (e0 : ¬ x0 = 9) (e1 : ¬ x1 = 9) (e2 : ¬ x2 = 9) :
    Met1 l Z ⟨"java/lang/StringLatin1", "indexOfChar", "([BIII)I"⟩ jdk_43_method_23_code 6 (some .int) ⟨0, 0, 0, 0⟩ n0 #[(.ref a1), (.int 9), (.int 0), (.int 3)] h0 (fun v h => v = some (.int (-1 : Int32)) ∧ h0 = h) := by
  refine met_of (plainFor_of_name pn_2) (L0 := #[.val (.ref a1), .val (.int 9), .val (.int 0), .val (.int 3), .unset, .unset]) (by first | (simp [argsToLocals, Value.category]; done) | rfl) ?_
  intro B C hN
  change Ctx B l _ _ "java/lang/StringLatin1" "indexOfChar" _ _ Z at C
  refine iN C 9 d20_0 rfl <| yi2b C d20_1 <| eS [(.int 9)] rfl <| iS C d20_2 (#[aV a1, iV 9, iV 0, iV 3, iV 9, uV]) rfl <| iN C 0 d20_4 rfl <| iS C d20_5 (#[aV a1, iV 9, iV 0, iV 3, iV 9, iV 0]) rfl <| iL C 0 d20_7 rfl <| iN C 3 d20_9 rfl <| yicmp_n C d20_10 (XT.ii_ge_f (by decide)) <| aN C ((.ref a1)) d20_13 rfl rfl <| iL C 0 d20_14 rfl <| ybaloadB C A1 (by decide) (i := 0) (by decide) (v := x0) rfl d20_16 <| iL C 9 d20_17 rfl <| cY C d20_19 (XT.ii_ne_t e0) 25 (by decide) <| nC C 0 1 d20_25 rfl rfl (#[aV a1, iV 9, iV 0, iV 3, iV 9, iV 1]) rfl <| gT C d20_28 7 (by decide) <| iL C 1 d20_7 rfl <| iN C 3 d20_9 rfl <| yicmp_n C d20_10 (XT.ii_ge_f (by decide)) <| aN C ((.ref a1)) d20_13 rfl rfl <| iL C 1 d20_14 rfl <| ybaloadB C A1 (by decide) (i := 1) (by decide) (v := x1) rfl d20_16 <| iL C 9 d20_17 rfl <| cY C d20_19 (XT.ii_ne_t e1) 25 (by decide) <| nC C 1 2 d20_25 rfl rfl (#[aV a1, iV 9, iV 0, iV 3, iV 9, iV 2]) rfl <| gT C d20_28 7 (by decide) <| iL C 2 d20_7 rfl <| iN C 3 d20_9 rfl <| yicmp_n C d20_10 (XT.ii_ge_f (by decide)) <| aN C ((.ref a1)) d20_13 rfl rfl <| iL C 2 d20_14 rfl <| ybaloadB C A1 (by decide) (i := 2) (by decide) (v := x2) rfl d20_16 <| iL C 9 d20_17 rfl <| cY C d20_19 (XT.ii_ne_t e2) 25 (by decide) <| nC C 2 3 d20_25 rfl rfl (#[aV a1, iV 9, iV 0, iV 3, iV 9, iV 3]) rfl <| gT C d20_28 7 (by decide) <| iL C 3 d20_7 rfl <| iN C 3 d20_9 rfl <| cY C d20_10 (XT.ii_ge_t (by decide)) 31 (by decide) <| iC C ((-1 : Int32)) d20_31 rfl ?_
  refine g_ret C (eN hN) (v := (.int (-1 : Int32))) (ty := .int) rfl rfl (Or.inl ⟨rfl, Or.inl rfl, _, rfl⟩) d20_32 (by decide) (by decide) ?_
  exact ⟨rfl, rfl⟩
theorem rm_ioc_3_1_2 (hw : HW a0 Z) (a1 : Addr) (x0 x1 x2 : Int32) (h0 : Heap) (Z0 : n0 ≤ h0.size) (A1 : Ary Z h0 a1 .byte [.int x0, .int x1, .int x2]) (e1 : x1 = 9) :
    Met1 l Z ⟨"java/lang/StringLatin1", "indexOfChar", "([BIII)I"⟩ jdk_43_method_23_code 6 (some .int) ⟨0, 0, 0, 0⟩ n0 #[(.ref a1), (.int 9), (.int 1), (.int 3)] h0 (fun v h => v = some (.int 1) ∧ h0 = h) := by
  refine met_of (plainFor_of_name pn_2) (L0 := #[.val (.ref a1), .val (.int 9), .val (.int 1), .val (.int 3), .unset, .unset]) (by first | (simp [argsToLocals, Value.category]; done) | rfl) ?_
  intro B C hN
  change Ctx B l _ _ "java/lang/StringLatin1" "indexOfChar" _ _ Z at C
  refine iN C 9 d20_0 rfl <| yi2b C d20_1 <| eS [(.int 9)] rfl <| iS C d20_2 (#[aV a1, iV 9, iV 1, iV 3, iV 9, uV]) rfl <| iN C 1 d20_4 rfl <| iS C d20_5 (#[aV a1, iV 9, iV 1, iV 3, iV 9, iV 1]) rfl <| iL C 1 d20_7 rfl <| iN C 3 d20_9 rfl <| yicmp_n C d20_10 (XT.ii_ge_f (by decide)) <| aN C ((.ref a1)) d20_13 rfl rfl <| iL C 1 d20_14 rfl <| ybaloadB C A1 (by decide) (i := 1) (by decide) (v := x1) rfl d20_16 <| iL C 9 d20_17 rfl <| yicmp_n C d20_19 (XT.ii_ne_f e1) <| iL C 1 d20_22 rfl ?_
  refine g_ret C (eN hN) (v := (.int 1)) (ty := .int) rfl rfl (Or.inl ⟨rfl, Or.inl rfl, _, rfl⟩) d20_24 (by decide) (by decide) ?_
  exact ⟨rfl, rfl⟩
theorem rm_ioc_3_1_3 (hw : HW a0 Z) (a1 : Addr) (x0 x1 x2 : Int32) (h0 : Heap) (Z0 : n0 ≤ h0.size) (A1 : Ary Z h0 a1 .byte [.int x0, .int x1, .int x2]) (e1 : ¬ x1 = 9) (e2 : x2 = 9) :
    Met1 l Z ⟨"java/lang/StringLatin1", "indexOfChar", "([BIII)I"⟩ jdk_43_method_23_code 6 (some .int) ⟨0, 0, 0, 0⟩ n0 #[(.ref a1), (.int 9), (.int 1), (.int 3)] h0 (fun v h => v = some (.int 2) ∧ h0 = h) := by
  refine met_of (plainFor_of_name pn_2) (L0 := #[.val (.ref a1), .val (.int 9), .val (.int 1), .val (.int 3), .unset, .unset]) (by first | (simp [argsToLocals, Value.category]; done) | rfl) ?_
  intro B C hN
  change Ctx B l _ _ "java/lang/StringLatin1" "indexOfChar" _ _ Z at C
  refine iN C 9 d20_0 rfl <| yi2b C d20_1 <| eS [(.int 9)] rfl <| iS C d20_2 (#[aV a1, iV 9, iV 1, iV 3, iV 9, uV]) rfl <| iN C 1 d20_4 rfl <| iS C d20_5 (#[aV a1, iV 9, iV 1, iV 3, iV 9, iV 1]) rfl <| iL C 1 d20_7 rfl <| iN C 3 d20_9 rfl <| yicmp_n C d20_10 (XT.ii_ge_f (by decide)) <| aN C ((.ref a1)) d20_13 rfl rfl <| iL C 1 d20_14 rfl <| ybaloadB C A1 (by decide) (i := 1) (by decide) (v := x1) rfl d20_16 <| iL C 9 d20_17 rfl <| cY C d20_19 (XT.ii_ne_t e1) 25 (by decide) <| nC C 1 2 d20_25 rfl rfl (#[aV a1, iV 9, iV 1, iV 3, iV 9, iV 2]) rfl <| gT C d20_28 7 (by decide) <| iL C 2 d20_7 rfl <| iN C 3 d20_9 rfl <| yicmp_n C d20_10 (XT.ii_ge_f (by decide)) <| aN C ((.ref a1)) d20_13 rfl rfl <| iL C 2 d20_14 rfl <| ybaloadB C A1 (by decide) (i := 2) (by decide) (v := x2) rfl d20_16 <| iL C 9 d20_17 rfl <| yicmp_n C d20_19 (XT.ii_ne_f e2) <| iL C 2 d20_22 rfl ?_
  refine g_ret C (eN hN) (v := (.int 2)) (ty := .int) rfl rfl (Or.inl ⟨rfl, Or.inl rfl, _, rfl⟩) d20_24 (by decide) (by decide) ?_
  exact ⟨rfl, rfl⟩
theorem rm_ioc_3_1_0 (hw : HW a0 Z) (a1 : Addr) (x0 x1 x2 : Int32) (h0 : Heap) (Z0 : n0 ≤ h0.size) (A1 : Ary Z h0 a1 .byte [.int x0, .int x1, .int x2]) (e1 : ¬ x1 = 9) (e2 : ¬ x2 = 9) :
    Met1 l Z ⟨"java/lang/StringLatin1", "indexOfChar", "([BIII)I"⟩ jdk_43_method_23_code 6 (some .int) ⟨0, 0, 0, 0⟩ n0 #[(.ref a1), (.int 9), (.int 1), (.int 3)] h0 (fun v h => v = some (.int (-1 : Int32)) ∧ h0 = h) := by
  refine met_of (plainFor_of_name pn_2) (L0 := #[.val (.ref a1), .val (.int 9), .val (.int 1), .val (.int 3), .unset, .unset]) (by first | (simp [argsToLocals, Value.category]; done) | rfl) ?_
  intro B C hN
  change Ctx B l _ _ "java/lang/StringLatin1" "indexOfChar" _ _ Z at C
  refine iN C 9 d20_0 rfl <| yi2b C d20_1 <| eS [(.int 9)] rfl <| iS C d20_2 (#[aV a1, iV 9, iV 1, iV 3, iV 9, uV]) rfl <| iN C 1 d20_4 rfl <| iS C d20_5 (#[aV a1, iV 9, iV 1, iV 3, iV 9, iV 1]) rfl <| iL C 1 d20_7 rfl <| iN C 3 d20_9 rfl <| yicmp_n C d20_10 (XT.ii_ge_f (by decide)) <| aN C ((.ref a1)) d20_13 rfl rfl <| iL C 1 d20_14 rfl <| ybaloadB C A1 (by decide) (i := 1) (by decide) (v := x1) rfl d20_16 <| iL C 9 d20_17 rfl <| cY C d20_19 (XT.ii_ne_t e1) 25 (by decide) <| nC C 1 2 d20_25 rfl rfl (#[aV a1, iV 9, iV 1, iV 3, iV 9, iV 2]) rfl <| gT C d20_28 7 (by decide) <| iL C 2 d20_7 rfl <| iN C 3 d20_9 rfl <| yicmp_n C d20_10 (XT.ii_ge_f (by decide)) <| aN C ((.ref a1)) d20_13 rfl rfl <| iL C 2 d20_14 rfl <| ybaloadB C A1 (by decide) (i := 2) (by decide) (v := x2) rfl d20_16 <| iL C 9 d20_17 rfl <| cY C d20_19 (XT.ii_ne_t e2) 25 (by decide) <| nC C 2 3 d20_25 rfl rfl (#[aV a1, iV 9, iV 1, iV 3, iV 9, iV 3]) rfl <| gT C d20_28 7 (by decide) <| iL C 3 d20_7 rfl <| iN C 3 d20_9 rfl <| cY C d20_10 (XT.ii_ge_t (by decide)) 31 (by decide) <| iC C ((-1 : Int32)) d20_31 rfl ?_
  refine g_ret C (eN hN) (v := (.int (-1 : Int32))) (ty := .int) rfl rfl (Or.inl ⟨rfl, Or.inl rfl, _, rfl⟩) d20_32 (by decide) (by decide) ?_
  exact ⟨rfl, rfl⟩
theorem rm_ioc_3_2_3 (hw : HW a0 Z) (a1 : Addr) (x0 x1 x2 : Int32) (h0 : Heap) (Z0 : n0 ≤ h0.size) (A1 : Ary Z h0 a1 .byte [.int x0, .int x1, .int x2]) (e2 : x2 = 9) :
    Met1 l Z ⟨"java/lang/StringLatin1", "indexOfChar", "([BIII)I"⟩ jdk_43_method_23_code 6 (some .int) ⟨0, 0, 0, 0⟩ n0 #[(.ref a1), (.int 9), (.int 2), (.int 3)] h0 (fun v h => v = some (.int 2) ∧ h0 = h) := by
  refine met_of (plainFor_of_name pn_2) (L0 := #[.val (.ref a1), .val (.int 9), .val (.int 2), .val (.int 3), .unset, .unset]) (by first | (simp [argsToLocals, Value.category]; done) | rfl) ?_
  intro B C hN
  change Ctx B l _ _ "java/lang/StringLatin1" "indexOfChar" _ _ Z at C
  refine iN C 9 d20_0 rfl <| yi2b C d20_1 <| eS [(.int 9)] rfl <| iS C d20_2 (#[aV a1, iV 9, iV 2, iV 3, iV 9, uV]) rfl <| iN C 2 d20_4 rfl <| iS C d20_5 (#[aV a1, iV 9, iV 2, iV 3, iV 9, iV 2]) rfl <| iL C 2 d20_7 rfl <| iN C 3 d20_9 rfl <| yicmp_n C d20_10 (XT.ii_ge_f (by decide)) <| aN C ((.ref a1)) d20_13 rfl rfl <| iL C 2 d20_14 rfl <| ybaloadB C A1 (by decide) (i := 2) (by decide) (v := x2) rfl d20_16 <| iL C 9 d20_17 rfl <| yicmp_n C d20_19 (XT.ii_ne_f e2) <| iL C 2 d20_22 rfl ?_
  refine g_ret C (eN hN) (v := (.int 2)) (ty := .int) rfl rfl (Or.inl ⟨rfl, Or.inl rfl, _, rfl⟩) d20_24 (by decide) (by decide) ?_
  exact ⟨rfl, rfl⟩
theorem rm_ioc_3_2_0 (hw : HW a0 Z) (a1 : Addr) (x0 x1 x2 : Int32) (h0 : Heap) (Z0 : n0 ≤ h0.size) (A1 : Ary Z h0 a1 .byte [.int x0, .int x1, .int x2]) (e2 : ¬ x2 = 9) :
    Met1 l Z ⟨"java/lang/StringLatin1", "indexOfChar", "([BIII)I"⟩ jdk_43_method_23_code 6 (some .int) ⟨0, 0, 0, 0⟩ n0 #[(.ref a1), (.int 9), (.int 2), (.int 3)] h0 (fun v h => v = some (.int (-1 : Int32)) ∧ h0 = h) := by
  refine met_of (plainFor_of_name pn_2) (L0 := #[.val (.ref a1), .val (.int 9), .val (.int 2), .val (.int 3), .unset, .unset]) (by first | (simp [argsToLocals, Value.category]; done) | rfl) ?_
  intro B C hN
  change Ctx B l _ _ "java/lang/StringLatin1" "indexOfChar" _ _ Z at C
  refine iN C 9 d20_0 rfl <| yi2b C d20_1 <| eS [(.int 9)] rfl <| iS C d20_2 (#[aV a1, iV 9, iV 2, iV 3, iV 9, uV]) rfl <| iN C 2 d20_4 rfl <| iS C d20_5 (#[aV a1, iV 9, iV 2, iV 3, iV 9, iV 2]) rfl <| iL C 2 d20_7 rfl <| iN C 3 d20_9 rfl <| yicmp_n C d20_10 (XT.ii_ge_f (by decide)) <| aN C ((.ref a1)) d20_13 rfl rfl <| iL C 2 d20_14 rfl <| ybaloadB C A1 (by decide) (i := 2) (by decide) (v := x2) rfl d20_16 <| iL C 9 d20_17 rfl <| cY C d20_19 (XT.ii_ne_t e2) 25 (by decide) <| nC C 2 3 d20_25 rfl rfl (#[aV a1, iV 9, iV 2, iV 3, iV 9, iV 3]) rfl <| gT C d20_28 7 (by decide) <| iL C 3 d20_7 rfl <| iN C 3 d20_9 rfl <| cY C d20_10 (XT.ii_ge_t (by decide)) 31 (by decide) <| iC C ((-1 : Int32)) d20_31 rfl ?_
  refine g_ret C (eN hN) (v := (.int (-1 : Int32))) (ty := .int) rfl rfl (Or.inl ⟨rfl, Or.inl rfl, _, rfl⟩) d20_32 (by decide) (by decide) ?_
  exact ⟨rfl, rfl⟩
theorem rm_ioc_4_0_1 (hw : HW a0 Z) (a1 : Addr) (x0 x1 x2 x3 : Int32) (h0 : Heap) (Z0 : n0 ≤ h0.size) (A1 : Ary Z h0 a1 .byte [.int x0, .int x1, .int x2, .int x3]) (e0 : x0 = 9) :
    Met1 l Z ⟨"java/lang/StringLatin1", "indexOfChar", "([BIII)I"⟩ jdk_43_method_23_code 6 (some .int) ⟨0, 0, 0, 0⟩ n0 #[(.ref a1), (.int 9), (.int 0), (.int 4)] h0 (fun v h => v = some (.int 0) ∧ h0 = h) := by
  refine met_of (plainFor_of_name pn_2) (L0 := #[.val (.ref a1), .val (.int 9), .val (.int 0), .val (.int 4), .unset, .unset]) (by first | (simp [argsToLocals, Value.category]; done) | rfl) ?_
  intro B C hN
  change Ctx B l _ _ "java/lang/StringLatin1" "indexOfChar" _ _ Z at C
  refine iN C 9 d20_0 rfl <| yi2b C d20_1 <| eS [(.int 9)] rfl <| iS C d20_2 (#[aV a1, iV 9, iV 0, iV 4, iV 9, uV]) rfl <| iN C 0 d20_4 rfl <| iS C d20_5 (#[aV a1, iV 9, iV 0, iV 4, iV 9, iV 0]) rfl <| iL C 0 d20_7 rfl <| iN C 4 d20_9 rfl <| yicmp_n C d20_10 (XT.ii_ge_f (by decide)) <| aN C ((.ref a1)) d20_13 rfl rfl <| iL C 0 d20_14 rfl <| ybaloadB C A1 (by decide) (i := 0) (by decide) (v := x0) rfl d20_16 <| iL C 9 d20_17 rfl <| yicmp_n C d20_19 (XT.ii_ne_f e0) <| iL C 0 d20_22 rfl ?_
  refine g_ret C (eN hN) (v := (.int 0)) (ty := .int) rfl rfl (Or.inl ⟨rfl, Or.inl rfl, _, rfl⟩) d20_24 (by decide) (by decide) ?_
  exact ⟨rfl, rfl⟩
theorem rm_ioc_4_0_2 (hw : HW a0 Z) (a1 : Addr) (x0 x1 x2 x3 : Int32) (h0 : Heap) (Z0 : n0 ≤ h0.size) (A1 : Ary Z h0 a1 .byte [.int x0, .int x1, .int x2, .int x3]) (e0 : ¬ x0 = 9) (e1 : x1 = 9) :
    Met1 l Z ⟨"java/lang/StringLatin1", "indexOfChar", "([BIII)I"⟩ jdk_43_method_23_code 6 (some .int) ⟨0, 0, 0, 0⟩ n0 #[(.ref a1), (.int 9), (.int 0), (.int 4)] h0 (fun v h => v = some (.int 1) ∧ h0 = h) := by
  refine met_of (plainFor_of_name pn_2) (L0 := #[.val (.ref a1), .val (.int 9), .val (.int 0), .val (.int 4), .unset, .unset]) (by first | (simp [argsToLocals, Value.category]; done) | rfl) ?_
  intro B C hN
  change Ctx B l _ _ "java/lang/StringLatin1" "indexOfChar" _ _ Z at C
  refine iN C 9 d20_0 rfl <| yi2b C d20_1 <| eS [(.int 9)] rfl <| iS C d20_2 (#[aV a1, iV 9, iV 0, iV 4, iV 9, uV]) rfl <| iN C 0 d20_4 rfl <| iS C d20_5 (#[aV a1, iV 9, iV 0, iV 4, iV 9, iV 0]) rfl <| iL C 0 d20_7 rfl <| iN C 4 d20_9 rfl <| yicmp_n C d20_10 (XT.ii_ge_f (by decide)) <| aN C ((.ref a1)) d20_13 rfl rfl <| iL C 0 d20_14 rfl <| ybaloadB C A1 (by decide) (i := 0) (by decide) (v := x0) rfl d20_16 <| iL C 9 d20_17 rfl <| cY C d20_19 (XT.ii_ne_t e0) 25 (by decide) <| nC C 0 1 d20_25 rfl rfl (#[aV a1, iV 9, iV 0, iV 4, iV 9, iV 1]) rfl <| gT C d20_28 7 (by decide) <| iL C 1 d20_7 rfl <| iN C 4 d20_9 rfl <| yicmp_n C d20_10 (XT.ii_ge_f (by decide)) <| aN C ((.ref a1)) d20_13 rfl rfl <| iL C 1 d20_14 rfl <| ybaloadB C A1 (by decide) (i := 1) (by decide) (v := x1) rfl d20_16 <| iL C 9 d20_17 rfl <| yicmp_n C d20_19 (XT.ii_ne_f e1) <| iL C 1 d20_22 rfl ?_
  refine g_ret C (eN hN) (v := (.int 1)) (ty := .int) rfl rfl (Or.inl ⟨rfl, Or.inl rfl, _, rfl⟩) d20_24 (by decide) (by decide) ?_
  exact ⟨rfl, rfl⟩
theorem rm_ioc_4_0_3 (hw : HW a0 Z) (a1 : Addr) (x0 x1 x2 x3 : Int32) (h0 : Heap) (Z0 : n0 ≤ h0.size) (A1 : Ary Z h0 a1 .byte [.int x0, .int x1, .int x2, .int x3]) (e0 : ¬ x0 = 9) (e1 : ¬ x1 = 9) (e2 : x2 = 9) :
    Met1 l Z ⟨"java/lang/StringLatin1", "indexOfChar", "([BIII)I"⟩ jdk_43_method_23_code 6 (some .int) ⟨0, 0, 0, 0⟩ n0 #[(.ref a1), (.int 9), (.int 0), (.int 4)] h0 (fun v h => v = some (.int 2) ∧ h0 = h) := by
  refine met_of (plainFor_of_name pn_2) (L0 := #[.val (.ref a1), .val (.int 9), .val (.int 0), .val (.int 4), .unset, .unset]) (by first | (simp [argsToLocals, Value.category]; done) | rfl) ?_
  intro B C hN
  change Ctx B l _ _ "java/lang/StringLatin1" "indexOfChar" _ _ Z at C
  refine iN C 9 d20_0 rfl <| yi2b C d20_1 <| eS [(.int 9)] rfl <| iS C d20_2 (#[aV a1, iV 9, iV 0, iV 4, iV 9, uV]) rfl <| iN C 0 d20_4 rfl <| iS C d20_5 (#[aV a1, iV 9, iV 0, iV 4, iV 9, iV 0]) rfl <| iL C 0 d20_7 rfl <| iN C 4 d20_9 rfl <| yicmp_n C d20_10 (XT.ii_ge_f (by decide)) <| aN C ((.ref a1)) d20_13 rfl rfl <| iL C 0 d20_14 rfl <| ybaloadB C A1 (by decide) (i := 0) (by decide) (v := x0) rfl d20_16 <| iL C 9 d20_17 rfl <| cY C d20_19 (XT.ii_ne_t e0) 25 (by decide) <| nC C 0 1 d20_25 rfl rfl (#[aV a1, iV 9, iV 0, iV 4, iV 9, iV 1]) rfl <| gT C d20_28 7 (by decide) <| iL C 1 d20_7 rfl <| iN C 4 d20_9 rfl <| yicmp_n C d20_10 (XT.ii_ge_f (by decide)) <| aN C ((.ref a1)) d20_13 rfl rfl <| iL C 1 d20_14 rfl <| ybaloadB C A1 (by decide) (i := 1) (by decide) (v := x1) rfl d20_16 <| iL C 9 d20_17 rfl <| cY C d20_19 (XT.ii_ne_t e1) 25 (by decide) <| nC C 1 2 d20_25 rfl rfl (#[aV a1, iV 9, iV 0, iV 4, iV 9, iV 2]) rfl <| gT C d20_28 7 (by decide) <| iL C 2 d20_7 rfl <| iN C 4 d20_9 rfl <| yicmp_n C d20_10 (XT.ii_ge_f (by decide)) <| aN C ((.ref a1)) d20_13 rfl rfl <| iL C 2 d20_14 rfl <| ybaloadB C A1 (by decide) (i := 2) (by decide) (v := x2) rfl d20_16 <| iL C 9 d20_17 rfl <| yicmp_n C d20_19 (XT.ii_ne_f e2) <| iL C 2 d20_22 rfl ?_
  refine g_ret C (eN hN) (v := (.int 2)) (ty := .int) rfl rfl (Or.inl ⟨rfl, Or.inl rfl, _, rfl⟩) d20_24 (by decide) (by decide) ?_
  exact ⟨rfl, rfl⟩
theorem rm_ioc_4_0_4 (hw : HW a0 Z) (a1 : Addr) (x0 x1 x2 x3 : Int32) (h0 : Heap) (Z0 : n0 ≤ h0.size) (A1 : Ary Z h0 a1 .byte [.int x0, .int x1, .int x2, .int x3]) (e0 : ¬ x0 = 9) (e1 : ¬ x1 = 9) (e2 : ¬ x2 = 9) (e3 : x3 = 9) :
    Met1 l Z ⟨"java/lang/StringLatin1", "indexOfChar", "([BIII)I"⟩ jdk_43_method_23_code 6 (some .int) ⟨0, 0, 0, 0⟩ n0 #[(.ref a1), (.int 9), (.int 0), (.int 4)] h0 (fun v h => v = some (.int 3) ∧ h0 = h) := by
  refine met_of (plainFor_of_name pn_2) (L0 := #[.val (.ref a1), .val (.int 9), .val (.int 0), .val (.int 4), .unset, .unset]) (by first | (simp [argsToLocals, Value.category]; done) | rfl) ?_
  intro B C hN
  change Ctx B l _ _ "java/lang/StringLatin1" "indexOfChar" _ _ Z at C
  refine iN C 9 d20_0 rfl <| yi2b C d20_1 <| eS [(.int 9)] rfl <| iS C d20_2 (#[aV a1, iV 9, iV 0, iV 4, iV 9, uV]) rfl <| iN C 0 d20_4 rfl <| iS C d20_5 (#[aV a1, iV 9, iV 0, iV 4, iV 9, iV 0]) rfl <| iL C 0 d20_7 rfl <| iN C 4 d20_9 rfl <| yicmp_n C d20_10 (XT.ii_ge_f (by decide)) <| aN C ((.ref a1)) d20_13 rfl rfl <| iL C 0 d20_14 rfl <| ybaloadB C A1 (by decide) (i := 0) (by decide) (v := x0) rfl d20_16 <| iL C 9 d20_17 rfl <| cY C d20_19 (XT.ii_ne_t e0) 25 (by decide) <| nC C 0 1 d20_25 rfl rfl (#[aV a1, iV 9, iV 0, iV 4, iV 9, iV 1]) rfl <| gT C d20_28 7 (by decide) <| iL C 1 d20_7 rfl <| iN C 4 d20_9 rfl <| yicmp_n C d20_10 (XT.ii_ge_f (by decide)) <| aN C ((.ref a1)) d20_13 rfl rfl <| iL C 1 d20_14 rfl <| ybaloadB C A1 (by decide) (i := 1) (by decide) (v := x1) rfl d20_16 <| iL C 9 d20_17 rfl <| cY C d20_19 (XT.ii_ne_t e1) 25 (by decide) <| nC C 1 2 d20_25 rfl rfl (#[aV a1, iV 9, iV 0, iV 4, iV 9, iV 2]) rfl <| gT C d20_28 7 (by decide) <| iL C 2 d20_7 rfl <| iN C 4 d20_9 rfl <| yicmp_n C d20_10 (XT.ii_ge_f (by decide)) <| aN C ((.ref a1)) d20_13 rfl rfl <| iL C 2 d20_14 rfl <| ybaloadB C A1 (by decide) (i := 2) (by decide) (v := x2) rfl d20_16 <| iL C 9 d20_17 rfl <| cY C d20_19 (XT.ii_ne_t e2) 25 (by decide) <| nC C 2 3 d20_25 rfl rfl (#[aV a1, iV 9, iV 0, iV 4, iV 9, iV 3]) rfl <| gT C d20_28 7 (by decide) <| iL C 3 d20_7 rfl <| iN C 4 d20_9 rfl <| yicmp_n C d20_10 (XT.ii_ge_f (by decide)) <| aN C ((.ref a1)) d20_13 rfl rfl <| iL C 3 d20_14 rfl <| ybaloadB C A1 (by decide) (i := 3) (by decide) (v := x3) rfl d20_16 <| iL C 9 d20_17 rfl <| yicmp_n C d20_19 (XT.ii_ne_f e3) <| iL C 3 d20_22 rfl ?_
  refine g_ret C (eN hN) (v := (.int 3)) (ty := .int) rfl rfl (Or.inl ⟨rfl, Or.inl rfl, _, rfl⟩) d20_24 (by decide) (by decide) ?_
  exact ⟨rfl, rfl⟩
theorem rm_ioc_4_0_0 (hw : HW a0 Z) (a1 : Addr) (x0 x1 x2 x3 : Int32) (h0 : Heap) (Z0 : n0 ≤ h0.size) (A1 : Ary Z h0 a1 .byte [.int x0, .int x1, .int x2, .int x3]) (e0 : ¬ x0 = 9) (e1 : ¬ x1 = 9) (e2 : ¬ x2 = 9) (e3 : ¬ x3 = 9) :
    Met1 l Z ⟨"java/lang/StringLatin1", "indexOfChar", "([BIII)I"⟩ jdk_43_method_23_code 6 (some .int) ⟨0, 0, 0, 0⟩ n0 #[(.ref a1), (.int 9), (.int 0), (.int 4)] h0 (fun v h => v = some (.int (-1 : Int32)) ∧ h0 = h) := by
  refine met_of (plainFor_of_name pn_2) (L0 := #[.val (.ref a1), .val (.int 9), .val (.int 0), .val (.int 4), .unset, .unset]) (by first | (simp [argsToLocals, Value.category]; done) | rfl) ?_
  intro B C hN
  change Ctx B l _ _ "java/lang/StringLatin1" "indexOfChar" _ _ Z at C
  refine iN C 9 d20_0 rfl <| yi2b C d20_1 <| eS [(.int 9)] rfl <| iS C d20_2 (#[aV a1, iV 9, iV 0, iV 4, iV 9, uV]) rfl <| iN C 0 d20_4 rfl <| iS C d20_5 (#[aV a1, iV 9, iV 0, iV 4, iV 9, iV 0]) rfl <| iL C 0 d20_7 rfl <| iN C 4 d20_9 rfl <| yicmp_n C d20_10 (XT.ii_ge_f (by decide)) <| aN C ((.ref a1)) d20_13 rfl rfl <| iL C 0 d20_14 rfl <| ybaloadB C A1 (by decide) (i := 0) (by decide) (v := x0) rfl d20_16 <| iL C 9 d20_17 rfl <| cY C d20_19 (XT.ii_ne_t e0) 25 (by decide) <| nC C 0 1 d20_25 rfl rfl (#[aV a1, iV 9, iV 0, iV 4, iV 9, iV 1]) rfl <| gT C d20_28 7 (by decide) <| iL C 1 d20_7 rfl <| iN C 4 d20_9 rfl <| yicmp_n C d20_10 (XT.ii_ge_f (by decide)) <| aN C ((.ref a1)) d20_13 rfl rfl <| iL C 1 d20_14 rfl <| ybaloadB C A1 (by decide) (i := 1) (by decide) (v := x1) rfl d20_16 <| iL C 9 d20_17 rfl <| cY C d20_19 (XT.ii_ne_t e1) 25 (by decide) <| nC C 1 2 d20_25 rfl rfl (#[aV a1, iV 9, iV 0, iV 4, iV 9, iV 2]) rfl <| gT C d20_28 7 (by decide) <| iL C 2 d20_7 rfl <| iN C 4 d20_9 rfl <| yicmp_n C d20_10 (XT.ii_ge_f (by decide)) <| aN C ((.ref a1)) d20_13 rfl rfl <| iL C 2 d20_14 rfl <| ybaloadB C A1 (by decide) (i := 2) (by decide) (v := x2) rfl d20_16 <| iL C 9 d20_17 rfl <| cY C d20_19 (XT.ii_ne_t e2) 25 (by decide) <| nC C 2 3 d20_25 rfl rfl (#[aV a1, iV 9, iV 0, iV 4, iV 9, iV 3]) rfl <| gT C d20_28 7 (by decide) <| iL C 3 d20_7 rfl <| iN C 4 d20_9 rfl <| yicmp_n C d20_10 (XT.ii_ge_f (by decide)) <| aN C ((.ref a1)) d20_13 rfl rfl <| iL C 3 d20_14 rfl <| ybaloadB C A1 (by decide) (i := 3) (by decide) (v := x3) rfl d20_16 <| iL C 9 d20_17 rfl <| cY C d20_19 (XT.ii_ne_t e3) 25 (by decide) <| nC C 3 4 d20_25 rfl rfl (#[aV a1, iV 9, iV 0, iV 4, iV 9, iV 4]) rfl <| gT C d20_28 7 (by decide) <| iL C 4 d20_7 rfl <| iN C 4 d20_9 rfl <| cY C d20_10 (XT.ii_ge_t (by decide)) 31 (by decide) <| iC C ((-1 : Int32)) d20_31 rfl ?_
  refine g_ret C (eN hN) (v := (.int (-1 : Int32))) (ty := .int) rfl rfl (Or.inl ⟨rfl, Or.inl rfl, _, rfl⟩) d20_32 (by decide) (by decide) ?_
  exact ⟨rfl, rfl⟩
theorem rm_ioc_4_1_2 (hw : HW a0 Z) (a1 : Addr) (x0 x1 x2 x3 : Int32) (h0 : Heap) (Z0 : n0 ≤ h0.size) (A1 : Ary Z h0 a1 .byte [.int x0, .int x1, .int x2, .int x3]) (e1 : x1 = 9) :
    Met1 l Z ⟨"java/lang/StringLatin1", "indexOfChar", "([BIII)I"⟩ jdk_43_method_23_code 6 (some .int) ⟨0, 0, 0, 0⟩ n0 #[(.ref a1), (.int 9), (.int 1), (.int 4)] h0 (fun v h => v = some (.int 1) ∧ h0 = h) := by
  refine met_of (plainFor_of_name pn_2) (L0 := #[.val (.ref a1), .val (.int 9), .val (.int 1), .val (.int 4), .unset, .unset]) (by first | (simp [argsToLocals, Value.category]; done) | rfl) ?_
  intro B C hN
  change Ctx B l _ _ "java/lang/StringLatin1" "indexOfChar" _ _ Z at C
  refine iN C 9 d20_0 rfl <| yi2b C d20_1 <| eS [(.int 9)] rfl <| iS C d20_2 (#[aV a1, iV 9, iV 1, iV 4, iV 9, uV]) rfl <| iN C 1 d20_4 rfl <| iS C d20_5 (#[aV a1, iV 9, iV 1, iV 4, iV 9, iV 1]) rfl <| iL C 1 d20_7 rfl <| iN C 4 d20_9 rfl <| yicmp_n C d20_10 (XT.ii_ge_f (by decide)) <| aN C ((.ref a1)) d20_13 rfl rfl <| iL C 1 d20_14 rfl <| ybaloadB C A1 (by decide) (i := 1) (by decide) (v := x1) rfl d20_16 <| iL C 9 d20_17 rfl <| yicmp_n C d20_19 (XT.ii_ne_f e1) <| iL C 1 d20_22 rfl ?_
  refine g_ret C (eN hN) (v := (.int 1)) (ty := .int) rfl rfl (Or.inl ⟨rfl, Or.inl rfl, _, rfl⟩) d20_24 (by decide) (by decide) ?_
  exact ⟨rfl, rfl⟩
theorem rm_ioc_4_1_3 (hw : HW a0 Z) (a1 : Addr) (x0 x1 x2 x3 : Int32) (h0 : Heap) (Z0 : n0 ≤ h0.size) (A1 : Ary Z h0 a1 .byte [.int x0, .int x1, .int x2, .int x3]) (e1 : ¬ x1 = 9) (e2 : x2 = 9) :
    Met1 l Z ⟨"java/lang/StringLatin1", "indexOfChar", "([BIII)I"⟩ jdk_43_method_23_code 6 (some .int) ⟨0, 0, 0, 0⟩ n0 #[(.ref a1), (.int 9), (.int 1), (.int 4)] h0 (fun v h => v = some (.int 2) ∧ h0 = h) := by
  refine met_of (plainFor_of_name pn_2) (L0 := #[.val (.ref a1), .val (.int 9), .val (.int 1), .val (.int 4), .unset, .unset]) (by first | (simp [argsToLocals, Value.category]; done) | rfl) ?_
  intro B C hN
  change Ctx B l _ _ "java/lang/StringLatin1" "indexOfChar" _ _ Z at C
  refine iN C 9 d20_0 rfl <| yi2b C d20_1 <| eS [(.int 9)] rfl <| iS C d20_2 (#[aV a1, iV 9, iV 1, iV 4, iV 9, uV]) rfl <| iN C 1 d20_4 rfl <| iS C d20_5 (#[aV a1, iV 9, iV 1, iV 4, iV 9, iV 1]) rfl <| iL C 1 d20_7 rfl <| iN C 4 d20_9 rfl <| yicmp_n C d20_10 (XT.ii_ge_f (by decide)) <| aN C ((.ref a1)) d20_13 rfl rfl <| iL C 1 d20_14 rfl <| ybaloadB C A1 (by decide) (i := 1) (by decide) (v := x1) rfl d20_16 <| iL C 9 d20_17 rfl <| cY C d20_19 (XT.ii_ne_t e1) 25 (by decide) <| nC C 1 2 d20_25 rfl rfl (#[aV a1, iV 9, iV 1, iV 4, iV 9, iV 2]) rfl <| gT C d20_28 7 (by decide) <| iL C 2 d20_7 rfl <| iN C 4 d20_9 rfl <| yicmp_n C d20_10 (XT.ii_ge_f (by decide)) <| aN C ((.ref a1)) d20_13 rfl rfl <| iL C 2 d20_14 rfl <| ybaloadB C A1 (by decide) (i := 2) (by decide) (v := x2) rfl d20_16 <| iL C 9 d20_17 rfl <| yicmp_n C d20_19 (XT.ii_ne_f e2) <| iL C 2 d20_22 rfl ?_
  refine g_ret C (eN hN) (v := (.int 2)) (ty := .int) rfl rfl (Or.inl ⟨rfl, Or.inl rfl, _, rfl⟩) d20_24 (by decide) (by decide) ?_
  exact ⟨rfl, rfl⟩
theorem rm_ioc_4_1_4 (hw : HW a0 Z) (a1 : Addr) (x0 x1 x2 x3 : Int32) (h0 : Heap) (Z0 : n0 ≤ h0.size) (A1 : Ary Z h0 a1 .byte [.int x0, .int x1, .int x2, .int x3]) (e1 : ¬ x1 = 9) (e2 : ¬ x2 = 9) (e3 : x3 = 9) :
    Met1 l Z ⟨"java/lang/StringLatin1", "indexOfChar", "([BIII)I"⟩ jdk_43_method_23_code 6 (some .int) ⟨0, 0, 0, 0⟩ n0 #[(.ref a1), (.int 9), (.int 1), (.int 4)] h0 (fun v h => v = some (.int 3) ∧ h0 = h) := by
  refine met_of (plainFor_of_name pn_2) (L0 := #[.val (.ref a1), .val (.int 9), .val (.int 1), .val (.int 4), .unset, .unset]) (by first | (simp [argsToLocals, Value.category]; done) | rfl) ?_
  intro B C hN
  change Ctx B l _ _ "java/lang/StringLatin1" "indexOfChar" _ _ Z at C
  refine iN C 9 d20_0 rfl <| yi2b C d20_1 <| eS [(.int 9)] rfl <| iS C d20_2 (#[aV a1, iV 9, iV 1, iV 4, iV 9, uV]) rfl <| iN C 1 d20_4 rfl <| iS C d20_5 (#[aV a1, iV 9, iV 1, iV 4, iV 9, iV 1]) rfl <| iL C 1 d20_7 rfl <| iN C 4 d20_9 rfl <| yicmp_n C d20_10 (XT.ii_ge_f (by decide)) <| aN C ((.ref a1)) d20_13 rfl rfl <| iL C 1 d20_14 rfl <| ybaloadB C A1 (by decide) (i := 1) (by decide) (v := x1) rfl d20_16 <| iL C 9 d20_17 rfl <| cY C d20_19 (XT.ii_ne_t e1) 25 (by decide) <| nC C 1 2 d20_25 rfl rfl (#[aV a1, iV 9, iV 1, iV 4, iV 9, iV 2]) rfl <| gT C d20_28 7 (by decide) <| iL C 2 d20_7 rfl <| iN C 4 d20_9 rfl <| yicmp_n C d20_10 (XT.ii_ge_f (by decide)) <| aN C ((.ref a1)) d20_13 rfl rfl <| iL C 2 d20_14 rfl <| ybaloadB C A1 (by decide) (i := 2) (by decide) (v := x2) rfl d20_16 <| iL C 9 d20_17 rfl <| cY C d20_19 (XT.ii_ne_t e2) 25 (by decide) <| nC C 2 3 d20_25 rfl rfl (#[aV a1, iV 9, iV 1, iV 4, iV 9, iV 3]) rfl <| gT C d20_28 7 (by decide) <| iL C 3 d20_7 rfl <| iN C 4 d20_9 rfl <| yicmp_n C d20_10 (XT.ii_ge_f (by decide)) <| aN C ((.ref a1)) d20_13 rfl rfl <| iL C 3 d20_14 rfl <| ybaloadB C A1 (by decide) (i := 3) (by decide) (v := x3) rfl d20_16 <| iL C 9 d20_17 rfl <| yicmp_n C d20_19 (XT.ii_ne_f e3) <| iL C 3 d20_22 rfl ?_
  refine g_ret C (eN hN) (v := (.int 3)) (ty := .int) rfl rfl (Or.inl ⟨rfl, Or.inl rfl, _, rfl⟩) d20_24 (by decide) (by decide) ?_
  exact ⟨rfl, rfl⟩
theorem rm_ioc_4_1_0 (hw : HW a0 Z) (a1 : Addr) (x0 x1 x2 x3 : Int32) (h0 : Heap) (Z0 : n0 ≤ h0.size) (A1 : Ary Z h0 a1 .byte [.int x0, .int x1, .int x2, .int x3]) (e1 : ¬ x1 = 9) (e2 : ¬ x2 = 9) (e3 : ¬ x3 = 9) :
    Met1 l Z ⟨"java/lang/StringLatin1", "indexOfChar", "([BIII)I"⟩ jdk_43_method_23_code 6 (some .int) ⟨0, 0, 0, 0⟩ n0 #[(.ref a1), (.int 9), (.int 1), (.int 4)] h0 (fun v h => v = some (.int (-1 : Int32)) ∧ h0 = h) := by
  refine met_of (plainFor_of_name pn_2) (L0 := #[.val (.ref a1), .val (.int 9), .val (.int 1), .val (.int 4), .unset, .unset]) (by first | (simp [argsToLocals, Value.category]; done) | rfl) ?_
  intro B C hN
  change Ctx B l _ _ "java/lang/StringLatin1" "indexOfChar" _ _ Z at C
  refine iN C 9 d20_0 rfl <| yi2b C d20_1 <| eS [(.int 9)] rfl <| iS C d20_2 (#[aV a1, iV 9, iV 1, iV 4, iV 9, uV]) rfl <| iN C 1 d20_4 rfl <| iS C d20_5 (#[aV a1, iV 9, iV 1, iV 4, iV 9, iV 1]) rfl <| iL C 1 d20_7 rfl <| iN C 4 d20_9 rfl <| yicmp_n C d20_10 (XT.ii_ge_f (by decide)) <| aN C ((.ref a1)) d20_13 rfl rfl <| iL C 1 d20_14 rfl <| ybaloadB C A1 (by decide) (i := 1) (by decide) (v := x1) rfl d20_16 <| iL C 9 d20_17 rfl <| cY C d20_19 (XT.ii_ne_t e1) 25 (by decide) <| nC C 1 2 d20_25 rfl rfl (#[aV a1, iV 9, iV 1, iV 4, iV 9, iV 2]) rfl <| gT C d20_28 7 (by decide) <| iL C 2 d20_7 rfl <| iN C 4 d20_9 rfl <| yicmp_n C d20_10 (XT.ii_ge_f (by decide)) <| aN C ((.ref a1)) d20_13 rfl rfl <| iL C 2 d20_14 rfl <| ybaloadB C A1 (by decide) (i := 2) (by decide) (v := x2) rfl d20_16 <| iL C 9 d20_17 rfl <| cY C d20_19 (XT.ii_ne_t e2) 25 (by decide) <| nC C 2 3 d20_25 rfl rfl (#[aV a1, iV 9, iV 1, iV 4, iV 9, iV 3]) rfl <| gT C d20_28 7 (by decide) <| iL C 3 d20_7 rfl <| iN C 4 d20_9 rfl <| yicmp_n C d20_10 (XT.ii_ge_f (by decide)) <| aN C ((.ref a1)) d20_13 rfl rfl <| iL C 3 d20_14 rfl <| ybaloadB C A1 (by decide) (i := 3) (by decide) (v := x3) rfl d20_16 <| iL C 9 d20_17 rfl <| cY C d20_19 (XT.ii_ne_t e3) 25 (by decide) <| nC C 3 4 d20_25 rfl rfl (#[aV a1, iV 9, iV 1, iV 4, iV 9, iV 4]) rfl <| gT C d20_28 7 (by decide) <| iL C 4 d20_7 rfl <| iN C 4 d20_9 rfl <| cY C d20_10 (XT.ii_ge_t (by decide)) 31 (by decide) <| iC C ((-1 : Int32)) d20_31 rfl ?_
  refine g_ret C (eN hN) (v := (.int (-1 : Int32))) (ty := .int) rfl rfl (Or.inl ⟨rfl, Or.inl rfl, _, rfl⟩) d20_32 (by decide) (by decide) ?_
  exact ⟨rfl, rfl⟩
theorem rm_ioc_4_2_3 (hw : HW a0 Z) (a1 : Addr) (x0 x1 x2 x3 : Int32) (h0 : Heap) (Z0 : n0 ≤ h0.size) (A1 : Ary Z h0 a1 .byte [.int x0, .int x1, .int x2, .int x3]) (e2 : x2 = 9) :
    Met1 l Z ⟨"java/lang/StringLatin1", "indexOfChar", "([BIII)I"⟩ jdk_43_method_23_code 6 (some .int) ⟨0, 0, 0, 0⟩ n0 #[(.ref a1), (.int 9), (.int 2), (.int 4)] h0 (fun v h => v = some (.int 2) ∧ h0 = h) := by
  refine met_of (plainFor_of_name pn_2) (L0 := #[.val (.ref a1), .val (.int 9), .val (.int 2), .val (.int 4), .unset, .unset]) (by first | (simp [argsToLocals, Value.category]; done) | rfl) ?_
  intro B C hN
  change Ctx B l _ _ "java/lang/StringLatin1" "indexOfChar" _ _ Z at C
  refine iN C 9 d20_0 rfl <| yi2b C d20_1 <| eS [(.int 9)] rfl <| iS C d20_2 (#[aV a1, iV 9, iV 2, iV 4, iV 9, uV]) rfl <| iN C 2 d20_4 rfl <| iS C d20_5 (#[aV a1, iV 9, iV 2, iV 4, iV 9, iV 2]) rfl <| iL C 2 d20_7 rfl <| iN C 4 d20_9 rfl <| yicmp_n C d20_10 (XT.ii_ge_f (by decide)) <| aN C ((.ref a1)) d20_13 rfl rfl <| iL C 2 d20_14 rfl <| ybaloadB C A1 (by decide) (i := 2) (by decide) (v := x2) rfl d20_16 <| iL C 9 d20_17 rfl <| yicmp_n C d20_19 (XT.ii_ne_f e2) <| iL C 2 d20_22 rfl ?_
  refine g_ret C (eN hN) (v := (.int 2)) (ty := .int) rfl rfl (Or.inl ⟨rfl, Or.inl rfl, _, rfl⟩) d20_24 (by decide) (by decide) ?_
  exact ⟨rfl, rfl⟩
theorem rm_ioc_4_2_4 (hw : HW a0 Z) (a1 : Addr) (x0 x1 x2 x3 : Int32) (h0 : Heap) (Z0 : n0 ≤ h0.size) (A1 : Ary Z h0 a1 .byte [.int x0, .int x1, .int x2, .int x3]) (e2 : ¬ x2 = 9) (e3 : x3 = 9) :
    Met1 l Z ⟨"java/lang/StringLatin1", "indexOfChar", "([BIII)I"⟩ jdk_43_method_23_code 6 (some .int) ⟨0, 0, 0, 0⟩ n0 #[(.ref a1), (.int 9), (.int 2), (.int 4)] h0 (fun v h => v = some (.int 3) ∧ h0 = h) := by
  refine met_of (plainFor_of_name pn_2) (L0 := #[.val (.ref a1), .val (.int 9), .val (.int 2), .val (.int 4), .unset, .unset]) (by first | (simp [argsToLocals, Value.category]; done) | rfl) ?_
  intro B C hN
  change Ctx B l _ _ "java/lang/StringLatin1" "indexOfChar" _ _ Z at C
  refine iN C 9 d20_0 rfl <| yi2b C d20_1 <| eS [(.int 9)] rfl <| iS C d20_2 (#[aV a1, iV 9, iV 2, iV 4, iV 9, uV]) rfl <| iN C 2 d20_4 rfl <| iS C d20_5 (#[aV a1, iV 9, iV 2, iV 4, iV 9, iV 2]) rfl <| iL C 2 d20_7 rfl <| iN C 4 d20_9 rfl <| yicmp_n C d20_10 (XT.ii_ge_f (by decide)) <| aN C ((.ref a1)) d20_13 rfl rfl <| iL C 2 d20_14 rfl <| ybaloadB C A1 (by decide) (i := 2) (by decide) (v := x2) rfl d20_16 <| iL C 9 d20_17 rfl <| cY C d20_19 (XT.ii_ne_t e2) 25 (by decide) <| nC C 2 3 d20_25 rfl rfl (#[aV a1, iV 9, iV 2, iV 4, iV 9, iV 3]) rfl <| gT C d20_28 7 (by decide) <| iL C 3 d20_7 rfl <| iN C 4 d20_9 rfl <| yicmp_n C d20_10 (XT.ii_ge_f (by decide)) <| aN C ((.ref a1)) d20_13 rfl rfl <| iL C 3 d20_14 rfl <| ybaloadB C A1 (by decide) (i := 3) (by decide) (v := x3) rfl d20_16 <| iL C 9 d20_17 rfl <| yicmp_n C d20_19 (XT.ii_ne_f e3) <| iL C 3 d20_22 rfl ?_
  refine g_ret C (eN hN) (v := (.int 3)) (ty := .int) rfl rfl (Or.inl ⟨rfl, Or.inl rfl, _, rfl⟩) d20_24 (by decide) (by decide) ?_
  exact ⟨rfl, rfl⟩
theorem rm_ioc_4_2_0 (hw : HW a0 Z) (a1 : Addr) (x0 x1 x2 x3 : Int32) (h0 : Heap) (Z0 : n0 ≤ h0.size) (A1 : Ary Z h0 a1 .byte [.int x0, .int x1, .int x2, .int x3]) (e2 : ¬ x2 = 9) (e3 : ¬ x3 = 9) :
    Met1 l Z ⟨"java/lang/StringLatin1", "indexOfChar", "([BIII)I"⟩ jdk_43_method_23_code 6 (some .int) ⟨0, 0, 0, 0⟩ n0 #[(.ref a1), (.int 9), (.int 2), (.int 4)] h0 (fun v h => v = some (.int (-1 : Int32)) ∧ h0 = h) := by
  refine met_of (plainFor_of_name pn_2) (L0 := #[.val (.ref a1), .val (.int 9), .val (.int 2), .val (.int 4), .unset, .unset]) (by first | (simp [argsToLocals, Value.category]; done) | rfl) ?_
  intro B C hN
  change Ctx B l _ _ "java/lang/StringLatin1" "indexOfChar" _ _ Z at C
  refine iN C 9 d20_0 rfl <| yi2b C d20_1 <| eS [(.int 9)] rfl <| iS C d20_2 (#[aV a1, iV 9, iV 2, iV 4, iV 9, uV]) rfl <| iN C 2 d20_4 rfl <| iS C d20_5 (#[aV a1, iV 9, iV 2, iV 4, iV 9, iV 2]) rfl <| iL C 2 d20_7 rfl <| iN C 4 d20_9 rfl <| yicmp_n C d20_10 (XT.ii_ge_f (by decide)) <| aN C ((.ref a1)) d20_13 rfl rfl <| iL C 2 d20_14 rfl <| ybaloadB C A1 (by decide) (i := 2) (by decide) (v := x2) rfl d20_16 <| iL C 9 d20_17 rfl <| cY C d20_19 (XT.ii_ne_t e2) 25 (by decide) <| nC C 2 3 d20_25 rfl rfl (#[aV a1, iV 9, iV 2, iV 4, iV 9, iV 3]) rfl <| gT C d20_28 7 (by decide) <| iL C 3 d20_7 rfl <| iN C 4 d20_9 rfl <| yicmp_n C d20_10 (XT.ii_ge_f (by decide)) <| aN C ((.ref a1)) d20_13 rfl rfl <| iL C 3 d20_14 rfl <| ybaloadB C A1 (by decide) (i := 3) (by decide) (v := x3) rfl d20_16 <| iL C 9 d20_17 rfl <| cY C d20_19 (XT.ii_ne_t e3) 25 (by decide) <| nC C 3 4 d20_25 rfl rfl (#[aV a1, iV 9, iV 2, iV 4, iV 9, iV 4]) rfl <| gT C d20_28 7 (by decide) <| iL C 4 d20_7 rfl <| iN C 4 d20_9 rfl <| cY C d20_10 (XT.ii_ge_t (by decide)) 31 (by decide) <| iC C ((-1 : Int32)) d20_31 rfl ?_
  refine g_ret C (eN hN) (v := (.int (-1 : Int32))) (ty := .int) rfl rfl (Or.inl ⟨rfl, Or.inl rfl, _, rfl⟩) d20_32 (by decide) (by decide) ?_
  exact ⟨rfl, rfl⟩
theorem rm_ioc_4_3_4 (hw : HW a0 Z) (a1 : Addr) (x0 x1 x2 x3 : Int32) (h0 : Heap) (Z0 : n0 ≤ h0.size) (A1 : Ary Z h0 a1 .byte [.int x0, .int x1, .int x2, .int x3]) (e3 : x3 = 9) :
    Met1 l Z ⟨"java/lang/StringLatin1", "indexOfChar", "([BIII)I"⟩ jdk_43_method_23_code 6 (some .int) ⟨0, 0, 0, 0⟩ n0 #[(.ref a1), (.int 9), (.int 3), (.int 4)] h0 (fun v h => v = some (.int 3) ∧ h0 = h) := by
  refine met_of (plainFor_of_name pn_2) (L0 := #[.val (.ref a1), .val (.int 9), .val (.int 3), .val (.int 4), .unset, .unset]) (by first | (simp [argsToLocals, Value.category]; done) | rfl) ?_
  intro B C hN
  change Ctx B l _ _ "java/lang/StringLatin1" "indexOfChar" _ _ Z at C
  refine iN C 9 d20_0 rfl <| yi2b C d20_1 <| eS [(.int 9)] rfl <| iS C d20_2 (#[aV a1, iV 9, iV 3, iV 4, iV 9, uV]) rfl <| iN C 3 d20_4 rfl <| iS C d20_5 (#[aV a1, iV 9, iV 3, iV 4, iV 9, iV 3]) rfl <| iL C 3 d20_7 rfl <| iN C 4 d20_9 rfl <| yicmp_n C d20_10 (XT.ii_ge_f (by decide)) <| aN C ((.ref a1)) d20_13 rfl rfl <| iL C 3 d20_14 rfl <| ybaloadB C A1 (by decide) (i := 3) (by decide) (v := x3) rfl d20_16 <| iL C 9 d20_17 rfl <| yicmp_n C d20_19 (XT.ii_ne_f e3) <| iL C 3 d20_22 rfl ?_
  refine g_ret C (eN hN) (v := (.int 3)) (ty := .int) rfl rfl (Or.inl ⟨rfl, Or.inl rfl, _, rfl⟩) d20_24 (by decide) (by decide) ?_
  exact ⟨rfl, rfl⟩
theorem rm_ioc_4_3_0 (hw : HW a0 Z) (a1 : Addr) (x0 x1 x2 x3 : Int32) (h0 : Heap) (Z0 : n0 ≤ h0.size) (A1 : Ary Z h0 a1 .byte [.int x0, .int x1, .int x2, .int x3]) (e3 : ¬ x3 = 9) :
    Met1 l Z ⟨"java/lang/StringLatin1", "indexOfChar", "([BIII)I"⟩ jdk_43_method_23_code 6 (some .int) ⟨0, 0, 0, 0⟩ n0 #[(.ref a1), (.int 9), (.int 3), (.int 4)] h0 (fun v h => v = some (.int (-1 : Int32)) ∧ h0 = h) := by
  refine met_of (plainFor_of_name pn_2) (L0 := #[.val (.ref a1), .val (.int 9), .val (.int 3), .val (.int 4), .unset, .unset]) (by first | (simp [argsToLocals, Value.category]; done) | rfl) ?_
  intro B C hN
  change Ctx B l _ _ "java/lang/StringLatin1" "indexOfChar" _ _ Z at C
  refine iN C 9 d20_0 rfl <| yi2b C d20_1 <| eS [(.int 9)] rfl <| iS C d20_2 (#[aV a1, iV 9, iV 3, iV 4, iV 9, uV]) rfl <| iN C 3 d20_4 rfl <| iS C d20_5 (#[aV a1, iV 9, iV 3, iV 4, iV 9, iV 3]) rfl <| iL C 3 d20_7 rfl <| iN C 4 d20_9 rfl <| yicmp_n C d20_10 (XT.ii_ge_f (by decide)) <| aN C ((.ref a1)) d20_13 rfl rfl <| iL C 3 d20_14 rfl <| ybaloadB C A1 (by decide) (i := 3) (by decide) (v := x3) rfl d20_16 <| iL C 9 d20_17 rfl <| cY C d20_19 (XT.ii_ne_t e3) 25 (by decide) <| nC C 3 4 d20_25 rfl rfl (#[aV a1, iV 9, iV 3, iV 4, iV 9, iV 4]) rfl <| gT C d20_28 7 (by decide) <| iL C 4 d20_7 rfl <| iN C 4 d20_9 rfl <| cY C d20_10 (XT.ii_ge_t (by decide)) 31 (by decide) <| iC C ((-1 : Int32)) d20_31 rfl ?_
  refine g_ret C (eN hN) (v := (.int (-1 : Int32))) (ty := .int) rfl rfl (Or.inl ⟨rfl, Or.inl rfl, _, rfl⟩) d20_32 (by decide) (by decide) ?_
  exact ⟨rfl, rfl⟩
theorem rm_ioc_5_0_1 (hw : HW a0 Z) (a1 : Addr) (x0 x1 x2 x3 x4 : Int32) (h0 : Heap) (Z0 : n0 ≤ h0.size) (A1 : Ary Z h0 a1 .byte [.int x0, .int x1, .int x2, .int x3, .int x4]) (e0 : x0 = 9) :
    Met1 l Z ⟨"java/lang/StringLatin1", "indexOfChar", "([BIII)I"⟩ jdk_43_method_23_code 6 (some .int) ⟨0, 0, 0, 0⟩ n0 #[(.ref a1), (.int 9), (.int 0), (.int 5)] h0 (fun v h => v = some (.int 0) ∧ h0 = h) := by
  refine met_of (plainFor_of_name pn_2) (L0 := #[.val (.ref a1), .val (.int 9), .val (.int 0), .val (.int 5), .unset, .unset]) (by first | (simp [argsToLocals, Value.category]; done) | rfl) ?_
  intro B C hN
  change Ctx B l _ _ "java/lang/StringLatin1" "indexOfChar" _ _ Z at C
  refine iN C 9 d20_0 rfl <| yi2b C d20_1 <| eS [(.int 9)] rfl <| iS C d20_2 (#[aV a1, iV 9, iV 0, iV 5, iV 9, uV]) rfl <| iN C 0 d20_4 rfl <| iS C d20_5 (#[aV a1, iV 9, iV 0, iV 5, iV 9, iV 0]) rfl <| iL C 0 d20_7 rfl <| iN C 5 d20_9 rfl <| yicmp_n C d20_10 (XT.ii_ge_f (by decide)) <| aN C ((.ref a1)) d20_13 rfl rfl <| iL C 0 d20_14 rfl <| ybaloadB C A1 (by decide) (i := 0) (by decide) (v := x0) rfl d20_16 <| iL C 9 d20_17 rfl <| yicmp_n C d20_19 (XT.ii_ne_f e0) <| iL C 0 d20_22 rfl ?_
  refine g_ret C (eN hN) (v := (.int 0)) (ty := .int) rfl rfl (Or.inl ⟨rfl, Or.inl rfl, _, rfl⟩) d20_24 (by decide) (by decide) ?_
  exact ⟨rfl, rfl⟩
theorem rm_ioc_5_0_2 (hw : HW a0 Z) (a1 : Addr) (x0 x1 x2 x3 x4 : Int32) (h0 : Heap) (Z0 : n0 ≤ h0.size) (A1 : Ary Z h0 a1 .byte [.int x0, .int x1, .int x2, .int x3, .int x4]) (e0 : ¬ x0 = 9) (e1 : x1 = 9) :
    Met1 l Z ⟨"java/lang/StringLatin1", "indexOfChar", "([BIII)I"⟩ jdk_43_method_23_code 6 (some .int) ⟨0, 0, 0, 0⟩ n0 #[(.ref a1), (.int 9), (.int 0), (.int 5)] h0 (fun v h => v = some (.int 1) ∧ h0 = h) := by
  refine met_of (plainFor_of_name pn_2) (L0 := #[.val (.ref a1), .val (.int 9), .val (.int 0), .val (.int 5), .unset, .unset]) (by first | (simp [argsToLocals, Value.category]; done) | rfl) ?_
  intro B C hN
  change Ctx B l _ _ "java/lang/StringLatin1" "indexOfChar" _ _ Z at C
  refine iN C 9 d20_0 rfl <| yi2b C d20_1 <| eS [(.int 9)] rfl <| iS C d20_2 (#[aV a1, iV 9, iV 0, iV 5, iV 9, uV]) rfl <| iN C 0 d20_4 rfl <| iS C d20_5 (#[aV a1, iV 9, iV 0, iV 5, iV 9, iV 0]) rfl <| iL C 0 d20_7 rfl <| iN C 5 d20_9 rfl <| yicmp_n C d20_10 (XT.ii_ge_f (by decide)) <| aN C ((.ref a1)) d20_13 rfl rfl <| iL C 0 d20_14 rfl <| ybaloadB C A1 (by decide) (i := 0) (by decide) (v := x0) rfl d20_16 <| iL C 9 d20_17 rfl <| cY C d20_19 (XT.ii_ne_t e0) 25 (by decide) <| nC C 0 1 d20_25 rfl rfl (#[aV a1, iV 9, iV 0, iV 5, iV 9, iV 1]) rfl <| gT C d20_28 7 (by decide) <| iL C 1 d20_7 rfl <| iN C 5 d20_9 rfl <| yicmp_n C d20_10 (XT.ii_ge_f (by decide)) <| aN C ((.ref a1)) d20_13 rfl rfl <| iL C 1 d20_14 rfl <| ybaloadB C A1 (by decide) (i := 1) (by decide) (v := x1) rfl d20_16 <| iL C 9 d20_17 rfl <| yicmp_n C d20_19 (XT.ii_ne_f e1) <| iL C 1 d20_22 rfl ?_
  refine g_ret C (eN hN) (v := (.int 1)) (ty := .int) rfl rfl (Or.inl ⟨rfl, Or.inl rfl, _, rfl⟩) d20_24 (by decide) (by decide) ?_
  exact ⟨rfl, rfl⟩
theorem rm_ioc_5_0_3 (hw : HW a0 Z) (a1 : Addr) (x0 x1 x2 x3 x4 : Int32) (h0 : Heap) (Z0 : n0 ≤ h0.size) (A1 : Ary Z h0 a1 .byte [.int x0, .int x1, .int x2, .int x3, .int x4]) (e0 : ¬ x0 = 9) (e1 : ¬ x1 = 9) (e2 : x2 = 9) :
    Met1 l Z ⟨"java/lang/StringLatin1", "indexOfChar", "([BIII)I"⟩ jdk_43_method_23_code 6 (some .int) ⟨0, 0, 0, 0⟩ n0 #[(.ref a1), (.int 9), (.int 0), (.int 5)] h0 (fun v h => v = some (.int 2) ∧ h0 = h) := by
  refine met_of (plainFor_of_name pn_2) (L0 := #[.val (.ref a1), .val (.int 9), .val (.int 0), .val (.int 5), .unset, .unset]) (by first | (simp [argsToLocals, Value.category]; done) | rfl) ?_
  intro B C hN
  change Ctx B l _ _ "java/lang/StringLatin1" "indexOfChar" _ _ Z at C
  refine iN C 9 d20_0 rfl <| yi2b C d20_1 <| eS [(.int 9)] rfl <| iS C d20_2 (#[aV a1, iV 9, iV 0, iV 5, iV 9, uV]) rfl <| iN C 0 d20_4 rfl <| iS C d20_5 (#[aV a1, iV 9, iV 0, iV 5, iV 9, iV 0]) rfl <| iL C 0 d20_7 rfl <| iN C 5 d20_9 rfl <| yicmp_n C d20_10 (XT.ii_ge_f (by decide)) <| aN C ((.ref a1)) d20_13 rfl rfl <| iL C 0 d20_14 rfl <| ybaloadB C A1 (by decide) (i := 0) (by decide) (v := x0) rfl d20_16 <| iL C 9 d20_17 rfl <| cY C d20_19 (XT.ii_ne_t e0) 25 (by decide) <| nC C 0 1 d20_25 rfl rfl (#[aV a1, iV 9, iV 0, iV 5, iV 9, iV 1]) rfl <| gT C d20_28 7 (by decide) <| iL C 1 d20_7 rfl <| iN C 5 d20_9 rfl <| yicmp_n C d20_10 (XT.ii_ge_f (by decide)) <| aN C ((.ref a1)) d20_13 rfl rfl <| iL C 1 d20_14 rfl <| ybaloadB C A1 (by decide) (i := 1) (by decide) (v := x1) rfl d20_16 <| iL C 9 d20_17 rfl <| cY C d20_19 (XT.ii_ne_t e1) 25 (by decide) <| nC C 1 2 d20_25 rfl rfl (#[aV a1, iV 9, iV 0, iV 5, iV 9, iV 2]) rfl <| gT C d20_28 7 (by decide) <| iL C 2 d20_7 rfl <| iN C 5 d20_9 rfl <| yicmp_n C d20_10 (XT.ii_ge_f (by decide)) <| aN C ((.ref a1)) d20_13 rfl rfl <| iL C 2 d20_14 rfl <| ybaloadB C A1 (by decide) (i := 2) (by decide) (v := x2) rfl d20_16 <| iL C 9 d20_17 rfl <| yicmp_n C d20_19 (XT.ii_ne_f e2) <| iL C 2 d20_22 rfl ?_
  refine g_ret C (eN hN) (v := (.int 2)) (ty := .int) rfl rfl (Or.inl ⟨rfl, Or.inl rfl, _, rfl⟩) d20_24 (by decide) (by decide) ?_
  exact ⟨rfl, rfl⟩
theorem rm_ioc_5_0_4 (hw : HW a0 Z) (a1 : Addr) (x0 x1 x2 x3 x4 : Int32) (h0 : Heap) (Z0 : n0 ≤ h0.size) (A1 : Ary Z h0 a1 .byte [.int x0, .int x1, .int x2, .int x3, .int x4]) (e0 : ¬ x0 = 9) (e1 : ¬ x1 = 9) (e2 : ¬ x2 = 9) (e3 : x3 = 9) :
    Met1 l Z ⟨"java/lang/StringLatin1", "indexOfChar", "([BIII)I"⟩ jdk_43_method_23_code 6 (some .int) ⟨0, 0, 0, 0⟩ n0 #[(.ref a1), (.int 9), (.int 0), (.int 5)] h0 (fun v h => v = some (.int 3) ∧ h0 = h) := by
  refine met_of (plainFor_of_name pn_2) (L0 := #[.val (.ref a1), .val (.int 9), .val (.int 0), .val (.int 5), .unset, .unset]) (by first | (simp [argsToLocals, Value.category]; done) | rfl) ?_
  intro B C hN
  change Ctx B l _ _ "java/lang/StringLatin1" "indexOfChar" _ _ Z at C
  refine iN C 9 d20_0 rfl <| yi2b C d20_1 <| eS [(.int 9)] rfl <| iS C d20_2 (#[aV a1, iV 9, iV 0, iV 5, iV 9, uV]) rfl <| iN C 0 d20_4 rfl <| iS C d20_5 (#[aV a1, iV 9, iV 0, iV 5, iV 9, iV 0]) rfl <| iL C 0 d20_7 rfl <| iN C 5 d20_9 rfl <| yicmp_n C d20_10 (XT.ii_ge_f (by decide)) <| aN C ((.ref a1)) d20_13 rfl rfl <| iL C 0 d20_14 rfl <| ybaloadB C A1 (by decide) (i := 0) (by decide) (v := x0) rfl d20_16 <| iL C 9 d20_17 rfl <| cY C d20_19 (XT.ii_ne_t e0) 25 (by decide) <| nC C 0 1 d20_25 rfl rfl (#[aV a1, iV 9, iV 0, iV 5, iV 9, iV 1]) rfl <| gT C d20_28 7 (by decide) <| iL C 1 d20_7 rfl <| iN C 5 d20_9 rfl <| yicmp_n C d20_10 (XT.ii_ge_f (by decide)) <| aN C ((.ref a1)) d20_13 rfl rfl <| iL C 1 d20_14 rfl <| ybaloadB C A1 (by decide) (i := 1) (by decide) (v := x1) rfl d20_16 <| iL C 9 d20_17 rfl <| cY C d20_19 (XT.ii_ne_t e1) 25 (by decide) <| nC C 1 2 d20_25 rfl rfl (#[aV a1, iV 9, iV 0, iV 5, iV 9, iV 2]) rfl <| gT C d20_28 7 (by decide) <| iL C 2 d20_7 rfl <| iN C 5 d20_9 rfl <| yicmp_n C d20_10 (XT.ii_ge_f (by decide)) <| aN C ((.ref a1)) d20_13 rfl rfl <| iL C 2 d20_14 rfl <| ybaloadB C A1 (by decide) (i := 2) (by decide) (v := x2) rfl d20_16 <| iL C 9 d20_17 rfl <| cY C d20_19 (XT.ii_ne_t e2) 25 (by decide) <| nC C 2 3 d20_25 rfl rfl (#[aV a1, iV 9, iV 0, iV 5, iV 9, iV 3]) rfl <| gT C d20_28 7 (by decide) <| iL C 3 d20_7 rfl <| iN C 5 d20_9 rfl <| yicmp_n C d20_10 (XT.ii_ge_f (by decide)) <| aN C ((.ref a1)) d20_13 rfl rfl <| iL C 3 d20_14 rfl <| ybaloadB C A1 (by decide) (i := 3) (by decide) (v := x3) rfl d20_16 <| iL C 9 d20_17 rfl <| yicmp_n C d20_19 (XT.ii_ne_f e3) <| iL C 3 d20_22 rfl ?_
  refine g_ret C (eN hN) (v := (.int 3)) (ty := .int) rfl rfl (Or.inl ⟨rfl, Or.inl rfl, _, rfl⟩) d20_24 (by decide) (by decide) ?_
  exact ⟨rfl, rfl⟩
theorem rm_ioc_5_0_5 (hw : HW a0 Z) (a1 : Addr) (x0 x1 x2 x3 x4 : Int32) (h0 : Heap) (Z0 : n0 ≤ h0.size) (A1 : Ary Z h0 a1 .byte [.int x0, .int x1, .int x2, .int x3, .int x4]) (e0 : ¬ x0 = 9) (e1 : ¬ x1 = 9) (e2 : ¬ x2 = 9) (e3 : ¬ x3 = 9) (e4 : x4 = 9) :
    Met1 l Z ⟨"java/lang/StringLatin1", "indexOfChar", "([BIII)I"⟩ jdk_43_method_23_code 6 (some .int) ⟨0, 0, 0, 0⟩ n0 #[(.ref a1), (.int 9), (.int 0), (.int 5)] h0 (fun v h => v = some (.int 4) ∧ h0 = h) := by
  refine met_of (plainFor_of_name pn_2) (L0 := #[.val (.ref a1), .val (.int 9), .val (.int 0), .val (.int 5), .unset, .unset]) (by first | (simp [argsToLocals, Value.category]; done) | rfl) ?_
  intro B C hN
  change Ctx B l _ _ "java/lang/StringLatin1" "indexOfChar" _ _ Z at C
  refine iN C 9 d20_0 rfl <| yi2b C d20_1 <| eS [(.int 9)] rfl <| iS C d20_2 (#[aV a1, iV 9, iV 0, iV 5, iV 9, uV]) rfl <| iN C 0 d20_4 rfl <| iS C d20_5 (#[aV a1, iV 9, iV 0, iV 5, iV 9, iV 0]) rfl <| iL C 0 d20_7 rfl <| iN C 5 d20_9 rfl <| yicmp_n C d20_10 (XT.ii_ge_f (by decide)) <| aN C ((.ref a1)) d20_13 rfl rfl <| iL C 0 d20_14 rfl <| ybaloadB C A1 (by decide) (i := 0) (by decide) (v := x0) rfl d20_16 <| iL C 9 d20_17 rfl <| cY C d20_19 (XT.ii_ne_t e0) 25 (by decide) <| nC C 0 1 d20_25 rfl rfl (#[aV a1, iV 9, iV 0, iV 5, iV 9, iV 1]) rfl <| gT C d20_28 7 (by decide) <| iL C 1 d20_7 rfl <| iN C 5 d20_9 rfl <| yicmp_n C d20_10 (XT.ii_ge_f (by decide)) <| aN C ((.ref a1)) d20_13 rfl rfl <| iL C 1 d20_14 rfl <| ybaloadB C A1 (by decide) (i := 1) (by decide) (v := x1) rfl d20_16 <| iL C 9 d20_17 rfl <| cY C d20_19 (XT.ii_ne_t e1) 25 (by decide) <| nC C 1 2 d20_25 rfl rfl (#[aV a1, iV 9, iV 0, iV 5, iV 9, iV 2]) rfl <| gT C d20_28 7 (by decide) <| iL C 2 d20_7 rfl <| iN C 5 d20_9 rfl <| yicmp_n C d20_10 (XT.ii_ge_f (by decide)) <| aN C ((.ref a1)) d20_13 rfl rfl <| iL C 2 d20_14 rfl <| ybaloadB C A1 (by decide) (i := 2) (by decide) (v := x2) rfl d20_16 <| iL C 9 d20_17 rfl <| cY C d20_19 (XT.ii_ne_t e2) 25 (by decide) <| nC C 2 3 d20_25 rfl rfl (#[aV a1, iV 9, iV 0, iV 5, iV 9, iV 3]) rfl <| gT C d20_28 7 (by decide) <| iL C 3 d20_7 rfl <| iN C 5 d20_9 rfl <| yicmp_n C d20_10 (XT.ii_ge_f (by decide)) <| aN C ((.ref a1)) d20_13 rfl rfl <| iL C 3 d20_14 rfl <| ybaloadB C A1 (by decide) (i := 3) (by decide) (v := x3) rfl d20_16 <| iL C 9 d20_17 rfl <| cY C d20_19 (XT.ii_ne_t e3) 25 (by decide) <| nC C 3 4 d20_25 rfl rfl (#[aV a1, iV 9, iV 0, iV 5, iV 9, iV 4]) rfl <| gT C d20_28 7 (by decide) <| iL C 4 d20_7 rfl <| iN C 5 d20_9 rfl <| yicmp_n C d20_10 (XT.ii_ge_f (by decide)) <| aN C ((.ref a1)) d20_13 rfl rfl <| iL C 4 d20_14 rfl <| ybaloadB C A1 (by decide) (i := 4) (by decide) (v := x4) rfl d20_16 <| iL C 9 d20_17 rfl <| yicmp_n C d20_19 (XT.ii_ne_f e4) <| iL C 4 d20_22 rfl ?_
  refine g_ret C (eN hN) (v := (.int 4)) (ty := .int) rfl rfl (Or.inl ⟨rfl, Or.inl rfl, _, rfl⟩) d20_24 (by decide) (by decide) ?_
  exact ⟨rfl, rfl⟩
theorem rm_ioc_5_0_0 (hw : HW a0 Z) (a1 : Addr) (x0 x1 x2 x3 x4 : Int32) (h0 : Heap) (Z0 : n0 ≤ h0.size) (A1 : Ary Z h0 a1 .byte [.int x0, .int x1, .int x2, .int x3, .int x4]) (e0 : ¬ x0 = 9) (e1 : ¬ x1 = 9) (e2 : ¬ x2 = 9) (e3 : ¬ x3 = 9) (e4 : ¬ x4 = 9) :
    Met1 l Z ⟨"java/lang/StringLatin1", "indexOfChar", "([BIII)I"⟩ jdk_43_method_23_code 6 (some .int) ⟨0, 0, 0, 0⟩ n0 #[(.ref a1), (.int 9), (.int 0), (.int 5)] h0 (fun v h => v = some (.int (-1 : Int32)) ∧ h0 = h) := by
  refine met_of (plainFor_of_name pn_2) (L0 := #[.val (.ref a1), .val (.int 9), .val (.int 0), .val (.int 5), .unset, .unset]) (by first | (simp [argsToLocals, Value.category]; done) | rfl) ?_
  intro B C hN
  change Ctx B l _ _ "java/lang/StringLatin1" "indexOfChar" _ _ Z at C
  refine iN C 9 d20_0 rfl <| yi2b C d20_1 <| eS [(.int 9)] rfl <| iS C d20_2 (#[aV a1, iV 9, iV 0, iV 5, iV 9, uV]) rfl <| iN C 0 d20_4 rfl <| iS C d20_5 (#[aV a1, iV 9, iV 0, iV 5, iV 9, iV 0]) rfl <| iL C 0 d20_7 rfl <| iN C 5 d20_9 rfl <| yicmp_n C d20_10 (XT.ii_ge_f (by decide)) <| aN C ((.ref a1)) d20_13 rfl rfl <| iL C 0 d20_14 rfl <| ybaloadB C A1 (by decide) (i := 0) (by decide) (v := x0) rfl d20_16 <| iL C 9 d20_17 rfl <| cY C d20_19 (XT.ii_ne_t e0) 25 (by decide) <| nC C 0 1 d20_25 rfl rfl (#[aV a1, iV 9, iV 0, iV 5, iV 9, iV 1]) rfl <| gT C d20_28 7 (by decide) <| iL C 1 d20_7 rfl <| iN C 5 d20_9 rfl <| yicmp_n C d20_10 (XT.ii_ge_f (by decide)) <| aN C ((.ref a1)) d20_13 rfl rfl <| iL C 1 d20_14 rfl <| ybaloadB C A1 (by decide) (i := 1) (by decide) (v := x1) rfl d20_16 <| iL C 9 d20_17 rfl <| cY C d20_19 (XT.ii_ne_t e1) 25 (by decide) <| nC C 1 2 d20_25 rfl rfl (#[aV a1, iV 9, iV 0, iV 5, iV 9, iV 2]) rfl <| gT C d20_28 7 (by decide) <| iL C 2 d20_7 rfl <| iN C 5 d20_9 rfl <| yicmp_n C d20_10 (XT.ii_ge_f (by decide)) <| aN C ((.ref a1)) d20_13 rfl rfl <| iL C 2 d20_14 rfl <| ybaloadB C A1 (by decide) (i := 2) (by decide) (v := x2) rfl d20_16 <| iL C 9 d20_17 rfl <| cY C d20_19 (XT.ii_ne_t e2) 25 (by decide) <| nC C 2 3 d20_25 rfl rfl (#[aV a1, iV 9, iV 0, iV 5, iV 9, iV 3]) rfl <| gT C d20_28 7 (by decide) <| iL C 3 d20_7 rfl <| iN C 5 d20_9 rfl <| yicmp_n C d20_10 (XT.ii_ge_f (by decide)) <| aN C ((.ref a1)) d20_13 rfl rfl <| iL C 3 d20_14 rfl <| ybaloadB C A1 (by decide) (i := 3) (by decide) (v := x3) rfl d20_16 <| iL C 9 d20_17 rfl <| cY C d20_19 (XT.ii_ne_t e3) 25 (by decide) <| nC C 3 4 d20_25 rfl rfl (#[aV a1, iV 9, iV 0, iV 5, iV 9, iV 4]) rfl <| gT C d20_28 7 (by decide) <| iL C 4 d20_7 rfl <| iN C 5 d20_9 rfl <| yicmp_n C d20_10 (XT.ii_ge_f (by decide)) <| aN C ((.ref a1)) d20_13 rfl rfl <| iL C 4 d20_14 rfl <| ybaloadB C A1 (by decide) (i := 4) (by decide) (v := x4) rfl d20_16 <| iL C 9 d20_17 rfl <| cY C d20_19 (XT.ii_ne_t e4) 25 (by decide) <| nC C 4 5 d20_25 rfl rfl (#[aV a1, iV 9, iV 0, iV 5, iV 9, iV 5]) rfl <| gT C d20_28 7 (by decide) <| iL C 5 d20_7 rfl <| iN C 5 d20_9 rfl <| cY C d20_10 (XT.ii_ge_t (by decide)) 31 (by decide) <| iC C ((-1 : Int32)) d20_31 rfl ?_
  refine g_ret C (eN hN) (v := (.int (-1 : Int32))) (ty := .int) rfl rfl (Or.inl ⟨rfl, Or.inl rfl, _, rfl⟩) d20_32 (by decide) (by decide) ?_
  exact ⟨rfl, rfl⟩
theorem rm_ioc_5_1_2 (hw : HW a0 Z) (a1 : Addr) (x0 x1 x2 x3 x4 : Int32) (h0 : Heap) (Z0 : n0 ≤ h0.size) (A1 : Ary Z h0 a1 .byte [.int x0, .int x1, .int x2, .int x3, .int x4]) (e1 : x1 = 9) :
    Met1 l Z ⟨"java/lang/StringLatin1", "indexOfChar", "([BIII)I"⟩ jdk_43_method_23_code 6 (some .int) ⟨0, 0, 0, 0⟩ n0 #[(.ref a1), (.int 9), (.int 1), (.int 5)] h0 (fun v h => v = some (.int 1) ∧ h0 = h) := by
  refine met_of (plainFor_of_name pn_2) (L0 := #[.val (.ref a1), .val (.int 9), .val (.int 1), .val (.int 5), .unset, .unset]) (by first | (simp [argsToLocals, Value.category]; done) | rfl) ?_
  intro B C hN
  change Ctx B l _ _ "java/lang/StringLatin1" "indexOfChar" _ _ Z at C
  refine iN C 9 d20_0 rfl <| yi2b C d20_1 <| eS [(.int 9)] rfl <| iS C d20_2 (#[aV a1, iV 9, iV 1, iV 5, iV 9, uV]) rfl <| iN C 1 d20_4 rfl <| iS C d20_5 (#[aV a1, iV 9, iV 1, iV 5, iV 9, iV 1]) rfl <| iL C 1 d20_7 rfl <| iN C 5 d20_9 rfl <| yicmp_n C d20_10 (XT.ii_ge_f (by decide)) <| aN C ((.ref a1)) d20_13 rfl rfl <| iL C 1 d20_14 rfl <| ybaloadB C A1 (by decide) (i := 1) (by decide) (v := x1) rfl d20_16 <| iL C 9 d20_17 rfl <| yicmp_n C d20_19 (XT.ii_ne_f e1) <| iL C 1 d20_22 rfl ?_
  refine g_ret C (eN hN) (v := (.int 1)) (ty := .int) rfl rfl (Or.inl ⟨rfl, Or.inl rfl, _, rfl⟩) d20_24 (by decide) (by decide) ?_
  exact ⟨rfl, rfl⟩
theorem rm_ioc_5_1_3 (hw : HW a0 Z) (a1 : Addr) (x0 x1 x2 x3 x4 : Int32) (h0 : Heap) (Z0 : n0 ≤ h0.size) (A1 : Ary Z h0 a1 .byte [.int x0, .int x1, .int x2, .int x3, .int x4]) (e1 : ¬ x1 = 9) (e2 : x2 = 9) :
    Met1 l Z ⟨"java/lang/StringLatin1", "indexOfChar", "([BIII)I"⟩ jdk_43_method_23_code 6 (some .int) ⟨0, 0, 0, 0⟩ n0 #[(.ref a1), (.int 9), (.int 1), (.int 5)] h0 (fun v h => v = some (.int 2) ∧ h0 = h) := by
  refine met_of (plainFor_of_name pn_2) (L0 := #[.val (.ref a1), .val (.int 9), .val (.int 1), .val (.int 5), .unset, .unset]) (by first | (simp [argsToLocals, Value.category]; done) | rfl) ?_
  intro B C hN
  change Ctx B l _ _ "java/lang/StringLatin1" "indexOfChar" _ _ Z at C
  refine iN C 9 d20_0 rfl <| yi2b C d20_1 <| eS [(.int 9)] rfl <| iS C d20_2 (#[aV a1, iV 9, iV 1, iV 5, iV 9, uV]) rfl <| iN C 1 d20_4 rfl <| iS C d20_5 (#[aV a1, iV 9, iV 1, iV 5, iV 9, iV 1]) rfl <| iL C 1 d20_7 rfl <| iN C 5 d20_9 rfl <| yicmp_n C d20_10 (XT.ii_ge_f (by decide)) <| aN C ((.ref a1)) d20_13 rfl rfl <| iL C 1 d20_14 rfl <| ybaloadB C A1 (by decide) (i := 1) (by decide) (v := x1) rfl d20_16 <| iL C 9 d20_17 rfl <| cY C d20_19 (XT.ii_ne_t e1) 25 (by decide) <| nC C 1 2 d20_25 rfl rfl (#[aV a1, iV 9, iV 1, iV 5, iV 9, iV 2]) rfl <| gT C d20_28 7 (by decide) <| iL C 2 d20_7 rfl <| iN C 5 d20_9 rfl <| yicmp_n C d20_10 (XT.ii_ge_f (by decide)) <| aN C ((.ref a1)) d20_13 rfl rfl <| iL C 2 d20_14 rfl <| ybaloadB C A1 (by decide) (i := 2) (by decide) (v := x2) rfl d20_16 <| iL C 9 d20_17 rfl <| yicmp_n C d20_19 (XT.ii_ne_f e2) <| iL C 2 d20_22 rfl ?_
  refine g_ret C (eN hN) (v := (.int 2)) (ty := .int) rfl rfl (Or.inl ⟨rfl, Or.inl rfl, _, rfl⟩) d20_24 (by decide) (by decide) ?_
  exact ⟨rfl, rfl⟩
theorem rm_ioc_5_1_4 (hw : HW a0 Z) (a1 : Addr) (x0 x1 x2 x3 x4 : Int32) (h0 : Heap) (Z0 : n0 ≤ h0.size) (A1 : Ary Z h0 a1 .byte [.int x0, .int x1, .int x2, .int x3, .int x4]) (e1 : ¬ x1 = 9) (e2 : ¬ x2 = 9) (e3 : x3 = 9) :
    Met1 l Z ⟨"java/lang/StringLatin1", "indexOfChar", "([BIII)I"⟩ jdk_43_method_23_code 6 (some .int) ⟨0, 0, 0, 0⟩ n0 #[(.ref a1), (.int 9), (.int 1), (.int 5)] h0 (fun v h => v = some (.int 3) ∧ h0 = h) := by
  refine met_of (plainFor_of_name pn_2) (L0 := #[.val (.ref a1), .val (.int 9), .val (.int 1), .val (.int 5), .unset, .unset]) (by first | (simp [argsToLocals, Value.category]; done) | rfl) ?_
  intro B C hN
  change Ctx B l _ _ "java/lang/StringLatin1" "indexOfChar" _ _ Z at C
  refine iN C 9 d20_0 rfl <| yi2b C d20_1 <| eS [(.int 9)] rfl <| iS C d20_2 (#[aV a1, iV 9, iV 1, iV 5, iV 9, uV]) rfl <| iN C 1 d20_4 rfl <| iS C d20_5 (#[aV a1, iV 9, iV 1, iV 5, iV 9, iV 1]) rfl <| iL C 1 d20_7 rfl <| iN C 5 d20_9 rfl <| yicmp_n C d20_10 (XT.ii_ge_f (by decide)) <| aN C ((.ref a1)) d20_13 rfl rfl <| iL C 1 d20_14 rfl <| ybaloadB C A1 (by decide) (i := 1) (by decide) (v := x1) rfl d20_16 <| iL C 9 d20_17 rfl <| cY C d20_19 (XT.ii_ne_t e1) 25 (by decide) <| nC C 1 2 d20_25 rfl rfl (#[aV a1, iV 9, iV 1, iV 5, iV 9, iV 2]) rfl <| gT C d20_28 7 (by decide) <| iL C 2 d20_7 rfl <| iN C 5 d20_9 rfl <| yicmp_n C d20_10 (XT.ii_ge_f (by decide)) <| aN C ((.ref a1)) d20_13 rfl rfl <| iL C 2 d20_14 rfl <| ybaloadB C A1 (by decide) (i := 2) (by decide) (v := x2) rfl d20_16 <| iL C 9 d20_17 rfl <| cY C d20_19 (XT.ii_ne_t e2) 25 (by decide) <| nC C 2 3 d20_25 rfl rfl (#[aV a1, iV 9, iV 1, iV 5, iV 9, iV 3]) rfl <| gT C d20_28 7 (by decide) <| iL C 3 d20_7 rfl <| iN C 5 d20_9 rfl <| yicmp_n C d20_10 (XT.ii_ge_f (by decide)) <| aN C ((.ref a1)) d20_13 rfl rfl <| iL C 3 d20_14 rfl <| ybaloadB C A1 (by decide) (i := 3) (by decide) (v := x3) rfl d20_16 <| iL C 9 d20_17 rfl <| yicmp_n C d20_19 (XT.ii_ne_f e3) <| iL C 3 d20_22 rfl ?_
  refine g_ret C (eN hN) (v := (.int 3)) (ty := .int) rfl rfl (Or.inl ⟨rfl, Or.inl rfl, _, rfl⟩) d20_24 (by decide) (by decide) ?_
  exact ⟨rfl, rfl⟩
theorem rm_ioc_5_1_5 (hw : HW a0 Z) (a1 : Addr) (x0 x1 x2 x3 x4 : Int32) (h0 : Heap) (Z0 : n0 ≤ h0.size) (A1 : Ary Z h0 a1 .byte [.int x0, .int x1, .int x2, .int x3, .int x4]) (e1 : ¬ x1 = 9) (e2 : ¬ x2 = 9) (e3 : ¬ x3 = 9) (e4 : x4 = 9) :
    Met1 l Z ⟨"java/lang/StringLatin1", "indexOfChar", "([BIII)I"⟩ jdk_43_method_23_code 6 (some .int) ⟨0, 0, 0, 0⟩ n0 #[(.ref a1), (.int 9), (.int 1), (.int 5)] h0 (fun v h => v = some (.int 4) ∧ h0 = h) := by
  refine met_of (plainFor_of_name pn_2) (L0 := #[.val (.ref a1), .val (.int 9), .val (.int 1), .val (.int 5), .unset, .unset]) (by first | (simp [argsToLocals, Value.category]; done) | rfl) ?_
  intro B C hN
  change Ctx B l _ _ "java/lang/StringLatin1" "indexOfChar" _ _ Z at C
  refine iN C 9 d20_0 rfl <| yi2b C d20_1 <| eS [(.int 9)] rfl <| iS C d20_2 (#[aV a1, iV 9, iV 1, iV 5, iV 9, uV]) rfl <| iN C 1 d20_4 rfl <| iS C d20_5 (#[aV a1, iV 9, iV 1, iV 5, iV 9, iV 1]) rfl <| iL C 1 d20_7 rfl <| iN C 5 d20_9 rfl <| yicmp_n C d20_10 (XT.ii_ge_f (by decide)) <| aN C ((.ref a1)) d20_13 rfl rfl <| iL C 1 d20_14 rfl <| ybaloadB C A1 (by decide) (i := 1) (by decide) (v := x1) rfl d20_16 <| iL C 9 d20_17 rfl <| cY C d20_19 (XT.ii_ne_t e1) 25 (by decide) <| nC C 1 2 d20_25 rfl rfl (#[aV a1, iV 9, iV 1, iV 5, iV 9, iV 2]) rfl <| gT C d20_28 7 (by decide) <| iL C 2 d20_7 rfl <| iN C 5 d20_9 rfl <| yicmp_n C d20_10 (XT.ii_ge_f (by decide)) <| aN C ((.ref a1)) d20_13 rfl rfl <| iL C 2 d20_14 rfl <| ybaloadB C A1 (by decide) (i := 2) (by decide) (v := x2) rfl d20_16 <| iL C 9 d20_17 rfl <| cY C d20_19 (XT.ii_ne_t e2) 25 (by decide) <| nC C 2 3 d20_25 rfl rfl (#[aV a1, iV 9, iV 1, iV 5, iV 9, iV 3]) rfl <| gT C d20_28 7 (by decide) <| iL C 3 d20_7 rfl <| iN C 5 d20_9 rfl <| yicmp_n C d20_10 (XT.ii_ge_f (by decide)) <| aN C ((.ref a1)) d20_13 rfl rfl <| iL C 3 d20_14 rfl <| ybaloadB C A1 (by decide) (i := 3) (by decide) (v := x3) rfl d20_16 <| iL C 9 d20_17 rfl <| cY C d20_19 (XT.ii_ne_t e3) 25 (by decide) <| nC C 3 4 d20_25 rfl rfl (#[aV a1, iV 9, iV 1, iV 5, iV 9, iV 4]) rfl <| gT C d20_28 7 (by decide) <| iL C 4 d20_7 rfl <| iN C 5 d20_9 rfl <| yicmp_n C d20_10 (XT.ii_ge_f (by decide)) <| aN C ((.ref a1)) d20_13 rfl rfl <| iL C 4 d20_14 rfl <| ybaloadB C A1 (by decide) (i := 4) (by decide) (v := x4) rfl d20_16 <| iL C 9 d20_17 rfl <| yicmp_n C d20_19 (XT.ii_ne_f e4) <| iL C 4 d20_22 rfl ?_
  refine g_ret C (eN hN) (v := (.int 4)) (ty := .int) rfl rfl (Or.inl ⟨rfl, Or.inl rfl, _, rfl⟩) d20_24 (by decide) (by decide) ?_
  exact ⟨rfl, rfl⟩
theorem rm_ioc_5_1_0 (hw : HW a0 Z) (a1 : Addr) (x0 x1 x2 x3 x4 : Int32) (h0 : Heap) (Z0 : n0 ≤ h0.size) (A1 : Ary Z h0 a1 .byte [.int x0, .int x1, .int x2, .int x3, .int x4]) (e1 : ¬ x1 = 9) (e2 : ¬ x2 = 9) (e3 : ¬ x3 = 9) (e4 : ¬ x4 = 9) :
    Met1 l Z ⟨"java/lang/StringLatin1", "indexOfChar", "([BIII)I"⟩ jdk_43_method_23_code 6 (some .int) ⟨0, 0, 0, 0⟩ n0 #[(.ref a1), (.int 9), (.int 1), (.int 5)] h0 (fun v h => v = some (.int (-1 : Int32)) ∧ h0 = h) := by
  refine met_of (plainFor_of_name pn_2) (L0 := #[.val (.ref a1), .val (.int 9), .val (.int 1), .val (.int 5), .unset, .unset]) (by first | (simp [argsToLocals, Value.category]; done) | rfl) ?_
  intro B C hN
  change Ctx B l _ _ "java/lang/StringLatin1" "indexOfChar" _ _ Z at C
  refine iN C 9 d20_0 rfl <| yi2b C d20_1 <| eS [(.int 9)] rfl <| iS C d20_2 (#[aV a1, iV 9, iV 1, iV 5, iV 9, uV]) rfl <| iN C 1 d20_4 rfl <| iS C d20_5 (#[aV a1, iV 9, iV 1, iV 5, iV 9, iV 1]) rfl <| iL C 1 d20_7 rfl <| iN C 5 d20_9 rfl <| yicmp_n C d20_10 (XT.ii_ge_f (by decide)) <| aN C ((.ref a1)) d20_13 rfl rfl <| iL C 1 d20_14 rfl <| ybaloadB C A1 (by decide) (i := 1) (by decide) (v := x1) rfl d20_16 <| iL C 9 d20_17 rfl <| cY C d20_19 (XT.ii_ne_t e1) 25 (by decide) <| nC C 1 2 d20_25 rfl rfl (#[aV a1, iV 9, iV 1, iV 5, iV 9, iV 2]) rfl <| gT C d20_28 7 (by decide) <| iL C 2 d20_7 rfl <| iN C 5 d20_9 rfl <| yicmp_n C d20_10 (XT.ii_ge_f (by decide)) <| aN C ((.ref a1)) d20_13 rfl rfl <| iL C 2 d20_14 rfl <| ybaloadB C A1 (by decide) (i := 2) (by decide) (v := x2) rfl d20_16 <| iL C 9 d20_17 rfl <| cY C d20_19 (XT.ii_ne_t e2) 25 (by decide) <| nC C 2 3 d20_25 rfl rfl (#[aV a1, iV 9, iV 1, iV 5, iV 9, iV 3]) rfl <| gT C d20_28 7 (by decide) <| iL C 3 d20_7 rfl <| iN C 5 d20_9 rfl <| yicmp_n C d20_10 (XT.ii_ge_f (by decide)) <| aN C ((.ref a1)) d20_13 rfl rfl <| iL C 3 d20_14 rfl <| ybaloadB C A1 (by decide) (i := 3) (by decide) (v := x3) rfl d20_16 <| iL C 9 d20_17 rfl <| cY C d20_19 (XT.ii_ne_t e3) 25 (by decide) <| nC C 3 4 d20_25 rfl rfl (#[aV a1, iV 9, iV 1, iV 5, iV 9, iV 4]) rfl <| gT C d20_28 7 (by decide) <| iL C 4 d20_7 rfl <| iN C 5 d20_9 rfl <| yicmp_n C d20_10 (XT.ii_ge_f (by decide)) <| aN C ((.ref a1)) d20_13 rfl rfl <| iL C 4 d20_14 rfl <| ybaloadB C A1 (by decide) (i := 4) (by decide) (v := x4) rfl d20_16 <| iL C 9 d20_17 rfl <| cY C d20_19 (XT.ii_ne_t e4) 25 (by decide) <| nC C 4 5 d20_25 rfl rfl (#[aV a1, iV 9, iV 1, iV 5, iV 9, iV 5]) rfl <| gT C d20_28 7 (by decide) <| iL C 5 d20_7 rfl <| iN C 5 d20_9 rfl <| cY C d20_10 (XT.ii_ge_t (by decide)) 31 (by decide) <| iC C ((-1 : Int32)) d20_31 rfl ?_
  refine g_ret C (eN hN) (v := (.int (-1 : Int32))) (ty := .int) rfl rfl (Or.inl ⟨rfl, Or.inl rfl, _, rfl⟩) d20_32 (by decide) (by decide) ?_
  exact ⟨rfl, rfl⟩
theorem rm_ioc_5_2_3 (hw : HW a0 Z) (a1 : Addr) (x0 x1 x2 x3 x4 : Int32) (h0 : Heap) (Z0 : n0 ≤ h0.size) (A1 : Ary Z h0 a1 .byte [.int x0, .int x1, .int x2, .int x3, .int x4]) (e2 : x2 = 9) :
    Met1 l Z ⟨"java/lang/StringLatin1", "indexOfChar", "([BIII)I"⟩ jdk_43_method_23_code 6 (some .int) ⟨0, 0, 0, 0⟩ n0 #[(.ref a1), (.int 9), (.int 2), (.int 5)] h0 (fun v h => v = some (.int 2) ∧ h0 = h) := by
  refine met_of (plainFor_of_name pn_2) (L0 := #[.val (.ref a1), .val (.int 9), .val (.int 2), .val (.int 5), .unset, .unset]) (by first | (simp [argsToLocals, Value.category]; done) | rfl) ?_
  intro B C hN
  change Ctx B l _ _ "java/lang/StringLatin1" "indexOfChar" _ _ Z at C
  refine iN C 9 d20_0 rfl <| yi2b C d20_1 <| eS [(.int 9)] rfl <| iS C d20_2 (#[aV a1, iV 9, iV 2, iV 5, iV 9, uV]) rfl <| iN C 2 d20_4 rfl <| iS C d20_5 (#[aV a1, iV 9, iV 2, iV 5, iV 9, iV 2]) rfl <| iL C 2 d20_7 rfl <| iN C 5 d20_9 rfl <| yicmp_n C d20_10 (XT.ii_ge_f (by decide)) <| aN C ((.ref a1)) d20_13 rfl rfl <| iL C 2 d20_14 rfl <| ybaloadB C A1 (by decide) (i := 2) (by decide) (v := x2) rfl d20_16 <| iL C 9 d20_17 rfl <| yicmp_n C d20_19 (XT.ii_ne_f e2) <| iL C 2 d20_22 rfl ?_
  refine g_ret C (eN hN) (v := (.int 2)) (ty := .int) rfl rfl (Or.inl ⟨rfl, Or.inl rfl, _, rfl⟩) d20_24 (by decide) (by decide) ?_
  exact ⟨rfl, rfl⟩
theorem rm_ioc_5_2_4 (hw : HW a0 Z) (a1 : Addr) (x0 x1 x2 x3 x4 : Int32) (h0 : Heap) (Z0 : n0 ≤ h0.size) (A1 : Ary Z h0 a1 .byte [.int x0, .int x1, .int x2, .int x3, .int x4]) (e2 : ¬ x2 = 9) (e3 : x3 = 9) :
    Met1 l Z ⟨"java/lang/StringLatin1", "indexOfChar", "([BIII)I"⟩ jdk_43_method_23_code 6 (some .int) ⟨0, 0, 0, 0⟩ n0 #[(.ref a1), (.int 9), (.int 2), (.int 5)] h0 (fun v h => v = some (.int 3) ∧ h0 = h) := by
  refine met_of (plainFor_of_name pn_2) (L0 := #[.val (.ref a1), .val (.int 9), .val (.int 2), .val (.int 5), .unset, .unset]) (by first | (simp [argsToLocals, Value.category]; done) | rfl) ?_
  intro B C hN
  change Ctx B l _ _ "java/lang/StringLatin1" "indexOfChar" _ _ Z at C
  refine iN C 9 d20_0 rfl <| yi2b C d20_1 <| eS [(.int 9)] rfl <| iS C d20_2 (#[aV a1, iV 9, iV 2, iV 5, iV 9, uV]) rfl <| iN C 2 d20_4 rfl <| iS C d20_5 (#[aV a1, iV 9, iV 2, iV 5, iV 9, iV 2]) rfl <| iL C 2 d20_7 rfl <| iN C 5 d20_9 rfl <| yicmp_n C d20_10 (XT.ii_ge_f (by decide)) <| aN C ((.ref a1)) d20_13 rfl rfl <| iL C 2 d20_14 rfl <| ybaloadB C A1 (by decide) (i := 2) (by decide) (v := x2) rfl d20_16 <| iL C 9 d20_17 rfl <| cY C d20_19 (XT.ii_ne_t e2) 25 (by decide) <| nC C 2 3 d20_25 rfl rfl (#[aV a1, iV 9, iV 2, iV 5, iV 9, iV 3]) rfl <| gT C d20_28 7 (by decide) <| iL C 3 d20_7 rfl <| iN C 5 d20_9 rfl <| yicmp_n C d20_10 (XT.ii_ge_f (by decide)) <| aN C ((.ref a1)) d20_13 rfl rfl <| iL C 3 d20_14 rfl <| ybaloadB C A1 (by decide) (i := 3) (by decide) (v := x3) rfl d20_16 <| iL C 9 d20_17 rfl <| yicmp_n C d20_19 (XT.ii_ne_f e3) <| iL C 3 d20_22 rfl ?_
  refine g_ret C (eN hN) (v := (.int 3)) (ty := .int) rfl rfl (Or.inl ⟨rfl, Or.inl rfl, _, rfl⟩) d20_24 (by decide) (by decide) ?_
  exact ⟨rfl, rfl⟩
theorem rm_ioc_5_2_5 (hw : HW a0 Z) (a1 : Addr) (x0 x1 x2 x3 x4 : Int32) (h0 : Heap) (Z0 : n0 ≤ h0.size) (A1 : Ary Z h0 a1 .byte [.int x0, .int x1, .int x2, .int x3, .int x4]) (e2 : ¬ x2 = 9) (e3 : ¬ x3 = 9) (e4 : x4 = 9) :
    Met1 l Z ⟨"java/lang/StringLatin1", "indexOfChar", "([BIII)I"⟩ jdk_43_method_23_code 6 (some .int) ⟨0, 0, 0, 0⟩ n0 #[(.ref a1), (.int 9), (.int 2), (.int 5)] h0 (fun v h => v = some (.int 4) ∧ h0 = h) := by
  refine met_of (plainFor_of_name pn_2) (L0 := #[.val (.ref a1), .val (.int 9), .val (.int 2), .val (.int 5), .unset, .unset]) (by first | (simp [argsToLocals, Value.category]; done) | rfl) ?_
  intro B C hN
  change Ctx B l _ _ "java/lang/StringLatin1" "indexOfChar" _ _ Z at C
  refine iN C 9 d20_0 rfl <| yi2b C d20_1 <| eS [(.int 9)] rfl <| iS C d20_2 (#[aV a1, iV 9, iV 2, iV 5, iV 9, uV]) rfl <| iN C 2 d20_4 rfl <| iS C d20_5 (#[aV a1, iV 9, iV 2, iV 5, iV 9, iV 2]) rfl <| iL C 2 d20_7 rfl <| iN C 5 d20_9 rfl <| yicmp_n C d20_10 (XT.ii_ge_f (by decide)) <| aN C ((.ref a1)) d20_13 rfl rfl <| iL C 2 d20_14 rfl <| ybaloadB C A1 (by decide) (i := 2) (by decide) (v := x2) rfl d20_16 <| iL C 9 d20_17 rfl <| cY C d20_19 (XT.ii_ne_t e2) 25 (by decide) <| nC C 2 3 d20_25 rfl rfl (#[aV a1, iV 9, iV 2, iV 5, iV 9, iV 3]) rfl <| gT C d20_28 7 (by decide) <| iL C 3 d20_7 rfl <| iN C 5 d20_9 rfl <| yicmp_n C d20_10 (XT.ii_ge_f (by decide)) <| aN C ((.ref a1)) d20_13 rfl rfl <| iL C 3 d20_14 rfl <| ybaloadB C A1 (by decide) (i := 3) (by decide) (v := x3) rfl d20_16 <| iL C 9 d20_17 rfl <| cY C d20_19 (XT.ii_ne_t e3) 25 (by decide) <| nC C 3 4 d20_25 rfl rfl (#[aV a1, iV 9, iV 2, iV 5, iV 9, iV 4]) rfl <| gT C d20_28 7 (by decide) <| iL C 4 d20_7 rfl <| iN C 5 d20_9 rfl <| yicmp_n C d20_10 (XT.ii_ge_f (by decide)) <| aN C ((.ref a1)) d20_13 rfl rfl <| iL C 4 d20_14 rfl <| ybaloadB C A1 (by decide) (i := 4) (by decide) (v := x4) rfl d20_16 <| iL C 9 d20_17 rfl <| yicmp_n C d20_19 (XT.ii_ne_f e4) <| iL C 4 d20_22 rfl ?_
  refine g_ret C (eN hN) (v := (.int 4)) (ty := .int) rfl rfl (Or.inl ⟨rfl, Or.inl rfl, _, rfl⟩) d20_24 (by decide) (by decide) ?_
  exact ⟨rfl, rfl⟩
theorem rm_ioc_5_2_0 (hw : HW a0 Z) (a1 : Addr) (x0 x1 x2 x3 x4 : Int32) (h0 : Heap) (Z0 : n0 ≤ h0.size) (A1 : Ary Z h0 a1 .byte [.int x0, .int x1, .int x2, .int x3, .int x4]) (e2 : ¬ x2 = 9) (e3 : ¬ x3 = 9) (e4 : ¬ x4 = 9) :
    Met1 l Z ⟨"java/lang/StringLatin1", "indexOfChar", "([BIII)I"⟩ jdk_43_method_23_code 6 (some .int) ⟨0, 0, 0, 0⟩ n0 #[(.ref a1), (.int 9), (.int 2), (.int 5)] h0 (fun v h => v = some (.int (-1 : Int32)) ∧ h0 = h) := by
  refine met_of (plainFor_of_name pn_2) (L0 := #[.val (.ref a1), .val (.int 9), .val (.int 2), .val (.int 5), .unset, .unset]) (by first | (simp [argsToLocals, Value.category]; done) | rfl) ?_
  intro B C hN
  change Ctx B l _ _ "java/lang/StringLatin1" "indexOfChar" _ _ Z at C
  refine iN C 9 d20_0 rfl <| yi2b C d20_1 <| eS [(.int 9)] rfl <| iS C d20_2 (#[aV a1, iV 9, iV 2, iV 5, iV 9, uV]) rfl <| iN C 2 d20_4 rfl <| iS C d20_5 (#[aV a1, iV 9, iV 2, iV 5, iV 9, iV 2]) rfl <| iL C 2 d20_7 rfl <| iN C 5 d20_9 rfl <| yicmp_n C d20_10 (XT.ii_ge_f (by decide)) <| aN C ((.ref a1)) d20_13 rfl rfl <| iL C 2 d20_14 rfl <| ybaloadB C A1 (by decide) (i := 2) (by decide) (v := x2) rfl d20_16 <| iL C 9 d20_17 rfl <| cY C d20_19 (XT.ii_ne_t e2) 25 (by decide) <| nC C 2 3 d20_25 rfl rfl (#[aV a1, iV 9, iV 2, iV 5, iV 9, iV 3]) rfl <| gT C d20_28 7 (by decide) <| iL C 3 d20_7 rfl <| iN C 5 d20_9 rfl <| yicmp_n C d20_10 (XT.ii_ge_f (by decide)) <| aN C ((.ref a1)) d20_13 rfl rfl <| iL C 3 d20_14 rfl <| ybaloadB C A1 (by decide) (i := 3) (by decide) (v := x3) rfl d20_16 <| iL C 9 d20_17 rfl <| cY C d20_19 (XT.ii_ne_t e3) 25 (by decide) <| nC C 3 4 d20_25 rfl rfl (#[aV a1, iV 9, iV 2, iV 5, iV 9, iV 4]) rfl <| gT C d20_28 7 (by decide) <| iL C 4 d20_7 rfl <| iN C 5 d20_9 rfl <| yicmp_n C d20_10 (XT.ii_ge_f (by decide)) <| aN C ((.ref a1)) d20_13 rfl rfl <| iL C 4 d20_14 rfl <| ybaloadB C A1 (by decide) (i := 4) (by decide) (v := x4) rfl d20_16 <| iL C 9 d20_17 rfl <| cY C d20_19 (XT.ii_ne_t e4) 25 (by decide) <| nC C 4 5 d20_25 rfl rfl (#[aV a1, iV 9, iV 2, iV 5, iV 9, iV 5]) rfl <| gT C d20_28 7 (by decide) <| iL C 5 d20_7 rfl <| iN C 5 d20_9 rfl <| cY C d20_10 (XT.ii_ge_t (by decide)) 31 (by decide) <| iC C ((-1 : Int32)) d20_31 rfl ?_
  refine g_ret C (eN hN) (v := (.int (-1 : Int32))) (ty := .int) rfl rfl (Or.inl ⟨rfl, Or.inl rfl, _, rfl⟩) d20_32 (by decide) (by decide) ?_
  exact ⟨rfl, rfl⟩
theorem rm_ioc_5_3_4 (hw : HW a0 Z) (a1 : Addr) (x0 x1 x2 x3 x4 : Int32) (h0 : Heap) (Z0 : n0 ≤ h0.size) (A1 : Ary Z h0 a1 .byte [.int x0, .int x1, .int x2, .int x3, .int x4]) (e3 : x3 = 9) :
    Met1 l Z ⟨"java/lang/StringLatin1", "indexOfChar", "([BIII)I"⟩ jdk_43_method_23_code 6 (some .int) ⟨0, 0, 0, 0⟩ n0 #[(.ref a1), (.int 9), (.int 3), (.int 5)] h0 (fun v h => v = some (.int 3) ∧ h0 = h) := by
  refine met_of (plainFor_of_name pn_2) (L0 := #[.val (.ref a1), .val (.int 9), .val (.int 3), .val (.int 5), .unset, .unset]) (by first | (simp [argsToLocals, Value.category]; done) | rfl) ?_
  intro B C hN
  change Ctx B l _ _ "java/lang/StringLatin1" "indexOfChar" _ _ Z at C
  refine iN C 9 d20_0 rfl <| yi2b C d20_1 <| eS [(.int 9)] rfl <| iS C d20_2 (#[aV a1, iV 9, iV 3, iV 5, iV 9, uV]) rfl <| iN C 3 d20_4 rfl <| iS C d20_5 (#[aV a1, iV 9, iV 3, iV 5, iV 9, iV 3]) rfl <| iL C 3 d20_7 rfl <| iN C 5 d20_9 rfl <| yicmp_n C d20_10 (XT.ii_ge_f (by decide)) <| aN C ((.ref a1)) d20_13 rfl rfl <| iL C 3 d20_14 rfl <| ybaloadB C A1 (by decide) (i := 3) (by decide) (v := x3) rfl d20_16 <| iL C 9 d20_17 rfl <| yicmp_n C d20_19 (XT.ii_ne_f e3) <| iL C 3 d20_22 rfl ?_
  refine g_ret C (eN hN) (v := (.int 3)) (ty := .int) rfl rfl (Or.inl ⟨rfl, Or.inl rfl, _, rfl⟩) d20_24 (by decide) (by decide) ?_
  exact ⟨rfl, rfl⟩
theorem rm_ioc_5_3_5 (hw : HW a0 Z) (a1 : Addr) (x0 x1 x2 x3 x4 : Int32) (h0 : Heap) (Z0 : n0 ≤ h0.size) (A1 : Ary Z h0 a1 .byte [.int x0, .int x1, .int x2, .int x3, .int x4]) (e3 : ¬ x3 = 9) (e4 : x4 = 9) :
    Met1 l Z ⟨"java/lang/StringLatin1", "indexOfChar", "([BIII)I"⟩ jdk_43_method_23_code 6 (some .int) ⟨0, 0, 0, 0⟩ n0 #[(.ref a1), (.int 9), (.int 3), (.int 5)] h0 (fun v h => v = some (.int 4) ∧ h0 = h) := by
  refine met_of (plainFor_of_name pn_2) (L0 := #[.val (.ref a1), .val (.int 9), .val (.int 3), .val (.int 5), .unset, .unset]) (by first | (simp [argsToLocals, Value.category]; done) | rfl) ?_
  intro B C hN
  change Ctx B l _ _ "java/lang/StringLatin1" "indexOfChar" _ _ Z at C
  refine iN C 9 d20_0 rfl <| yi2b C d20_1 <| eS [(.int 9)] rfl <| iS C d20_2 (#[aV a1, iV 9, iV 3, iV 5, iV 9, uV]) rfl <| iN C 3 d20_4 rfl <| iS C d20_5 (#[aV a1, iV 9, iV 3, iV 5, iV 9, iV 3]) rfl <| iL C 3 d20_7 rfl <| iN C 5 d20_9 rfl <| yicmp_n C d20_10 (XT.ii_ge_f (by decide)) <| aN C ((.ref a1)) d20_13 rfl rfl <| iL C 3 d20_14 rfl <| ybaloadB C A1 (by decide) (i := 3) (by decide) (v := x3) rfl d20_16 <| iL C 9 d20_17 rfl <| cY C d20_19 (XT.ii_ne_t e3) 25 (by decide) <| nC C 3 4 d20_25 rfl rfl (#[aV a1, iV 9, iV 3, iV 5, iV 9, iV 4]) rfl <| gT C d20_28 7 (by decide) <| iL C 4 d20_7 rfl <| iN C 5 d20_9 rfl <| yicmp_n C d20_10 (XT.ii_ge_f (by decide)) <| aN C ((.ref a1)) d20_13 rfl rfl <| iL C 4 d20_14 rfl <| ybaloadB C A1 (by decide) (i := 4) (by decide) (v := x4) rfl d20_16 <| iL C 9 d20_17 rfl <| yicmp_n C d20_19 (XT.ii_ne_f e4) <| iL C 4 d20_22 rfl ?_
  refine g_ret C (eN hN) (v := (.int 4)) (ty := .int) rfl rfl (Or.inl ⟨rfl, Or.inl rfl, _, rfl⟩) d20_24 (by decide) (by decide) ?_
  exact ⟨rfl, rfl⟩
theorem rm_ioc_5_3_0 (hw : HW a0 Z) (a1 : Addr) (x0 x1 x2 x3 x4 : Int32) (h0 : Heap) (Z0 : n0 ≤ h0.size) (A1 : Ary Z h0 a1 .byte [.int x0, .int x1, .int x2, .int x3, .int x4]) (e3 : ¬ x3 = 9) (e4 : ¬ x4 = 9) :
    Met1 l Z ⟨"java/lang/StringLatin1", "indexOfChar", "([BIII)I"⟩ jdk_43_method_23_code 6 (some .int) ⟨0, 0, 0, 0⟩ n0 #[(.ref a1), (.int 9), (.int 3), (.int 5)] h0 (fun v h => v = some (.int (-1 : Int32)) ∧ h0 = h) := by
  refine met_of (plainFor_of_name pn_2) (L0 := #[.val (.ref a1), .val (.int 9), .val (.int 3), .val (.int 5), .unset, .unset]) (by first | (simp [argsToLocals, Value.category]; done) | rfl) ?_
  intro B C hN
  change Ctx B l _ _ "java/lang/StringLatin1" "indexOfChar" _ _ Z at C
  refine iN C 9 d20_0 rfl <| yi2b C d20_1 <| eS [(.int 9)] rfl <| iS C d20_2 (#[aV a1, iV 9, iV 3, iV 5, iV 9, uV]) rfl <| iN C 3 d20_4 rfl <| iS C d20_5 (#[aV a1, iV 9, iV 3, iV 5, iV 9, iV 3]) rfl <| iL C 3 d20_7 rfl <| iN C 5 d20_9 rfl <| yicmp_n C d20_10 (XT.ii_ge_f (by decide)) <| aN C ((.ref a1)) d20_13 rfl rfl <| iL C 3 d20_14 rfl <| ybaloadB C A1 (by decide) (i := 3) (by decide) (v := x3) rfl d20_16 <| iL C 9 d20_17 rfl <| cY C d20_19 (XT.ii_ne_t e3) 25 (by decide) <| nC C 3 4 d20_25 rfl rfl (#[aV a1, iV 9, iV 3, iV 5, iV 9, iV 4]) rfl <| gT C d20_28 7 (by decide) <| iL C 4 d20_7 rfl <| iN C 5 d20_9 rfl <| yicmp_n C d20_10 (XT.ii_ge_f (by decide)) <| aN C ((.ref a1)) d20_13 rfl rfl <| iL C 4 d20_14 rfl <| ybaloadB C A1 (by decide) (i := 4) (by decide) (v := x4) rfl d20_16 <| iL C 9 d20_17 rfl <| cY C d20_19 (XT.ii_ne_t e4) 25 (by decide) <| nC C 4 5 d20_25 rfl rfl (#[aV a1, iV 9, iV 3, iV 5, iV 9, iV 5]) rfl <| gT C d20_28 7 (by decide) <| iL C 5 d20_7 rfl <| iN C 5 d20_9 rfl <| cY C d20_10 (XT.ii_ge_t (by decide)) 31 (by decide) <| iC C ((-1 : Int32)) d20_31 rfl ?_
  refine g_ret C (eN hN) (v := (.int (-1 : Int32))) (ty := .int) rfl rfl (Or.inl ⟨rfl, Or.inl rfl, _, rfl⟩) d20_32 (by decide) (by decide) ?_
  exact ⟨rfl, rfl⟩
theorem rm_ioc_5_4_5 (hw : HW a0 Z) (a1 : Addr) (x0 x1 x2 x3 x4 : Int32) (h0 : Heap) (Z0 : n0 ≤ h0.size) (A1 : Ary Z h0 a1 .byte [.int x0, .int x1, .int x2, .int x3, .int x4]) (e4 : x4 = 9) :
    Met1 l Z ⟨"java/lang/StringLatin1", "indexOfChar", "([BIII)I"⟩ jdk_43_method_23_code 6 (some .int) ⟨0, 0, 0, 0⟩ n0 #[(.ref a1), (.int 9), (.int 4), (.int 5)] h0 (fun v h => v = some (.int 4) ∧ h0 = h) := by
  refine met_of (plainFor_of_name pn_2) (L0 := #[.val (.ref a1), .val (.int 9), .val (.int 4), .val (.int 5), .unset, .unset]) (by first | (simp [argsToLocals, Value.category]; done) | rfl) ?_
  intro B C hN
  change Ctx B l _ _ "java/lang/StringLatin1" "indexOfChar" _ _ Z at C
  refine iN C 9 d20_0 rfl <| yi2b C d20_1 <| eS [(.int 9)] rfl <| iS C d20_2 (#[aV a1, iV 9, iV 4, iV 5, iV 9, uV]) rfl <| iN C 4 d20_4 rfl <| iS C d20_5 (#[aV a1, iV 9, iV 4, iV 5, iV 9, iV 4]) rfl <| iL C 4 d20_7 rfl <| iN C 5 d20_9 rfl <| yicmp_n C d20_10 (XT.ii_ge_f (by decide)) <| aN C ((.ref a1)) d20_13 rfl rfl <| iL C 4 d20_14 rfl <| ybaloadB C A1 (by decide) (i := 4) (by decide) (v := x4) rfl d20_16 <| iL C 9 d20_17 rfl <| yicmp_n C d20_19 (XT.ii_ne_f e4) <| iL C 4 d20_22 rfl ?_
  refine g_ret C (eN hN) (v := (.int 4)) (ty := .int) rfl rfl (Or.inl ⟨rfl, Or.inl rfl, _, rfl⟩) d20_24 (by decide) (by decide) ?_
  exact ⟨rfl, rfl⟩
theorem rm_ioc_5_4_0 (hw : HW a0 Z) (a1 : Addr) (x0 x1 x2 x3 x4 : Int32) (h0 : Heap) (Z0 : n0 ≤ h0.size) (A1 : Ary Z h0 a1 .byte [.int x0, .int x1, .int x2, .int x3, .int x4]) (e4 : ¬ x4 = 9) :
    Met1 l Z ⟨"java/lang/StringLatin1", "indexOfChar", "([BIII)I"⟩ jdk_43_method_23_code 6 (some .int) ⟨0, 0, 0, 0⟩ n0 #[(.ref a1), (.int 9), (.int 4), (.int 5)] h0 (fun v h => v = some (.int (-1 : Int32)) ∧ h0 = h) := by
  refine met_of (plainFor_of_name pn_2) (L0 := #[.val (.ref a1), .val (.int 9), .val (.int 4), .val (.int 5), .unset, .unset]) (by first | (simp [argsToLocals, Value.category]; done) | rfl) ?_
  intro B C hN
  change Ctx B l _ _ "java/lang/StringLatin1" "indexOfChar" _ _ Z at C
  refine iN C 9 d20_0 rfl <| yi2b C d20_1 <| eS [(.int 9)] rfl <| iS C d20_2 (#[aV a1, iV 9, iV 4, iV 5, iV 9, uV]) rfl <| iN C 4 d20_4 rfl <| iS C d20_5 (#[aV a1, iV 9, iV 4, iV 5, iV 9, iV 4]) rfl <| iL C 4 d20_7 rfl <| iN C 5 d20_9 rfl <| yicmp_n C d20_10 (XT.ii_ge_f (by decide)) <| aN C ((.ref a1)) d20_13 rfl rfl <| iL C 4 d20_14 rfl <| ybaloadB C A1 (by decide) (i := 4) (by decide) (v := x4) rfl d20_16 <| iL C 9 d20_17 rfl <| cY C d20_19 (XT.ii_ne_t e4) 25 (by decide) <| nC C 4 5 d20_25 rfl rfl (#[aV a1, iV 9, iV 4, iV 5, iV 9, iV 5]) rfl <| gT C d20_28 7 (by decide) <| iL C 5 d20_7 rfl <| iN C 5 d20_9 rfl <| cY C d20_10 (XT.ii_ge_t (by decide)) 31 (by decide) <| iC C ((-1 : Int32)) d20_31 rfl ?_
  refine g_ret C (eN hN) (v := (.int (-1 : Int32))) (ty := .int) rfl rfl (Or.inl ⟨rfl, Or.inl rfl, _, rfl⟩) d20_32 (by decide) (by decide) ?_
  exact ⟨rfl, rfl⟩
theorem pd_9 : parseMethodDescriptor "(I)Z" = some ⟨[.int], (some .boolean)⟩ := by decide +kernel
theorem pd_22 : parseMethodDescriptor "(II)I" = some ⟨[.int, .int], (some .int)⟩ := by decide +kernel
theorem pd_23 : parseMethodDescriptor "(II)I" = some ⟨[.int, .int], (some .int)⟩ := by decide +kernel
theorem pd_6 : parseMethodDescriptor "([BIII)I" = some ⟨[(.array .byte), .int, .int, .int], (some .int)⟩ := by decide +kernel
theorem d16_0 : decode jdk_43_method_22_code 0 = .ok (.iload_n 1, 1) := by decide +kernel
theorem d16_1 : decode jdk_43_method_22_code 1 = .ok (.invokestatic 88, 3) := by decide +kernel
theorem d16_4 : decode jdk_43_method_22_code 4 = .ok (.ifCond .ne 5, 3) := by decide +kernel
theorem d16_9 : decode jdk_43_method_22_code 9 = .ok (.iload_n 2, 1) := by decide +kernel
theorem d16_10 : decode jdk_43_method_22_code 10 = .ok (.iconst 0, 1) := by decide +kernel
theorem d16_11 : decode jdk_43_method_22_code 11 = .ok (.invokestatic 92, 3) := by decide +kernel
theorem d16_14 : decode jdk_43_method_22_code 14 = .ok (.istore_n 2, 1) := by decide +kernel
theorem d16_15 : decode jdk_43_method_22_code 15 = .ok (.iload_n 3, 1) := by decide +kernel
theorem d16_16 : decode jdk_43_method_22_code 16 = .ok (.aload_n 0, 1) := by decide +kernel
theorem d16_17 : decode jdk_43_method_22_code 17 = .ok (.arraylength, 1) := by decide +kernel
theorem d16_18 : decode jdk_43_method_22_code 18 = .ok (.invokestatic 38, 3) := by decide +kernel
theorem d16_21 : decode jdk_43_method_22_code 21 = .ok (.istore_n 3, 1) := by decide +kernel
theorem d16_22 : decode jdk_43_method_22_code 22 = .ok (.iload_n 2, 1) := by decide +kernel
theorem d16_23 : decode jdk_43_method_22_code 23 = .ok (.iload_n 3, 1) := by decide +kernel
theorem d16_24 : decode jdk_43_method_22_code 24 = .ok (.if_icmp .lt 5, 3) := by decide +kernel
theorem d16_29 : decode jdk_43_method_22_code 29 = .ok (.aload_n 0, 1) := by decide +kernel
theorem d16_30 : decode jdk_43_method_22_code 30 = .ok (.iload_n 1, 1) := by decide +kernel
theorem d16_31 : decode jdk_43_method_22_code 31 = .ok (.iload_n 2, 1) := by decide +kernel
theorem d16_32 : decode jdk_43_method_22_code 32 = .ok (.iload_n 3, 1) := by decide +kernel
theorem d16_33 : decode jdk_43_method_22_code 33 = .ok (.invokestatic 95, 3) := by decide +kernel
theorem d16_36 : decode jdk_43_method_22_code 36 = .ok (.ireturn, 1) := by decide +kernel
theorem rm_lioA_1 (hw : HW a0 Z) (a1 : Addr) (x0 : Int32) (ff kk : Int32) (h0 : Heap) (Z0 : n0 ≤ h0.size) (A1 : Ary Z h0 a1 .byte [.int x0]) (hf : ¬ ff < 0) (hl : ff < 1) (hq : Met1 l Z ⟨"java/lang/StringLatin1", "indexOfChar", "([BIII)I"⟩ jdk_43_method_23_code 6 (some .int) ⟨0, 0, 0, 0⟩ n0 #[(.ref a1), (.int 9), (.int ff), (.int 1)] h0 (fun v h' => v = some (.int kk) ∧ h0 = h')) :
    Met1 l Z ⟨"java/lang/StringLatin1", "indexOf", "([BIII)I"⟩ jdk_43_method_22_code 4 (some .int) ⟨1, 0, 0, 17⟩ n0 #[(.ref a1), (.int 9), (.int ff), (.int 1)] h0 (fun v h => v = some (.int kk) ∧ h0 = h) := by
  refine met_of (plainFor_of_name pn_2) (L0 := #[.val (.ref a1), .val (.int 9), .val (.int ff), .val (.int 1)]) (by first | (simp [argsToLocals, Value.category]; done) | rfl) ?_
  intro B C hN
  change Ctx B l _ _ "java/lang/StringLatin1" "indexOf" _ _ Z at C
  refine iN C 9 d16_0 rfl <| cS C hw 74 75 72 76 rfl rfl rfl rfl (rm_can hw  h0 Z0 ) [] [(.int 9)] pd_9 0 d16_1 ⟨rfl, rfl, rfl, rfl, rfl⟩ (by decide) ?_
  intro v_3 h_1 q_2
  obtain ⟨rfl, rfl⟩ := q_2
  show Go _ _ _ _ 0 0 4 _ [(.int 1)]
  refine fY C d16_4 (XT.i0_ne_t (by decide)) 9 (by decide) <| iN C ff d16_9 rfl <| iC C 0 d16_10 rfl <| cS C hw 77 78 79 80 rfl rfl rfl rfl (rm_max hw ff h0 Z0 hf) [] [(.int ff), (.int 0)] pd_22 0 d16_11 ⟨rfl, rfl, rfl, rfl, rfl⟩ (by decide) ?_
  intro v_7 h_5 q_6
  obtain ⟨rfl, rfl⟩ := q_6
  show Go _ _ _ _ 0 0 14 _ [(.int ff)]
  refine iT C d16_14 (#[aV a1, iV 9, iV ff, iV 1]) rfl <| iN C 1 d16_15 rfl <| aN C ((.ref a1)) d16_16 rfl rfl <| yarraylength C A1 (z := 1) rfl d16_17 <| cS C hw 81 82 79 83 rfl rfl rfl rfl (rm_min hw 1 h0 Z0 (by decide)) [] [(.int 1), (.int 1)] pd_23 0 d16_18 ⟨rfl, rfl, rfl, rfl, rfl⟩ (by decide) ?_
  intro v_11 h_9 q_10
  obtain ⟨rfl, rfl⟩ := q_10
  show Go _ _ _ _ 0 0 21 _ [(.int 1)]
  refine iT C d16_21 (#[aV a1, iV 9, iV ff, iV 1]) rfl <| iN C ff d16_22 rfl <| iN C 1 d16_23 rfl <| cY C d16_24 (XT.ii_lt_t hl) 29 (by decide) <| aN C ((.ref a1)) d16_29 rfl rfl <| iN C 9 d16_30 rfl <| iN C ff d16_31 rfl <| iN C 1 d16_32 rfl <| cS C hw 84 85 72 86 rfl rfl rfl rfl hq [] [(.ref a1), (.int 9), (.int ff), (.int 1)] pd_6 0 d16_33 ⟨rfl, rfl, rfl, rfl, rfl⟩ (by decide) ?_
  intro v_15 h_13 q_14
  obtain ⟨rfl, rfl⟩ := q_14
  show Go _ _ _ _ 0 0 36 _ [(.int kk)]
  refine g_ret C (eN hN) (v := (.int kk)) (ty := .int) rfl rfl (Or.inl ⟨rfl, Or.inl rfl, _, rfl⟩) d16_36 (by decide) (by decide) ?_
  exact ⟨rfl, rfl⟩
theorem d16_27 : decode jdk_43_method_22_code 27 = .ok (.iconst (-1), 1) := by decide +kernel
theorem d16_28 : decode jdk_43_method_22_code 28 = .ok (.ireturn, 1) := by decide +kernel
theorem rm_lioB_1 (hw : HW a0 Z) (a1 : Addr) (x0 : Int32) (h0 : Heap) (Z0 : n0 ≤ h0.size) (A1 : Ary Z h0 a1 .byte [.int x0]) :
    Met1 l Z ⟨"java/lang/StringLatin1", "indexOf", "([BIII)I"⟩ jdk_43_method_22_code 4 (some .int) ⟨1, 0, 0, 17⟩ n0 #[(.ref a1), (.int 9), (.int 1), (.int 1)] h0 (fun v h => v = some (.int (-1 : Int32)) ∧ h0 = h) := by
  refine met_of (plainFor_of_name pn_2) (L0 := #[.val (.ref a1), .val (.int 9), .val (.int 1), .val (.int 1)]) (by first | (simp [argsToLocals, Value.category]; done) | rfl) ?_
  intro B C hN
  change Ctx B l _ _ "java/lang/StringLatin1" "indexOf" _ _ Z at C
  refine iN C 9 d16_0 rfl <| cS C hw 74 75 72 76 rfl rfl rfl rfl (rm_can hw  h0 Z0 ) [] [(.int 9)] pd_9 0 d16_1 ⟨rfl, rfl, rfl, rfl, rfl⟩ (by decide) ?_
  intro v_3 h_1 q_2
  obtain ⟨rfl, rfl⟩ := q_2
  show Go _ _ _ _ 0 0 4 _ [(.int 1)]
  refine fY C d16_4 (XT.i0_ne_t (by decide)) 9 (by decide) <| iN C 1 d16_9 rfl <| iC C 0 d16_10 rfl <| cS C hw 77 78 79 80 rfl rfl rfl rfl (rm_max hw 1 h0 Z0 (by decide)) [] [(.int 1), (.int 0)] pd_22 0 d16_11 ⟨rfl, rfl, rfl, rfl, rfl⟩ (by decide) ?_
  intro v_7 h_5 q_6
  obtain ⟨rfl, rfl⟩ := q_6
  show Go _ _ _ _ 0 0 14 _ [(.int 1)]
  refine iT C d16_14 (#[aV a1, iV 9, iV 1, iV 1]) rfl <| iN C 1 d16_15 rfl <| aN C ((.ref a1)) d16_16 rfl rfl <| yarraylength C A1 (z := 1) rfl d16_17 <| cS C hw 81 82 79 83 rfl rfl rfl rfl (rm_min hw 1 h0 Z0 (by decide)) [] [(.int 1), (.int 1)] pd_23 0 d16_18 ⟨rfl, rfl, rfl, rfl, rfl⟩ (by decide) ?_
  intro v_11 h_9 q_10
  obtain ⟨rfl, rfl⟩ := q_10
  show Go _ _ _ _ 0 0 21 _ [(.int 1)]
  refine iT C d16_21 (#[aV a1, iV 9, iV 1, iV 1]) rfl <| iN C 1 d16_22 rfl <| iN C 1 d16_23 rfl <| yicmp_n C d16_24 (XT.ii_lt_f (by decide)) <| iC C ((-1 : Int32)) d16_27 rfl ?_
  refine g_ret C (eN hN) (v := (.int (-1 : Int32))) (ty := .int) rfl rfl (Or.inl ⟨rfl, Or.inl rfl, _, rfl⟩) d16_28 (by decide) (by decide) ?_
  exact ⟨rfl, rfl⟩
theorem pd_10 : parseMethodDescriptor "()Z" = some ⟨[], (some .boolean)⟩ := by decide +kernel
theorem pd_14 : parseMethodDescriptor "()I" = some ⟨[], (some .int)⟩ := by decide +kernel
theorem pd_11 : parseMethodDescriptor "([BIII)I" = some ⟨[(.array .byte), .int, .int, .int], (some .int)⟩ := by decide +kernel
theorem d12_0 : decode jdk_42_method_80_code 0 = .ok (.aload_n 0, 1) := by decide +kernel
theorem d12_1 : decode jdk_42_method_80_code 1 = .ok (.invokevirtual 492, 3) := by decide +kernel
theorem d12_4 : decode jdk_42_method_80_code 4 = .ok (.ifCond .eq 19, 3) := by decide +kernel
theorem d12_7 : decode jdk_42_method_80_code 7 = .ok (.aload_n 0, 1) := by decide +kernel
theorem d12_8 : decode jdk_42_method_80_code 8 = .ok (.getfield 9, 3) := by decide +kernel
theorem d12_11 : decode jdk_42_method_80_code 11 = .ok (.iload_n 1, 1) := by decide +kernel
theorem d12_12 : decode jdk_42_method_80_code 12 = .ok (.iload_n 2, 1) := by decide +kernel
theorem d12_13 : decode jdk_42_method_80_code 13 = .ok (.aload_n 0, 1) := by decide +kernel
theorem d12_14 : decode jdk_42_method_80_code 14 = .ok (.invokevirtual 505, 3) := by decide +kernel
theorem d12_17 : decode jdk_42_method_80_code 17 = .ok (.invokestatic 637, 3) := by decide +kernel
theorem d12_20 : decode jdk_42_method_80_code 20 = .ok (.goto 16, 3) := by decide +kernel
theorem d12_36 : decode jdk_42_method_80_code 36 = .ok (.ireturn, 1) := by decide +kernel
theorem rm_sio_1 (hw : HW a0 Z) (a1 b1 : Addr) (x0 : Int32) (ff kk : Int32) (h0 : Heap) (Z0 : n0 ≤ h0.size) (cm : Cmp Z) (O : Old Z n0 h0) (E0 : Exa Z h0 a1 "java/lang/String") (F0 : Fld Z h0 a1 "java/lang/String" "value" "[B" (.ref b1)) (F1 : Fld Z h0 a1 "java/lang/String" "coder" "B" (.int 0)) (A1 : Ary Z h0 b1 .byte [.int x0]) (hq : Met1 l Z ⟨"java/lang/StringLatin1", "indexOf", "([BIII)I"⟩ jdk_43_method_22_code 4 (some .int) ⟨1, 0, 0, 17⟩ n0 #[(.ref b1), (.int 9), (.int ff), (.int 1)] h0 (fun v h' => v = some (.int kk) ∧ h0 = h')) :
    Met1 l Z ⟨"java/lang/String", "indexOf", "(II)I"⟩ jdk_42_method_80_code 3 (some .int) ⟨2, 0, 0, 32⟩ n0 #[(.ref a1), (.int 9), (.int ff)] h0 (fun v h => v = some (.int kk) ∧ h0 = h) := by
  refine met_of (plainFor_of_name pn_4) (L0 := #[.val (.ref a1), .val (.int 9), .val (.int ff)]) (by first | (simp [argsToLocals, Value.category]; done) | rfl) ?_
  intro B C hN
  change Ctx B l _ _ "java/lang/String" "indexOf" _ _ Z at C
  have cm' := cm
  obtain ⟨cz, Scz, hcz⟩ := cm'
  refine aN C ((.ref a1)) d12_0 rfl rfl <| cV C hw 55 56 58 57 6 59 rfl rfl rfl rfl rfl rfl E0 (rm_isLatin1 hw a1 h0 Z0 cm O F1) [] [] pd_10 0 d12_1 ⟨rfl, rfl, rfl, rfl, rfl⟩ (by decide) ?_
  intro v_3 h_1 q_2
  obtain ⟨rfl, rfl⟩ := q_2
  show Go _ _ _ _ 0 0 4 _ [(.int 1)]
  refine yif_n C d12_4 (XT.i0_eq_f (by decide)) <| aN C ((.ref a1)) d12_7 rfl rfl <| ygetfield C (host := "") (v := (.ref b1)) (Or.inl (oW hw 35 rfl)) Via.refl F0 d12_8 <| iN C 9 d12_11 rfl <| iN C ff d12_12 rfl <| aN C ((.ref a1)) d12_13 rfl rfl <| cV C hw 60 61 63 62 6 64 rfl rfl rfl rfl rfl rfl E0 (rm_length_1 hw a1 b1 x0 h0 Z0 cm O E0 F0 F1 A1) [(.int ff), (.int 9), (.ref b1)] [] pd_14 3 d12_14 ⟨rfl, rfl, rfl, rfl, rfl⟩ (by decide) ?_
  intro v_7 h_5 q_6
  obtain ⟨rfl, rfl⟩ := q_6
  show Go _ _ _ _ 0 0 17 _ [(.int 1), (.int ff), (.int 9), (.ref b1)]
  refine cS C hw 70 71 72 73 rfl rfl rfl rfl hq [] [(.ref b1), (.int 9), (.int ff), (.int 1)] pd_11 0 d12_17 ⟨rfl, rfl, rfl, rfl, rfl⟩ (by decide) ?_
  intro v_11 h_9 q_10
  obtain ⟨rfl, rfl⟩ := q_10
  show Go _ _ _ _ 0 0 20 _ [(.int kk)]
  refine gT C d12_20 36 (by decide) ?_
  refine g_ret C (eN hN) (v := (.int kk)) (ty := .int) rfl rfl (Or.inl ⟨rfl, Or.inl rfl, _, rfl⟩) d12_36 (by decide) (by decide) ?_
  exact ⟨rfl, rfl⟩
theorem rm_sioI_1_0_1 (hw : HW a0 Z) (a1 b1 : Addr) (x0 : Int32) (h0 : Heap) (Z0 : n0 ≤ h0.size) (cm : Cmp Z) (O : Old Z n0 h0) (E0 : Exa Z h0 a1 "java/lang/String") (F0 : Fld Z h0 a1 "java/lang/String" "value" "[B" (.ref b1)) (F1 : Fld Z h0 a1 "java/lang/String" "coder" "B" (.int 0)) (A1 : Ary Z h0 b1 .byte [.int x0]) (e0 : x0 = 9) :
    Met1 l Z ⟨"java/lang/String", "indexOf", "(II)I"⟩ jdk_42_method_80_code 3 (some .int) ⟨2, 0, 0, 32⟩ n0 #[(.ref a1), (.int 9), (.int 0)] h0 (fun v h' => v = some (.int 0) ∧ h0 = h') := rm_sio_1 hw a1 b1 x0 0 0 h0 Z0 cm O E0 F0 F1 A1 (rm_lioA_1 hw b1 x0 0 0 h0 Z0 A1 (by decide) (by decide) (rm_ioc_1_0_1 hw b1 x0 h0 Z0 A1 e0))
theorem rm_sioI_1_0_0 (hw : HW a0 Z) (a1 b1 : Addr) (x0 : Int32) (h0 : Heap) (Z0 : n0 ≤ h0.size) (cm : Cmp Z) (O : Old Z n0 h0) (E0 : Exa Z h0 a1 "java/lang/String") (F0 : Fld Z h0 a1 "java/lang/String" "value" "[B" (.ref b1)) (F1 : Fld Z h0 a1 "java/lang/String" "coder" "B" (.int 0)) (A1 : Ary Z h0 b1 .byte [.int x0]) (e0 : ¬ x0 = 9) :
    Met1 l Z ⟨"java/lang/String", "indexOf", "(II)I"⟩ jdk_42_method_80_code 3 (some .int) ⟨2, 0, 0, 32⟩ n0 #[(.ref a1), (.int 9), (.int 0)] h0 (fun v h' => v = some (.int (-1 : Int32)) ∧ h0 = h') := rm_sio_1 hw a1 b1 x0 0 (-1 : Int32) h0 Z0 cm O E0 F0 F1 A1 (rm_lioA_1 hw b1 x0 0 (-1 : Int32) h0 Z0 A1 (by decide) (by decide) (rm_ioc_1_0_0 hw b1 x0 h0 Z0 A1 e0))
theorem rm_sioI_1_1_0 (hw : HW a0 Z) (a1 b1 : Addr) (x0 : Int32) (h0 : Heap) (Z0 : n0 ≤ h0.size) (cm : Cmp Z) (O : Old Z n0 h0) (E0 : Exa Z h0 a1 "java/lang/String") (F0 : Fld Z h0 a1 "java/lang/String" "value" "[B" (.ref b1)) (F1 : Fld Z h0 a1 "java/lang/String" "coder" "B" (.int 0)) (A1 : Ary Z h0 b1 .byte [.int x0])  :
    Met1 l Z ⟨"java/lang/String", "indexOf", "(II)I"⟩ jdk_42_method_80_code 3 (some .int) ⟨2, 0, 0, 32⟩ n0 #[(.ref a1), (.int 9), (.int 1)] h0 (fun v h' => v = some (.int (-1 : Int32)) ∧ h0 = h') := rm_sio_1 hw a1 b1 x0 1 (-1 : Int32) h0 Z0 cm O E0 F0 F1 A1 (rm_lioB_1 hw b1 x0 h0 Z0 A1)
theorem rm_lioA_2 (hw : HW a0 Z) (a1 : Addr) (x0 x1 : Int32) (ff kk : Int32) (h0 : Heap) (Z0 : n0 ≤ h0.size) (A1 : Ary Z h0 a1 .byte [.int x0, .int x1]) (hf : ¬ ff < 0) (hl : ff < 2) (hq : Met1 l Z ⟨"java/lang/StringLatin1", "indexOfChar", "([BIII)I"⟩ jdk_43_method_23_code 6 (some .int) ⟨0, 0, 0, 0⟩ n0 #[(.ref a1), (.int 9), (.int ff), (.int 2)] h0 (fun v h' => v = some (.int kk) ∧ h0 = h')) :
    Met1 l Z ⟨"java/lang/StringLatin1", "indexOf", "([BIII)I"⟩ jdk_43_method_22_code 4 (some .int) ⟨1, 0, 0, 17⟩ n0 #[(.ref a1), (.int 9), (.int ff), (.int 2)] h0 (fun v h => v = some (.int kk) ∧ h0 = h) := by
  refine met_of (plainFor_of_name pn_2) (L0 := #[.val (.ref a1), .val (.int 9), .val (.int ff), .val (.int 2)]) (by first | (simp [argsToLocals, Value.category]; done) | rfl) ?_
  intro B C hN
  change Ctx B l _ _ "java/lang/StringLatin1" "indexOf" _ _ Z at C
  refine iN C 9 d16_0 rfl <| cS C hw 74 75 72 76 rfl rfl rfl rfl (rm_can hw  h0 Z0 ) [] [(.int 9)] pd_9 0 d16_1 ⟨rfl, rfl, rfl, rfl, rfl⟩ (by decide) ?_
  intro v_3 h_1 q_2
  obtain ⟨rfl, rfl⟩ := q_2
  show Go _ _ _ _ 0 0 4 _ [(.int 1)]
  refine fY C d16_4 (XT.i0_ne_t (by decide)) 9 (by decide) <| iN C ff d16_9 rfl <| iC C 0 d16_10 rfl <| cS C hw 77 78 79 80 rfl rfl rfl rfl (rm_max hw ff h0 Z0 hf) [] [(.int ff), (.int 0)] pd_22 0 d16_11 ⟨rfl, rfl, rfl, rfl, rfl⟩ (by decide) ?_
  intro v_7 h_5 q_6
  obtain ⟨rfl, rfl⟩ := q_6
  show Go _ _ _ _ 0 0 14 _ [(.int ff)]
  refine iT C d16_14 (#[aV a1, iV 9, iV ff, iV 2]) rfl <| iN C 2 d16_15 rfl <| aN C ((.ref a1)) d16_16 rfl rfl <| yarraylength C A1 (z := 2) rfl d16_17 <| cS C hw 81 82 79 83 rfl rfl rfl rfl (rm_min hw 2 h0 Z0 (by decide)) [] [(.int 2), (.int 2)] pd_23 0 d16_18 ⟨rfl, rfl, rfl, rfl, rfl⟩ (by decide) ?_
  intro v_11 h_9 q_10
  obtain ⟨rfl, rfl⟩ := q_10
  show Go _ _ _ _ 0 0 21 _ [(.int 2)]
  refine iT C d16_21 (#[aV a1, iV 9, iV ff, iV 2]) rfl <| iN C ff d16_22 rfl <| iN C 2 d16_23 rfl <| cY C d16_24 (XT.ii_lt_t hl) 29 (by decide) <| aN C ((.ref a1)) d16_29 rfl rfl <| iN C 9 d16_30 rfl <| iN C ff d16_31 rfl <| iN C 2 d16_32 rfl <| cS C hw 84 85 72 86 rfl rfl rfl rfl hq [] [(.ref a1), (.int 9), (.int ff), (.int 2)] pd_6 0 d16_33 ⟨rfl, rfl, rfl, rfl, rfl⟩ (by decide) ?_
  intro v_15 h_13 q_14
  obtain ⟨rfl, rfl⟩ := q_14
  show Go _ _ _ _ 0 0 36 _ [(.int kk)]
  refine g_ret C (eN hN) (v := (.int kk)) (ty := .int) rfl rfl (Or.inl ⟨rfl, Or.inl rfl, _, rfl⟩) d16_36 (by decide) (by decide) ?_
  exact ⟨rfl, rfl⟩
theorem rm_lioB_2 (hw : HW a0 Z) (a1 : Addr) (x0 x1 : Int32) (h0 : Heap) (Z0 : n0 ≤ h0.size) (A1 : Ary Z h0 a1 .byte [.int x0, .int x1]) :
    Met1 l Z ⟨"java/lang/StringLatin1", "indexOf", "([BIII)I"⟩ jdk_43_method_22_code 4 (some .int) ⟨1, 0, 0, 17⟩ n0 #[(.ref a1), (.int 9), (.int 2), (.int 2)] h0 (fun v h => v = some (.int (-1 : Int32)) ∧ h0 = h) := by
  refine met_of (plainFor_of_name pn_2) (L0 := #[.val (.ref a1), .val (.int 9), .val (.int 2), .val (.int 2)]) (by first | (simp [argsToLocals, Value.category]; done) | rfl) ?_
  intro B C hN
  change Ctx B l _ _ "java/lang/StringLatin1" "indexOf" _ _ Z at C
  refine iN C 9 d16_0 rfl <| cS C hw 74 75 72 76 rfl rfl rfl rfl (rm_can hw  h0 Z0 ) [] [(.int 9)] pd_9 0 d16_1 ⟨rfl, rfl, rfl, rfl, rfl⟩ (by decide) ?_
  intro v_3 h_1 q_2
  obtain ⟨rfl, rfl⟩ := q_2
  show Go _ _ _ _ 0 0 4 _ [(.int 1)]
  refine fY C d16_4 (XT.i0_ne_t (by decide)) 9 (by decide) <| iN C 2 d16_9 rfl <| iC C 0 d16_10 rfl <| cS C hw 77 78 79 80 rfl rfl rfl rfl (rm_max hw 2 h0 Z0 (by decide)) [] [(.int 2), (.int 0)] pd_22 0 d16_11 ⟨rfl, rfl, rfl, rfl, rfl⟩ (by decide) ?_
  intro v_7 h_5 q_6
  obtain ⟨rfl, rfl⟩ := q_6
  show Go _ _ _ _ 0 0 14 _ [(.int 2)]
  refine iT C d16_14 (#[aV a1, iV 9, iV 2, iV 2]) rfl <| iN C 2 d16_15 rfl <| aN C ((.ref a1)) d16_16 rfl rfl <| yarraylength C A1 (z := 2) rfl d16_17 <| cS C hw 81 82 79 83 rfl rfl rfl rfl (rm_min hw 2 h0 Z0 (by decide)) [] [(.int 2), (.int 2)] pd_23 0 d16_18 ⟨rfl, rfl, rfl, rfl, rfl⟩ (by decide) ?_
  intro v_11 h_9 q_10
  obtain ⟨rfl, rfl⟩ := q_10
  show Go _ _ _ _ 0 0 21 _ [(.int 2)]
  refine iT C d16_21 (#[aV a1, iV 9, iV 2, iV 2]) rfl <| iN C 2 d16_22 rfl <| iN C 2 d16_23 rfl <| yicmp_n C d16_24 (XT.ii_lt_f (by decide)) <| iC C ((-1 : Int32)) d16_27 rfl ?_
  refine g_ret C (eN hN) (v := (.int (-1 : Int32))) (ty := .int) rfl rfl (Or.inl ⟨rfl, Or.inl rfl, _, rfl⟩) d16_28 (by decide) (by decide) ?_
  exact ⟨rfl, rfl⟩
theorem rm_sio_2 (hw : HW a0 Z) (a1 b1 : Addr) (x0 x1 : Int32) (ff kk : Int32) (h0 : Heap) (Z0 : n0 ≤ h0.size) (cm : Cmp Z) (O : Old Z n0 h0) (E0 : Exa Z h0 a1 "java/lang/String") (F0 : Fld Z h0 a1 "java/lang/String" "value" "[B" (.ref b1)) (F1 : Fld Z h0 a1 "java/lang/String" "coder" "B" (.int 0)) (A1 : Ary Z h0 b1 .byte [.int x0, .int x1]) (hq : Met1 l Z ⟨"java/lang/StringLatin1", "indexOf", "([BIII)I"⟩ jdk_43_method_22_code 4 (some .int) ⟨1, 0, 0, 17⟩ n0 #[(.ref b1), (.int 9), (.int ff), (.int 2)] h0 (fun v h' => v = some (.int kk) ∧ h0 = h')) :
    Met1 l Z ⟨"java/lang/String", "indexOf", "(II)I"⟩ jdk_42_method_80_code 3 (some .int) ⟨2, 0, 0, 32⟩ n0 #[(.ref a1), (.int 9), (.int ff)] h0 (fun v h => v = some (.int kk) ∧ h0 = h) := by
  refine met_of (plainFor_of_name pn_4) (L0 := #[.val (.ref a1), .val (.int 9), .val (.int ff)]) (by first | (simp [argsToLocals, Value.category]; done) | rfl) ?_
  intro B C hN
  change Ctx B l _ _ "java/lang/String" "indexOf" _ _ Z at C
  have cm' := cm
  obtain ⟨cz, Scz, hcz⟩ := cm'
  refine aN C ((.ref a1)) d12_0 rfl rfl <| cV C hw 55 56 58 57 6 59 rfl rfl rfl rfl rfl rfl E0 (rm_isLatin1 hw a1 h0 Z0 cm O F1) [] [] pd_10 0 d12_1 ⟨rfl, rfl, rfl, rfl, rfl⟩ (by decide) ?_
  intro v_3 h_1 q_2
  obtain ⟨rfl, rfl⟩ := q_2
  show Go _ _ _ _ 0 0 4 _ [(.int 1)]
  refine yif_n C d12_4 (XT.i0_eq_f (by decide)) <| aN C ((.ref a1)) d12_7 rfl rfl <| ygetfield C (host := "") (v := (.ref b1)) (Or.inl (oW hw 35 rfl)) Via.refl F0 d12_8 <| iN C 9 d12_11 rfl <| iN C ff d12_12 rfl <| aN C ((.ref a1)) d12_13 rfl rfl <| cV C hw 60 61 63 62 6 64 rfl rfl rfl rfl rfl rfl E0 (rm_length_2 hw a1 b1 x0 x1 h0 Z0 cm O E0 F0 F1 A1) [(.int ff), (.int 9), (.ref b1)] [] pd_14 3 d12_14 ⟨rfl, rfl, rfl, rfl, rfl⟩ (by decide) ?_
  intro v_7 h_5 q_6
  obtain ⟨rfl, rfl⟩ := q_6
  show Go _ _ _ _ 0 0 17 _ [(.int 2), (.int ff), (.int 9), (.ref b1)]
  refine cS C hw 70 71 72 73 rfl rfl rfl rfl hq [] [(.ref b1), (.int 9), (.int ff), (.int 2)] pd_11 0 d12_17 ⟨rfl, rfl, rfl, rfl, rfl⟩ (by decide) ?_
  intro v_11 h_9 q_10
  obtain ⟨rfl, rfl⟩ := q_10
  show Go _ _ _ _ 0 0 20 _ [(.int kk)]
  refine gT C d12_20 36 (by decide) ?_
  refine g_ret C (eN hN) (v := (.int kk)) (ty := .int) rfl rfl (Or.inl ⟨rfl, Or.inl rfl, _, rfl⟩) d12_36 (by decide) (by decide) ?_
  exact ⟨rfl, rfl⟩
theorem rm_sioI_2_0_1 (hw : HW a0 Z) (a1 b1 : Addr) (x0 x1 : Int32) (h0 : Heap) (Z0 : n0 ≤ h0.size) (cm : Cmp Z) (O : Old Z n0 h0) (E0 : Exa Z h0 a1 "java/lang/String") (F0 : Fld Z h0 a1 "java/lang/String" "value" "[B" (.ref b1)) (F1 : Fld Z h0 a1 "java/lang/String" "coder" "B" (.int 0)) (A1 : Ary Z h0 b1 .byte [.int x0, .int x1]) (e0 : x0 = 9) :
    Met1 l Z ⟨"java/lang/String", "indexOf", "(II)I"⟩ jdk_42_method_80_code 3 (some .int) ⟨2, 0, 0, 32⟩ n0 #[(.ref a1), (.int 9), (.int 0)] h0 (fun v h' => v = some (.int 0) ∧ h0 = h') := rm_sio_2 hw a1 b1 x0 x1 0 0 h0 Z0 cm O E0 F0 F1 A1 (rm_lioA_2 hw b1 x0 x1 0 0 h0 Z0 A1 (by decide) (by decide) (rm_ioc_2_0_1 hw b1 x0 x1 h0 Z0 A1 e0))
theorem rm_sioI_2_0_2 (hw : HW a0 Z) (a1 b1 : Addr) (x0 x1 : Int32) (h0 : Heap) (Z0 : n0 ≤ h0.size) (cm : Cmp Z) (O : Old Z n0 h0) (E0 : Exa Z h0 a1 "java/lang/String") (F0 : Fld Z h0 a1 "java/lang/String" "value" "[B" (.ref b1)) (F1 : Fld Z h0 a1 "java/lang/String" "coder" "B" (.int 0)) (A1 : Ary Z h0 b1 .byte [.int x0, .int x1]) (e0 : ¬ x0 = 9) (e1 : x1 = 9) :
    Met1 l Z ⟨"java/lang/String", "indexOf", "(II)I"⟩ jdk_42_method_80_code 3 (some .int) ⟨2, 0, 0, 32⟩ n0 #[(.ref a1), (.int 9), (.int 0)] h0 (fun v h' => v = some (.int 1) ∧ h0 = h') := rm_sio_2 hw a1 b1 x0 x1 0 1 h0 Z0 cm O E0 F0 F1 A1 (rm_lioA_2 hw b1 x0 x1 0 1 h0 Z0 A1 (by decide) (by decide) (rm_ioc_2_0_2 hw b1 x0 x1 h0 Z0 A1 e0 e1))
theorem rm_sioI_2_0_0 (hw : HW a0 Z) (a1 b1 : Addr) (x0 x1 : Int32) (h0 : Heap) (Z0 : n0 ≤ h0.size) (cm : Cmp Z) (O : Old Z n0 h0) (E0 : Exa Z h0 a1 "java/lang/String") (F0 : Fld Z h0 a1 "java/lang/String" "value" "[B" (.ref b1)) (F1 : Fld Z h0 a1 "java/lang/String" "coder" "B" (.int 0)) (A1 : Ary Z h0 b1 .byte [.int x0, .int x1]) (e0 : ¬ x0 = 9) (e1 : ¬ x1 = 9) :
    Met1 l Z ⟨"java/lang/String", "indexOf", "(II)I"⟩ jdk_42_method_80_code 3 (some .int) ⟨2, 0, 0, 32⟩ n0 #[(.ref a1), (.int 9), (.int 0)] h0 (fun v h' => v = some (.int (-1 : Int32)) ∧ h0 = h') := rm_sio_2 hw a1 b1 x0 x1 0 (-1 : Int32) h0 Z0 cm O E0 F0 F1 A1 (rm_lioA_2 hw b1 x0 x1 0 (-1 : Int32) h0 Z0 A1 (by decide) (by decide) (rm_ioc_2_0_0 hw b1 x0 x1 h0 Z0 A1 e0 e1))
theorem rm_sioI_2_1_2 (hw : HW a0 Z) (a1 b1 : Addr) (x0 x1 : Int32) (h0 : Heap) (Z0 : n0 ≤ h0.size) (cm : Cmp Z) (O : Old Z n0 h0) (E0 : Exa Z h0 a1 "java/lang/String") (F0 : Fld Z h0 a1 "java/lang/String" "value" "[B" (.ref b1)) (F1 : Fld Z h0 a1 "java/lang/String" "coder" "B" (.int 0)) (A1 : Ary Z h0 b1 .byte [.int x0, .int x1]) (e1 : x1 = 9) :
    Met1 l Z ⟨"java/lang/String", "indexOf", "(II)I"⟩ jdk_42_method_80_code 3 (some .int) ⟨2, 0, 0, 32⟩ n0 #[(.ref a1), (.int 9), (.int 1)] h0 (fun v h' => v = some (.int 1) ∧ h0 = h') := rm_sio_2 hw a1 b1 x0 x1 1 1 h0 Z0 cm O E0 F0 F1 A1 (rm_lioA_2 hw b1 x0 x1 1 1 h0 Z0 A1 (by decide) (by decide) (rm_ioc_2_1_2 hw b1 x0 x1 h0 Z0 A1 e1))
theorem rm_sioI_2_1_0 (hw : HW a0 Z) (a1 b1 : Addr) (x0 x1 : Int32) (h0 : Heap) (Z0 : n0 ≤ h0.size) (cm : Cmp Z) (O : Old Z n0 h0) (E0 : Exa Z h0 a1 "java/lang/String") (F0 : Fld Z h0 a1 "java/lang/String" "value" "[B" (.ref b1)) (F1 : Fld Z h0 a1 "java/lang/String" "coder" "B" (.int 0)) (A1 : Ary Z h0 b1 .byte [.int x0, .int x1]) (e1 : ¬ x1 = 9) :
    Met1 l Z ⟨"java/lang/String", "indexOf", "(II)I"⟩ jdk_42_method_80_code 3 (some .int) ⟨2, 0, 0, 32⟩ n0 #[(.ref a1), (.int 9), (.int 1)] h0 (fun v h' => v = some (.int (-1 : Int32)) ∧ h0 = h') := rm_sio_2 hw a1 b1 x0 x1 1 (-1 : Int32) h0 Z0 cm O E0 F0 F1 A1 (rm_lioA_2 hw b1 x0 x1 1 (-1 : Int32) h0 Z0 A1 (by decide) (by decide) (rm_ioc_2_1_0 hw b1 x0 x1 h0 Z0 A1 e1))
theorem rm_sioI_2_2_0 (hw : HW a0 Z) (a1 b1 : Addr) (x0 x1 : Int32) (h0 : Heap) (Z0 : n0 ≤ h0.size) (cm : Cmp Z) (O : Old Z n0 h0) (E0 : Exa Z h0 a1 "java/lang/String") (F0 : Fld Z h0 a1 "java/lang/String" "value" "[B" (.ref b1)) (F1 : Fld Z h0 a1 "java/lang/String" "coder" "B" (.int 0)) (A1 : Ary Z h0 b1 .byte [.int x0, .int x1])  :
    Met1 l Z ⟨"java/lang/String", "indexOf", "(II)I"⟩ jdk_42_method_80_code 3 (some .int) ⟨2, 0, 0, 32⟩ n0 #[(.ref a1), (.int 9), (.int 2)] h0 (fun v h' => v = some (.int (-1 : Int32)) ∧ h0 = h') := rm_sio_2 hw a1 b1 x0 x1 2 (-1 : Int32) h0 Z0 cm O E0 F0 F1 A1 (rm_lioB_2 hw b1 x0 x1 h0 Z0 A1)
theorem rm_lioA_3 (hw : HW a0 Z) (a1 : Addr) (x0 x1 x2 : Int32) (ff kk : Int32) (h0 : Heap) (Z0 : n0 ≤ h0.size) (A1 : Ary Z h0 a1 .byte [.int x0, .int x1, .int x2]) (hf : ¬ ff < 0) (hl : ff < 3) (hq : Met1 l Z ⟨"java/lang/StringLatin1", "indexOfChar", "([BIII)I"⟩ jdk_43_method_23_code 6 (some .int) ⟨0, 0, 0, 0⟩ n0 #[(.ref a1), (.int 9), (.int ff), (.int 3)] h0 (fun v h' => v = some (.int kk) ∧ h0 = h')) :
    Met1 l Z ⟨"java/lang/StringLatin1", "indexOf", "([BIII)I"⟩ jdk_43_method_22_code 4 (some .int) ⟨1, 0, 0, 17⟩ n0 #[(.ref a1), (.int 9), (.int ff), (.int 3)] h0 (fun v h => v = some (.int kk) ∧ h0 = h) := by
  refine met_of (plainFor_of_name pn_2) (L0 := #[.val (.ref a1), .val (.int 9), .val (.int ff), .val (.int 3)]) (by first | (simp [argsToLocals, Value.category]; done) | rfl) ?_
  intro B C hN
  change Ctx B l _ _ "java/lang/StringLatin1" "indexOf" _ _ Z at C
  refine iN C 9 d16_0 rfl <| cS C hw 74 75 72 76 rfl rfl rfl rfl (rm_can hw  h0 Z0 ) [] [(.int 9)] pd_9 0 d16_1 ⟨rfl, rfl, rfl, rfl, rfl⟩ (by decide) ?_
  intro v_3 h_1 q_2
  obtain ⟨rfl, rfl⟩ := q_2
  show Go _ _ _ _ 0 0 4 _ [(.int 1)]
  refine fY C d16_4 (XT.i0_ne_t (by decide)) 9 (by decide) <| iN C ff d16_9 rfl <| iC C 0 d16_10 rfl <| cS C hw 77 78 79 80 rfl rfl rfl rfl (rm_max hw ff h0 Z0 hf) [] [(.int ff), (.int 0)] pd_22 0 d16_11 ⟨rfl, rfl, rfl, rfl, rfl⟩ (by decide) ?_
  intro v_7 h_5 q_6
  obtain ⟨rfl, rfl⟩ := q_6
  show Go _ _ _ _ 0 0 14 _ [(.int ff)]
  refine iT C d16_14 (#[aV a1, iV 9, iV ff, iV 3]) rfl <| iN C 3 d16_15 rfl <| aN C ((.ref a1)) d16_16 rfl rfl <| yarraylength C A1 (z := 3) rfl d16_17 <| cS C hw 81 82 79 83 rfl rfl rfl rfl (rm_min hw 3 h0 Z0 (by decide)) [] [(.int 3), (.int 3)] pd_23 0 d16_18 ⟨rfl, rfl, rfl, rfl, rfl⟩ (by decide) ?_
  intro v_11 h_9 q_10
  obtain ⟨rfl, rfl⟩ := q_10
  show Go _ _ _ _ 0 0 21 _ [(.int 3)]
  refine iT C d16_21 (#[aV a1, iV 9, iV ff, iV 3]) rfl <| iN C ff d16_22 rfl <| iN C 3 d16_23 rfl <| cY C d16_24 (XT.ii_lt_t hl) 29 (by decide) <| aN C ((.ref a1)) d16_29 rfl rfl <| iN C 9 d16_30 rfl <| iN C ff d16_31 rfl <| iN C 3 d16_32 rfl <| cS C hw 84 85 72 86 rfl rfl rfl rfl hq [] [(.ref a1), (.int 9), (.int ff), (.int 3)] pd_6 0 d16_33 ⟨rfl, rfl, rfl, rfl, rfl⟩ (by decide) ?_
  intro v_15 h_13 q_14
  obtain ⟨rfl, rfl⟩ := q_14
  show Go _ _ _ _ 0 0 36 _ [(.int kk)]
  refine g_ret C (eN hN) (v := (.int kk)) (ty := .int) rfl rfl (Or.inl ⟨rfl, Or.inl rfl, _, rfl⟩) d16_36 (by decide) (by decide) ?_
  exact ⟨rfl, rfl⟩
theorem rm_lioB_3 (hw : HW a0 Z) (a1 : Addr) (x0 x1 x2 : Int32) (h0 : Heap) (Z0 : n0 ≤ h0.size) (A1 : Ary Z h0 a1 .byte [.int x0, .int x1, .int x2]) :
    Met1 l Z ⟨"java/lang/StringLatin1", "indexOf", "([BIII)I"⟩ jdk_43_method_22_code 4 (some .int) ⟨1, 0, 0, 17⟩ n0 #[(.ref a1), (.int 9), (.int 3), (.int 3)] h0 (fun v h => v = some (.int (-1 : Int32)) ∧ h0 = h) := by
  refine met_of (plainFor_of_name pn_2) (L0 := #[.val (.ref a1), .val (.int 9), .val (.int 3), .val (.int 3)]) (by first | (simp [argsToLocals, Value.category]; done) | rfl) ?_
  intro B C hN
  change Ctx B l _ _ "java/lang/StringLatin1" "indexOf" _ _ Z at C
  refine iN C 9 d16_0 rfl <| cS C hw 74 75 72 76 rfl rfl rfl rfl (rm_can hw  h0 Z0 ) [] [(.int 9)] pd_9 0 d16_1 ⟨rfl, rfl, rfl, rfl, rfl⟩ (by decide) ?_
  intro v_3 h_1 q_2
  obtain ⟨rfl, rfl⟩ := q_2
  show Go _ _ _ _ 0 0 4 _ [(.int 1)]
  refine fY C d16_4 (XT.i0_ne_t (by decide)) 9 (by decide) <| iN C 3 d16_9 rfl <| iC C 0 d16_10 rfl <| cS C hw 77 78 79 80 rfl rfl rfl rfl (rm_max hw 3 h0 Z0 (by decide)) [] [(.int 3), (.int 0)] pd_22 0 d16_11 ⟨rfl, rfl, rfl, rfl, rfl⟩ (by decide) ?_
  intro v_7 h_5 q_6
  obtain ⟨rfl, rfl⟩ := q_6
  show Go _ _ _ _ 0 0 14 _ [(.int 3)]
  refine iT C d16_14 (#[aV a1, iV 9, iV 3, iV 3]) rfl <| iN C 3 d16_15 rfl <| aN C ((.ref a1)) d16_16 rfl rfl <| yarraylength C A1 (z := 3) rfl d16_17 <| cS C hw 81 82 79 83 rfl rfl rfl rfl (rm_min hw 3 h0 Z0 (by decide)) [] [(.int 3), (.int 3)] pd_23 0 d16_18 ⟨rfl, rfl, rfl, rfl, rfl⟩ (by decide) ?_
  intro v_11 h_9 q_10
  obtain ⟨rfl, rfl⟩ := q_10
  show Go _ _ _ _ 0 0 21 _ [(.int 3)]
  refine iT C d16_21 (#[aV a1, iV 9, iV 3, iV 3]) rfl <| iN C 3 d16_22 rfl <| iN C 3 d16_23 rfl <| yicmp_n C d16_24 (XT.ii_lt_f (by decide)) <| iC C ((-1 : Int32)) d16_27 rfl ?_
  refine g_ret C (eN hN) (v := (.int (-1 : Int32))) (ty := .int) rfl rfl (Or.inl ⟨rfl, Or.inl rfl, _, rfl⟩) d16_28 (by decide) (by decide) ?_
  exact ⟨rfl, rfl⟩
theorem rm_sio_3 (hw : HW a0 Z) (a1 b1 : Addr) (x0 x1 x2 : Int32) (ff kk : Int32) (h0 : Heap) (Z0 : n0 ≤ h0.size) (cm : Cmp Z) (O : Old Z n0 h0) (E0 : Exa Z h0 a1 "java/lang/String") (F0 : Fld Z h0 a1 "java/lang/String" "value" "[B" (.ref b1)) (F1 : Fld Z h0 a1 "java/lang/String" "coder" "B" (.int 0)) (A1 : Ary Z h0 b1 .byte [.int x0, .int x1, .int x2]) (hq : Met1 l Z ⟨"java/lang/StringLatin1", "indexOf", "([BIII)I"⟩ jdk_43_method_22_code 4 (some .int) ⟨1, 0, 0, 17⟩ n0 #[(.ref b1), (.int 9), (.int ff), (.int 3)] h0 (fun v h' => v = some (.int kk) ∧ h0 = h')) :
    Met1 l Z ⟨"java/lang/String", "indexOf", "(II)I"⟩ jdk_42_method_80_code 3 (some .int) ⟨2, 0, 0, 32⟩ n0 #[(.ref a1), (.int 9), (.int ff)] h0 (fun v h => v = some (.int kk) ∧ h0 = h) := by
  refine met_of (plainFor_of_name pn_4) (L0 := #[.val (.ref a1), .val (.int 9), .val (.int ff)]) (by first | (simp [argsToLocals, Value.category]; done) | rfl) ?_
  intro B C hN
  change Ctx B l _ _ "java/lang/String" "indexOf" _ _ Z at C
  have cm' := cm
  obtain ⟨cz, Scz, hcz⟩ := cm'
  refine aN C ((.ref a1)) d12_0 rfl rfl <| cV C hw 55 56 58 57 6 59 rfl rfl rfl rfl rfl rfl E0 (rm_isLatin1 hw a1 h0 Z0 cm O F1) [] [] pd_10 0 d12_1 ⟨rfl, rfl, rfl, rfl, rfl⟩ (by decide) ?_
  intro v_3 h_1 q_2
  obtain ⟨rfl, rfl⟩ := q_2
  show Go _ _ _ _ 0 0 4 _ [(.int 1)]
  refine yif_n C d12_4 (XT.i0_eq_f (by decide)) <| aN C ((.ref a1)) d12_7 rfl rfl <| ygetfield C (host := "") (v := (.ref b1)) (Or.inl (oW hw 35 rfl)) Via.refl F0 d12_8 <| iN C 9 d12_11 rfl <| iN C ff d12_12 rfl <| aN C ((.ref a1)) d12_13 rfl rfl <| cV C hw 60 61 63 62 6 64 rfl rfl rfl rfl rfl rfl E0 (rm_length_3 hw a1 b1 x0 x1 x2 h0 Z0 cm O E0 F0 F1 A1) [(.int ff), (.int 9), (.ref b1)] [] pd_14 3 d12_14 ⟨rfl, rfl, rfl, rfl, rfl⟩ (by decide) ?_
  intro v_7 h_5 q_6
  obtain ⟨rfl, rfl⟩ := q_6
  show Go _ _ _ _ 0 0 17 _ [(.int 3), (.int ff), (.int 9), (.ref b1)]
  refine cS C hw 70 71 72 73 rfl rfl rfl rfl hq [] [(.ref b1), (.int 9), (.int ff), (.int 3)] pd_11 0 d12_17 ⟨rfl, rfl, rfl, rfl, rfl⟩ (by decide) ?_
  intro v_11 h_9 q_10
  obtain ⟨rfl, rfl⟩ := q_10
  show Go _ _ _ _ 0 0 20 _ [(.int kk)]
  refine gT C d12_20 36 (by decide) ?_
  refine g_ret C (eN hN) (v := (.int kk)) (ty := .int) rfl rfl (Or.inl ⟨rfl, Or.inl rfl, _, rfl⟩) d12_36 (by decide) (by decide) ?_
  exact ⟨rfl, rfl⟩
theorem rm_sioI_3_0_1 (hw : HW a0 Z) (a1 b1 : Addr) (x0 x1 x2 : Int32) (h0 : Heap) (Z0 : n0 ≤ h0.size) (cm : Cmp Z) (O : Old Z n0 h0) (E0 : Exa Z h0 a1 "java/lang/String") (F0 : Fld Z h0 a1 "java/lang/String" "value" "[B" (.ref b1)) (F1 : Fld Z h0 a1 "java/lang/String" "coder" "B" (.int 0)) (A1 : Ary Z h0 b1 .byte [.int x0, .int x1, .int x2]) (e0 : x0 = 9) :
    Met1 l Z ⟨"java/lang/String", "indexOf", "(II)I"⟩ jdk_42_method_80_code 3 (some .int) ⟨2, 0, 0, 32⟩ n0 #[(.ref a1), (.int 9), (.int 0)] h0 (fun v h' => v = some (.int 0) ∧ h0 = h') := rm_sio_3 hw a1 b1 x0 x1 x2 0 0 h0 Z0 cm O E0 F0 F1 A1 (rm_lioA_3 hw b1 x0 x1 x2 0 0 h0 Z0 A1 (by decide) (by decide) (rm_ioc_3_0_1 hw b1 x0 x1 x2 h0 Z0 A1 e0))
theorem rm_sioI_3_0_2 (hw : HW a0 Z) (a1 b1 : Addr) (x0 x1 x2 : Int32) (h0 : Heap) (Z0 : n0 ≤ h0.size) (cm : Cmp Z) (O : Old Z n0 h0) (E0 : Exa Z h0 a1 "java/lang/String") (F0 : Fld Z h0 a1 "java/lang/String" "value" "[B" (.ref b1)) (F1 : Fld Z h0 a1 "java/lang/String" "coder" "B" (.int 0)) (A1 : Ary Z h0 b1 .byte [.int x0, .int x1, .int x2]) (e0 : ¬ x0 = 9) (e1 : x1 = 9) :
    Met1 l Z ⟨"java/lang/String", "indexOf", "(II)I"⟩ jdk_42_method_80_code 3 (some .int) ⟨2, 0, 0, 32⟩ n0 #[(.ref a1), (.int 9), (.int 0)] h0 (fun v h' => v = some (.int 1) ∧ h0 = h') := rm_sio_3 hw a1 b1 x0 x1 x2 0 1 h0 Z0 cm O E0 F0 F1 A1 (rm_lioA_3 hw b1 x0 x1 x2 0 1 h0 Z0 A1 (by decide) (by decide) (rm_ioc_3_0_2 hw b1 x0 x1 x2 h0 Z0 A1 e0 e1))
theorem rm_sioI_3_0_3 (hw : HW a0 Z) (a1 b1 : Addr) (x0 x1 x2 : Int32) (h0 : Heap) (Z0 : n0 ≤ h0.size) (cm : Cmp Z) (O : Old Z n0 h0) (E0 : Exa Z h0 a1 "java/lang/String") (F0 : Fld Z h0 a1 "java/lang/String" "value" "[B" (.ref b1)) (F1 : Fld Z h0 a1 "java/lang/String" "coder" "B" (.int 0)) (A1 : Ary Z h0 b1 .byte [.int x0, .int x1, .int x2]) (e0 : ¬ x0 = 9) (e1 : ¬ x1 = 9) (e2 : x2 = 9) :
    Met1 l Z ⟨"java/lang/String", "indexOf", "(II)I"⟩ jdk_42_method_80_code 3 (some .int) ⟨2, 0, 0, 32⟩ n0 #[(.ref a1), (.int 9), (.int 0)] h0 (fun v h' => v = some (.int 2) ∧ h0 = h') := rm_sio_3 hw a1 b1 x0 x1 x2 0 2 h0 Z0 cm O E0 F0 F1 A1 (rm_lioA_3 hw b1 x0 x1 x2 0 2 h0 Z0 A1 (by decide) (by decide) (rm_ioc_3_0_3 hw b1 x0 x1 x2 h0 Z0 A1 e0 e1 e2))
theorem rm_sioI_3_0_0 (hw : HW a0 Z) (a1 b1 : Addr) (x0 x1 x2 : Int32) (h0 : Heap) (Z0 : n0 ≤ h0.size) (cm : Cmp Z) (O : Old Z n0 h0) (E0 : Exa Z h0 a1 "java/lang/String") (F0 : Fld Z h0 a1 "java/lang/String" "value" "[B" (.ref b1)) (F1 : Fld Z h0 a1 "java/lang/String" "coder" "B" (.int 0)) (A1 : Ary Z h0 b1 .byte [.int x0, .int x1, .int x2]) (e0 : ¬ x0 = 9) (e1 : ¬ x1 = 9) (e2 : ¬ x2 = 9) :
    Met1 l Z ⟨"java/lang/String", "indexOf", "(II)I"⟩ jdk_42_method_80_code 3 (some .int) ⟨2, 0, 0, 32⟩ n0 #[(.ref a1), (.int 9), (.int 0)] h0 (fun v h' => v = some (.int (-1 : Int32)) ∧ h0 = h') := rm_sio_3 hw a1 b1 x0 x1 x2 0 (-1 : Int32) h0 Z0 cm O E0 F0 F1 A1 (rm_lioA_3 hw b1 x0 x1 x2 0 (-1 : Int32) h0 Z0 A1 (by decide) (by decide) (rm_ioc_3_0_0 hw b1 x0 x1 x2 h0 Z0 A1 e0 e1 e2))
theorem rm_sioI_3_1_2 (hw : HW a0 Z) (a1 b1 : Addr) (x0 x1 x2 : Int32) (h0 : Heap) (Z0 : n0 ≤ h0.size) (cm : Cmp Z) (O : Old Z n0 h0) (E0 : Exa Z h0 a1 "java/lang/String") (F0 : Fld Z h0 a1 "java/lang/String" "value" "[B" (.ref b1)) (F1 : Fld Z h0 a1 "java/lang/String" "coder" "B" (.int 0)) (A1 : Ary Z h0 b1 .byte [.int x0, .int x1, .int x2]) (e1 : x1 = 9) :
    Met1 l Z ⟨"java/lang/String", "indexOf", "(II)I"⟩ jdk_42_method_80_code 3 (some .int) ⟨2, 0, 0, 32⟩ n0 #[(.ref a1), (.int 9), (.int 1)] h0 (fun v h' => v = some (.int 1) ∧ h0 = h') := rm_sio_3 hw a1 b1 x0 x1 x2 1 1 h0 Z0 cm O E0 F0 F1 A1 (rm_lioA_3 hw b1 x0 x1 x2 1 1 h0 Z0 A1 (by decide) (by decide) (rm_ioc_3_1_2 hw b1 x0 x1 x2 h0 Z0 A1 e1))
theorem rm_sioI_3_1_3 (hw : HW a0 Z) (a1 b1 : Addr) (x0 x1 x2 : Int32) (h0 : Heap) (Z0 : n0 ≤ h0.size) (cm : Cmp Z) (O : Old Z n0 h0) (E0 : Exa Z h0 a1 "java/lang/String") (F0 : Fld Z h0 a1 "java/lang/String" "value" "[B" (.ref b1)) (F1 : Fld Z h0 a1 "java/lang/String" "coder" "B" (.int 0)) (A1 : Ary Z h0 b1 .byte [.int x0, .int x1, .int x2]) (e1 : ¬ x1 = 9) (e2 : x2 = 9) :
    Met1 l Z ⟨"java/lang/String", "indexOf", "(II)I"⟩ jdk_42_method_80_code 3 (some .int) ⟨2, 0, 0, 32⟩ n0 #[(.ref a1), (.int 9), (.int 1)] h0 (fun v h' => v = some (.int 2) ∧ h0 = h') := rm_sio_3 hw a1 b1 x0 x1 x2 1 2 h0 Z0 cm O E0 F0 F1 A1 (rm_lioA_3 hw b1 x0 x1 x2 1 2 h0 Z0 A1 (by decide) (by decide) (rm_ioc_3_1_3 hw b1 x0 x1 x2 h0 Z0 A1 e1 e2))
theorem rm_sioI_3_1_0 (hw : HW a0 Z) (a1 b1 : Addr) (x0 x1 x2 : Int32) (h0 : Heap) (Z0 : n0 ≤ h0.size) (cm : Cmp Z) (O : Old Z n0 h0) (E0 : Exa Z h0 a1 "java/lang/String") (F0 : Fld Z h0 a1 "java/lang/String" "value" "[B" (.ref b1)) (F1 : Fld Z h0 a1 "java/lang/String" "coder" "B" (.int 0)) (A1 : Ary Z h0 b1 .byte [.int x0, .int x1, .int x2]) (e1 : ¬ x1 = 9) (e2 : ¬ x2 = 9) :
    Met1 l Z ⟨"java/lang/String", "indexOf", "(II)I"⟩ jdk_42_method_80_code 3 (some .int) ⟨2, 0, 0, 32⟩ n0 #[(.ref a1), (.int 9), (.int 1)] h0 (fun v h' => v = some (.int (-1 : Int32)) ∧ h0 = h') := rm_sio_3 hw a1 b1 x0 x1 x2 1 (-1 : Int32) h0 Z0 cm O E0 F0 F1 A1 (rm_lioA_3 hw b1 x0 x1 x2 1 (-1 : Int32) h0 Z0 A1 (by decide) (by decide) (rm_ioc_3_1_0 hw b1 x0 x1 x2 h0 Z0 A1 e1 e2))
theorem rm_sioI_3_2_3 (hw : HW a0 Z) (a1 b1 : Addr) (x0 x1 x2 : Int32) (h0 : Heap) (Z0 : n0 ≤ h0.size) (cm : Cmp Z) (O : Old Z n0 h0) (E0 : Exa Z h0 a1 "java/lang/String") (F0 : Fld Z h0 a1 "java/lang/String" "value" "[B" (.ref b1)) (F1 : Fld Z h0 a1 "java/lang/String" "coder" "B" (.int 0)) (A1 : Ary Z h0 b1 .byte [.int x0, .int x1, .int x2]) (e2 : x2 = 9) :
    Met1 l Z ⟨"java/lang/String", "indexOf", "(II)I"⟩ jdk_42_method_80_code 3 (some .int) ⟨2, 0, 0, 32⟩ n0 #[(.ref a1), (.int 9), (.int 2)] h0 (fun v h' => v = some (.int 2) ∧ h0 = h') := rm_sio_3 hw a1 b1 x0 x1 x2 2 2 h0 Z0 cm O E0 F0 F1 A1 (rm_lioA_3 hw b1 x0 x1 x2 2 2 h0 Z0 A1 (by decide) (by decide) (rm_ioc_3_2_3 hw b1 x0 x1 x2 h0 Z0 A1 e2))
theorem rm_sioI_3_2_0 (hw : HW a0 Z) (a1 b1 : Addr) (x0 x1 x2 : Int32) (h0 : Heap) (Z0 : n0 ≤ h0.size) (cm : Cmp Z) (O : Old Z n0 h0) (E0 : Exa Z h0 a1 "java/lang/String") (F0 : Fld Z h0 a1 "java/lang/String" "value" "[B" (.ref b1)) (F1 : Fld Z h0 a1 "java/lang/String" "coder" "B" (.int 0)) (A1 : Ary Z h0 b1 .byte [.int x0, .int x1, .int x2]) (e2 : ¬ x2 = 9) :
    Met1 l Z ⟨"java/lang/String", "indexOf", "(II)I"⟩ jdk_42_method_80_code 3 (some .int) ⟨2, 0, 0, 32⟩ n0 #[(.ref a1), (.int 9), (.int 2)] h0 (fun v h' => v = some (.int (-1 : Int32)) ∧ h0 = h') := rm_sio_3 hw a1 b1 x0 x1 x2 2 (-1 : Int32) h0 Z0 cm O E0 F0 F1 A1 (rm_lioA_3 hw b1 x0 x1 x2 2 (-1 : Int32) h0 Z0 A1 (by decide) (by decide) (rm_ioc_3_2_0 hw b1 x0 x1 x2 h0 Z0 A1 e2))
theorem rm_sioI_3_3_0 (hw : HW a0 Z) (a1 b1 : Addr) (x0 x1 x2 : Int32) (h0 : Heap) (Z0 : n0 ≤ h0.size) (cm : Cmp Z) (O : Old Z n0 h0) (E0 : Exa Z h0 a1 "java/lang/String") (F0 : Fld Z h0 a1 "java/lang/String" "value" "[B" (.ref b1)) (F1 : Fld Z h0 a1 "java/lang/String" "coder" "B" (.int 0)) (A1 : Ary Z h0 b1 .byte [.int x0, .int x1, .int x2])  :
    Met1 l Z ⟨"java/lang/String", "indexOf", "(II)I"⟩ jdk_42_method_80_code 3 (some .int) ⟨2, 0, 0, 32⟩ n0 #[(.ref a1), (.int 9), (.int 3)] h0 (fun v h' => v = some (.int (-1 : Int32)) ∧ h0 = h') := rm_sio_3 hw a1 b1 x0 x1 x2 3 (-1 : Int32) h0 Z0 cm O E0 F0 F1 A1 (rm_lioB_3 hw b1 x0 x1 x2 h0 Z0 A1)
theorem rm_lioA_4 (hw : HW a0 Z) (a1 : Addr) (x0 x1 x2 x3 : Int32) (ff kk : Int32) (h0 : Heap) (Z0 : n0 ≤ h0.size) (A1 : Ary Z h0 a1 .byte [.int x0, .int x1, .int x2, .int x3]) (hf : ¬ ff < 0) (hl : ff < 4) (hq : Met1 l Z ⟨"java/lang/StringLatin1", "indexOfChar", "([BIII)I"⟩ jdk_43_method_23_code 6 (some .int) ⟨0, 0, 0, 0⟩ n0 #[(.ref a1), (.int 9), (.int ff), (.int 4)] h0 (fun v h' => v = some (.int kk) ∧ h0 = h')) :
    Met1 l Z ⟨"java/lang/StringLatin1", "indexOf", "([BIII)I"⟩ jdk_43_method_22_code 4 (some .int) ⟨1, 0, 0, 17⟩ n0 #[(.ref a1), (.int 9), (.int ff), (.int 4)] h0 (fun v h => v = some (.int kk) ∧ h0 = h) := by
  refine met_of (plainFor_of_name pn_2) (L0 := #[.val (.ref a1), .val (.int 9), .val (.int ff), .val (.int 4)]) (by first | (simp [argsToLocals, Value.category]; done) | rfl) ?_
  intro B C hN
  change Ctx B l _ _ "java/lang/StringLatin1" "indexOf" _ _ Z at C
  refine iN C 9 d16_0 rfl <| cS C hw 74 75 72 76 rfl rfl rfl rfl (rm_can hw  h0 Z0 ) [] [(.int 9)] pd_9 0 d16_1 ⟨rfl, rfl, rfl, rfl, rfl⟩ (by decide) ?_
  intro v_3 h_1 q_2
  obtain ⟨rfl, rfl⟩ := q_2
  show Go _ _ _ _ 0 0 4 _ [(.int 1)]
  refine fY C d16_4 (XT.i0_ne_t (by decide)) 9 (by decide) <| iN C ff d16_9 rfl <| iC C 0 d16_10 rfl <| cS C hw 77 78 79 80 rfl rfl rfl rfl (rm_max hw ff h0 Z0 hf) [] [(.int ff), (.int 0)] pd_22 0 d16_11 ⟨rfl, rfl, rfl, rfl, rfl⟩ (by decide) ?_
  intro v_7 h_5 q_6
  obtain ⟨rfl, rfl⟩ := q_6
  show Go _ _ _ _ 0 0 14 _ [(.int ff)]
  refine iT C d16_14 (#[aV a1, iV 9, iV ff, iV 4]) rfl <| iN C 4 d16_15 rfl <| aN C ((.ref a1)) d16_16 rfl rfl <| yarraylength C A1 (z := 4) rfl d16_17 <| cS C hw 81 82 79 83 rfl rfl rfl rfl (rm_min hw 4 h0 Z0 (by decide)) [] [(.int 4), (.int 4)] pd_23 0 d16_18 ⟨rfl, rfl, rfl, rfl, rfl⟩ (by decide) ?_
  intro v_11 h_9 q_10
  obtain ⟨rfl, rfl⟩ := q_10
  show Go _ _ _ _ 0 0 21 _ [(.int 4)]
  refine iT C d16_21 (#[aV a1, iV 9, iV ff, iV 4]) rfl <| iN C ff d16_22 rfl <| iN C 4 d16_23 rfl <| cY C d16_24 (XT.ii_lt_t hl) 29 (by decide) <| aN C ((.ref a1)) d16_29 rfl rfl <| iN C 9 d16_30 rfl <| iN C ff d16_31 rfl <| iN C 4 d16_32 rfl <| cS C hw 84 85 72 86 rfl rfl rfl rfl hq [] [(.ref a1), (.int 9), (.int ff), (.int 4)] pd_6 0 d16_33 ⟨rfl, rfl, rfl, rfl, rfl⟩ (by decide) ?_
  intro v_15 h_13 q_14
  obtain ⟨rfl, rfl⟩ := q_14
  show Go _ _ _ _ 0 0 36 _ [(.int kk)]
  refine g_ret C (eN hN) (v := (.int kk)) (ty := .int) rfl rfl (Or.inl ⟨rfl, Or.inl rfl, _, rfl⟩) d16_36 (by decide) (by decide) ?_
  exact ⟨rfl, rfl⟩
theorem rm_lioB_4 (hw : HW a0 Z) (a1 : Addr) (x0 x1 x2 x3 : Int32) (h0 : Heap) (Z0 : n0 ≤ h0.size) (A1 : Ary Z h0 a1 .byte [.int x0, .int x1, .int x2, .int x3]) :
    Met1 l Z ⟨"java/lang/StringLatin1", "indexOf", "([BIII)I"⟩ jdk_43_method_22_code 4 (some .int) ⟨1, 0, 0, 17⟩ n0 #[(.ref a1), (.int 9), (.int 4), (.int 4)] h0 (fun v h => v = some (.int (-1 : Int32)) ∧ h0 = h) := by
  refine met_of (plainFor_of_name pn_2) (L0 := #[.val (.ref a1), .val (.int 9), .val (.int 4), .val (.int 4)]) (by first | (simp [argsToLocals, Value.category]; done) | rfl) ?_
  intro B C hN
  change Ctx B l _ _ "java/lang/StringLatin1" "indexOf" _ _ Z at C
  refine iN C 9 d16_0 rfl <| cS C hw 74 75 72 76 rfl rfl rfl rfl (rm_can hw  h0 Z0 ) [] [(.int 9)] pd_9 0 d16_1 ⟨rfl, rfl, rfl, rfl, rfl⟩ (by decide) ?_
  intro v_3 h_1 q_2
  obtain ⟨rfl, rfl⟩ := q_2
  show Go _ _ _ _ 0 0 4 _ [(.int 1)]
  refine fY C d16_4 (XT.i0_ne_t (by decide)) 9 (by decide) <| iN C 4 d16_9 rfl <| iC C 0 d16_10 rfl <| cS C hw 77 78 79 80 rfl rfl rfl rfl (rm_max hw 4 h0 Z0 (by decide)) [] [(.int 4), (.int 0)] pd_22 0 d16_11 ⟨rfl, rfl, rfl, rfl, rfl⟩ (by decide) ?_
  intro v_7 h_5 q_6
  obtain ⟨rfl, rfl⟩ := q_6
  show Go _ _ _ _ 0 0 14 _ [(.int 4)]
  refine iT C d16_14 (#[aV a1, iV 9, iV 4, iV 4]) rfl <| iN C 4 d16_15 rfl <| aN C ((.ref a1)) d16_16 rfl rfl <| yarraylength C A1 (z := 4) rfl d16_17 <| cS C hw 81 82 79 83 rfl rfl rfl rfl (rm_min hw 4 h0 Z0 (by decide)) [] [(.int 4), (.int 4)] pd_23 0 d16_18 ⟨rfl, rfl, rfl, rfl, rfl⟩ (by decide) ?_
  intro v_11 h_9 q_10
  obtain ⟨rfl, rfl⟩ := q_10
  show Go _ _ _ _ 0 0 21 _ [(.int 4)]
  refine iT C d16_21 (#[aV a1, iV 9, iV 4, iV 4]) rfl <| iN C 4 d16_22 rfl <| iN C 4 d16_23 rfl <| yicmp_n C d16_24 (XT.ii_lt_f (by decide)) <| iC C ((-1 : Int32)) d16_27 rfl ?_
  refine g_ret C (eN hN) (v := (.int (-1 : Int32))) (ty := .int) rfl rfl (Or.inl ⟨rfl, Or.inl rfl, _, rfl⟩) d16_28 (by decide) (by decide) ?_
  exact ⟨rfl, rfl⟩
theorem rm_sio_4 (hw : HW a0 Z) (a1 b1 : Addr) (x0 x1 x2 x3 : Int32) (ff kk : Int32) (h0 : Heap) (Z0 : n0 ≤ h0.size) (cm : Cmp Z) (O : Old Z n0 h0) (E0 : Exa Z h0 a1 "java/lang/String") (F0 : Fld Z h0 a1 "java/lang/String" "value" "[B" (.ref b1)) (F1 : Fld Z h0 a1 "java/lang/String" "coder" "B" (.int 0)) (A1 : Ary Z h0 b1 .byte [.int x0, .int x1, .int x2, .int x3]) (hq : Met1 l Z ⟨"java/lang/StringLatin1", "indexOf", "([BIII)I"⟩ jdk_43_method_22_code 4 (some .int) ⟨1, 0, 0, 17⟩ n0 #[(.ref b1), (.int 9), (.int ff), (.int 4)] h0 (fun v h' => v = some (.int kk) ∧ h0 = h')) :
    Met1 l Z ⟨"java/lang/String", "indexOf", "(II)I"⟩ jdk_42_method_80_code 3 (some .int) ⟨2, 0, 0, 32⟩ n0 #[(.ref a1), (.int 9), (.int ff)] h0 (fun v h => v = some (.int kk) ∧ h0 = h) := by
  refine met_of (plainFor_of_name pn_4) (L0 := #[.val (.ref a1), .val (.int 9), .val (.int ff)]) (by first | (simp [argsToLocals, Value.category]; done) | rfl) ?_
  intro B C hN
  change Ctx B l _ _ "java/lang/String" "indexOf" _ _ Z at C
  have cm' := cm
  obtain ⟨cz, Scz, hcz⟩ := cm'
  refine aN C ((.ref a1)) d12_0 rfl rfl <| cV C hw 55 56 58 57 6 59 rfl rfl rfl rfl rfl rfl E0 (rm_isLatin1 hw a1 h0 Z0 cm O F1) [] [] pd_10 0 d12_1 ⟨rfl, rfl, rfl, rfl, rfl⟩ (by decide) ?_
  intro v_3 h_1 q_2
  obtain ⟨rfl, rfl⟩ := q_2
  show Go _ _ _ _ 0 0 4 _ [(.int 1)]
  refine yif_n C d12_4 (XT.i0_eq_f (by decide)) <| aN C ((.ref a1)) d12_7 rfl rfl <| ygetfield C (host := "") (v := (.ref b1)) (Or.inl (oW hw 35 rfl)) Via.refl F0 d12_8 <| iN C 9 d12_11 rfl <| iN C ff d12_12 rfl <| aN C ((.ref a1)) d12_13 rfl rfl <| cV C hw 60 61 63 62 6 64 rfl rfl rfl rfl rfl rfl E0 (rm_length_4 hw a1 b1 x0 x1 x2 x3 h0 Z0 cm O E0 F0 F1 A1) [(.int ff), (.int 9), (.ref b1)] [] pd_14 3 d12_14 ⟨rfl, rfl, rfl, rfl, rfl⟩ (by decide) ?_
  intro v_7 h_5 q_6
  obtain ⟨rfl, rfl⟩ := q_6
  show Go _ _ _ _ 0 0 17 _ [(.int 4), (.int ff), (.int 9), (.ref b1)]
  refine cS C hw 70 71 72 73 rfl rfl rfl rfl hq [] [(.ref b1), (.int 9), (.int ff), (.int 4)] pd_11 0 d12_17 ⟨rfl, rfl, rfl, rfl, rfl⟩ (by decide) ?_
  intro v_11 h_9 q_10
  obtain ⟨rfl, rfl⟩ := q_10
  show Go _ _ _ _ 0 0 20 _ [(.int kk)]
  refine gT C d12_20 36 (by decide) ?_
  refine g_ret C (eN hN) (v := (.int kk)) (ty := .int) rfl rfl (Or.inl ⟨rfl, Or.inl rfl, _, rfl⟩) d12_36 (by decide) (by decide) ?_
  exact ⟨rfl, rfl⟩
theorem rm_sioI_4_0_1 (hw : HW a0 Z) (a1 b1 : Addr) (x0 x1 x2 x3 : Int32) (h0 : Heap) (Z0 : n0 ≤ h0.size) (cm : Cmp Z) (O : Old Z n0 h0) (E0 : Exa Z h0 a1 "java/lang/String") (F0 : Fld Z h0 a1 "java/lang/String" "value" "[B" (.ref b1)) (F1 : Fld Z h0 a1 "java/lang/String" "coder" "B" (.int 0)) (A1 : Ary Z h0 b1 .byte [.int x0, .int x1, .int x2, .int x3]) (e0 : x0 = 9) :
    Met1 l Z ⟨"java/lang/String", "indexOf", "(II)I"⟩ jdk_42_method_80_code 3 (some .int) ⟨2, 0, 0, 32⟩ n0 #[(.ref a1), (.int 9), (.int 0)] h0 (fun v h' => v = some (.int 0) ∧ h0 = h') := rm_sio_4 hw a1 b1 x0 x1 x2 x3 0 0 h0 Z0 cm O E0 F0 F1 A1 (rm_lioA_4 hw b1 x0 x1 x2 x3 0 0 h0 Z0 A1 (by decide) (by decide) (rm_ioc_4_0_1 hw b1 x0 x1 x2 x3 h0 Z0 A1 e0))
theorem rm_sioI_4_0_2 (hw : HW a0 Z) (a1 b1 : Addr) (x0 x1 x2 x3 : Int32) (h0 : Heap) (Z0 : n0 ≤ h0.size) (cm : Cmp Z) (O : Old Z n0 h0) (E0 : Exa Z h0 a1 "java/lang/String") (F0 : Fld Z h0 a1 "java/lang/String" "value" "[B" (.ref b1)) (F1 : Fld Z h0 a1 "java/lang/String" "coder" "B" (.int 0)) (A1 : Ary Z h0 b1 .byte [.int x0, .int x1, .int x2, .int x3]) (e0 : ¬ x0 = 9) (e1 : x1 = 9) :
    Met1 l Z ⟨"java/lang/String", "indexOf", "(II)I"⟩ jdk_42_method_80_code 3 (some .int) ⟨2, 0, 0, 32⟩ n0 #[(.ref a1), (.int 9), (.int 0)] h0 (fun v h' => v = some (.int 1) ∧ h0 = h') := rm_sio_4 hw a1 b1 x0 x1 x2 x3 0 1 h0 Z0 cm O E0 F0 F1 A1 (rm_lioA_4 hw b1 x0 x1 x2 x3 0 1 h0 Z0 A1 (by decide) (by decide) (rm_ioc_4_0_2 hw b1 x0 x1 x2 x3 h0 Z0 A1 e0 e1))
theorem rm_sioI_4_0_3 (hw : HW a0 Z) (a1 b1 : Addr) (x0 x1 x2 x3 : Int32) (h0 : Heap) (Z0 : n0 ≤ h0.size) (cm : Cmp Z) (O : Old Z n0 h0) (E0 : Exa Z h0 a1 "java/lang/String") (F0 : Fld Z h0 a1 "java/lang/String" "value" "[B" (.ref b1)) (F1 : Fld Z h0 a1 "java/lang/String" "coder" "B" (.int 0)) (A1 : Ary Z h0 b1 .byte [.int x0, .int x1, .int x2, .int x3]) (e0 : ¬ x0 = 9) (e1 : ¬ x1 = 9) (e2 : x2 = 9) :
    Met1 l Z ⟨"java/lang/String", "indexOf", "(II)I"⟩ jdk_42_method_80_code 3 (some .int) ⟨2, 0, 0, 32⟩ n0 #[(.ref a1), (.int 9), (.int 0)] h0 (fun v h' => v = some (.int 2) ∧ h0 = h') := rm_sio_4 hw a1 b1 x0 x1 x2 x3 0 2 h0 Z0 cm O E0 F0 F1 A1 (rm_lioA_4 hw b1 x0 x1 x2 x3 0 2 h0 Z0 A1 (by decide) (by decide) (rm_ioc_4_0_3 hw b1 x0 x1 x2 x3 h0 Z0 A1 e0 e1 e2))
theorem rm_sioI_4_0_4 (hw : HW a0 Z) (a1 b1 : Addr) (x0 x1 x2 x3 : Int32) (h0 : Heap) (Z0 : n0 ≤ h0.size) (cm : Cmp Z) (O : Old Z n0 h0) (E0 : Exa Z h0 a1 "java/lang/String") (F0 : Fld Z h0 a1 "java/lang/String" "value" "[B" (.ref b1)) (F1 : Fld Z h0 a1 "java/lang/String" "coder" "B" (.int 0)) (A1 : Ary Z h0 b1 .byte [.int x0, .int x1, .int x2, .int x3]) (e0 : ¬ x0 = 9) (e1 : ¬ x1 = 9) (e2 : ¬ x2 = 9) (e3 : x3 = 9) :
    Met1 l Z ⟨"java/lang/String", "indexOf", "(II)I"⟩ jdk_42_method_80_code 3 (some .int) ⟨2, 0, 0, 32⟩ n0 #[(.ref a1), (.int 9), (.int 0)] h0 (fun v h' => v = some (.int 3) ∧ h0 = h') := rm_sio_4 hw a1 b1 x0 x1 x2 x3 0 3 h0 Z0 cm O E0 F0 F1 A1 (rm_lioA_4 hw b1 x0 x1 x2 x3 0 3 h0 Z0 A1 (by decide) (by decide) (rm_ioc_4_0_4 hw b1 x0 x1 x2 x3 h0 Z0 A1 e0 e1 e2 e3))
theorem rm_sioI_4_0_0 (hw : HW a0 Z) (a1 b1 : Addr) (x0 x1 x2 x3 : Int32) (h0 : Heap) (Z0 : n0 ≤ h0.size) (cm : Cmp Z) (O : Old Z n0 h0) (E0 : Exa Z h0 a1 "java/lang/String") (F0 : Fld Z h0 a1 "java/lang/String" "value" "[B" (.ref b1)) (F1 : Fld Z h0 a1 "java/lang/String" "coder" "B" (.int 0)) (A1 : Ary Z h0 b1 .byte [.int x0, .int x1, .int x2, .int x3]) (e0 : ¬ x0 = 9) (e1 : ¬ x1 = 9) (e2 : ¬ x2 = 9) (e3 : ¬ x3 = 9) :
    Met1 l Z ⟨"java/lang/String", "indexOf", "(II)I"⟩ jdk_42_method_80_code 3 (some .int) ⟨2, 0, 0, 32⟩ n0 #[(.ref a1), (.int 9), (.int 0)] h0 (fun v h' => v = some (.int (-1 : Int32)) ∧ h0 = h') := rm_sio_4 hw a1 b1 x0 x1 x2 x3 0 (-1 : Int32) h0 Z0 cm O E0 F0 F1 A1 (rm_lioA_4 hw b1 x0 x1 x2 x3 0 (-1 : Int32) h0 Z0 A1 (by decide) (by decide) (rm_ioc_4_0_0 hw b1 x0 x1 x2 x3 h0 Z0 A1 e0 e1 e2 e3))
theorem rm_sioI_4_1_2 (hw : HW a0 Z) (a1 b1 : Addr) (x0 x1 x2 x3 : Int32) (h0 : Heap) (Z0 : n0 ≤ h0.size) (cm : Cmp Z) (O : Old Z n0 h0) (E0 : Exa Z h0 a1 "java/lang/String") (F0 : Fld Z h0 a1 "java/lang/String" "value" "[B" (.ref b1)) (F1 : Fld Z h0 a1 "java/lang/String" "coder" "B" (.int 0)) (A1 : Ary Z h0 b1 .byte [.int x0, .int x1, .int x2, .int x3]) (e1 : x1 = 9) :
    Met1 l Z ⟨"java/lang/String", "indexOf", "(II)I"⟩ jdk_42_method_80_code 3 (some .int) ⟨2, 0, 0, 32⟩ n0 #[(.ref a1), (.int 9), (.int 1)] h0 (fun v h' => v = some (.int 1) ∧ h0 = h') := rm_sio_4 hw a1 b1 x0 x1 x2 x3 1 1 h0 Z0 cm O E0 F0 F1 A1 (rm_lioA_4 hw b1 x0 x1 x2 x3 1 1 h0 Z0 A1 (by decide) (by decide) (rm_ioc_4_1_2 hw b1 x0 x1 x2 x3 h0 Z0 A1 e1))
theorem rm_sioI_4_1_3 (hw : HW a0 Z) (a1 b1 : Addr) (x0 x1 x2 x3 : Int32) (h0 : Heap) (Z0 : n0 ≤ h0.size) (cm : Cmp Z) (O : Old Z n0 h0) (E0 : Exa Z h0 a1 "java/lang/String") (F0 : Fld Z h0 a1 "java/lang/String" "value" "[B" (.ref b1)) (F1 : Fld Z h0 a1 "java/lang/String" "coder" "B" (.int 0)) (A1 : Ary Z h0 b1 .byte [.int x0, .int x1, .int x2, .int x3]) (e1 : ¬ x1 = 9) (e2 : x2 = 9) :
    Met1 l Z ⟨"java/lang/String", "indexOf", "(II)I"⟩ jdk_42_method_80_code 3 (some .int) ⟨2, 0, 0, 32⟩ n0 #[(.ref a1), (.int 9), (.int 1)] h0 (fun v h' => v = some (.int 2) ∧ h0 = h') := rm_sio_4 hw a1 b1 x0 x1 x2 x3 1 2 h0 Z0 cm O E0 F0 F1 A1 (rm_lioA_4 hw b1 x0 x1 x2 x3 1 2 h0 Z0 A1 (by decide) (by decide) (rm_ioc_4_1_3 hw b1 x0 x1 x2 x3 h0 Z0 A1 e1 e2))
theorem rm_sioI_4_1_4 (hw : HW a0 Z) (a1 b1 : Addr) (x0 x1 x2 x3 : Int32) (h0 : Heap) (Z0 : n0 ≤ h0.size) (cm : Cmp Z) (O : Old Z n0 h0) (E0 : Exa Z h0 a1 "java/lang/String") (F0 : Fld Z h0 a1 "java/lang/String" "value" "[B" (.ref b1)) (F1 : Fld Z h0 a1 "java/lang/String" "coder" "B" (.int 0)) (A1 : Ary Z h0 b1 .byte [.int x0, .int x1, .int x2, .int x3]) (e1 : ¬ x1 = 9) (e2 : ¬ x2 = 9) (e3 : x3 = 9) :
    Met1 l Z ⟨"java/lang/String", "indexOf", "(II)I"⟩ jdk_42_method_80_code 3 (some .int) ⟨2, 0, 0, 32⟩ n0 #[(.ref a1), (.int 9), (.int 1)] h0 (fun v h' => v = some (.int 3) ∧ h0 = h') := rm_sio_4 hw a1 b1 x0 x1 x2 x3 1 3 h0 Z0 cm O E0 F0 F1 A1 (rm_lioA_4 hw b1 x0 x1 x2 x3 1 3 h0 Z0 A1 (by decide) (by decide) (rm_ioc_4_1_4 hw b1 x0 x1 x2 x3 h0 Z0 A1 e1 e2 e3))
theorem rm_sioI_4_1_0 (hw : HW a0 Z) (a1 b1 : Addr) (x0 x1 x2 x3 : Int32) (h0 : Heap) (Z0 : n0 ≤ h0.size) (cm : Cmp Z) (O : Old Z n0 h0) (E0 : Exa Z h0 a1 "java/lang/String") (F0 : Fld Z h0 a1 "java/lang/String" "value" "[B" (.ref b1)) (F1 : Fld Z h0 a1 "java/lang/String" "coder" "B" (.int 0)) (A1 : Ary Z h0 b1 .byte [.int x0, .int x1, .int x2, .int x3]) (e1 : ¬ x1 = 9) (e2 : ¬ x2 = 9) (e3 : ¬ x3 = 9) :
    Met1 l Z ⟨"java/lang/String", "indexOf", "(II)I"⟩ jdk_42_method_80_code 3 (some .int) ⟨2, 0, 0, 32⟩ n0 #[(.ref a1), (.int 9), (.int 1)] h0 (fun v h' => v = some (.int (-1 : Int32)) ∧ h0 = h') := rm_sio_4 hw a1 b1 x0 x1 x2 x3 1 (-1 : Int32) h0 Z0 cm O E0 F0 F1 A1 (rm_lioA_4 hw b1 x0 x1 x2 x3 1 (-1 : Int32) h0 Z0 A1 (by decide) (by decide) (rm_ioc_4_1_0 hw b1 x0 x1 x2 x3 h0 Z0 A1 e1 e2 e3))
theorem rm_sioI_4_2_3 (hw : HW a0 Z) (a1 b1 : Addr) (x0 x1 x2 x3 : Int32) (h0 : Heap) (Z0 : n0 ≤ h0.size) (cm : Cmp Z) (O : Old Z n0 h0) (E0 : Exa Z h0 a1 "java/lang/String") (F0 : Fld Z h0 a1 "java/lang/String" "value" "[B" (.ref b1)) (F1 : Fld Z h0 a1 "java/lang/String" "coder" "B" (.int 0)) (A1 : Ary Z h0 b1 .byte [.int x0, .int x1, .int x2, .int x3]) (e2 : x2 = 9) :
    Met1 l Z ⟨"java/lang/String", "indexOf", "(II)I"⟩ jdk_42_method_80_code 3 (some .int) ⟨2, 0, 0, 32⟩ n0 #[(.ref a1), (.int 9), (.int 2)] h0 (fun v h' => v = some (.int 2) ∧ h0 = h') := rm_sio_4 hw a1 b1 x0 x1 x2 x3 2 2 h0 Z0 cm O E0 F0 F1 A1 (rm_lioA_4 hw b1 x0 x1 x2 x3 2 2 h0 Z0 A1 (by decide) (by decide) (rm_ioc_4_2_3 hw b1 x0 x1 x2 x3 h0 Z0 A1 e2))
theorem rm_sioI_4_2_4 (hw : HW a0 Z) (a1 b1 : Addr) (x0 x1 x2 x3 : Int32) (h0 : Heap) (Z0 : n0 ≤ h0.size) (cm : Cmp Z) (O : Old Z n0 h0) (E0 : Exa Z h0 a1 "java/lang/String") (F0 : Fld Z h0 a1 "java/lang/String" "value" "[B" (.ref b1)) (F1 : Fld Z h0 a1 "java/lang/String" "coder" "B" (.int 0)) (A1 : Ary Z h0 b1 .byte [.int x0, .int x1, .int x2, .int x3]) (e2 : ¬ x2 = 9) (e3 : x3 = 9) :
    Met1 l Z ⟨"java/lang/String", "indexOf", "(II)I"⟩ jdk_42_method_80_code 3 (some .int) ⟨2, 0, 0, 32⟩ n0 #[(.ref a1), (.int 9), (.int 2)] h0 (fun v h' => v = some (.int 3) ∧ h0 = h') := rm_sio_4 hw a1 b1 x0 x1 x2 x3 2 3 h0 Z0 cm O E0 F0 F1 A1 (rm_lioA_4 hw b1 x0 x1 x2 x3 2 3 h0 Z0 A1 (by decide) (by decide) (rm_ioc_4_2_4 hw b1 x0 x1 x2 x3 h0 Z0 A1 e2 e3))
theorem rm_sioI_4_2_0 (hw : HW a0 Z) (a1 b1 : Addr) (x0 x1 x2 x3 : Int32) (h0 : Heap) (Z0 : n0 ≤ h0.size) (cm : Cmp Z) (O : Old Z n0 h0) (E0 : Exa Z h0 a1 "java/lang/String") (F0 : Fld Z h0 a1 "java/lang/String" "value" "[B" (.ref b1)) (F1 : Fld Z h0 a1 "java/lang/String" "coder" "B" (.int 0)) (A1 : Ary Z h0 b1 .byte [.int x0, .int x1, .int x2, .int x3]) (e2 : ¬ x2 = 9) (e3 : ¬ x3 = 9) :
    Met1 l Z ⟨"java/lang/String", "indexOf", "(II)I"⟩ jdk_42_method_80_code 3 (some .int) ⟨2, 0, 0, 32⟩ n0 #[(.ref a1), (.int 9), (.int 2)] h0 (fun v h' => v = some (.int (-1 : Int32)) ∧ h0 = h') := rm_sio_4 hw a1 b1 x0 x1 x2 x3 2 (-1 : Int32) h0 Z0 cm O E0 F0 F1 A1 (rm_lioA_4 hw b1 x0 x1 x2 x3 2 (-1 : Int32) h0 Z0 A1 (by decide) (by decide) (rm_ioc_4_2_0 hw b1 x0 x1 x2 x3 h0 Z0 A1 e2 e3))
theorem rm_sioI_4_3_4 (hw : HW a0 Z) (a1 b1 : Addr) (x0 x1 x2 x3 : Int32) (h0 : Heap) (Z0 : n0 ≤ h0.size) (cm : Cmp Z) (O : Old Z n0 h0) (E0 : Exa Z h0 a1 "java/lang/String") (F0 : Fld Z h0 a1 "java/lang/String" "value" "[B" (.ref b1)) (F1 : Fld Z h0 a1 "java/lang/String" "coder" "B" (.int 0)) (A1 : Ary Z h0 b1 .byte [.int x0, .int x1, .int x2, .int x3]) (e3 : x3 = 9) :
    Met1 l Z ⟨"java/lang/String", "indexOf", "(II)I"⟩ jdk_42_method_80_code 3 (some .int) ⟨2, 0, 0, 32⟩ n0 #[(.ref a1), (.int 9), (.int 3)] h0 (fun v h' => v = some (.int 3) ∧ h0 = h') := rm_sio_4 hw a1 b1 x0 x1 x2 x3 3 3 h0 Z0 cm O E0 F0 F1 A1 (rm_lioA_4 hw b1 x0 x1 x2 x3 3 3 h0 Z0 A1 (by decide) (by decide) (rm_ioc_4_3_4 hw b1 x0 x1 x2 x3 h0 Z0 A1 e3))
theorem rm_sioI_4_3_0 (hw : HW a0 Z) (a1 b1 : Addr) (x0 x1 x2 x3 : Int32) (h0 : Heap) (Z0 : n0 ≤ h0.size) (cm : Cmp Z) (O : Old Z n0 h0) (E0 : Exa Z h0 a1 "java/lang/String") (F0 : Fld Z h0 a1 "java/lang/String" "value" "[B" (.ref b1)) (F1 : Fld Z h0 a1 "java/lang/String" "coder" "B" (.int 0)) (A1 : Ary Z h0 b1 .byte [.int x0, .int x1, .int x2, .int x3]) (e3 : ¬ x3 = 9) :
    Met1 l Z ⟨"java/lang/String", "indexOf", "(II)I"⟩ jdk_42_method_80_code 3 (some .int) ⟨2, 0, 0, 32⟩ n0 #[(.ref a1), (.int 9), (.int 3)] h0 (fun v h' => v = some (.int (-1 : Int32)) ∧ h0 = h') := rm_sio_4 hw a1 b1 x0 x1 x2 x3 3 (-1 : Int32) h0 Z0 cm O E0 F0 F1 A1 (rm_lioA_4 hw b1 x0 x1 x2 x3 3 (-1 : Int32) h0 Z0 A1 (by decide) (by decide) (rm_ioc_4_3_0 hw b1 x0 x1 x2 x3 h0 Z0 A1 e3))
theorem rm_sioI_4_4_0 (hw : HW a0 Z) (a1 b1 : Addr) (x0 x1 x2 x3 : Int32) (h0 : Heap) (Z0 : n0 ≤ h0.size) (cm : Cmp Z) (O : Old Z n0 h0) (E0 : Exa Z h0 a1 "java/lang/String") (F0 : Fld Z h0 a1 "java/lang/String" "value" "[B" (.ref b1)) (F1 : Fld Z h0 a1 "java/lang/String" "coder" "B" (.int 0)) (A1 : Ary Z h0 b1 .byte [.int x0, .int x1, .int x2, .int x3])  :
    Met1 l Z ⟨"java/lang/String", "indexOf", "(II)I"⟩ jdk_42_method_80_code 3 (some .int) ⟨2, 0, 0, 32⟩ n0 #[(.ref a1), (.int 9), (.int 4)] h0 (fun v h' => v = some (.int (-1 : Int32)) ∧ h0 = h') := rm_sio_4 hw a1 b1 x0 x1 x2 x3 4 (-1 : Int32) h0 Z0 cm O E0 F0 F1 A1 (rm_lioB_4 hw b1 x0 x1 x2 x3 h0 Z0 A1)
theorem rm_lioA_5 (hw : HW a0 Z) (a1 : Addr) (x0 x1 x2 x3 x4 : Int32) (ff kk : Int32) (h0 : Heap) (Z0 : n0 ≤ h0.size) (A1 : Ary Z h0 a1 .byte [.int x0, .int x1, .int x2, .int x3, .int x4]) (hf : ¬ ff < 0) (hl : ff < 5) (hq : Met1 l Z ⟨"java/lang/StringLatin1", "indexOfChar", "([BIII)I"⟩ jdk_43_method_23_code 6 (some .int) ⟨0, 0, 0, 0⟩ n0 #[(.ref a1), (.int 9), (.int ff), (.int 5)] h0 (fun v h' => v = some (.int kk) ∧ h0 = h')) :
    Met1 l Z ⟨"java/lang/StringLatin1", "indexOf", "([BIII)I"⟩ jdk_43_method_22_code 4 (some .int) ⟨1, 0, 0, 17⟩ n0 #[(.ref a1), (.int 9), (.int ff), (.int 5)] h0 (fun v h => v = some (.int kk) ∧ h0 = h) := by
  refine met_of (plainFor_of_name pn_2) (L0 := #[.val (.ref a1), .val (.int 9), .val (.int ff), .val (.int 5)]) (by first | (simp [argsToLocals, Value.category]; done) | rfl) ?_
  intro B C hN
  change Ctx B l _ _ "java/lang/StringLatin1" "indexOf" _ _ Z at C
  refine iN C 9 d16_0 rfl <| cS C hw 74 75 72 76 rfl rfl rfl rfl (rm_can hw  h0 Z0 ) [] [(.int 9)] pd_9 0 d16_1 ⟨rfl, rfl, rfl, rfl, rfl⟩ (by decide) ?_
  intro v_3 h_1 q_2
  obtain ⟨rfl, rfl⟩ := q_2
  show Go _ _ _ _ 0 0 4 _ [(.int 1)]
  refine fY C d16_4 (XT.i0_ne_t (by decide)) 9 (by decide) <| iN C ff d16_9 rfl <| iC C 0 d16_10 rfl <| cS C hw 77 78 79 80 rfl rfl rfl rfl (rm_max hw ff h0 Z0 hf) [] [(.int ff), (.int 0)] pd_22 0 d16_11 ⟨rfl, rfl, rfl, rfl, rfl⟩ (by decide) ?_
  intro v_7 h_5 q_6
  obtain ⟨rfl, rfl⟩ := q_6
  show Go _ _ _ _ 0 0 14 _ [(.int ff)]
  refine iT C d16_14 (#[aV a1, iV 9, iV ff, iV 5]) rfl <| iN C 5 d16_15 rfl <| aN C ((.ref a1)) d16_16 rfl rfl <| yarraylength C A1 (z := 5) rfl d16_17 <| cS C hw 81 82 79 83 rfl rfl rfl rfl (rm_min hw 5 h0 Z0 (by decide)) [] [(.int 5), (.int 5)] pd_23 0 d16_18 ⟨rfl, rfl, rfl, rfl, rfl⟩ (by decide) ?_
  intro v_11 h_9 q_10
  obtain ⟨rfl, rfl⟩ := q_10
  show Go _ _ _ _ 0 0 21 _ [(.int 5)]
  refine iT C d16_21 (#[aV a1, iV 9, iV ff, iV 5]) rfl <| iN C ff d16_22 rfl <| iN C 5 d16_23 rfl <| cY C d16_24 (XT.ii_lt_t hl) 29 (by decide) <| aN C ((.ref a1)) d16_29 rfl rfl <| iN C 9 d16_30 rfl <| iN C ff d16_31 rfl <| iN C 5 d16_32 rfl <| cS C hw 84 85 72 86 rfl rfl rfl rfl hq [] [(.ref a1), (.int 9), (.int ff), (.int 5)] pd_6 0 d16_33 ⟨rfl, rfl, rfl, rfl, rfl⟩ (by decide) ?_
  intro v_15 h_13 q_14
  obtain ⟨rfl, rfl⟩ := q_14
  show Go _ _ _ _ 0 0 36 _ [(.int kk)]
  refine g_ret C (eN hN) (v := (.int kk)) (ty := .int) rfl rfl (Or.inl ⟨rfl, Or.inl rfl, _, rfl⟩) d16_36 (by decide) (by decide) ?_
  exact ⟨rfl, rfl⟩
theorem rm_lioB_5 (hw : HW a0 Z) (a1 : Addr) (x0 x1 x2 x3 x4 : Int32) (h0 : Heap) (Z0 : n0 ≤ h0.size) (A1 : Ary Z h0 a1 .byte [.int x0, .int x1, .int x2, .int x3, .int x4]) :
    Met1 l Z ⟨"java/lang/StringLatin1", "indexOf", "([BIII)I"⟩ jdk_43_method_22_code 4 (some .int) ⟨1, 0, 0, 17⟩ n0 #[(.ref a1), (.int 9), (.int 5), (.int 5)] h0 (fun v h => v = some (.int (-1 : Int32)) ∧ h0 = h) := by
  refine met_of (plainFor_of_name pn_2) (L0 := #[.val (.ref a1), .val (.int 9), .val (.int 5), .val (.int 5)]) (by first | (simp [argsToLocals, Value.category]; done) | rfl) ?_
  intro B C hN
  change Ctx B l _ _ "java/lang/StringLatin1" "indexOf" _ _ Z at C
  refine iN C 9 d16_0 rfl <| cS C hw 74 75 72 76 rfl rfl rfl rfl (rm_can hw  h0 Z0 ) [] [(.int 9)] pd_9 0 d16_1 ⟨rfl, rfl, rfl, rfl, rfl⟩ (by decide) ?_
  intro v_3 h_1 q_2
  obtain ⟨rfl, rfl⟩ := q_2
  show Go _ _ _ _ 0 0 4 _ [(.int 1)]
  refine fY C d16_4 (XT.i0_ne_t (by decide)) 9 (by decide) <| iN C 5 d16_9 rfl <| iC C 0 d16_10 rfl <| cS C hw 77 78 79 80 rfl rfl rfl rfl (rm_max hw 5 h0 Z0 (by decide)) [] [(.int 5), (.int 0)] pd_22 0 d16_11 ⟨rfl, rfl, rfl, rfl, rfl⟩ (by decide) ?_
  intro v_7 h_5 q_6
  obtain ⟨rfl, rfl⟩ := q_6
  show Go _ _ _ _ 0 0 14 _ [(.int 5)]
  refine iT C d16_14 (#[aV a1, iV 9, iV 5, iV 5]) rfl <| iN C 5 d16_15 rfl <| aN C ((.ref a1)) d16_16 rfl rfl <| yarraylength C A1 (z := 5) rfl d16_17 <| cS C hw 81 82 79 83 rfl rfl rfl rfl (rm_min hw 5 h0 Z0 (by decide)) [] [(.int 5), (.int 5)] pd_23 0 d16_18 ⟨rfl, rfl, rfl, rfl, rfl⟩ (by decide) ?_
  intro v_11 h_9 q_10
  obtain ⟨rfl, rfl⟩ := q_10
  show Go _ _ _ _ 0 0 21 _ [(.int 5)]
  refine iT C d16_21 (#[aV a1, iV 9, iV 5, iV 5]) rfl <| iN C 5 d16_22 rfl <| iN C 5 d16_23 rfl <| yicmp_n C d16_24 (XT.ii_lt_f (by decide)) <| iC C ((-1 : Int32)) d16_27 rfl ?_
  refine g_ret C (eN hN) (v := (.int (-1 : Int32))) (ty := .int) rfl rfl (Or.inl ⟨rfl, Or.inl rfl, _, rfl⟩) d16_28 (by decide) (by decide) ?_
  exact ⟨rfl, rfl⟩
theorem rm_sio_5 (hw : HW a0 Z) (a1 b1 : Addr) (x0 x1 x2 x3 x4 : Int32) (ff kk : Int32) (h0 : Heap) (Z0 : n0 ≤ h0.size) (cm : Cmp Z) (O : Old Z n0 h0) (E0 : Exa Z h0 a1 "java/lang/String") (F0 : Fld Z h0 a1 "java/lang/String" "value" "[B" (.ref b1)) (F1 : Fld Z h0 a1 "java/lang/String" "coder" "B" (.int 0)) (A1 : Ary Z h0 b1 .byte [.int x0, .int x1, .int x2, .int x3, .int x4]) (hq : Met1 l Z ⟨"java/lang/StringLatin1", "indexOf", "([BIII)I"⟩ jdk_43_method_22_code 4 (some .int) ⟨1, 0, 0, 17⟩ n0 #[(.ref b1), (.int 9), (.int ff), (.int 5)] h0 (fun v h' => v = some (.int kk) ∧ h0 = h')) :
    Met1 l Z ⟨"java/lang/String", "indexOf", "(II)I"⟩ jdk_42_method_80_code 3 (some .int) ⟨2, 0, 0, 32⟩ n0 #[(.ref a1), (.int 9), (.int ff)] h0 (fun v h => v = some (.int kk) ∧ h0 = h) := by
  refine met_of (plainFor_of_name pn_4) (L0 := #[.val (.ref a1), .val (.int 9), .val (.int ff)]) (by first | (simp [argsToLocals, Value.category]; done) | rfl) ?_
  intro B C hN
  change Ctx B l _ _ "java/lang/String" "indexOf" _ _ Z at C
  have cm' := cm
  obtain ⟨cz, Scz, hcz⟩ := cm'
  refine aN C ((.ref a1)) d12_0 rfl rfl <| cV C hw 55 56 58 57 6 59 rfl rfl rfl rfl rfl rfl E0 (rm_isLatin1 hw a1 h0 Z0 cm O F1) [] [] pd_10 0 d12_1 ⟨rfl, rfl, rfl, rfl, rfl⟩ (by decide) ?_
  intro v_3 h_1 q_2
  obtain ⟨rfl, rfl⟩ := q_2
  show Go _ _ _ _ 0 0 4 _ [(.int 1)]
  refine yif_n C d12_4 (XT.i0_eq_f (by decide)) <| aN C ((.ref a1)) d12_7 rfl rfl <| ygetfield C (host := "") (v := (.ref b1)) (Or.inl (oW hw 35 rfl)) Via.refl F0 d12_8 <| iN C 9 d12_11 rfl <| iN C ff d12_12 rfl <| aN C ((.ref a1)) d12_13 rfl rfl <| cV C hw 60 61 63 62 6 64 rfl rfl rfl rfl rfl rfl E0 (rm_length_5 hw a1 b1 x0 x1 x2 x3 x4 h0 Z0 cm O E0 F0 F1 A1) [(.int ff), (.int 9), (.ref b1)] [] pd_14 3 d12_14 ⟨rfl, rfl, rfl, rfl, rfl⟩ (by decide) ?_
  intro v_7 h_5 q_6
  obtain ⟨rfl, rfl⟩ := q_6
  show Go _ _ _ _ 0 0 17 _ [(.int 5), (.int ff), (.int 9), (.ref b1)]
  refine cS C hw 70 71 72 73 rfl rfl rfl rfl hq [] [(.ref b1), (.int 9), (.int ff), (.int 5)] pd_11 0 d12_17 ⟨rfl, rfl, rfl, rfl, rfl⟩ (by decide) ?_
  intro v_11 h_9 q_10
  obtain ⟨rfl, rfl⟩ := q_10
  show Go _ _ _ _ 0 0 20 _ [(.int kk)]
  refine gT C d12_20 36 (by decide) ?_
  refine g_ret C (eN hN) (v := (.int kk)) (ty := .int) rfl rfl (Or.inl ⟨rfl, Or.inl rfl, _, rfl⟩) d12_36 (by decide) (by decide) ?_
  exact ⟨rfl, rfl⟩
theorem rm_sioI_5_0_1 (hw : HW a0 Z) (a1 b1 : Addr) (x0 x1 x2 x3 x4 : Int32) (h0 : Heap) (Z0 : n0 ≤ h0.size) (cm : Cmp Z) (O : Old Z n0 h0) (E0 : Exa Z h0 a1 "java/lang/String") (F0 : Fld Z h0 a1 "java/lang/String" "value" "[B" (.ref b1)) (F1 : Fld Z h0 a1 "java/lang/String" "coder" "B" (.int 0)) (A1 : Ary Z h0 b1 .byte [.int x0, .int x1, .int x2, .int x3, .int x4]) (e0 : x0 = 9) :
    Met1 l Z ⟨"java/lang/String", "indexOf", "(II)I"⟩ jdk_42_method_80_code 3 (some .int) ⟨2, 0, 0, 32⟩ n0 #[(.ref a1), (.int 9), (.int 0)] h0 (fun v h' => v = some (.int 0) ∧ h0 = h') := rm_sio_5 hw a1 b1 x0 x1 x2 x3 x4 0 0 h0 Z0 cm O E0 F0 F1 A1 (rm_lioA_5 hw b1 x0 x1 x2 x3 x4 0 0 h0 Z0 A1 (by decide) (by decide) (rm_ioc_5_0_1 hw b1 x0 x1 x2 x3 x4 h0 Z0 A1 e0))
theorem rm_sioI_5_0_2 (hw : HW a0 Z) (a1 b1 : Addr) (x0 x1 x2 x3 x4 : Int32) (h0 : Heap) (Z0 : n0 ≤ h0.size) (cm : Cmp Z) (O : Old Z n0 h0) (E0 : Exa Z h0 a1 "java/lang/String") (F0 : Fld Z h0 a1 "java/lang/String" "value" "[B" (.ref b1)) (F1 : Fld Z h0 a1 "java/lang/String" "coder" "B" (.int 0)) (A1 : Ary Z h0 b1 .byte [.int x0, .int x1, .int x2, .int x3, .int x4]) (e0 : ¬ x0 = 9) (e1 : x1 = 9) :
    Met1 l Z ⟨"java/lang/String", "indexOf", "(II)I"⟩ jdk_42_method_80_code 3 (some .int) ⟨2, 0, 0, 32⟩ n0 #[(.ref a1), (.int 9), (.int 0)] h0 (fun v h' => v = some (.int 1) ∧ h0 = h') := rm_sio_5 hw a1 b1 x0 x1 x2 x3 x4 0 1 h0 Z0 cm O E0 F0 F1 A1 (rm_lioA_5 hw b1 x0 x1 x2 x3 x4 0 1 h0 Z0 A1 (by decide) (by decide) (rm_ioc_5_0_2 hw b1 x0 x1 x2 x3 x4 h0 Z0 A1 e0 e1))
theorem rm_sioI_5_0_3 (hw : HW a0 Z) (a1 b1 : Addr) (x0 x1 x2 x3 x4 : Int32) (h0 : Heap) (Z0 : n0 ≤ h0.size) (cm : Cmp Z) (O : Old Z n0 h0) (E0 : Exa Z h0 a1 "java/lang/String") (F0 : Fld Z h0 a1 "java/lang/String" "value" "[B" (.ref b1)) (F1 : Fld Z h0 a1 "java/lang/String" "coder" "B" (.int 0)) (A1 : Ary Z h0 b1 .byte [.int x0, .int x1, .int x2, .int x3, .int x4]) (e0 : ¬ x0 = 9) (e1 : ¬ x1 = 9) (e2 : x2 = 9) :
    Met1 l Z ⟨"java/lang/String", "indexOf", "(II)I"⟩ jdk_42_method_80_code 3 (some .int) ⟨2, 0, 0, 32⟩ n0 #[(.ref a1), (.int 9), (.int 0)] h0 (fun v h' => v = some (.int 2) ∧ h0 = h') := rm_sio_5 hw a1 b1 x0 x1 x2 x3 x4 0 2 h0 Z0 cm O E0 F0 F1 A1 (rm_lioA_5 hw b1 x0 x1 x2 x3 x4 0 2 h0 Z0 A1 (by decide) (by decide) (rm_ioc_5_0_3 hw b1 x0 x1 x2 x3 x4 h0 Z0 A1 e0 e1 e2))
theorem rm_sioI_5_0_4 (hw : HW a0 Z) (a1 b1 : Addr) (x0 x1 x2 x3 x4 : Int32) (h0 : Heap) (Z0 : n0 ≤ h0.size) (cm : Cmp Z) (O : Old Z n0 h0) (E0 : Exa Z h0 a1 "java/lang/String") (F0 : Fld Z h0 a1 "java/lang/String" "value" "[B" (.ref b1)) (F1 : Fld Z h0 a1 "java/lang/String" "coder" "B" (.int 0)) (A1 : Ary Z h0 b1 .byte [.int x0, .int x1, .int x2, .int x3, .int x4]) (e0 : ¬ x0 = 9) (e1 : ¬ x1 = 9) (e2 : ¬ x2 = 9) (e3 : x3 = 9) :
    Met1 l Z ⟨"java/lang/String", "indexOf", "(II)I"⟩ jdk_42_method_80_code 3 (some .int) ⟨2, 0, 0, 32⟩ n0 #[(.ref a1), (.int 9), (.int 0)] h0 (fun v h' => v = some (.int 3) ∧ h0 = h') := rm_sio_5 hw a1 b1 x0 x1 x2 x3 x4 0 3 h0 Z0 cm O E0 F0 F1 A1 (rm_lioA_5 hw b1 x0 x1 x2 x3 x4 0 3 h0 Z0 A1 (by decide) (by decide) (rm_ioc_5_0_4 hw b1 x0 x1 x2 x3 x4 h0 Z0 A1 e0 e1 e2 e3))
theorem rm_sioI_5_0_5 (hw : HW a0 Z) (a1 b1 : Addr) (x0 x1 x2 x3 x4 : Int32) (h0 : Heap) (Z0 : n0 ≤ h0.size) (cm : Cmp Z) (O : Old Z n0 h0) (E0 : Exa Z h0 a1 "java/lang/String") (F0 : Fld Z h0 a1 "java/lang/String" "value" "[B" (.ref b1)) (F1 : Fld Z h0 a1 "java/lang/String" "coder" "B" (.int 0)) (A1 : Ary Z h0 b1 .byte [.int x0, .int x1, .int x2, .int x3, .int x4]) (e0 : ¬ x0 = 9) (e1 : ¬ x1 = 9) (e2 : ¬ x2 = 9) (e3 : ¬ x3 = 9) (e4 : x4 = 9) :
    Met1 l Z ⟨"java/lang/String", "indexOf", "(II)I"⟩ jdk_42_method_80_code 3 (some .int) ⟨2, 0, 0, 32⟩ n0 #[(.ref a1), (.int 9), (.int 0)] h0 (fun v h' => v = some (.int 4) ∧ h0 = h') := rm_sio_5 hw a1 b1 x0 x1 x2 x3 x4 0 4 h0 Z0 cm O E0 F0 F1 A1 (rm_lioA_5 hw b1 x0 x1 x2 x3 x4 0 4 h0 Z0 A1 (by decide) (by decide) (rm_ioc_5_0_5 hw b1 x0 x1 x2 x3 x4 h0 Z0 A1 e0 e1 e2 e3 e4))
theorem rm_sioI_5_0_0 (hw : HW a0 Z) (a1 b1 : Addr) (x0 x1 x2 x3 x4 : Int32) (h0 : Heap) (Z0 : n0 ≤ h0.size) (cm : Cmp Z) (O : Old Z n0 h0) (E0 : Exa Z h0 a1 "java/lang/String") (F0 : Fld Z h0 a1 "java/lang/String" "value" "[B" (.ref b1)) (F1 : Fld Z h0 a1 "java/lang/String" "coder" "B" (.int 0)) (A1 : Ary Z h0 b1 .byte [.int x0, .int x1, .int x2, .int x3, .int x4]) (e0 : ¬ x0 = 9) (e1 : ¬ x1 = 9) (e2 : ¬ x2 = 9) (e3 : ¬ x3 = 9) (e4 : ¬ x4 = 9) :
    Met1 l Z ⟨"java/lang/String", "indexOf", "(II)I"⟩ jdk_42_method_80_code 3 (some .int) ⟨2, 0, 0, 32⟩ n0 #[(.ref a1), (.int 9), (.int 0)] h0 (fun v h' => v = some (.int (-1 : Int32)) ∧ h0 = h') := rm_sio_5 hw a1 b1 x0 x1 x2 x3 x4 0 (-1 : Int32) h0 Z0 cm O E0 F0 F1 A1 (rm_lioA_5 hw b1 x0 x1 x2 x3 x4 0 (-1 : Int32) h0 Z0 A1 (by decide) (by decide) (rm_ioc_5_0_0 hw b1 x0 x1 x2 x3 x4 h0 Z0 A1 e0 e1 e2 e3 e4))
theorem rm_sioI_5_1_2 (hw : HW a0 Z) (a1 b1 : Addr) (x0 x1 x2 x3 x4 : Int32) (h0 : Heap) (Z0 : n0 ≤ h0.size) (cm : Cmp Z) (O : Old Z n0 h0) (E0 : Exa Z h0 a1 "java/lang/String") (F0 : Fld Z h0 a1 "java/lang/String" "value" "[B" (.ref b1)) (F1 : Fld Z h0 a1 "java/lang/String" "coder" "B" (.int 0)) (A1 : Ary Z h0 b1 .byte [.int x0, .int x1, .int x2, .int x3, .int x4]) (e1 : x1 = 9) :
    Met1 l Z ⟨"java/lang/String", "indexOf", "(II)I"⟩ jdk_42_method_80_code 3 (some .int) ⟨2, 0, 0, 32⟩ n0 #[(.ref a1), (.int 9), (.int 1)] h0 (fun v h' => v = some (.int 1) ∧ h0 = h') := rm_sio_5 hw a1 b1 x0 x1 x2 x3 x4 1 1 h0 Z0 cm O E0 F0 F1 A1 (rm_lioA_5 hw b1 x0 x1 x2 x3 x4 1 1 h0 Z0 A1 (by decide) (by decide) (rm_ioc_5_1_2 hw b1 x0 x1 x2 x3 x4 h0 Z0 A1 e1))
theorem rm_sioI_5_1_3 (hw : HW a0 Z) (a1 b1 : Addr) (x0 x1 x2 x3 x4 : Int32) (h0 : Heap) (Z0 : n0 ≤ h0.size) (cm : Cmp Z) (O : Old Z n0 h0) (E0 : Exa Z h0 a1 "java/lang/String") (F0 : Fld Z h0 a1 "java/lang/String" "value" "[B" (.ref b1)) (F1 : Fld Z h0 a1 "java/lang/String" "coder" "B" (.int 0)) (A1 : Ary Z h0 b1 .byte [.int x0, .int x1, .int x2, .int x3, .int x4]) (e1 : ¬ x1 = 9) (e2 : x2 = 9) :
    Met1 l Z ⟨"java/lang/String", "indexOf", "(II)I"⟩ jdk_42_method_80_code 3 (some .int) ⟨2, 0, 0, 32⟩ n0 #[(.ref a1), (.int 9), (.int 1)] h0 (fun v h' => v = some (.int 2) ∧ h0 = h') := rm_sio_5 hw a1 b1 x0 x1 x2 x3 x4 1 2 h0 Z0 cm O E0 F0 F1 A1 (rm_lioA_5 hw b1 x0 x1 x2 x3 x4 1 2 h0 Z0 A1 (by decide) (by decide) (rm_ioc_5_1_3 hw b1 x0 x1 x2 x3 x4 h0 Z0 A1 e1 e2))
theorem rm_sioI_5_1_4 (hw : HW a0 Z) (a1 b1 : Addr) (x0 x1 x2 x3 x4 : Int32) (h0 : Heap) (Z0 : n0 ≤ h0.size) (cm : Cmp Z) (O : Old Z n0 h0) (E0 : Exa Z h0 a1 "java/lang/String") (F0 : Fld Z h0 a1 "java/lang/String" "value" "[B" (.ref b1)) (F1 : Fld Z h0 a1 "java/lang/String" "coder" "B" (.int 0)) (A1 : Ary Z h0 b1 .byte [.int x0, .int x1, .int x2, .int x3, .int x4]) (e1 : ¬ x1 = 9) (e2 : ¬ x2 = 9) (e3 : x3 = 9) :
    Met1 l Z ⟨"java/lang/String", "indexOf", "(II)I"⟩ jdk_42_method_80_code 3 (some .int) ⟨2, 0, 0, 32⟩ n0 #[(.ref a1), (.int 9), (.int 1)] h0 (fun v h' => v = some (.int 3) ∧ h0 = h') := rm_sio_5 hw a1 b1 x0 x1 x2 x3 x4 1 3 h0 Z0 cm O E0 F0 F1 A1 (rm_lioA_5 hw b1 x0 x1 x2 x3 x4 1 3 h0 Z0 A1 (by decide) (by decide) (rm_ioc_5_1_4 hw b1 x0 x1 x2 x3 x4 h0 Z0 A1 e1 e2 e3))
theorem rm_sioI_5_1_5 (hw : HW a0 Z) (a1 b1 : Addr) (x0 x1 x2 x3 x4 : Int32) (h0 : Heap) (Z0 : n0 ≤ h0.size) (cm : Cmp Z) (O : Old Z n0 h0) (E0 : Exa Z h0 a1 "java/lang/String") (F0 : Fld Z h0 a1 "java/lang/String" "value" "[B" (.ref b1)) (F1 : Fld Z h0 a1 "java/lang/String" "coder" "B" (.int 0)) (A1 : Ary Z h0 b1 .byte [.int x0, .int x1, .int x2, .int x3, .int x4]) (e1 : ¬ x1 = 9) (e2 : ¬ x2 = 9) (e3 : ¬ x3 = 9) (e4 : x4 = 9) :
    Met1 l Z ⟨"java/lang/String", "indexOf", "(II)I"⟩ jdk_42_method_80_code 3 (some .int) ⟨2, 0, 0, 32⟩ n0 #[(.ref a1), (.int 9), (.int 1)] h0 (fun v h' => v = some (.int 4) ∧ h0 = h') := rm_sio_5 hw a1 b1 x0 x1 x2 x3 x4 1 4 h0 Z0 cm O E0 F0 F1 A1 (rm_lioA_5 hw b1 x0 x1 x2 x3 x4 1 4 h0 Z0 A1 (by decide) (by decide) (rm_ioc_5_1_5 hw b1 x0 x1 x2 x3 x4 h0 Z0 A1 e1 e2 e3 e4))
theorem rm_sioI_5_1_0 (hw : HW a0 Z) (a1 b1 : Addr) (x0 x1 x2 x3 x4 : Int32) (h0 : Heap) (Z0 : n0 ≤ h0.size) (cm : Cmp Z) (O : Old Z n0 h0) (E0 : Exa Z h0 a1 "java/lang/String") (F0 : Fld Z h0 a1 "java/lang/String" "value" "[B" (.ref b1)) (F1 : Fld Z h0 a1 "java/lang/String" "coder" "B" (.int 0)) (A1 : Ary Z h0 b1 .byte [.int x0, .int x1, .int x2, .int x3, .int x4]) (e1 : ¬ x1 = 9) (e2 : ¬ x2 = 9) (e3 : ¬ x3 = 9) (e4 : ¬ x4 = 9) :
    Met1 l Z ⟨"java/lang/String", "indexOf", "(II)I"⟩ jdk_42_method_80_code 3 (some .int) ⟨2, 0, 0, 32⟩ n0 #[(.ref a1), (.int 9), (.int 1)] h0 (fun v h' => v = some (.int (-1 : Int32)) ∧ h0 = h') := rm_sio_5 hw a1 b1 x0 x1 x2 x3 x4 1 (-1 : Int32) h0 Z0 cm O E0 F0 F1 A1 (rm_lioA_5 hw b1 x0 x1 x2 x3 x4 1 (-1 : Int32) h0 Z0 A1 (by decide) (by decide) (rm_ioc_5_1_0 hw b1 x0 x1 x2 x3 x4 h0 Z0 A1 e1 e2 e3 e4))
theorem rm_sioI_5_2_3 (hw : HW a0 Z) (a1 b1 : Addr) (x0 x1 x2 x3 x4 : Int32) (h0 : Heap) (Z0 : n0 ≤ h0.size) (cm : Cmp Z) (O : Old Z n0 h0) (E0 : Exa Z h0 a1 "java/lang/String") (F0 : Fld Z h0 a1 "java/lang/String" "value" "[B" (.ref b1)) (F1 : Fld Z h0 a1 "java/lang/String" "coder" "B" (.int 0)) (A1 : Ary Z h0 b1 .byte [.int x0, .int x1, .int x2, .int x3, .int x4]) (e2 : x2 = 9) :
    Met1 l Z ⟨"java/lang/String", "indexOf", "(II)I"⟩ jdk_42_method_80_code 3 (some .int) ⟨2, 0, 0, 32⟩ n0 #[(.ref a1), (.int 9), (.int 2)] h0 (fun v h' => v = some (.int 2) ∧ h0 = h') := rm_sio_5 hw a1 b1 x0 x1 x2 x3 x4 2 2 h0 Z0 cm O E0 F0 F1 A1 (rm_lioA_5 hw b1 x0 x1 x2 x3 x4 2 2 h0 Z0 A1 (by decide) (by decide) (rm_ioc_5_2_3 hw b1 x0 x1 x2 x3 x4 h0 Z0 A1 e2))
theorem rm_sioI_5_2_4 (hw : HW a0 Z) (a1 b1 : Addr) (x0 x1 x2 x3 x4 : Int32) (h0 : Heap) (Z0 : n0 ≤ h0.size) (cm : Cmp Z) (O : Old Z n0 h0) (E0 : Exa Z h0 a1 "java/lang/String") (F0 : Fld Z h0 a1 "java/lang/String" "value" "[B" (.ref b1)) (F1 : Fld Z h0 a1 "java/lang/String" "coder" "B" (.int 0)) (A1 : Ary Z h0 b1 .byte [.int x0, .int x1, .int x2, .int x3, .int x4]) (e2 : ¬ x2 = 9) (e3 : x3 = 9) :
    Met1 l Z ⟨"java/lang/String", "indexOf", "(II)I"⟩ jdk_42_method_80_code 3 (some .int) ⟨2, 0, 0, 32⟩ n0 #[(.ref a1), (.int 9), (.int 2)] h0 (fun v h' => v = some (.int 3) ∧ h0 = h') := rm_sio_5 hw a1 b1 x0 x1 x2 x3 x4 2 3 h0 Z0 cm O E0 F0 F1 A1 (rm_lioA_5 hw b1 x0 x1 x2 x3 x4 2 3 h0 Z0 A1 (by decide) (by decide) (rm_ioc_5_2_4 hw b1 x0 x1 x2 x3 x4 h0 Z0 A1 e2 e3))
theorem rm_sioI_5_2_5 (hw : HW a0 Z) (a1 b1 : Addr) (x0 x1 x2 x3 x4 : Int32) (h0 : Heap) (Z0 : n0 ≤ h0.size) (cm : Cmp Z) (O : Old Z n0 h0) (E0 : Exa Z h0 a1 "java/lang/String") (F0 : Fld Z h0 a1 "java/lang/String" "value" "[B" (.ref b1)) (F1 : Fld Z h0 a1 "java/lang/String" "coder" "B" (.int 0)) (A1 : Ary Z h0 b1 .byte [.int x0, .int x1, .int x2, .int x3, .int x4]) (e2 : ¬ x2 = 9) (e3 : ¬ x3 = 9) (e4 : x4 = 9) :
    Met1 l Z ⟨"java/lang/String", "indexOf", "(II)I"⟩ jdk_42_method_80_code 3 (some .int) ⟨2, 0, 0, 32⟩ n0 #[(.ref a1), (.int 9), (.int 2)] h0 (fun v h' => v = some (.int 4) ∧ h0 = h') := rm_sio_5 hw a1 b1 x0 x1 x2 x3 x4 2 4 h0 Z0 cm O E0 F0 F1 A1 (rm_lioA_5 hw b1 x0 x1 x2 x3 x4 2 4 h0 Z0 A1 (by decide) (by decide) (rm_ioc_5_2_5 hw b1 x0 x1 x2 x3 x4 h0 Z0 A1 e2 e3 e4))
theorem rm_sioI_5_2_0 (hw : HW a0 Z) (a1 b1 : Addr) (x0 x1 x2 x3 x4 : Int32) (h0 : Heap) (Z0 : n0 ≤ h0.size) (cm : Cmp Z) (O : Old Z n0 h0) (E0 : Exa Z h0 a1 "java/lang/String") (F0 : Fld Z h0 a1 "java/lang/String" "value" "[B" (.ref b1)) (F1 : Fld Z h0 a1 "java/lang/String" "coder" "B" (.int 0)) (A1 : Ary Z h0 b1 .byte [.int x0, .int x1, .int x2, .int x3, .int x4]) (e2 : ¬ x2 = 9) (e3 : ¬ x3 = 9) (e4 : ¬ x4 = 9) :
    Met1 l Z ⟨"java/lang/String", "indexOf", "(II)I"⟩ jdk_42_method_80_code 3 (some .int) ⟨2, 0, 0, 32⟩ n0 #[(.ref a1), (.int 9), (.int 2)] h0 (fun v h' => v = some (.int (-1 : Int32)) ∧ h0 = h') := rm_sio_5 hw a1 b1 x0 x1 x2 x3 x4 2 (-1 : Int32) h0 Z0 cm O E0 F0 F1 A1 (rm_lioA_5 hw b1 x0 x1 x2 x3 x4 2 (-1 : Int32) h0 Z0 A1 (by decide) (by decide) (rm_ioc_5_2_0 hw b1 x0 x1 x2 x3 x4 h0 Z0 A1 e2 e3 e4))
theorem rm_sioI_5_3_4 (hw : HW a0 Z) (a1 b1 : Addr) (x0 x1 x2 x3 x4 : Int32) (h0 : Heap) (Z0 : n0 ≤ h0.size) (cm : Cmp Z) (O : Old Z n0 h0) (E0 : Exa Z h0 a1 "java/lang/String") (F0 : Fld Z h0 a1 "java/lang/String" "value" "[B" (.ref b1)) (F1 : Fld Z h0 a1 "java/lang/String" "coder" "B" (.int 0)) (A1 : Ary Z h0 b1 .byte [.int x0, .int x1, .int x2, .int x3, .int x4]) (e3 : x3 = 9) :
    Met1 l Z ⟨"java/lang/String", "indexOf", "(II)I"⟩ jdk_42_method_80_code 3 (some .int) ⟨2, 0, 0, 32⟩ n0 #[(.ref a1), (.int 9), (.int 3)] h0 (fun v h' => v = some (.int 3) ∧ h0 = h') := rm_sio_5 hw a1 b1 x0 x1 x2 x3 x4 3 3 h0 Z0 cm O E0 F0 F1 A1 (rm_lioA_5 hw b1 x0 x1 x2 x3 x4 3 3 h0 Z0 A1 (by decide) (by decide) (rm_ioc_5_3_4 hw b1 x0 x1 x2 x3 x4 h0 Z0 A1 e3))
theorem rm_sioI_5_3_5 (hw : HW a0 Z) (a1 b1 : Addr) (x0 x1 x2 x3 x4 : Int32) (h0 : Heap) (Z0 : n0 ≤ h0.size) (cm : Cmp Z) (O : Old Z n0 h0) (E0 : Exa Z h0 a1 "java/lang/String") (F0 : Fld Z h0 a1 "java/lang/String" "value" "[B" (.ref b1)) (F1 : Fld Z h0 a1 "java/lang/String" "coder" "B" (.int 0)) (A1 : Ary Z h0 b1 .byte [.int x0, .int x1, .int x2, .int x3, .int x4]) (e3 : ¬ x3 = 9) (e4 : x4 = 9) :
    Met1 l Z ⟨"java/lang/String", "indexOf", "(II)I"⟩ jdk_42_method_80_code 3 (some .int) ⟨2, 0, 0, 32⟩ n0 #[(.ref a1), (.int 9), (.int 3)] h0 (fun v h' => v = some (.int 4) ∧ h0 = h') := rm_sio_5 hw a1 b1 x0 x1 x2 x3 x4 3 4 h0 Z0 cm O E0 F0 F1 A1 (rm_lioA_5 hw b1 x0 x1 x2 x3 x4 3 4 h0 Z0 A1 (by decide) (by decide) (rm_ioc_5_3_5 hw b1 x0 x1 x2 x3 x4 h0 Z0 A1 e3 e4))
theorem rm_sioI_5_3_0 (hw : HW a0 Z) (a1 b1 : Addr) (x0 x1 x2 x3 x4 : Int32) (h0 : Heap) (Z0 : n0 ≤ h0.size) (cm : Cmp Z) (O : Old Z n0 h0) (E0 : Exa Z h0 a1 "java/lang/String") (F0 : Fld Z h0 a1 "java/lang/String" "value" "[B" (.ref b1)) (F1 : Fld Z h0 a1 "java/lang/String" "coder" "B" (.int 0)) (A1 : Ary Z h0 b1 .byte [.int x0, .int x1, .int x2, .int x3, .int x4]) (e3 : ¬ x3 = 9) (e4 : ¬ x4 = 9) :
    Met1 l Z ⟨"java/lang/String", "indexOf", "(II)I"⟩ jdk_42_method_80_code 3 (some .int) ⟨2, 0, 0, 32⟩ n0 #[(.ref a1), (.int 9), (.int 3)] h0 (fun v h' => v = some (.int (-1 : Int32)) ∧ h0 = h') := rm_sio_5 hw a1 b1 x0 x1 x2 x3 x4 3 (-1 : Int32) h0 Z0 cm O E0 F0 F1 A1 (rm_lioA_5 hw b1 x0 x1 x2 x3 x4 3 (-1 : Int32) h0 Z0 A1 (by decide) (by decide) (rm_ioc_5_3_0 hw b1 x0 x1 x2 x3 x4 h0 Z0 A1 e3 e4))
theorem rm_sioI_5_4_5 (hw : HW a0 Z) (a1 b1 : Addr) (x0 x1 x2 x3 x4 : Int32) (h0 : Heap) (Z0 : n0 ≤ h0.size) (cm : Cmp Z) (O : Old Z n0 h0) (E0 : Exa Z h0 a1 "java/lang/String") (F0 : Fld Z h0 a1 "java/lang/String" "value" "[B" (.ref b1)) (F1 : Fld Z h0 a1 "java/lang/String" "coder" "B" (.int 0)) (A1 : Ary Z h0 b1 .byte [.int x0, .int x1, .int x2, .int x3, .int x4]) (e4 : x4 = 9) :
    Met1 l Z ⟨"java/lang/String", "indexOf", "(II)I"⟩ jdk_42_method_80_code 3 (some .int) ⟨2, 0, 0, 32⟩ n0 #[(.ref a1), (.int 9), (.int 4)] h0 (fun v h' => v = some (.int 4) ∧ h0 = h') := rm_sio_5 hw a1 b1 x0 x1 x2 x3 x4 4 4 h0 Z0 cm O E0 F0 F1 A1 (rm_lioA_5 hw b1 x0 x1 x2 x3 x4 4 4 h0 Z0 A1 (by decide) (by decide) (rm_ioc_5_4_5 hw b1 x0 x1 x2 x3 x4 h0 Z0 A1 e4))
theorem rm_sioI_5_4_0 (hw : HW a0 Z) (a1 b1 : Addr) (x0 x1 x2 x3 x4 : Int32) (h0 : Heap) (Z0 : n0 ≤ h0.size) (cm : Cmp Z) (O : Old Z n0 h0) (E0 : Exa Z h0 a1 "java/lang/String") (F0 : Fld Z h0 a1 "java/lang/String" "value" "[B" (.ref b1)) (F1 : Fld Z h0 a1 "java/lang/String" "coder" "B" (.int 0)) (A1 : Ary Z h0 b1 .byte [.int x0, .int x1, .int x2, .int x3, .int x4]) (e4 : ¬ x4 = 9) :
    Met1 l Z ⟨"java/lang/String", "indexOf", "(II)I"⟩ jdk_42_method_80_code 3 (some .int) ⟨2, 0, 0, 32⟩ n0 #[(.ref a1), (.int 9), (.int 4)] h0 (fun v h' => v = some (.int (-1 : Int32)) ∧ h0 = h') := rm_sio_5 hw a1 b1 x0 x1 x2 x3 x4 4 (-1 : Int32) h0 Z0 cm O E0 F0 F1 A1 (rm_lioA_5 hw b1 x0 x1 x2 x3 x4 4 (-1 : Int32) h0 Z0 A1 (by decide) (by decide) (rm_ioc_5_4_0 hw b1 x0 x1 x2 x3 x4 h0 Z0 A1 e4))
theorem rm_sioI_5_5_0 (hw : HW a0 Z) (a1 b1 : Addr) (x0 x1 x2 x3 x4 : Int32) (h0 : Heap) (Z0 : n0 ≤ h0.size) (cm : Cmp Z) (O : Old Z n0 h0) (E0 : Exa Z h0 a1 "java/lang/String") (F0 : Fld Z h0 a1 "java/lang/String" "value" "[B" (.ref b1)) (F1 : Fld Z h0 a1 "java/lang/String" "coder" "B" (.int 0)) (A1 : Ary Z h0 b1 .byte [.int x0, .int x1, .int x2, .int x3, .int x4])  :
    Met1 l Z ⟨"java/lang/String", "indexOf", "(II)I"⟩ jdk_42_method_80_code 3 (some .int) ⟨2, 0, 0, 32⟩ n0 #[(.ref a1), (.int 9), (.int 5)] h0 (fun v h' => v = some (.int (-1 : Int32)) ∧ h0 = h') := rm_sio_5 hw a1 b1 x0 x1 x2 x3 x4 5 (-1 : Int32) h0 Z0 cm O E0 F0 F1 A1 (rm_lioB_5 hw b1 x0 x1 x2 x3 x4 h0 Z0 A1)
theorem rm_lioB_0 (hw : HW a0 Z) (a1 : Addr)  (h0 : Heap) (Z0 : n0 ≤ h0.size) (A1 : Ary Z h0 a1 .byte []) :
    Met1 l Z ⟨"java/lang/StringLatin1", "indexOf", "([BIII)I"⟩ jdk_43_method_22_code 4 (some .int) ⟨1, 0, 0, 17⟩ n0 #[(.ref a1), (.int 9), (.int 0), (.int 0)] h0 (fun v h => v = some (.int (-1 : Int32)) ∧ h0 = h) := by
  refine met_of (plainFor_of_name pn_2) (L0 := #[.val (.ref a1), .val (.int 9), .val (.int 0), .val (.int 0)]) (by first | (simp [argsToLocals, Value.category]; done) | rfl) ?_
  intro B C hN
  change Ctx B l _ _ "java/lang/StringLatin1" "indexOf" _ _ Z at C
  refine iN C 9 d16_0 rfl <| cS C hw 74 75 72 76 rfl rfl rfl rfl (rm_can hw  h0 Z0 ) [] [(.int 9)] pd_9 0 d16_1 ⟨rfl, rfl, rfl, rfl, rfl⟩ (by decide) ?_
  intro v_3 h_1 q_2
  obtain ⟨rfl, rfl⟩ := q_2
  show Go _ _ _ _ 0 0 4 _ [(.int 1)]
  refine fY C d16_4 (XT.i0_ne_t (by decide)) 9 (by decide) <| iN C 0 d16_9 rfl <| iC C 0 d16_10 rfl <| cS C hw 77 78 79 80 rfl rfl rfl rfl (rm_max hw 0 h0 Z0 (by decide)) [] [(.int 0), (.int 0)] pd_22 0 d16_11 ⟨rfl, rfl, rfl, rfl, rfl⟩ (by decide) ?_
  intro v_7 h_5 q_6
  obtain ⟨rfl, rfl⟩ := q_6
  show Go _ _ _ _ 0 0 14 _ [(.int 0)]
  refine iT C d16_14 (#[aV a1, iV 9, iV 0, iV 0]) rfl <| iN C 0 d16_15 rfl <| aN C ((.ref a1)) d16_16 rfl rfl <| yarraylength C A1 (z := 0) rfl d16_17 <| cS C hw 81 82 79 83 rfl rfl rfl rfl (rm_min hw 0 h0 Z0 (by decide)) [] [(.int 0), (.int 0)] pd_23 0 d16_18 ⟨rfl, rfl, rfl, rfl, rfl⟩ (by decide) ?_
  intro v_11 h_9 q_10
  obtain ⟨rfl, rfl⟩ := q_10
  show Go _ _ _ _ 0 0 21 _ [(.int 0)]
  refine iT C d16_21 (#[aV a1, iV 9, iV 0, iV 0]) rfl <| iN C 0 d16_22 rfl <| iN C 0 d16_23 rfl <| yicmp_n C d16_24 (XT.ii_lt_f (by decide)) <| iC C ((-1 : Int32)) d16_27 rfl ?_
  refine g_ret C (eN hN) (v := (.int (-1 : Int32))) (ty := .int) rfl rfl (Or.inl ⟨rfl, Or.inl rfl, _, rfl⟩) d16_28 (by decide) (by decide) ?_
  exact ⟨rfl, rfl⟩
theorem rm_sio_0 (hw : HW a0 Z) (a1 b1 : Addr)  (ff kk : Int32) (h0 : Heap) (Z0 : n0 ≤ h0.size) (cm : Cmp Z) (O : Old Z n0 h0) (E0 : Exa Z h0 a1 "java/lang/String") (F0 : Fld Z h0 a1 "java/lang/String" "value" "[B" (.ref b1)) (F1 : Fld Z h0 a1 "java/lang/String" "coder" "B" (.int 0)) (A1 : Ary Z h0 b1 .byte []) (hq : Met1 l Z ⟨"java/lang/StringLatin1", "indexOf", "([BIII)I"⟩ jdk_43_method_22_code 4 (some .int) ⟨1, 0, 0, 17⟩ n0 #[(.ref b1), (.int 9), (.int ff), (.int 0)] h0 (fun v h' => v = some (.int kk) ∧ h0 = h')) :
    Met1 l Z ⟨"java/lang/String", "indexOf", "(II)I"⟩ jdk_42_method_80_code 3 (some .int) ⟨2, 0, 0, 32⟩ n0 #[(.ref a1), (.int 9), (.int ff)] h0 (fun v h => v = some (.int kk) ∧ h0 = h) := by
  refine met_of (plainFor_of_name pn_4) (L0 := #[.val (.ref a1), .val (.int 9), .val (.int ff)]) (by first | (simp [argsToLocals, Value.category]; done) | rfl) ?_
  intro B C hN
  change Ctx B l _ _ "java/lang/String" "indexOf" _ _ Z at C
  have cm' := cm
  obtain ⟨cz, Scz, hcz⟩ := cm'
  refine aN C ((.ref a1)) d12_0 rfl rfl <| cV C hw 55 56 58 57 6 59 rfl rfl rfl rfl rfl rfl E0 (rm_isLatin1 hw a1 h0 Z0 cm O F1) [] [] pd_10 0 d12_1 ⟨rfl, rfl, rfl, rfl, rfl⟩ (by decide) ?_
  intro v_3 h_1 q_2
  obtain ⟨rfl, rfl⟩ := q_2
  show Go _ _ _ _ 0 0 4 _ [(.int 1)]
  refine yif_n C d12_4 (XT.i0_eq_f (by decide)) <| aN C ((.ref a1)) d12_7 rfl rfl <| ygetfield C (host := "") (v := (.ref b1)) (Or.inl (oW hw 35 rfl)) Via.refl F0 d12_8 <| iN C 9 d12_11 rfl <| iN C ff d12_12 rfl <| aN C ((.ref a1)) d12_13 rfl rfl <| cV C hw 60 61 63 62 6 64 rfl rfl rfl rfl rfl rfl E0 (rm_length_0 hw a1 b1  h0 Z0 cm O E0 F0 F1 A1) [(.int ff), (.int 9), (.ref b1)] [] pd_14 3 d12_14 ⟨rfl, rfl, rfl, rfl, rfl⟩ (by decide) ?_
  intro v_7 h_5 q_6
  obtain ⟨rfl, rfl⟩ := q_6
  show Go _ _ _ _ 0 0 17 _ [(.int 0), (.int ff), (.int 9), (.ref b1)]
  refine cS C hw 70 71 72 73 rfl rfl rfl rfl hq [] [(.ref b1), (.int 9), (.int ff), (.int 0)] pd_11 0 d12_17 ⟨rfl, rfl, rfl, rfl, rfl⟩ (by decide) ?_
  intro v_11 h_9 q_10
  obtain ⟨rfl, rfl⟩ := q_10
  show Go _ _ _ _ 0 0 20 _ [(.int kk)]
  refine gT C d12_20 36 (by decide) ?_
  refine g_ret C (eN hN) (v := (.int kk)) (ty := .int) rfl rfl (Or.inl ⟨rfl, Or.inl rfl, _, rfl⟩) d12_36 (by decide) (by decide) ?_
  exact ⟨rfl, rfl⟩
theorem rm_sioI_0_0_0 (hw : HW a0 Z) (a1 b1 : Addr)  (h0 : Heap) (Z0 : n0 ≤ h0.size) (cm : Cmp Z) (O : Old Z n0 h0) (E0 : Exa Z h0 a1 "java/lang/String") (F0 : Fld Z h0 a1 "java/lang/String" "value" "[B" (.ref b1)) (F1 : Fld Z h0 a1 "java/lang/String" "coder" "B" (.int 0)) (A1 : Ary Z h0 b1 .byte [])  :
    Met1 l Z ⟨"java/lang/String", "indexOf", "(II)I"⟩ jdk_42_method_80_code 3 (some .int) ⟨2, 0, 0, 32⟩ n0 #[(.ref a1), (.int 9), (.int 0)] h0 (fun v h' => v = some (.int (-1 : Int32)) ∧ h0 = h') := rm_sio_0 hw a1 b1  0 (-1 : Int32) h0 Z0 cm O E0 F0 F1 A1 (rm_lioB_0 hw b1  h0 Z0 A1)
theorem pd_13 : parseMethodDescriptor "(II)I" = some ⟨[.int, .int], (some .int)⟩ := by decide +kernel
theorem d11_0 : decode jdk_42_method_79_code 0 = .ok (.aload_n 0, 1) := by decide +kernel
theorem d11_1 : decode jdk_42_method_79_code 1 = .ok (.iload_n 1, 1) := by decide +kernel
theorem d11_2 : decode jdk_42_method_79_code 2 = .ok (.iconst 0, 1) := by decide +kernel
theorem d11_3 : decode jdk_42_method_79_code 3 = .ok (.invokevirtual 633, 3) := by decide +kernel
theorem d11_6 : decode jdk_42_method_79_code 6 = .ok (.ireturn, 1) := by decide +kernel
theorem rm_sio1 (hw : HW a0 Z) (a1 : Addr) (kk : Int32) (h0 : Heap) (Z0 : n0 ≤ h0.size) (E0 : Exa Z h0 a1 "java/lang/String") (hq : Met1 l Z ⟨"java/lang/String", "indexOf", "(II)I"⟩ jdk_42_method_80_code 3 (some .int) ⟨2, 0, 0, 32⟩ n0 #[(.ref a1), (.int 9), (.int 0)] h0 (fun v h' => v = some (.int kk) ∧ h0 = h')) :
    Met1 l Z ⟨"java/lang/String", "indexOf", "(I)I"⟩ jdk_42_method_79_code 2 (some .int) ⟨3, 0, 0, 46⟩ n0 #[(.ref a1), (.int 9)] h0 (fun v h => v = some (.int kk) ∧ h0 = h) := by
  refine met_of (plainFor_of_name pn_4) (L0 := #[.val (.ref a1), .val (.int 9)]) (by first | (simp [argsToLocals, Value.category]; done) | rfl) ?_
  intro B C hN
  change Ctx B l _ _ "java/lang/String" "indexOf" _ _ Z at C
  refine aN C ((.ref a1)) d11_0 rfl rfl <| iN C 9 d11_1 rfl <| iC C 0 d11_2 rfl <| cV C hw 50 51 53 52 6 54 rfl rfl rfl rfl rfl rfl E0 hq [] [(.int 9), (.int 0)] pd_13 0 d11_3 ⟨rfl, rfl, rfl, rfl, rfl⟩ (by decide) ?_
  intro v_3 h_1 q_2
  obtain ⟨rfl, rfl⟩ := q_2
  show Go _ _ _ _ 0 0 6 _ [(.int kk)]
  refine g_ret C (eN hN) (v := (.int kk)) (ty := .int) rfl rfl (Or.inl ⟨rfl, Or.inl rfl, _, rfl⟩) d11_6 (by decide) (by decide) ?_
  exact ⟨rfl, rfl⟩
theorem pd_12 : parseMethodDescriptor "(I)I" = some ⟨[.int], (some .int)⟩ := by decide +kernel
theorem d10_0 : decode prog_23_method_2_code 0 = .ok (.iload_n 1, 1) := by decide +kernel
theorem d10_1 : decode prog_23_method_2_code 1 = .ok (.newarray .int, 2) := by decide +kernel
theorem d10_3 : decode prog_23_method_2_code 3 = .ok (.astore_n 2, 1) := by decide +kernel
theorem d10_4 : decode prog_23_method_2_code 4 = .ok (.iconst 0, 1) := by decide +kernel
theorem d10_5 : decode prog_23_method_2_code 5 = .ok (.istore_n 3, 1) := by decide +kernel
theorem d10_6 : decode prog_23_method_2_code 6 = .ok (.aload_n 0, 1) := by decide +kernel
theorem d10_7 : decode prog_23_method_2_code 7 = .ok (.bipush 9, 2) := by decide +kernel
theorem d10_9 : decode prog_23_method_2_code 9 = .ok (.invokevirtual 7, 3) := by decide +kernel
theorem d10_12 : decode prog_23_method_2_code 12 = .ok (.istore 4, 2) := by decide +kernel
theorem d10_14 : decode prog_23_method_2_code 14 = .ok (.iload 4, 2) := by decide +kernel
theorem d10_16 : decode prog_23_method_2_code 16 = .ok (.ifCond .lt 31, 3) := by decide +kernel
theorem d10_47 : decode prog_23_method_2_code 47 = .ok (.iload_n 3, 1) := by decide +kernel
theorem d10_48 : decode prog_23_method_2_code 48 = .ok (.iload_n 1, 1) := by decide +kernel
theorem d10_49 : decode prog_23_method_2_code 49 = .ok (.iconst 1, 1) := by decide +kernel
theorem d10_50 : decode prog_23_method_2_code 50 = .ok (.isub, 1) := by decide +kernel
theorem d10_51 : decode prog_23_method_2_code 51 = .ok (.if_icmp .eq 20, 3) := by decide +kernel
theorem d10_71 : decode prog_23_method_2_code 71 = .ok (.aload_n 2, 1) := by decide +kernel
theorem d10_72 : decode prog_23_method_2_code 72 = .ok (.iload_n 1, 1) := by decide +kernel
theorem d10_73 : decode prog_23_method_2_code 73 = .ok (.iconst 1, 1) := by decide +kernel
theorem d10_74 : decode prog_23_method_2_code 74 = .ok (.isub, 1) := by decide +kernel
theorem d10_75 : decode prog_23_method_2_code 75 = .ok (.aload_n 0, 1) := by decide +kernel
theorem d10_76 : decode prog_23_method_2_code 76 = .ok (.invokevirtual 25, 3) := by decide +kernel
theorem d10_79 : decode prog_23_method_2_code 79 = .ok (.iastore, 1) := by decide +kernel
theorem d10_80 : decode prog_23_method_2_code 80 = .ok (.aload_n 2, 1) := by decide +kernel
theorem d10_81 : decode prog_23_method_2_code 81 = .ok (.areturn, 1) := by decide +kernel
theorem pn_1 : plainName "org/linkloom/io/Fields" = true := by first | (simp [plainName, overriddenIn]; done) | decide +kernel
theorem rm_split_1 (hw : HW a0 Z) (a1 : Addr) (nn : Int32) (h0 : Heap) (Z0 : n0 ≤ h0.size) (O : Old Z n0 h0) (E0 : Exa Z h0 a1 "java/lang/String")  (q0 : ∀ h, n0 ≤ h.size → Old Z n0 h → Keep h0 h [] → Met1 l Z ⟨"java/lang/String", "indexOf", "(I)I"⟩ jdk_42_method_79_code 2 (some .int) ⟨3, 0, 0, 46⟩ n0 #[(.ref a1), (.int 9)] h (fun v h' => v = some (.int (-1 : Int32)) ∧ h = h')) (ql : ∀ h, n0 ≤ h.size → Old Z n0 h → Keep h0 h [] → Met1 l Z ⟨"java/lang/String", "length", "()I"⟩ jdk_42_method_54_code 1 (some .int) ⟨1, 0, 0, 13⟩ n0 #[(.ref a1)] h (fun v h' => v = some (.int nn) ∧ h = h')) :
    Met1 l Z ⟨"org/linkloom/io/Fields", "split", "(Ljava/lang/String;I)[I"⟩ prog_23_method_2_code 5 (some (.array .int)) ⟨4, 1, 1, 59⟩ n0 #[(.ref a1), (.int 1)] h0 (fun v h => ∃ b : Addr, v = some (.ref b) ∧ h0.size ≤ b ∧ Keep h0 h [] ∧ Ary Z h b .int [.int nn]) := by
  refine met_of (plainFor_of_name pn_1) (L0 := #[.val (.ref a1), .val (.int 1), .unset, .unset, .unset]) (by first | (simp [argsToLocals, Value.category]; done) | rfl) ?_
  intro B C hN
  change Ctx B l _ _ "org/linkloom/io/Fields" "split" _ _ Z at C
  refine iN C 1 d10_0 rfl <| ynewarray C (oW hw 37 rfl) (ty := .int) rfl (by decide) (cap := 1) (by decide) (by decide) (by decide) (by decide) d10_1 ?_
  intro h_1 a_2 g_3 E_4 A_5
  have ne_6 : a1 ≠ a_2 := ne_new E0.lt g_3
  have ge_a_2 : n0 ≤ a_2 := lT Z0 (lE g_3.symm)
  have gs_a_2 : h0.size ≤ a_2 := lT (Nat.le_refl h0.size) (lE g_3.symm)
  have f_7 : Ary Z h_1 a_2 .int [(.int 0)] := A_5
  show Go _ _ _ _ 1 1 3 _ [(.ref a_2)]
  refine aT C d10_3 (#[aV a1, iV 1, aV a_2, uV, uV]) rfl rfl <| iC C 0 d10_4 rfl <| iT C d10_5 (#[aV a1, iV 1, aV a_2, iV 0, uV]) rfl <| aN C ((.ref a1)) d10_6 rfl rfl <| iB C 9 d10_7 rfl ?_
  have f_8 := (lT Z0 E_4.1)
  have f_9 := (O.ext E_4)
  have f_10 := (E0.ext E_4)
  refine cV C hw 45 46 48 47 6 49 rfl rfl rfl rfl rfl rfl f_10 (q0 h_1 f_8 f_9 ((Keep.refl h0 []).ext E_4)) [] [(.int 9)] pd_12 0 d10_9 ⟨rfl, rfl, rfl, rfl, rfl⟩ (by decide) ?_
  intro v_13 h_11 q_12
  obtain ⟨rfl, rfl⟩ := q_12
  show Go _ _ _ _ 1 1 12 _ [(.int (-1 : Int32))]
  refine iS C d10_12 (#[aV a1, iV 1, aV a_2, iV 0, iV (-1 : Int32)]) rfl <| iL C ((-1 : Int32)) d10_14 rfl <| fY C d10_16 (XT.i0_lt_t (by decide)) 47 (by decide) <| iN C 0 d10_47 rfl <| iN C 1 d10_48 rfl <| iC C 1 d10_49 rfl <| yisub C d10_50 <| eS [(.int 0), (.int 0)] rfl <| cY C d10_51 (XT.ii_eq_t (by decide)) 71 (by decide) <| aN C ((.ref a_2)) d10_71 rfl rfl <| iN C 1 d10_72 rfl <| iC C 1 d10_73 rfl <| yisub C d10_74 <| eS [(.int 0), (.ref a_2)] rfl <| aN C ((.ref a1)) d10_75 rfl rfl <| cV C hw 87 61 63 62 6 64 rfl rfl rfl rfl rfl rfl f_10 (ql h_1 f_8 f_9 ((Keep.refl h0 []).ext E_4)) [(.int 0), (.ref a_2)] [] pd_14 2 d10_76 ⟨rfl, rfl, rfl, rfl, rfl⟩ (by decide) ?_
  intro v_17 h_15 q_16
  obtain ⟨rfl, rfl⟩ := q_16
  show Go _ _ _ _ 1 1 79 _ [(.int nn), (.int 0), (.ref a_2)]
  refine yiastore C f_7 (by decide) (i := 0) (by decide) (show 0 < 1 by decide) (w := (.int nn)) rfl ge_a_2 d10_79 ?_
  intro h_19 K_20 A_21
  have f_22 : Ary Z h_19 a_2 .int [(.int nn)] := A_21
  refine aN C ((.ref a_2)) d10_80 rfl rfl ?_
  refine g_ret C (eN hN) (v := (.ref a_2)) (ty := (.array .int)) rfl rfl (Or.inr (Or.inr (Or.inr (Or.inr ⟨rfl, rfl, rfl⟩)))) d10_81 (by decide) (by decide) ?_
  exact ⟨a_2, rfl, gs_a_2, (((Keep.refl h0 []).ext E_4).trans K_20 (allS (Or.inr gs_a_2) all0)), f_22⟩
theorem d10_19 : decode prog_23_method_2_code 19 = .ok (.iload_n 3, 1) := by decide +kernel
theorem d10_20 : decode prog_23_method_2_code 20 = .ok (.iload_n 1, 1) := by decide +kernel
theorem d10_21 : decode prog_23_method_2_code 21 = .ok (.if_icmp .ge 8, 3) := by decide +kernel
theorem d10_24 : decode prog_23_method_2_code 24 = .ok (.aload_n 2, 1) := by decide +kernel
theorem d10_25 : decode prog_23_method_2_code 25 = .ok (.iload_n 3, 1) := by decide +kernel
theorem d10_26 : decode prog_23_method_2_code 26 = .ok (.iload 4, 2) := by decide +kernel
theorem d10_28 : decode prog_23_method_2_code 28 = .ok (.iastore, 1) := by decide +kernel
theorem d10_29 : decode prog_23_method_2_code 29 = .ok (.iinc 3 1, 3) := by decide +kernel
theorem d10_32 : decode prog_23_method_2_code 32 = .ok (.aload_n 0, 1) := by decide +kernel
theorem d10_33 : decode prog_23_method_2_code 33 = .ok (.bipush 9, 2) := by decide +kernel
theorem d10_35 : decode prog_23_method_2_code 35 = .ok (.iload 4, 2) := by decide +kernel
theorem d10_37 : decode prog_23_method_2_code 37 = .ok (.iconst 1, 1) := by decide +kernel
theorem d10_38 : decode prog_23_method_2_code 38 = .ok (.iadd, 1) := by decide +kernel
theorem d10_39 : decode prog_23_method_2_code 39 = .ok (.invokevirtual 13, 3) := by decide +kernel
theorem d10_42 : decode prog_23_method_2_code 42 = .ok (.istore 4, 2) := by decide +kernel
theorem d10_44 : decode prog_23_method_2_code 44 = .ok (.goto (-30), 3) := by decide +kernel
theorem rm_split_2 (hw : HW a0 Z) (a1 : Addr) (y0 nn : Int32) (h0 : Heap) (Z0 : n0 ≤ h0.size) (O : Old Z n0 h0) (E0 : Exa Z h0 a1 "java/lang/String") (g0 : ¬ y0 < 0) (q0 : ∀ h, n0 ≤ h.size → Old Z n0 h → Keep h0 h [] → Met1 l Z ⟨"java/lang/String", "indexOf", "(I)I"⟩ jdk_42_method_79_code 2 (some .int) ⟨3, 0, 0, 46⟩ n0 #[(.ref a1), (.int 9)] h (fun v h' => v = some (.int y0) ∧ h = h')) (q1 : ∀ h, n0 ≤ h.size → Old Z n0 h → Keep h0 h [] → Met1 l Z ⟨"java/lang/String", "indexOf", "(II)I"⟩ jdk_42_method_80_code 3 (some .int) ⟨2, 0, 0, 32⟩ n0 #[(.ref a1), (.int 9), (.int (y0 + 1))] h (fun v h' => v = some (.int (-1 : Int32)) ∧ h = h')) (ql : ∀ h, n0 ≤ h.size → Old Z n0 h → Keep h0 h [] → Met1 l Z ⟨"java/lang/String", "length", "()I"⟩ jdk_42_method_54_code 1 (some .int) ⟨1, 0, 0, 13⟩ n0 #[(.ref a1)] h (fun v h' => v = some (.int nn) ∧ h = h')) :
    Met1 l Z ⟨"org/linkloom/io/Fields", "split", "(Ljava/lang/String;I)[I"⟩ prog_23_method_2_code 5 (some (.array .int)) ⟨4, 1, 2, 59⟩ n0 #[(.ref a1), (.int 2)] h0 (fun v h => ∃ b : Addr, v = some (.ref b) ∧ h0.size ≤ b ∧ Keep h0 h [] ∧ Ary Z h b .int [.int y0, .int nn]) := by
  refine met_of (plainFor_of_name pn_1) (L0 := #[.val (.ref a1), .val (.int 2), .unset, .unset, .unset]) (by first | (simp [argsToLocals, Value.category]; done) | rfl) ?_
  intro B C hN
  change Ctx B l _ _ "org/linkloom/io/Fields" "split" _ _ Z at C
  refine iN C 2 d10_0 rfl <| ynewarray C (oW hw 37 rfl) (ty := .int) rfl (by decide) (cap := 2) (by decide) (by decide) (by decide) (by decide) d10_1 ?_
  intro h_1 a_2 g_3 E_4 A_5
  have ne_6 : a1 ≠ a_2 := ne_new E0.lt g_3
  have ge_a_2 : n0 ≤ a_2 := lT Z0 (lE g_3.symm)
  have gs_a_2 : h0.size ≤ a_2 := lT (Nat.le_refl h0.size) (lE g_3.symm)
  have f_7 : Ary Z h_1 a_2 .int [(.int 0), (.int 0)] := A_5
  show Go _ _ _ _ 1 2 3 _ [(.ref a_2)]
  refine aT C d10_3 (#[aV a1, iV 2, aV a_2, uV, uV]) rfl rfl <| iC C 0 d10_4 rfl <| iT C d10_5 (#[aV a1, iV 2, aV a_2, iV 0, uV]) rfl <| aN C ((.ref a1)) d10_6 rfl rfl <| iB C 9 d10_7 rfl ?_
  have f_8 := (lT Z0 E_4.1)
  have f_9 := (O.ext E_4)
  have f_10 := (E0.ext E_4)
  refine cV C hw 45 46 48 47 6 49 rfl rfl rfl rfl rfl rfl f_10 (q0 h_1 f_8 f_9 ((Keep.refl h0 []).ext E_4)) [] [(.int 9)] pd_12 0 d10_9 ⟨rfl, rfl, rfl, rfl, rfl⟩ (by decide) ?_
  intro v_13 h_11 q_12
  obtain ⟨rfl, rfl⟩ := q_12
  show Go _ _ _ _ 1 2 12 _ [(.int y0)]
  refine iS C d10_12 (#[aV a1, iV 2, aV a_2, iV 0, iV y0]) rfl <| iL C y0 d10_14 rfl <| yif_n C d10_16 (XT.i0_lt_f g0) <| iN C 0 d10_19 rfl <| iN C 2 d10_20 rfl <| yicmp_n C d10_21 (XT.ii_ge_f (by decide)) <| aN C ((.ref a_2)) d10_24 rfl rfl <| iN C 0 d10_25 rfl <| iL C y0 d10_26 rfl <| yiastore C f_7 (by decide) (i := 0) (by decide) (show 0 < 2 by decide) (w := (.int y0)) rfl ge_a_2 d10_28 ?_
  intro h_15 K_16 A_17
  have f_18 : Ary Z h_15 a_2 .int [(.int y0), (.int 0)] := A_17
  refine nC C 0 1 d10_29 rfl rfl (#[aV a1, iV 2, aV a_2, iV 1, iV y0]) rfl <| aN C ((.ref a1)) d10_32 rfl rfl <| iB C 9 d10_33 rfl <| iL C y0 d10_35 rfl <| iC C 1 d10_37 rfl <| yiadd C d10_38 ?_
  have f_19 := (lT f_8 K_16.1)
  have f_20 := (f_9.keep K_16 (allS ge_a_2 all0))
  have f_21 := (f_10.keep K_16)
  refine cV C hw 91 51 53 52 6 54 rfl rfl rfl rfl rfl rfl f_21 (q1 h_15 f_19 f_20 (((Keep.refl h0 []).ext E_4).trans K_16 (allS (Or.inr gs_a_2) all0))) [] [(.int 9), (.int (y0 + 1))] pd_13 0 d10_39 ⟨rfl, rfl, rfl, rfl, rfl⟩ (by decide) ?_
  intro v_24 h_22 q_23
  obtain ⟨rfl, rfl⟩ := q_23
  show Go _ _ _ _ 1 2 42 _ [(.int (-1 : Int32))]
  refine iS C d10_42 (#[aV a1, iV 2, aV a_2, iV 1, iV (-1 : Int32)]) rfl <| gT C d10_44 14 (by decide) <| iL C ((-1 : Int32)) d10_14 rfl <| fY C d10_16 (XT.i0_lt_t (by decide)) 47 (by decide) <| iN C 1 d10_47 rfl <| iN C 2 d10_48 rfl <| iC C 1 d10_49 rfl <| yisub C d10_50 <| eS [(.int 1), (.int 1)] rfl <| cY C d10_51 (XT.ii_eq_t (by decide)) 71 (by decide) <| aN C ((.ref a_2)) d10_71 rfl rfl <| iN C 2 d10_72 rfl <| iC C 1 d10_73 rfl <| yisub C d10_74 <| eS [(.int 1), (.ref a_2)] rfl <| aN C ((.ref a1)) d10_75 rfl rfl <| cV C hw 87 61 63 62 6 64 rfl rfl rfl rfl rfl rfl f_21 (ql h_15 f_19 f_20 (((Keep.refl h0 []).ext E_4).trans K_16 (allS (Or.inr gs_a_2) all0))) [(.int 1), (.ref a_2)] [] pd_14 2 d10_76 ⟨rfl, rfl, rfl, rfl, rfl⟩ (by decide) ?_
  intro v_28 h_26 q_27
  obtain ⟨rfl, rfl⟩ := q_27
  show Go _ _ _ _ 1 2 79 _ [(.int nn), (.int 1), (.ref a_2)]
  refine yiastore C f_18 (by decide) (i := 1) (by decide) (show 1 < 2 by decide) (w := (.int nn)) rfl ge_a_2 d10_79 ?_
  intro h_30 K_31 A_32
  have f_33 : Ary Z h_30 a_2 .int [(.int y0), (.int nn)] := A_32
  refine aN C ((.ref a_2)) d10_80 rfl rfl ?_
  refine g_ret C (eN hN) (v := (.ref a_2)) (ty := (.array .int)) rfl rfl (Or.inr (Or.inr (Or.inr (Or.inr ⟨rfl, rfl, rfl⟩)))) d10_81 (by decide) (by decide) ?_
  exact ⟨a_2, rfl, gs_a_2, ((((Keep.refl h0 []).ext E_4).trans K_16 (allS (Or.inr gs_a_2) all0)).trans K_31 (allS (Or.inr gs_a_2) all0)), f_33⟩
theorem rm_split_3 (hw : HW a0 Z) (a1 : Addr) (y0 y1 nn : Int32) (h0 : Heap) (Z0 : n0 ≤ h0.size) (O : Old Z n0 h0) (E0 : Exa Z h0 a1 "java/lang/String") (g0 : ¬ y0 < 0) (g1 : ¬ y1 < 0) (q0 : ∀ h, n0 ≤ h.size → Old Z n0 h → Keep h0 h [] → Met1 l Z ⟨"java/lang/String", "indexOf", "(I)I"⟩ jdk_42_method_79_code 2 (some .int) ⟨3, 0, 0, 46⟩ n0 #[(.ref a1), (.int 9)] h (fun v h' => v = some (.int y0) ∧ h = h')) (q1 : ∀ h, n0 ≤ h.size → Old Z n0 h → Keep h0 h [] → Met1 l Z ⟨"java/lang/String", "indexOf", "(II)I"⟩ jdk_42_method_80_code 3 (some .int) ⟨2, 0, 0, 32⟩ n0 #[(.ref a1), (.int 9), (.int (y0 + 1))] h (fun v h' => v = some (.int y1) ∧ h = h')) (q2 : ∀ h, n0 ≤ h.size → Old Z n0 h → Keep h0 h [] → Met1 l Z ⟨"java/lang/String", "indexOf", "(II)I"⟩ jdk_42_method_80_code 3 (some .int) ⟨2, 0, 0, 32⟩ n0 #[(.ref a1), (.int 9), (.int (y1 + 1))] h (fun v h' => v = some (.int (-1 : Int32)) ∧ h = h')) (ql : ∀ h, n0 ≤ h.size → Old Z n0 h → Keep h0 h [] → Met1 l Z ⟨"java/lang/String", "length", "()I"⟩ jdk_42_method_54_code 1 (some .int) ⟨1, 0, 0, 13⟩ n0 #[(.ref a1)] h (fun v h' => v = some (.int nn) ∧ h = h')) :
    Met1 l Z ⟨"org/linkloom/io/Fields", "split", "(Ljava/lang/String;I)[I"⟩ prog_23_method_2_code 5 (some (.array .int)) ⟨4, 1, 3, 59⟩ n0 #[(.ref a1), (.int 3)] h0 (fun v h => ∃ b : Addr, v = some (.ref b) ∧ h0.size ≤ b ∧ Keep h0 h [] ∧ Ary Z h b .int [.int y0, .int y1, .int nn]) := by
  refine met_of (plainFor_of_name pn_1) (L0 := #[.val (.ref a1), .val (.int 3), .unset, .unset, .unset]) (by first | (simp [argsToLocals, Value.category]; done) | rfl) ?_
  intro B C hN
  change Ctx B l _ _ "org/linkloom/io/Fields" "split" _ _ Z at C
  refine iN C 3 d10_0 rfl <| ynewarray C (oW hw 37 rfl) (ty := .int) rfl (by decide) (cap := 3) (by decide) (by decide) (by decide) (by decide) d10_1 ?_
  intro h_1 a_2 g_3 E_4 A_5
  have ne_6 : a1 ≠ a_2 := ne_new E0.lt g_3
  have ge_a_2 : n0 ≤ a_2 := lT Z0 (lE g_3.symm)
  have gs_a_2 : h0.size ≤ a_2 := lT (Nat.le_refl h0.size) (lE g_3.symm)
  have f_7 : Ary Z h_1 a_2 .int [(.int 0), (.int 0), (.int 0)] := A_5
  show Go _ _ _ _ 1 3 3 _ [(.ref a_2)]
  refine aT C d10_3 (#[aV a1, iV 3, aV a_2, uV, uV]) rfl rfl <| iC C 0 d10_4 rfl <| iT C d10_5 (#[aV a1, iV 3, aV a_2, iV 0, uV]) rfl <| aN C ((.ref a1)) d10_6 rfl rfl <| iB C 9 d10_7 rfl ?_
  have f_8 := (lT Z0 E_4.1)
  have f_9 := (O.ext E_4)
  have f_10 := (E0.ext E_4)
  refine cV C hw 45 46 48 47 6 49 rfl rfl rfl rfl rfl rfl f_10 (q0 h_1 f_8 f_9 ((Keep.refl h0 []).ext E_4)) [] [(.int 9)] pd_12 0 d10_9 ⟨rfl, rfl, rfl, rfl, rfl⟩ (by decide) ?_
  intro v_13 h_11 q_12
  obtain ⟨rfl, rfl⟩ := q_12
  show Go _ _ _ _ 1 3 12 _ [(.int y0)]
  refine iS C d10_12 (#[aV a1, iV 3, aV a_2, iV 0, iV y0]) rfl <| iL C y0 d10_14 rfl <| yif_n C d10_16 (XT.i0_lt_f g0) <| iN C 0 d10_19 rfl <| iN C 3 d10_20 rfl <| yicmp_n C d10_21 (XT.ii_ge_f (by decide)) <| aN C ((.ref a_2)) d10_24 rfl rfl <| iN C 0 d10_25 rfl <| iL C y0 d10_26 rfl <| yiastore C f_7 (by decide) (i := 0) (by decide) (show 0 < 3 by decide) (w := (.int y0)) rfl ge_a_2 d10_28 ?_
  intro h_15 K_16 A_17
  have f_18 : Ary Z h_15 a_2 .int [(.int y0), (.int 0), (.int 0)] := A_17
  refine nC C 0 1 d10_29 rfl rfl (#[aV a1, iV 3, aV a_2, iV 1, iV y0]) rfl <| aN C ((.ref a1)) d10_32 rfl rfl <| iB C 9 d10_33 rfl <| iL C y0 d10_35 rfl <| iC C 1 d10_37 rfl <| yiadd C d10_38 ?_
  have f_19 := (lT f_8 K_16.1)
  have f_20 := (f_9.keep K_16 (allS ge_a_2 all0))
  have f_21 := (f_10.keep K_16)
  refine cV C hw 91 51 53 52 6 54 rfl rfl rfl rfl rfl rfl f_21 (q1 h_15 f_19 f_20 (((Keep.refl h0 []).ext E_4).trans K_16 (allS (Or.inr gs_a_2) all0))) [] [(.int 9), (.int (y0 + 1))] pd_13 0 d10_39 ⟨rfl, rfl, rfl, rfl, rfl⟩ (by decide) ?_
  intro v_24 h_22 q_23
  obtain ⟨rfl, rfl⟩ := q_23
  show Go _ _ _ _ 1 3 42 _ [(.int y1)]
  refine iS C d10_42 (#[aV a1, iV 3, aV a_2, iV 1, iV y1]) rfl <| gT C d10_44 14 (by decide) <| iL C y1 d10_14 rfl <| yif_n C d10_16 (XT.i0_lt_f g1) <| iN C 1 d10_19 rfl <| iN C 3 d10_20 rfl <| yicmp_n C d10_21 (XT.ii_ge_f (by decide)) <| aN C ((.ref a_2)) d10_24 rfl rfl <| iN C 1 d10_25 rfl <| iL C y1 d10_26 rfl <| yiastore C f_18 (by decide) (i := 1) (by decide) (show 1 < 3 by decide) (w := (.int y1)) rfl ge_a_2 d10_28 ?_
  intro h_26 K_27 A_28
  have f_29 : Ary Z h_26 a_2 .int [(.int y0), (.int y1), (.int 0)] := A_28
  refine nC C 1 2 d10_29 rfl rfl (#[aV a1, iV 3, aV a_2, iV 2, iV y1]) rfl <| aN C ((.ref a1)) d10_32 rfl rfl <| iB C 9 d10_33 rfl <| iL C y1 d10_35 rfl <| iC C 1 d10_37 rfl <| yiadd C d10_38 ?_
  have f_30 := (lT f_19 K_27.1)
  have f_31 := (f_20.keep K_27 (allS ge_a_2 all0))
  have f_32 := (f_21.keep K_27)
  refine cV C hw 91 51 53 52 6 54 rfl rfl rfl rfl rfl rfl f_32 (q2 h_26 f_30 f_31 ((((Keep.refl h0 []).ext E_4).trans K_16 (allS (Or.inr gs_a_2) all0)).trans K_27 (allS (Or.inr gs_a_2) all0))) [] [(.int 9), (.int (y1 + 1))] pd_13 0 d10_39 ⟨rfl, rfl, rfl, rfl, rfl⟩ (by decide) ?_
  intro v_35 h_33 q_34
  obtain ⟨rfl, rfl⟩ := q_34
  show Go _ _ _ _ 1 3 42 _ [(.int (-1 : Int32))]
  refine iS C d10_42 (#[aV a1, iV 3, aV a_2, iV 2, iV (-1 : Int32)]) rfl <| gT C d10_44 14 (by decide) <| iL C ((-1 : Int32)) d10_14 rfl <| fY C d10_16 (XT.i0_lt_t (by decide)) 47 (by decide) <| iN C 2 d10_47 rfl <| iN C 3 d10_48 rfl <| iC C 1 d10_49 rfl <| yisub C d10_50 <| eS [(.int 2), (.int 2)] rfl <| cY C d10_51 (XT.ii_eq_t (by decide)) 71 (by decide) <| aN C ((.ref a_2)) d10_71 rfl rfl <| iN C 3 d10_72 rfl <| iC C 1 d10_73 rfl <| yisub C d10_74 <| eS [(.int 2), (.ref a_2)] rfl <| aN C ((.ref a1)) d10_75 rfl rfl <| cV C hw 87 61 63 62 6 64 rfl rfl rfl rfl rfl rfl f_32 (ql h_26 f_30 f_31 ((((Keep.refl h0 []).ext E_4).trans K_16 (allS (Or.inr gs_a_2) all0)).trans K_27 (allS (Or.inr gs_a_2) all0))) [(.int 2), (.ref a_2)] [] pd_14 2 d10_76 ⟨rfl, rfl, rfl, rfl, rfl⟩ (by decide) ?_
  intro v_39 h_37 q_38
  obtain ⟨rfl, rfl⟩ := q_38
  show Go _ _ _ _ 1 3 79 _ [(.int nn), (.int 2), (.ref a_2)]
  refine yiastore C f_29 (by decide) (i := 2) (by decide) (show 2 < 3 by decide) (w := (.int nn)) rfl ge_a_2 d10_79 ?_
  intro h_41 K_42 A_43
  have f_44 : Ary Z h_41 a_2 .int [(.int y0), (.int y1), (.int nn)] := A_43
  refine aN C ((.ref a_2)) d10_80 rfl rfl ?_
  refine g_ret C (eN hN) (v := (.ref a_2)) (ty := (.array .int)) rfl rfl (Or.inr (Or.inr (Or.inr (Or.inr ⟨rfl, rfl, rfl⟩)))) d10_81 (by decide) (by decide) ?_
  exact ⟨a_2, rfl, gs_a_2, (((((Keep.refl h0 []).ext E_4).trans K_16 (allS (Or.inr gs_a_2) all0)).trans K_27 (allS (Or.inr gs_a_2) all0)).trans K_42 (allS (Or.inr gs_a_2) all0)), f_44⟩
theorem rm_split_4 (hw : HW a0 Z) (a1 : Addr) (y0 y1 y2 nn : Int32) (h0 : Heap) (Z0 : n0 ≤ h0.size) (O : Old Z n0 h0) (E0 : Exa Z h0 a1 "java/lang/String") (g0 : ¬ y0 < 0) (g1 : ¬ y1 < 0) (g2 : ¬ y2 < 0) (q0 : ∀ h, n0 ≤ h.size → Old Z n0 h → Keep h0 h [] → Met1 l Z ⟨"java/lang/String", "indexOf", "(I)I"⟩ jdk_42_method_79_code 2 (some .int) ⟨3, 0, 0, 46⟩ n0 #[(.ref a1), (.int 9)] h (fun v h' => v = some (.int y0) ∧ h = h')) (q1 : ∀ h, n0 ≤ h.size → Old Z n0 h → Keep h0 h [] → Met1 l Z ⟨"java/lang/String", "indexOf", "(II)I"⟩ jdk_42_method_80_code 3 (some .int) ⟨2, 0, 0, 32⟩ n0 #[(.ref a1), (.int 9), (.int (y0 + 1))] h (fun v h' => v = some (.int y1) ∧ h = h')) (q2 : ∀ h, n0 ≤ h.size → Old Z n0 h → Keep h0 h [] → Met1 l Z ⟨"java/lang/String", "indexOf", "(II)I"⟩ jdk_42_method_80_code 3 (some .int) ⟨2, 0, 0, 32⟩ n0 #[(.ref a1), (.int 9), (.int (y1 + 1))] h (fun v h' => v = some (.int y2) ∧ h = h')) (q3 : ∀ h, n0 ≤ h.size → Old Z n0 h → Keep h0 h [] → Met1 l Z ⟨"java/lang/String", "indexOf", "(II)I"⟩ jdk_42_method_80_code 3 (some .int) ⟨2, 0, 0, 32⟩ n0 #[(.ref a1), (.int 9), (.int (y2 + 1))] h (fun v h' => v = some (.int (-1 : Int32)) ∧ h = h')) (ql : ∀ h, n0 ≤ h.size → Old Z n0 h → Keep h0 h [] → Met1 l Z ⟨"java/lang/String", "length", "()I"⟩ jdk_42_method_54_code 1 (some .int) ⟨1, 0, 0, 13⟩ n0 #[(.ref a1)] h (fun v h' => v = some (.int nn) ∧ h = h')) :
    Met1 l Z ⟨"org/linkloom/io/Fields", "split", "(Ljava/lang/String;I)[I"⟩ prog_23_method_2_code 5 (some (.array .int)) ⟨4, 1, 4, 59⟩ n0 #[(.ref a1), (.int 4)] h0 (fun v h => ∃ b : Addr, v = some (.ref b) ∧ h0.size ≤ b ∧ Keep h0 h [] ∧ Ary Z h b .int [.int y0, .int y1, .int y2, .int nn]) := by
  refine met_of (plainFor_of_name pn_1) (L0 := #[.val (.ref a1), .val (.int 4), .unset, .unset, .unset]) (by first | (simp [argsToLocals, Value.category]; done) | rfl) ?_
  intro B C hN
  change Ctx B l _ _ "org/linkloom/io/Fields" "split" _ _ Z at C
  refine iN C 4 d10_0 rfl <| ynewarray C (oW hw 37 rfl) (ty := .int) rfl (by decide) (cap := 4) (by decide) (by decide) (by decide) (by decide) d10_1 ?_
  intro h_1 a_2 g_3 E_4 A_5
  have ne_6 : a1 ≠ a_2 := ne_new E0.lt g_3
  have ge_a_2 : n0 ≤ a_2 := lT Z0 (lE g_3.symm)
  have gs_a_2 : h0.size ≤ a_2 := lT (Nat.le_refl h0.size) (lE g_3.symm)
  have f_7 : Ary Z h_1 a_2 .int [(.int 0), (.int 0), (.int 0), (.int 0)] := A_5
  show Go _ _ _ _ 1 4 3 _ [(.ref a_2)]
  refine aT C d10_3 (#[aV a1, iV 4, aV a_2, uV, uV]) rfl rfl <| iC C 0 d10_4 rfl <| iT C d10_5 (#[aV a1, iV 4, aV a_2, iV 0, uV]) rfl <| aN C ((.ref a1)) d10_6 rfl rfl <| iB C 9 d10_7 rfl ?_
  have f_8 := (lT Z0 E_4.1)
  have f_9 := (O.ext E_4)
  have f_10 := (E0.ext E_4)
  refine cV C hw 45 46 48 47 6 49 rfl rfl rfl rfl rfl rfl f_10 (q0 h_1 f_8 f_9 ((Keep.refl h0 []).ext E_4)) [] [(.int 9)] pd_12 0 d10_9 ⟨rfl, rfl, rfl, rfl, rfl⟩ (by decide) ?_
  intro v_13 h_11 q_12
  obtain ⟨rfl, rfl⟩ := q_12
  show Go _ _ _ _ 1 4 12 _ [(.int y0)]
  refine iS C d10_12 (#[aV a1, iV 4, aV a_2, iV 0, iV y0]) rfl <| iL C y0 d10_14 rfl <| yif_n C d10_16 (XT.i0_lt_f g0) <| iN C 0 d10_19 rfl <| iN C 4 d10_20 rfl <| yicmp_n C d10_21 (XT.ii_ge_f (by decide)) <| aN C ((.ref a_2)) d10_24 rfl rfl <| iN C 0 d10_25 rfl <| iL C y0 d10_26 rfl <| yiastore C f_7 (by decide) (i := 0) (by decide) (show 0 < 4 by decide) (w := (.int y0)) rfl ge_a_2 d10_28 ?_
  intro h_15 K_16 A_17
  have f_18 : Ary Z h_15 a_2 .int [(.int y0), (.int 0), (.int 0), (.int 0)] := A_17
  refine nC C 0 1 d10_29 rfl rfl (#[aV a1, iV 4, aV a_2, iV 1, iV y0]) rfl <| aN C ((.ref a1)) d10_32 rfl rfl <| iB C 9 d10_33 rfl <| iL C y0 d10_35 rfl <| iC C 1 d10_37 rfl <| yiadd C d10_38 ?_
  have f_19 := (lT f_8 K_16.1)
  have f_20 := (f_9.keep K_16 (allS ge_a_2 all0))
  have f_21 := (f_10.keep K_16)
  refine cV C hw 91 51 53 52 6 54 rfl rfl rfl rfl rfl rfl f_21 (q1 h_15 f_19 f_20 (((Keep.refl h0 []).ext E_4).trans K_16 (allS (Or.inr gs_a_2) all0))) [] [(.int 9), (.int (y0 + 1))] pd_13 0 d10_39 ⟨rfl, rfl, rfl, rfl, rfl⟩ (by decide) ?_
  intro v_24 h_22 q_23
  obtain ⟨rfl, rfl⟩ := q_23
  show Go _ _ _ _ 1 4 42 _ [(.int y1)]
  refine iS C d10_42 (#[aV a1, iV 4, aV a_2, iV 1, iV y1]) rfl <| gT C d10_44 14 (by decide) <| iL C y1 d10_14 rfl <| yif_n C d10_16 (XT.i0_lt_f g1) <| iN C 1 d10_19 rfl <| iN C 4 d10_20 rfl <| yicmp_n C d10_21 (XT.ii_ge_f (by decide)) <| aN C ((.ref a_2)) d10_24 rfl rfl <| iN C 1 d10_25 rfl <| iL C y1 d10_26 rfl <| yiastore C f_18 (by decide) (i := 1) (by decide) (show 1 < 4 by decide) (w := (.int y1)) rfl ge_a_2 d10_28 ?_
  intro h_26 K_27 A_28
  have f_29 : Ary Z h_26 a_2 .int [(.int y0), (.int y1), (.int 0), (.int 0)] := A_28
  refine nC C 1 2 d10_29 rfl rfl (#[aV a1, iV 4, aV a_2, iV 2, iV y1]) rfl <| aN C ((.ref a1)) d10_32 rfl rfl <| iB C 9 d10_33 rfl <| iL C y1 d10_35 rfl <| iC C 1 d10_37 rfl <| yiadd C d10_38 ?_
  have f_30 := (lT f_19 K_27.1)
  have f_31 := (f_20.keep K_27 (allS ge_a_2 all0))
  have f_32 := (f_21.keep K_27)
  refine cV C hw 91 51 53 52 6 54 rfl rfl rfl rfl rfl rfl f_32 (q2 h_26 f_30 f_31 ((((Keep.refl h0 []).ext E_4).trans K_16 (allS (Or.inr gs_a_2) all0)).trans K_27 (allS (Or.inr gs_a_2) all0))) [] [(.int 9), (.int (y1 + 1))] pd_13 0 d10_39 ⟨rfl, rfl, rfl, rfl, rfl⟩ (by decide) ?_
  intro v_35 h_33 q_34
  obtain ⟨rfl, rfl⟩ := q_34
  show Go _ _ _ _ 1 4 42 _ [(.int y2)]
  refine iS C d10_42 (#[aV a1, iV 4, aV a_2, iV 2, iV y2]) rfl <| gT C d10_44 14 (by decide) <| iL C y2 d10_14 rfl <| yif_n C d10_16 (XT.i0_lt_f g2) <| iN C 2 d10_19 rfl <| iN C 4 d10_20 rfl <| yicmp_n C d10_21 (XT.ii_ge_f (by decide)) <| aN C ((.ref a_2)) d10_24 rfl rfl <| iN C 2 d10_25 rfl <| iL C y2 d10_26 rfl <| yiastore C f_29 (by decide) (i := 2) (by decide) (show 2 < 4 by decide) (w := (.int y2)) rfl ge_a_2 d10_28 ?_
  intro h_37 K_38 A_39
  have f_40 : Ary Z h_37 a_2 .int [(.int y0), (.int y1), (.int y2), (.int 0)] := A_39
  refine nC C 2 3 d10_29 rfl rfl (#[aV a1, iV 4, aV a_2, iV 3, iV y2]) rfl <| aN C ((.ref a1)) d10_32 rfl rfl <| iB C 9 d10_33 rfl <| iL C y2 d10_35 rfl <| iC C 1 d10_37 rfl <| yiadd C d10_38 ?_
  have f_41 := (lT f_30 K_38.1)
  have f_42 := (f_31.keep K_38 (allS ge_a_2 all0))
  have f_43 := (f_32.keep K_38)
  refine cV C hw 91 51 53 52 6 54 rfl rfl rfl rfl rfl rfl f_43 (q3 h_37 f_41 f_42 (((((Keep.refl h0 []).ext E_4).trans K_16 (allS (Or.inr gs_a_2) all0)).trans K_27 (allS (Or.inr gs_a_2) all0)).trans K_38 (allS (Or.inr gs_a_2) all0))) [] [(.int 9), (.int (y2 + 1))] pd_13 0 d10_39 ⟨rfl, rfl, rfl, rfl, rfl⟩ (by decide) ?_
  intro v_46 h_44 q_45
  obtain ⟨rfl, rfl⟩ := q_45
  show Go _ _ _ _ 1 4 42 _ [(.int (-1 : Int32))]
  refine iS C d10_42 (#[aV a1, iV 4, aV a_2, iV 3, iV (-1 : Int32)]) rfl <| gT C d10_44 14 (by decide) <| iL C ((-1 : Int32)) d10_14 rfl <| fY C d10_16 (XT.i0_lt_t (by decide)) 47 (by decide) <| iN C 3 d10_47 rfl <| iN C 4 d10_48 rfl <| iC C 1 d10_49 rfl <| yisub C d10_50 <| eS [(.int 3), (.int 3)] rfl <| cY C d10_51 (XT.ii_eq_t (by decide)) 71 (by decide) <| aN C ((.ref a_2)) d10_71 rfl rfl <| iN C 4 d10_72 rfl <| iC C 1 d10_73 rfl <| yisub C d10_74 <| eS [(.int 3), (.ref a_2)] rfl <| aN C ((.ref a1)) d10_75 rfl rfl <| cV C hw 87 61 63 62 6 64 rfl rfl rfl rfl rfl rfl f_43 (ql h_37 f_41 f_42 (((((Keep.refl h0 []).ext E_4).trans K_16 (allS (Or.inr gs_a_2) all0)).trans K_27 (allS (Or.inr gs_a_2) all0)).trans K_38 (allS (Or.inr gs_a_2) all0))) [(.int 3), (.ref a_2)] [] pd_14 2 d10_76 ⟨rfl, rfl, rfl, rfl, rfl⟩ (by decide) ?_
  intro v_50 h_48 q_49
  obtain ⟨rfl, rfl⟩ := q_49
  show Go _ _ _ _ 1 4 79 _ [(.int nn), (.int 3), (.ref a_2)]
  refine yiastore C f_40 (by decide) (i := 3) (by decide) (show 3 < 4 by decide) (w := (.int nn)) rfl ge_a_2 d10_79 ?_
  intro h_52 K_53 A_54
  have f_55 : Ary Z h_52 a_2 .int [(.int y0), (.int y1), (.int y2), (.int nn)] := A_54
  refine aN C ((.ref a_2)) d10_80 rfl rfl ?_
  refine g_ret C (eN hN) (v := (.ref a_2)) (ty := (.array .int)) rfl rfl (Or.inr (Or.inr (Or.inr (Or.inr ⟨rfl, rfl, rfl⟩)))) d10_81 (by decide) (by decide) ?_
  exact ⟨a_2, rfl, gs_a_2, ((((((Keep.refl h0 []).ext E_4).trans K_16 (allS (Or.inr gs_a_2) all0)).trans K_27 (allS (Or.inr gs_a_2) all0)).trans K_38 (allS (Or.inr gs_a_2) all0)).trans K_53 (allS (Or.inr gs_a_2) all0)), f_55⟩
theorem rm_split_5 (hw : HW a0 Z) (a1 : Addr) (y0 y1 y2 y3 nn : Int32) (h0 : Heap) (Z0 : n0 ≤ h0.size) (O : Old Z n0 h0) (E0 : Exa Z h0 a1 "java/lang/String") (g0 : ¬ y0 < 0) (g1 : ¬ y1 < 0) (g2 : ¬ y2 < 0) (g3 : ¬ y3 < 0) (q0 : ∀ h, n0 ≤ h.size → Old Z n0 h → Keep h0 h [] → Met1 l Z ⟨"java/lang/String", "indexOf", "(I)I"⟩ jdk_42_method_79_code 2 (some .int) ⟨3, 0, 0, 46⟩ n0 #[(.ref a1), (.int 9)] h (fun v h' => v = some (.int y0) ∧ h = h')) (q1 : ∀ h, n0 ≤ h.size → Old Z n0 h → Keep h0 h [] → Met1 l Z ⟨"java/lang/String", "indexOf", "(II)I"⟩ jdk_42_method_80_code 3 (some .int) ⟨2, 0, 0, 32⟩ n0 #[(.ref a1), (.int 9), (.int (y0 + 1))] h (fun v h' => v = some (.int y1) ∧ h = h')) (q2 : ∀ h, n0 ≤ h.size → Old Z n0 h → Keep h0 h [] → Met1 l Z ⟨"java/lang/String", "indexOf", "(II)I"⟩ jdk_42_method_80_code 3 (some .int) ⟨2, 0, 0, 32⟩ n0 #[(.ref a1), (.int 9), (.int (y1 + 1))] h (fun v h' => v = some (.int y2) ∧ h = h')) (q3 : ∀ h, n0 ≤ h.size → Old Z n0 h → Keep h0 h [] → Met1 l Z ⟨"java/lang/String", "indexOf", "(II)I"⟩ jdk_42_method_80_code 3 (some .int) ⟨2, 0, 0, 32⟩ n0 #[(.ref a1), (.int 9), (.int (y2 + 1))] h (fun v h' => v = some (.int y3) ∧ h = h')) (q4 : ∀ h, n0 ≤ h.size → Old Z n0 h → Keep h0 h [] → Met1 l Z ⟨"java/lang/String", "indexOf", "(II)I"⟩ jdk_42_method_80_code 3 (some .int) ⟨2, 0, 0, 32⟩ n0 #[(.ref a1), (.int 9), (.int (y3 + 1))] h (fun v h' => v = some (.int (-1 : Int32)) ∧ h = h')) (ql : ∀ h, n0 ≤ h.size → Old Z n0 h → Keep h0 h [] → Met1 l Z ⟨"java/lang/String", "length", "()I"⟩ jdk_42_method_54_code 1 (some .int) ⟨1, 0, 0, 13⟩ n0 #[(.ref a1)] h (fun v h' => v = some (.int nn) ∧ h = h')) :
    Met1 l Z ⟨"org/linkloom/io/Fields", "split", "(Ljava/lang/String;I)[I"⟩ prog_23_method_2_code 5 (some (.array .int)) ⟨4, 1, 5, 59⟩ n0 #[(.ref a1), (.int 5)] h0 (fun v h => ∃ b : Addr, v = some (.ref b) ∧ h0.size ≤ b ∧ Keep h0 h [] ∧ Ary Z h b .int [.int y0, .int y1, .int y2, .int y3, .int nn]) := by
  refine met_of (plainFor_of_name pn_1) (L0 := #[.val (.ref a1), .val (.int 5), .unset, .unset, .unset]) (by first | (simp [argsToLocals, Value.category]; done) | rfl) ?_
  intro B C hN
  change Ctx B l _ _ "org/linkloom/io/Fields" "split" _ _ Z at C
  refine iN C 5 d10_0 rfl <| ynewarray C (oW hw 37 rfl) (ty := .int) rfl (by decide) (cap := 5) (by decide) (by decide) (by decide) (by decide) d10_1 ?_
  intro h_1 a_2 g_3 E_4 A_5
  have ne_6 : a1 ≠ a_2 := ne_new E0.lt g_3
  have ge_a_2 : n0 ≤ a_2 := lT Z0 (lE g_3.symm)
  have gs_a_2 : h0.size ≤ a_2 := lT (Nat.le_refl h0.size) (lE g_3.symm)
  have f_7 : Ary Z h_1 a_2 .int [(.int 0), (.int 0), (.int 0), (.int 0), (.int 0)] := A_5
  show Go _ _ _ _ 1 5 3 _ [(.ref a_2)]
  refine aT C d10_3 (#[aV a1, iV 5, aV a_2, uV, uV]) rfl rfl <| iC C 0 d10_4 rfl <| iT C d10_5 (#[aV a1, iV 5, aV a_2, iV 0, uV]) rfl <| aN C ((.ref a1)) d10_6 rfl rfl <| iB C 9 d10_7 rfl ?_
  have f_8 := (lT Z0 E_4.1)
  have f_9 := (O.ext E_4)
  have f_10 := (E0.ext E_4)
  refine cV C hw 45 46 48 47 6 49 rfl rfl rfl rfl rfl rfl f_10 (q0 h_1 f_8 f_9 ((Keep.refl h0 []).ext E_4)) [] [(.int 9)] pd_12 0 d10_9 ⟨rfl, rfl, rfl, rfl, rfl⟩ (by decide) ?_
  intro v_13 h_11 q_12
  obtain ⟨rfl, rfl⟩ := q_12
  show Go _ _ _ _ 1 5 12 _ [(.int y0)]
  refine iS C d10_12 (#[aV a1, iV 5, aV a_2, iV 0, iV y0]) rfl <| iL C y0 d10_14 rfl <| yif_n C d10_16 (XT.i0_lt_f g0) <| iN C 0 d10_19 rfl <| iN C 5 d10_20 rfl <| yicmp_n C d10_21 (XT.ii_ge_f (by decide)) <| aN C ((.ref a_2)) d10_24 rfl rfl <| iN C 0 d10_25 rfl <| iL C y0 d10_26 rfl <| yiastore C f_7 (by decide) (i := 0) (by decide) (show 0 < 5 by decide) (w := (.int y0)) rfl ge_a_2 d10_28 ?_
  intro h_15 K_16 A_17
  have f_18 : Ary Z h_15 a_2 .int [(.int y0), (.int 0), (.int 0), (.int 0), (.int 0)] := A_17
  refine nC C 0 1 d10_29 rfl rfl (#[aV a1, iV 5, aV a_2, iV 1, iV y0]) rfl <| aN C ((.ref a1)) d10_32 rfl rfl <| iB C 9 d10_33 rfl <| iL C y0 d10_35 rfl <| iC C 1 d10_37 rfl <| yiadd C d10_38 ?_
  have f_19 := (lT f_8 K_16.1)
  have f_20 := (f_9.keep K_16 (allS ge_a_2 all0))
  have f_21 := (f_10.keep K_16)
  refine cV C hw 91 51 53 52 6 54 rfl rfl rfl rfl rfl rfl f_21 (q1 h_15 f_19 f_20 (((Keep.refl h0 []).ext E_4).trans K_16 (allS (Or.inr gs_a_2) all0))) [] [(.int 9), (.int (y0 + 1))] pd_13 0 d10_39 ⟨rfl, rfl, rfl, rfl, rfl⟩ (by decide) ?_
  intro v_24 h_22 q_23
  obtain ⟨rfl, rfl⟩ := q_23
  show Go _ _ _ _ 1 5 42 _ [(.int y1)]
  refine iS C d10_42 (#[aV a1, iV 5, aV a_2, iV 1, iV y1]) rfl <| gT C d10_44 14 (by decide) <| iL C y1 d10_14 rfl <| yif_n C d10_16 (XT.i0_lt_f g1) <| iN C 1 d10_19 rfl <| iN C 5 d10_20 rfl <| yicmp_n C d10_21 (XT.ii_ge_f (by decide)) <| aN C ((.ref a_2)) d10_24 rfl rfl <| iN C 1 d10_25 rfl <| iL C y1 d10_26 rfl <| yiastore C f_18 (by decide) (i := 1) (by decide) (show 1 < 5 by decide) (w := (.int y1)) rfl ge_a_2 d10_28 ?_
  intro h_26 K_27 A_28
  have f_29 : Ary Z h_26 a_2 .int [(.int y0), (.int y1), (.int 0), (.int 0), (.int 0)] := A_28
  refine nC C 1 2 d10_29 rfl rfl (#[aV a1, iV 5, aV a_2, iV 2, iV y1]) rfl <| aN C ((.ref a1)) d10_32 rfl rfl <| iB C 9 d10_33 rfl <| iL C y1 d10_35 rfl <| iC C 1 d10_37 rfl <| yiadd C d10_38 ?_
  have f_30 := (lT f_19 K_27.1)
  have f_31 := (f_20.keep K_27 (allS ge_a_2 all0))
  have f_32 := (f_21.keep K_27)
  refine cV C hw 91 51 53 52 6 54 rfl rfl rfl rfl rfl rfl f_32 (q2 h_26 f_30 f_31 ((((Keep.refl h0 []).ext E_4).trans K_16 (allS (Or.inr gs_a_2) all0)).trans K_27 (allS (Or.inr gs_a_2) all0))) [] [(.int 9), (.int (y1 + 1))] pd_13 0 d10_39 ⟨rfl, rfl, rfl, rfl, rfl⟩ (by decide) ?_
  intro v_35 h_33 q_34
  obtain ⟨rfl, rfl⟩ := q_34
  show Go _ _ _ _ 1 5 42 _ [(.int y2)]
  refine iS C d10_42 (#[aV a1, iV 5, aV a_2, iV 2, iV y2]) rfl <| gT C d10_44 14 (by decide) <| iL C y2 d10_14 rfl <| yif_n C d10_16 (XT.i0_lt_f g2) <| iN C 2 d10_19 rfl <| iN C 5 d10_20 rfl <| yicmp_n C d10_21 (XT.ii_ge_f (by decide)) <| aN C ((.ref a_2)) d10_24 rfl rfl <| iN C 2 d10_25 rfl <| iL C y2 d10_26 rfl <| yiastore C f_29 (by decide) (i := 2) (by decide) (show 2 < 5 by decide) (w := (.int y2)) rfl ge_a_2 d10_28 ?_
  intro h_37 K_38 A_39
  have f_40 : Ary Z h_37 a_2 .int [(.int y0), (.int y1), (.int y2), (.int 0), (.int 0)] := A_39
  refine nC C 2 3 d10_29 rfl rfl (#[aV a1, iV 5, aV a_2, iV 3, iV y2]) rfl <| aN C ((.ref a1)) d10_32 rfl rfl <| iB C 9 d10_33 rfl <| iL C y2 d10_35 rfl <| iC C 1 d10_37 rfl <| yiadd C d10_38 ?_
  have f_41 := (lT f_30 K_38.1)
  have f_42 := (f_31.keep K_38 (allS ge_a_2 all0))
  have f_43 := (f_32.keep K_38)
  refine cV C hw 91 51 53 52 6 54 rfl rfl rfl rfl rfl rfl f_43 (q3 h_37 f_41 f_42 (((((Keep.refl h0 []).ext E_4).trans K_16 (allS (Or.inr gs_a_2) all0)).trans K_27 (allS (Or.inr gs_a_2) all0)).trans K_38 (allS (Or.inr gs_a_2) all0))) [] [(.int 9), (.int (y2 + 1))] pd_13 0 d10_39 ⟨rfl, rfl, rfl, rfl, rfl⟩ (by decide) ?_
  intro v_46 h_44 q_45
  obtain ⟨rfl, rfl⟩ := q_45
  show Go _ _ _ _ 1 5 42 _ [(.int y3)]
  refine iS C d10_42 (#[aV a1, iV 5, aV a_2, iV 3, iV y3]) rfl <| gT C d10_44 14 (by decide) <| iL C y3 d10_14 rfl <| yif_n C d10_16 (XT.i0_lt_f g3) <| iN C 3 d10_19 rfl <| iN C 5 d10_20 rfl <| yicmp_n C d10_21 (XT.ii_ge_f (by decide)) <| aN C ((.ref a_2)) d10_24 rfl rfl <| iN C 3 d10_25 rfl <| iL C y3 d10_26 rfl <| yiastore C f_40 (by decide) (i := 3) (by decide) (show 3 < 5 by decide) (w := (.int y3)) rfl ge_a_2 d10_28 ?_
  intro h_48 K_49 A_50
  have f_51 : Ary Z h_48 a_2 .int [(.int y0), (.int y1), (.int y2), (.int y3), (.int 0)] := A_50
  refine nC C 3 4 d10_29 rfl rfl (#[aV a1, iV 5, aV a_2, iV 4, iV y3]) rfl <| aN C ((.ref a1)) d10_32 rfl rfl <| iB C 9 d10_33 rfl <| iL C y3 d10_35 rfl <| iC C 1 d10_37 rfl <| yiadd C d10_38 ?_
  have f_52 := (lT f_41 K_49.1)
  have f_53 := (f_42.keep K_49 (allS ge_a_2 all0))
  have f_54 := (f_43.keep K_49)
  refine cV C hw 91 51 53 52 6 54 rfl rfl rfl rfl rfl rfl f_54 (q4 h_48 f_52 f_53 ((((((Keep.refl h0 []).ext E_4).trans K_16 (allS (Or.inr gs_a_2) all0)).trans K_27 (allS (Or.inr gs_a_2) all0)).trans K_38 (allS (Or.inr gs_a_2) all0)).trans K_49 (allS (Or.inr gs_a_2) all0))) [] [(.int 9), (.int (y3 + 1))] pd_13 0 d10_39 ⟨rfl, rfl, rfl, rfl, rfl⟩ (by decide) ?_
  intro v_57 h_55 q_56
  obtain ⟨rfl, rfl⟩ := q_56
  show Go _ _ _ _ 1 5 42 _ [(.int (-1 : Int32))]
  refine iS C d10_42 (#[aV a1, iV 5, aV a_2, iV 4, iV (-1 : Int32)]) rfl <| gT C d10_44 14 (by decide) <| iL C ((-1 : Int32)) d10_14 rfl <| fY C d10_16 (XT.i0_lt_t (by decide)) 47 (by decide) <| iN C 4 d10_47 rfl <| iN C 5 d10_48 rfl <| iC C 1 d10_49 rfl <| yisub C d10_50 <| eS [(.int 4), (.int 4)] rfl <| cY C d10_51 (XT.ii_eq_t (by decide)) 71 (by decide) <| aN C ((.ref a_2)) d10_71 rfl rfl <| iN C 5 d10_72 rfl <| iC C 1 d10_73 rfl <| yisub C d10_74 <| eS [(.int 4), (.ref a_2)] rfl <| aN C ((.ref a1)) d10_75 rfl rfl <| cV C hw 87 61 63 62 6 64 rfl rfl rfl rfl rfl rfl f_54 (ql h_48 f_52 f_53 ((((((Keep.refl h0 []).ext E_4).trans K_16 (allS (Or.inr gs_a_2) all0)).trans K_27 (allS (Or.inr gs_a_2) all0)).trans K_38 (allS (Or.inr gs_a_2) all0)).trans K_49 (allS (Or.inr gs_a_2) all0))) [(.int 4), (.ref a_2)] [] pd_14 2 d10_76 ⟨rfl, rfl, rfl, rfl, rfl⟩ (by decide) ?_
  intro v_61 h_59 q_60
  obtain ⟨rfl, rfl⟩ := q_60
  show Go _ _ _ _ 1 5 79 _ [(.int nn), (.int 4), (.ref a_2)]
  refine yiastore C f_51 (by decide) (i := 4) (by decide) (show 4 < 5 by decide) (w := (.int nn)) rfl ge_a_2 d10_79 ?_
  intro h_63 K_64 A_65
  have f_66 : Ary Z h_63 a_2 .int [(.int y0), (.int y1), (.int y2), (.int y3), (.int nn)] := A_65
  refine aN C ((.ref a_2)) d10_80 rfl rfl ?_
  refine g_ret C (eN hN) (v := (.ref a_2)) (ty := (.array .int)) rfl rfl (Or.inr (Or.inr (Or.inr (Or.inr ⟨rfl, rfl, rfl⟩)))) d10_81 (by decide) (by decide) ?_
  exact ⟨a_2, rfl, gs_a_2, (((((((Keep.refl h0 []).ext E_4).trans K_16 (allS (Or.inr gs_a_2) all0)).trans K_27 (allS (Or.inr gs_a_2) all0)).trans K_38 (allS (Or.inr gs_a_2) all0)).trans K_49 (allS (Or.inr gs_a_2) all0)).trans K_64 (allS (Or.inr gs_a_2) all0)), f_66⟩
theorem rm_split_6 (hw : HW a0 Z) (a1 : Addr) (y0 y1 y2 y3 y4 nn : Int32) (h0 : Heap) (Z0 : n0 ≤ h0.size) (O : Old Z n0 h0) (E0 : Exa Z h0 a1 "java/lang/String") (g0 : ¬ y0 < 0) (g1 : ¬ y1 < 0) (g2 : ¬ y2 < 0) (g3 : ¬ y3 < 0) (g4 : ¬ y4 < 0) (q0 : ∀ h, n0 ≤ h.size → Old Z n0 h → Keep h0 h [] → Met1 l Z ⟨"java/lang/String", "indexOf", "(I)I"⟩ jdk_42_method_79_code 2 (some .int) ⟨3, 0, 0, 46⟩ n0 #[(.ref a1), (.int 9)] h (fun v h' => v = some (.int y0) ∧ h = h')) (q1 : ∀ h, n0 ≤ h.size → Old Z n0 h → Keep h0 h [] → Met1 l Z ⟨"java/lang/String", "indexOf", "(II)I"⟩ jdk_42_method_80_code 3 (some .int) ⟨2, 0, 0, 32⟩ n0 #[(.ref a1), (.int 9), (.int (y0 + 1))] h (fun v h' => v = some (.int y1) ∧ h = h')) (q2 : ∀ h, n0 ≤ h.size → Old Z n0 h → Keep h0 h [] → Met1 l Z ⟨"java/lang/String", "indexOf", "(II)I"⟩ jdk_42_method_80_code 3 (some .int) ⟨2, 0, 0, 32⟩ n0 #[(.ref a1), (.int 9), (.int (y1 + 1))] h (fun v h' => v = some (.int y2) ∧ h = h')) (q3 : ∀ h, n0 ≤ h.size → Old Z n0 h → Keep h0 h [] → Met1 l Z ⟨"java/lang/String", "indexOf", "(II)I"⟩ jdk_42_method_80_code 3 (some .int) ⟨2, 0, 0, 32⟩ n0 #[(.ref a1), (.int 9), (.int (y2 + 1))] h (fun v h' => v = some (.int y3) ∧ h = h')) (q4 : ∀ h, n0 ≤ h.size → Old Z n0 h → Keep h0 h [] → Met1 l Z ⟨"java/lang/String", "indexOf", "(II)I"⟩ jdk_42_method_80_code 3 (some .int) ⟨2, 0, 0, 32⟩ n0 #[(.ref a1), (.int 9), (.int (y3 + 1))] h (fun v h' => v = some (.int y4) ∧ h = h')) (q5 : ∀ h, n0 ≤ h.size → Old Z n0 h → Keep h0 h [] → Met1 l Z ⟨"java/lang/String", "indexOf", "(II)I"⟩ jdk_42_method_80_code 3 (some .int) ⟨2, 0, 0, 32⟩ n0 #[(.ref a1), (.int 9), (.int (y4 + 1))] h (fun v h' => v = some (.int (-1 : Int32)) ∧ h = h')) (ql : ∀ h, n0 ≤ h.size → Old Z n0 h → Keep h0 h [] → Met1 l Z ⟨"java/lang/String", "length", "()I"⟩ jdk_42_method_54_code 1 (some .int) ⟨1, 0, 0, 13⟩ n0 #[(.ref a1)] h (fun v h' => v = some (.int nn) ∧ h = h')) :
    Met1 l Z ⟨"org/linkloom/io/Fields", "split", "(Ljava/lang/String;I)[I"⟩ prog_23_method_2_code 5 (some (.array .int)) ⟨4, 1, 6, 59⟩ n0 #[(.ref a1), (.int 6)] h0 (fun v h => ∃ b : Addr, v = some (.ref b) ∧ h0.size ≤ b ∧ Keep h0 h [] ∧ Ary Z h b .int [.int y0, .int y1, .int y2, .int y3, .int y4, .int nn]) := by
  refine met_of (plainFor_of_name pn_1) (L0 := #[.val (.ref a1), .val (.int 6), .unset, .unset, .unset]) (by first | (simp [argsToLocals, Value.category]; done) | rfl) ?_
  intro B C hN
  change Ctx B l _ _ "org/linkloom/io/Fields" "split" _ _ Z at C
  refine iN C 6 d10_0 rfl <| ynewarray C (oW hw 37 rfl) (ty := .int) rfl (by decide) (cap := 6) (by decide) (by decide) (by decide) (by decide) d10_1 ?_
  intro h_1 a_2 g_3 E_4 A_5
  have ne_6 : a1 ≠ a_2 := ne_new E0.lt g_3
  have ge_a_2 : n0 ≤ a_2 := lT Z0 (lE g_3.symm)
  have gs_a_2 : h0.size ≤ a_2 := lT (Nat.le_refl h0.size) (lE g_3.symm)
  have f_7 : Ary Z h_1 a_2 .int [(.int 0), (.int 0), (.int 0), (.int 0), (.int 0), (.int 0)] := A_5
  show Go _ _ _ _ 1 6 3 _ [(.ref a_2)]
  refine aT C d10_3 (#[aV a1, iV 6, aV a_2, uV, uV]) rfl rfl <| iC C 0 d10_4 rfl <| iT C d10_5 (#[aV a1, iV 6, aV a_2, iV 0, uV]) rfl <| aN C ((.ref a1)) d10_6 rfl rfl <| iB C 9 d10_7 rfl ?_
  have f_8 := (lT Z0 E_4.1)
  have f_9 := (O.ext E_4)
  have f_10 := (E0.ext E_4)
  refine cV C hw 45 46 48 47 6 49 rfl rfl rfl rfl rfl rfl f_10 (q0 h_1 f_8 f_9 ((Keep.refl h0 []).ext E_4)) [] [(.int 9)] pd_12 0 d10_9 ⟨rfl, rfl, rfl, rfl, rfl⟩ (by decide) ?_
  intro v_13 h_11 q_12
  obtain ⟨rfl, rfl⟩ := q_12
  show Go _ _ _ _ 1 6 12 _ [(.int y0)]
  refine iS C d10_12 (#[aV a1, iV 6, aV a_2, iV 0, iV y0]) rfl <| iL C y0 d10_14 rfl <| yif_n C d10_16 (XT.i0_lt_f g0) <| iN C 0 d10_19 rfl <| iN C 6 d10_20 rfl <| yicmp_n C d10_21 (XT.ii_ge_f (by decide)) <| aN C ((.ref a_2)) d10_24 rfl rfl <| iN C 0 d10_25 rfl <| iL C y0 d10_26 rfl <| yiastore C f_7 (by decide) (i := 0) (by decide) (show 0 < 6 by decide) (w := (.int y0)) rfl ge_a_2 d10_28 ?_
  intro h_15 K_16 A_17
  have f_18 : Ary Z h_15 a_2 .int [(.int y0), (.int 0), (.int 0), (.int 0), (.int 0), (.int 0)] := A_17
  refine nC C 0 1 d10_29 rfl rfl (#[aV a1, iV 6, aV a_2, iV 1, iV y0]) rfl <| aN C ((.ref a1)) d10_32 rfl rfl <| iB C 9 d10_33 rfl <| iL C y0 d10_35 rfl <| iC C 1 d10_37 rfl <| yiadd C d10_38 ?_
  have f_19 := (lT f_8 K_16.1)
  have f_20 := (f_9.keep K_16 (allS ge_a_2 all0))
  have f_21 := (f_10.keep K_16)
  refine cV C hw 91 51 53 52 6 54 rfl rfl rfl rfl rfl rfl f_21 (q1 h_15 f_19 f_20 (((Keep.refl h0 []).ext E_4).trans K_16 (allS (Or.inr gs_a_2) all0))) [] [(.int 9), (.int (y0 + 1))] pd_13 0 d10_39 ⟨rfl, rfl, rfl, rfl, rfl⟩ (by decide) ?_
  intro v_24 h_22 q_23
  obtain ⟨rfl, rfl⟩ := q_23
  show Go _ _ _ _ 1 6 42 _ [(.int y1)]
  refine iS C d10_42 (#[aV a1, iV 6, aV a_2, iV 1, iV y1]) rfl <| gT C d10_44 14 (by decide) <| iL C y1 d10_14 rfl <| yif_n C d10_16 (XT.i0_lt_f g1) <| iN C 1 d10_19 rfl <| iN C 6 d10_20 rfl <| yicmp_n C d10_21 (XT.ii_ge_f (by decide)) <| aN C ((.ref a_2)) d10_24 rfl rfl <| iN C 1 d10_25 rfl <| iL C y1 d10_26 rfl <| yiastore C f_18 (by decide) (i := 1) (by decide) (show 1 < 6 by decide) (w := (.int y1)) rfl ge_a_2 d10_28 ?_
  intro h_26 K_27 A_28
  have f_29 : Ary Z h_26 a_2 .int [(.int y0), (.int y1), (.int 0), (.int 0), (.int 0), (.int 0)] := A_28
  refine nC C 1 2 d10_29 rfl rfl (#[aV a1, iV 6, aV a_2, iV 2, iV y1]) rfl <| aN C ((.ref a1)) d10_32 rfl rfl <| iB C 9 d10_33 rfl <| iL C y1 d10_35 rfl <| iC C 1 d10_37 rfl <| yiadd C d10_38 ?_
  have f_30 := (lT f_19 K_27.1)
  have f_31 := (f_20.keep K_27 (allS ge_a_2 all0))
  have f_32 := (f_21.keep K_27)
  refine cV C hw 91 51 53 52 6 54 rfl rfl rfl rfl rfl rfl f_32 (q2 h_26 f_30 f_31 ((((Keep.refl h0 []).ext E_4).trans K_16 (allS (Or.inr gs_a_2) all0)).trans K_27 (allS (Or.inr gs_a_2) all0))) [] [(.int 9), (.int (y1 + 1))] pd_13 0 d10_39 ⟨rfl, rfl, rfl, rfl, rfl⟩ (by decide) ?_
  intro v_35 h_33 q_34
  obtain ⟨rfl, rfl⟩ := q_34
  show Go _ _ _ _ 1 6 42 _ [(.int y2)]
  refine iS C d10_42 (#[aV a1, iV 6, aV a_2, iV 2, iV y2]) rfl <| gT C d10_44 14 (by decide) <| iL C y2 d10_14 rfl <| yif_n C d10_16 (XT.i0_lt_f g2) <| iN C 2 d10_19 rfl <| iN C 6 d10_20 rfl <| yicmp_n C d10_21 (XT.ii_ge_f (by decide)) <| aN C ((.ref a_2)) d10_24 rfl rfl <| iN C 2 d10_25 rfl <| iL C y2 d10_26 rfl <| yiastore C f_29 (by decide) (i := 2) (by decide) (show 2 < 6 by decide) (w := (.int y2)) rfl ge_a_2 d10_28 ?_
  intro h_37 K_38 A_39
  have f_40 : Ary Z h_37 a_2 .int [(.int y0), (.int y1), (.int y2), (.int 0), (.int 0), (.int 0)] := A_39
  refine nC C 2 3 d10_29 rfl rfl (#[aV a1, iV 6, aV a_2, iV 3, iV y2]) rfl <| aN C ((.ref a1)) d10_32 rfl rfl <| iB C 9 d10_33 rfl <| iL C y2 d10_35 rfl <| iC C 1 d10_37 rfl <| yiadd C d10_38 ?_
  have f_41 := (lT f_30 K_38.1)
  have f_42 := (f_31.keep K_38 (allS ge_a_2 all0))
  have f_43 := (f_32.keep K_38)
  refine cV C hw 91 51 53 52 6 54 rfl rfl rfl rfl rfl rfl f_43 (q3 h_37 f_41 f_42 (((((Keep.refl h0 []).ext E_4).trans K_16 (allS (Or.inr gs_a_2) all0)).trans K_27 (allS (Or.inr gs_a_2) all0)).trans K_38 (allS (Or.inr gs_a_2) all0))) [] [(.int 9), (.int (y2 + 1))] pd_13 0 d10_39 ⟨rfl, rfl, rfl, rfl, rfl⟩ (by decide) ?_
  intro v_46 h_44 q_45
  obtain ⟨rfl, rfl⟩ := q_45
  show Go _ _ _ _ 1 6 42 _ [(.int y3)]
  refine iS C d10_42 (#[aV a1, iV 6, aV a_2, iV 3, iV y3]) rfl <| gT C d10_44 14 (by decide) <| iL C y3 d10_14 rfl <| yif_n C d10_16 (XT.i0_lt_f g3) <| iN C 3 d10_19 rfl <| iN C 6 d10_20 rfl <| yicmp_n C d10_21 (XT.ii_ge_f (by decide)) <| aN C ((.ref a_2)) d10_24 rfl rfl <| iN C 3 d10_25 rfl <| iL C y3 d10_26 rfl <| yiastore C f_40 (by decide) (i := 3) (by decide) (show 3 < 6 by decide) (w := (.int y3)) rfl ge_a_2 d10_28 ?_
  intro h_48 K_49 A_50
  have f_51 : Ary Z h_48 a_2 .int [(.int y0), (.int y1), (.int y2), (.int y3), (.int 0), (.int 0)] := A_50
  refine nC C 3 4 d10_29 rfl rfl (#[aV a1, iV 6, aV a_2, iV 4, iV y3]) rfl <| aN C ((.ref a1)) d10_32 rfl rfl <| iB C 9 d10_33 rfl <| iL C y3 d10_35 rfl <| iC C 1 d10_37 rfl <| yiadd C d10_38 ?_
  have f_52 := (lT f_41 K_49.1)
  have f_53 := (f_42.keep K_49 (allS ge_a_2 all0))
  have f_54 := (f_43.keep K_49)
  refine cV C hw 91 51 53 52 6 54 rfl rfl rfl rfl rfl rfl f_54 (q4 h_48 f_52 f_53 ((((((Keep.refl h0 []).ext E_4).trans K_16 (allS (Or.inr gs_a_2) all0)).trans K_27 (allS (Or.inr gs_a_2) all0)).trans K_38 (allS (Or.inr gs_a_2) all0)).trans K_49 (allS (Or.inr gs_a_2) all0))) [] [(.int 9), (.int (y3 + 1))] pd_13 0 d10_39 ⟨rfl, rfl, rfl, rfl, rfl⟩ (by decide) ?_
  intro v_57 h_55 q_56
  obtain ⟨rfl, rfl⟩ := q_56
  show Go _ _ _ _ 1 6 42 _ [(.int y4)]
  refine iS C d10_42 (#[aV a1, iV 6, aV a_2, iV 4, iV y4]) rfl <| gT C d10_44 14 (by decide) <| iL C y4 d10_14 rfl <| yif_n C d10_16 (XT.i0_lt_f g4) <| iN C 4 d10_19 rfl <| iN C 6 d10_20 rfl <| yicmp_n C d10_21 (XT.ii_ge_f (by decide)) <| aN C ((.ref a_2)) d10_24 rfl rfl <| iN C 4 d10_25 rfl <| iL C y4 d10_26 rfl <| yiastore C f_51 (by decide) (i := 4) (by decide) (show 4 < 6 by decide) (w := (.int y4)) rfl ge_a_2 d10_28 ?_
  intro h_59 K_60 A_61
  have f_62 : Ary Z h_59 a_2 .int [(.int y0), (.int y1), (.int y2), (.int y3), (.int y4), (.int 0)] := A_61
  refine nC C 4 5 d10_29 rfl rfl (#[aV a1, iV 6, aV a_2, iV 5, iV y4]) rfl <| aN C ((.ref a1)) d10_32 rfl rfl <| iB C 9 d10_33 rfl <| iL C y4 d10_35 rfl <| iC C 1 d10_37 rfl <| yiadd C d10_38 ?_
  have f_63 := (lT f_52 K_60.1)
  have f_64 := (f_53.keep K_60 (allS ge_a_2 all0))
  have f_65 := (f_54.keep K_60)
  refine cV C hw 91 51 53 52 6 54 rfl rfl rfl rfl rfl rfl f_65 (q5 h_59 f_63 f_64 (((((((Keep.refl h0 []).ext E_4).trans K_16 (allS (Or.inr gs_a_2) all0)).trans K_27 (allS (Or.inr gs_a_2) all0)).trans K_38 (allS (Or.inr gs_a_2) all0)).trans K_49 (allS (Or.inr gs_a_2) all0)).trans K_60 (allS (Or.inr gs_a_2) all0))) [] [(.int 9), (.int (y4 + 1))] pd_13 0 d10_39 ⟨rfl, rfl, rfl, rfl, rfl⟩ (by decide) ?_
  intro v_68 h_66 q_67
  obtain ⟨rfl, rfl⟩ := q_67
  show Go _ _ _ _ 1 6 42 _ [(.int (-1 : Int32))]
  refine iS C d10_42 (#[aV a1, iV 6, aV a_2, iV 5, iV (-1 : Int32)]) rfl <| gT C d10_44 14 (by decide) <| iL C ((-1 : Int32)) d10_14 rfl <| fY C d10_16 (XT.i0_lt_t (by decide)) 47 (by decide) <| iN C 5 d10_47 rfl <| iN C 6 d10_48 rfl <| iC C 1 d10_49 rfl <| yisub C d10_50 <| eS [(.int 5), (.int 5)] rfl <| cY C d10_51 (XT.ii_eq_t (by decide)) 71 (by decide) <| aN C ((.ref a_2)) d10_71 rfl rfl <| iN C 6 d10_72 rfl <| iC C 1 d10_73 rfl <| yisub C d10_74 <| eS [(.int 5), (.ref a_2)] rfl <| aN C ((.ref a1)) d10_75 rfl rfl <| cV C hw 87 61 63 62 6 64 rfl rfl rfl rfl rfl rfl f_65 (ql h_59 f_63 f_64 (((((((Keep.refl h0 []).ext E_4).trans K_16 (allS (Or.inr gs_a_2) all0)).trans K_27 (allS (Or.inr gs_a_2) all0)).trans K_38 (allS (Or.inr gs_a_2) all0)).trans K_49 (allS (Or.inr gs_a_2) all0)).trans K_60 (allS (Or.inr gs_a_2) all0))) [(.int 5), (.ref a_2)] [] pd_14 2 d10_76 ⟨rfl, rfl, rfl, rfl, rfl⟩ (by decide) ?_
  intro v_72 h_70 q_71
  obtain ⟨rfl, rfl⟩ := q_71
  show Go _ _ _ _ 1 6 79 _ [(.int nn), (.int 5), (.ref a_2)]
  refine yiastore C f_62 (by decide) (i := 5) (by decide) (show 5 < 6 by decide) (w := (.int nn)) rfl ge_a_2 d10_79 ?_
  intro h_74 K_75 A_76
  have f_77 : Ary Z h_74 a_2 .int [(.int y0), (.int y1), (.int y2), (.int y3), (.int y4), (.int nn)] := A_76
  refine aN C ((.ref a_2)) d10_80 rfl rfl ?_
  refine g_ret C (eN hN) (v := (.ref a_2)) (ty := (.array .int)) rfl rfl (Or.inr (Or.inr (Or.inr (Or.inr ⟨rfl, rfl, rfl⟩)))) d10_81 (by decide) (by decide) ?_
  exact ⟨a_2, rfl, gs_a_2, ((((((((Keep.refl h0 []).ext E_4).trans K_16 (allS (Or.inr gs_a_2) all0)).trans K_27 (allS (Or.inr gs_a_2) all0)).trans K_38 (allS (Or.inr gs_a_2) all0)).trans K_49 (allS (Or.inr gs_a_2) all0)).trans K_60 (allS (Or.inr gs_a_2) all0)).trans K_75 (allS (Or.inr gs_a_2) all0)), f_77⟩
theorem d21_0 : decode method_5_code 0 = .ok (.iload_n 3, 1) := by decide +kernel
theorem d21_1 : decode method_5_code 1 = .ok (.iload_n 2, 1) := by decide +kernel
theorem d21_2 : decode method_5_code 2 = .ok (.if_icmp .ge 12, 3) := by decide +kernel
theorem d21_5 : decode method_5_code 5 = .ok (.aload_n 0, 1) := by decide +kernel
theorem d21_6 : decode method_5_code 6 = .ok (.iload_n 3, 1) := by decide +kernel
theorem d21_7 : decode method_5_code 7 = .ok (.iaload, 1) := by decide +kernel
theorem d21_8 : decode method_5_code 8 = .ok (.aload_n 1, 1) := by decide +kernel
theorem d21_9 : decode method_5_code 9 = .ok (.iload_n 3, 1) := by decide +kernel
theorem d21_10 : decode method_5_code 10 = .ok (.iaload, 1) := by decide +kernel
theorem d21_11 : decode method_5_code 11 = .ok (.if_icmp .ne 7, 3) := by decide +kernel
theorem d21_14 : decode method_5_code 14 = .ok (.iconst 1, 1) := by decide +kernel
theorem d21_15 : decode method_5_code 15 = .ok (.goto 4, 3) := by decide +kernel
theorem d21_19 : decode method_5_code 19 = .ok (.ireturn, 1) := by decide +kernel
theorem rm_at_1_0 (hw : HW a0 Z) (a1 a2 : Addr) (x0 y1 y2 y3 y4 y5 : Int32) (h0 : Heap) (Z0 : n0 ≤ h0.size) (A1 : Ary Z h0 a1 .int [.int x0]) (A2 : Ary Z h0 a2 .int [.int x0, .int y1, .int y2, .int y3, .int y4, .int y5]) :
    Met1 l Z ⟨"org/linkloom/io/FieldsSplitPinLaw", "at", "([I[III)Z"⟩ method_5_code 4 (some .boolean) ⟨0, 0, 0, 0⟩ n0 #[(.ref a1), (.ref a2), (.int 1), (.int 0)] h0 (fun v h => v = some (.int 1) ∧ h0 = h) := by
  refine met_of (plainFor_of_name pn_0) (L0 := #[.val (.ref a1), .val (.ref a2), .val (.int 1), .val (.int 0)]) (by first | (simp [argsToLocals, Value.category]; done) | rfl) ?_
  intro B C hN
  change Ctx B l _ _ "org/linkloom/io/FieldsSplitPinLaw" "at" _ _ Z at C
  refine iN C 0 d21_0 rfl <| iN C 1 d21_1 rfl <| yicmp_n C d21_2 (XT.ii_ge_f (by decide)) <| aN C ((.ref a1)) d21_5 rfl rfl <| iN C 0 d21_6 rfl <| yiaload C A1 (by decide) (i := 0) (by decide) (v := x0) rfl d21_7 <| aN C ((.ref a2)) d21_8 rfl rfl <| iN C 0 d21_9 rfl <| yiaload C A2 (by decide) (i := 0) (by decide) (v := x0) rfl d21_10 <| yicmp_n C d21_11 (XT.ii_ne_f rfl) <| iC C 1 d21_14 rfl <| gT C d21_15 19 (by decide) ?_
  refine g_ret C (eN hN) (v := (.int 1)) (ty := .boolean) rfl rfl (Or.inl ⟨rfl, Or.inr (Or.inl rfl), _, rfl⟩) d21_19 (by decide) (by decide) ?_
  exact ⟨rfl, rfl⟩
theorem rm_at_1_1 (hw : HW a0 Z) (a1 a2 : Addr) (x0 y1 y2 y3 y4 y5 : Int32) (h0 : Heap) (Z0 : n0 ≤ h0.size) (A1 : Ary Z h0 a1 .int [.int x0]) (A2 : Ary Z h0 a2 .int [.int x0, .int y1, .int y2, .int y3, .int y4, .int y5]) :
    Met1 l Z ⟨"org/linkloom/io/FieldsSplitPinLaw", "at", "([I[III)Z"⟩ method_5_code 4 (some .boolean) ⟨0, 0, 0, 0⟩ n0 #[(.ref a1), (.ref a2), (.int 1), (.int 1)] h0 (fun v h => v = some (.int 1) ∧ h0 = h) := by
  refine met_of (plainFor_of_name pn_0) (L0 := #[.val (.ref a1), .val (.ref a2), .val (.int 1), .val (.int 1)]) (by first | (simp [argsToLocals, Value.category]; done) | rfl) ?_
  intro B C hN
  change Ctx B l _ _ "org/linkloom/io/FieldsSplitPinLaw" "at" _ _ Z at C
  refine iN C 1 d21_0 rfl <| iN C 1 d21_1 rfl <| cY C d21_2 (XT.ii_ge_t (by decide)) 14 (by decide) <| iC C 1 d21_14 rfl <| gT C d21_15 19 (by decide) ?_
  refine g_ret C (eN hN) (v := (.int 1)) (ty := .boolean) rfl rfl (Or.inl ⟨rfl, Or.inr (Or.inl rfl), _, rfl⟩) d21_19 (by decide) (by decide) ?_
  exact ⟨rfl, rfl⟩
theorem rm_at_1_2 (hw : HW a0 Z) (a1 a2 : Addr) (x0 y1 y2 y3 y4 y5 : Int32) (h0 : Heap) (Z0 : n0 ≤ h0.size) (A1 : Ary Z h0 a1 .int [.int x0]) (A2 : Ary Z h0 a2 .int [.int x0, .int y1, .int y2, .int y3, .int y4, .int y5]) :
    Met1 l Z ⟨"org/linkloom/io/FieldsSplitPinLaw", "at", "([I[III)Z"⟩ method_5_code 4 (some .boolean) ⟨0, 0, 0, 0⟩ n0 #[(.ref a1), (.ref a2), (.int 1), (.int 2)] h0 (fun v h => v = some (.int 1) ∧ h0 = h) := by
  refine met_of (plainFor_of_name pn_0) (L0 := #[.val (.ref a1), .val (.ref a2), .val (.int 1), .val (.int 2)]) (by first | (simp [argsToLocals, Value.category]; done) | rfl) ?_
  intro B C hN
  change Ctx B l _ _ "org/linkloom/io/FieldsSplitPinLaw" "at" _ _ Z at C
  refine iN C 2 d21_0 rfl <| iN C 1 d21_1 rfl <| cY C d21_2 (XT.ii_ge_t (by decide)) 14 (by decide) <| iC C 1 d21_14 rfl <| gT C d21_15 19 (by decide) ?_
  refine g_ret C (eN hN) (v := (.int 1)) (ty := .boolean) rfl rfl (Or.inl ⟨rfl, Or.inr (Or.inl rfl), _, rfl⟩) d21_19 (by decide) (by decide) ?_
  exact ⟨rfl, rfl⟩
theorem rm_at_1_3 (hw : HW a0 Z) (a1 a2 : Addr) (x0 y1 y2 y3 y4 y5 : Int32) (h0 : Heap) (Z0 : n0 ≤ h0.size) (A1 : Ary Z h0 a1 .int [.int x0]) (A2 : Ary Z h0 a2 .int [.int x0, .int y1, .int y2, .int y3, .int y4, .int y5]) :
    Met1 l Z ⟨"org/linkloom/io/FieldsSplitPinLaw", "at", "([I[III)Z"⟩ method_5_code 4 (some .boolean) ⟨0, 0, 0, 0⟩ n0 #[(.ref a1), (.ref a2), (.int 1), (.int 3)] h0 (fun v h => v = some (.int 1) ∧ h0 = h) := by
  refine met_of (plainFor_of_name pn_0) (L0 := #[.val (.ref a1), .val (.ref a2), .val (.int 1), .val (.int 3)]) (by first | (simp [argsToLocals, Value.category]; done) | rfl) ?_
  intro B C hN
  change Ctx B l _ _ "org/linkloom/io/FieldsSplitPinLaw" "at" _ _ Z at C
  refine iN C 3 d21_0 rfl <| iN C 1 d21_1 rfl <| cY C d21_2 (XT.ii_ge_t (by decide)) 14 (by decide) <| iC C 1 d21_14 rfl <| gT C d21_15 19 (by decide) ?_
  refine g_ret C (eN hN) (v := (.int 1)) (ty := .boolean) rfl rfl (Or.inl ⟨rfl, Or.inr (Or.inl rfl), _, rfl⟩) d21_19 (by decide) (by decide) ?_
  exact ⟨rfl, rfl⟩
theorem rm_at_1_4 (hw : HW a0 Z) (a1 a2 : Addr) (x0 y1 y2 y3 y4 y5 : Int32) (h0 : Heap) (Z0 : n0 ≤ h0.size) (A1 : Ary Z h0 a1 .int [.int x0]) (A2 : Ary Z h0 a2 .int [.int x0, .int y1, .int y2, .int y3, .int y4, .int y5]) :
    Met1 l Z ⟨"org/linkloom/io/FieldsSplitPinLaw", "at", "([I[III)Z"⟩ method_5_code 4 (some .boolean) ⟨0, 0, 0, 0⟩ n0 #[(.ref a1), (.ref a2), (.int 1), (.int 4)] h0 (fun v h => v = some (.int 1) ∧ h0 = h) := by
  refine met_of (plainFor_of_name pn_0) (L0 := #[.val (.ref a1), .val (.ref a2), .val (.int 1), .val (.int 4)]) (by first | (simp [argsToLocals, Value.category]; done) | rfl) ?_
  intro B C hN
  change Ctx B l _ _ "org/linkloom/io/FieldsSplitPinLaw" "at" _ _ Z at C
  refine iN C 4 d21_0 rfl <| iN C 1 d21_1 rfl <| cY C d21_2 (XT.ii_ge_t (by decide)) 14 (by decide) <| iC C 1 d21_14 rfl <| gT C d21_15 19 (by decide) ?_
  refine g_ret C (eN hN) (v := (.int 1)) (ty := .boolean) rfl rfl (Or.inl ⟨rfl, Or.inr (Or.inl rfl), _, rfl⟩) d21_19 (by decide) (by decide) ?_
  exact ⟨rfl, rfl⟩
theorem rm_at_1_5 (hw : HW a0 Z) (a1 a2 : Addr) (x0 y1 y2 y3 y4 y5 : Int32) (h0 : Heap) (Z0 : n0 ≤ h0.size) (A1 : Ary Z h0 a1 .int [.int x0]) (A2 : Ary Z h0 a2 .int [.int x0, .int y1, .int y2, .int y3, .int y4, .int y5]) :
    Met1 l Z ⟨"org/linkloom/io/FieldsSplitPinLaw", "at", "([I[III)Z"⟩ method_5_code 4 (some .boolean) ⟨0, 0, 0, 0⟩ n0 #[(.ref a1), (.ref a2), (.int 1), (.int 5)] h0 (fun v h => v = some (.int 1) ∧ h0 = h) := by
  refine met_of (plainFor_of_name pn_0) (L0 := #[.val (.ref a1), .val (.ref a2), .val (.int 1), .val (.int 5)]) (by first | (simp [argsToLocals, Value.category]; done) | rfl) ?_
  intro B C hN
  change Ctx B l _ _ "org/linkloom/io/FieldsSplitPinLaw" "at" _ _ Z at C
  refine iN C 5 d21_0 rfl <| iN C 1 d21_1 rfl <| cY C d21_2 (XT.ii_ge_t (by decide)) 14 (by decide) <| iC C 1 d21_14 rfl <| gT C d21_15 19 (by decide) ?_
  refine g_ret C (eN hN) (v := (.int 1)) (ty := .boolean) rfl rfl (Or.inl ⟨rfl, Or.inr (Or.inl rfl), _, rfl⟩) d21_19 (by decide) (by decide) ?_
  exact ⟨rfl, rfl⟩
theorem rm_at_2_0 (hw : HW a0 Z) (a1 a2 : Addr) (x0 x1 y2 y3 y4 y5 : Int32) (h0 : Heap) (Z0 : n0 ≤ h0.size) (A1 : Ary Z h0 a1 .int [.int x0, .int x1]) (A2 : Ary Z h0 a2 .int [.int x0, .int x1, .int y2, .int y3, .int y4, .int y5]) :
    Met1 l Z ⟨"org/linkloom/io/FieldsSplitPinLaw", "at", "([I[III)Z"⟩ method_5_code 4 (some .boolean) ⟨0, 0, 0, 0⟩ n0 #[(.ref a1), (.ref a2), (.int 2), (.int 0)] h0 (fun v h => v = some (.int 1) ∧ h0 = h) := by
  refine met_of (plainFor_of_name pn_0) (L0 := #[.val (.ref a1), .val (.ref a2), .val (.int 2), .val (.int 0)]) (by first | (simp [argsToLocals, Value.category]; done) | rfl) ?_
  intro B C hN
  change Ctx B l _ _ "org/linkloom/io/FieldsSplitPinLaw" "at" _ _ Z at C
  refine iN C 0 d21_0 rfl <| iN C 2 d21_1 rfl <| yicmp_n C d21_2 (XT.ii_ge_f (by decide)) <| aN C ((.ref a1)) d21_5 rfl rfl <| iN C 0 d21_6 rfl <| yiaload C A1 (by decide) (i := 0) (by decide) (v := x0) rfl d21_7 <| aN C ((.ref a2)) d21_8 rfl rfl <| iN C 0 d21_9 rfl <| yiaload C A2 (by decide) (i := 0) (by decide) (v := x0) rfl d21_10 <| yicmp_n C d21_11 (XT.ii_ne_f rfl) <| iC C 1 d21_14 rfl <| gT C d21_15 19 (by decide) ?_
  refine g_ret C (eN hN) (v := (.int 1)) (ty := .boolean) rfl rfl (Or.inl ⟨rfl, Or.inr (Or.inl rfl), _, rfl⟩) d21_19 (by decide) (by decide) ?_
  exact ⟨rfl, rfl⟩
theorem rm_at_2_1 (hw : HW a0 Z) (a1 a2 : Addr) (x0 x1 y2 y3 y4 y5 : Int32) (h0 : Heap) (Z0 : n0 ≤ h0.size) (A1 : Ary Z h0 a1 .int [.int x0, .int x1]) (A2 : Ary Z h0 a2 .int [.int x0, .int x1, .int y2, .int y3, .int y4, .int y5]) :
    Met1 l Z ⟨"org/linkloom/io/FieldsSplitPinLaw", "at", "([I[III)Z"⟩ method_5_code 4 (some .boolean) ⟨0, 0, 0, 0⟩ n0 #[(.ref a1), (.ref a2), (.int 2), (.int 1)] h0 (fun v h => v = some (.int 1) ∧ h0 = h) := by
  refine met_of (plainFor_of_name pn_0) (L0 := #[.val (.ref a1), .val (.ref a2), .val (.int 2), .val (.int 1)]) (by first | (simp [argsToLocals, Value.category]; done) | rfl) ?_
  intro B C hN
  change Ctx B l _ _ "org/linkloom/io/FieldsSplitPinLaw" "at" _ _ Z at C
  refine iN C 1 d21_0 rfl <| iN C 2 d21_1 rfl <| yicmp_n C d21_2 (XT.ii_ge_f (by decide)) <| aN C ((.ref a1)) d21_5 rfl rfl <| iN C 1 d21_6 rfl <| yiaload C A1 (by decide) (i := 1) (by decide) (v := x1) rfl d21_7 <| aN C ((.ref a2)) d21_8 rfl rfl <| iN C 1 d21_9 rfl <| yiaload C A2 (by decide) (i := 1) (by decide) (v := x1) rfl d21_10 <| yicmp_n C d21_11 (XT.ii_ne_f rfl) <| iC C 1 d21_14 rfl <| gT C d21_15 19 (by decide) ?_
  refine g_ret C (eN hN) (v := (.int 1)) (ty := .boolean) rfl rfl (Or.inl ⟨rfl, Or.inr (Or.inl rfl), _, rfl⟩) d21_19 (by decide) (by decide) ?_
  exact ⟨rfl, rfl⟩
theorem rm_at_2_2 (hw : HW a0 Z) (a1 a2 : Addr) (x0 x1 y2 y3 y4 y5 : Int32) (h0 : Heap) (Z0 : n0 ≤ h0.size) (A1 : Ary Z h0 a1 .int [.int x0, .int x1]) (A2 : Ary Z h0 a2 .int [.int x0, .int x1, .int y2, .int y3, .int y4, .int y5]) :
    Met1 l Z ⟨"org/linkloom/io/FieldsSplitPinLaw", "at", "([I[III)Z"⟩ method_5_code 4 (some .boolean) ⟨0, 0, 0, 0⟩ n0 #[(.ref a1), (.ref a2), (.int 2), (.int 2)] h0 (fun v h => v = some (.int 1) ∧ h0 = h) := by
  refine met_of (plainFor_of_name pn_0) (L0 := #[.val (.ref a1), .val (.ref a2), .val (.int 2), .val (.int 2)]) (by first | (simp [argsToLocals, Value.category]; done) | rfl) ?_
  intro B C hN
  change Ctx B l _ _ "org/linkloom/io/FieldsSplitPinLaw" "at" _ _ Z at C
  refine iN C 2 d21_0 rfl <| iN C 2 d21_1 rfl <| cY C d21_2 (XT.ii_ge_t (by decide)) 14 (by decide) <| iC C 1 d21_14 rfl <| gT C d21_15 19 (by decide) ?_
  refine g_ret C (eN hN) (v := (.int 1)) (ty := .boolean) rfl rfl (Or.inl ⟨rfl, Or.inr (Or.inl rfl), _, rfl⟩) d21_19 (by decide) (by decide) ?_
  exact ⟨rfl, rfl⟩
theorem rm_at_2_3 (hw : HW a0 Z) (a1 a2 : Addr) (x0 x1 y2 y3 y4 y5 : Int32) (h0 : Heap) (Z0 : n0 ≤ h0.size) (A1 : Ary Z h0 a1 .int [.int x0, .int x1]) (A2 : Ary Z h0 a2 .int [.int x0, .int x1, .int y2, .int y3, .int y4, .int y5]) :
    Met1 l Z ⟨"org/linkloom/io/FieldsSplitPinLaw", "at", "([I[III)Z"⟩ method_5_code 4 (some .boolean) ⟨0, 0, 0, 0⟩ n0 #[(.ref a1), (.ref a2), (.int 2), (.int 3)] h0 (fun v h => v = some (.int 1) ∧ h0 = h) := by
  refine met_of (plainFor_of_name pn_0) (L0 := #[.val (.ref a1), .val (.ref a2), .val (.int 2), .val (.int 3)]) (by first | (simp [argsToLocals, Value.category]; done) | rfl) ?_
  intro B C hN
  change Ctx B l _ _ "org/linkloom/io/FieldsSplitPinLaw" "at" _ _ Z at C
  refine iN C 3 d21_0 rfl <| iN C 2 d21_1 rfl <| cY C d21_2 (XT.ii_ge_t (by decide)) 14 (by decide) <| iC C 1 d21_14 rfl <| gT C d21_15 19 (by decide) ?_
  refine g_ret C (eN hN) (v := (.int 1)) (ty := .boolean) rfl rfl (Or.inl ⟨rfl, Or.inr (Or.inl rfl), _, rfl⟩) d21_19 (by decide) (by decide) ?_
  exact ⟨rfl, rfl⟩
theorem rm_at_2_4 (hw : HW a0 Z) (a1 a2 : Addr) (x0 x1 y2 y3 y4 y5 : Int32) (h0 : Heap) (Z0 : n0 ≤ h0.size) (A1 : Ary Z h0 a1 .int [.int x0, .int x1]) (A2 : Ary Z h0 a2 .int [.int x0, .int x1, .int y2, .int y3, .int y4, .int y5]) :
    Met1 l Z ⟨"org/linkloom/io/FieldsSplitPinLaw", "at", "([I[III)Z"⟩ method_5_code 4 (some .boolean) ⟨0, 0, 0, 0⟩ n0 #[(.ref a1), (.ref a2), (.int 2), (.int 4)] h0 (fun v h => v = some (.int 1) ∧ h0 = h) := by
  refine met_of (plainFor_of_name pn_0) (L0 := #[.val (.ref a1), .val (.ref a2), .val (.int 2), .val (.int 4)]) (by first | (simp [argsToLocals, Value.category]; done) | rfl) ?_
  intro B C hN
  change Ctx B l _ _ "org/linkloom/io/FieldsSplitPinLaw" "at" _ _ Z at C
  refine iN C 4 d21_0 rfl <| iN C 2 d21_1 rfl <| cY C d21_2 (XT.ii_ge_t (by decide)) 14 (by decide) <| iC C 1 d21_14 rfl <| gT C d21_15 19 (by decide) ?_
  refine g_ret C (eN hN) (v := (.int 1)) (ty := .boolean) rfl rfl (Or.inl ⟨rfl, Or.inr (Or.inl rfl), _, rfl⟩) d21_19 (by decide) (by decide) ?_
  exact ⟨rfl, rfl⟩
theorem rm_at_2_5 (hw : HW a0 Z) (a1 a2 : Addr) (x0 x1 y2 y3 y4 y5 : Int32) (h0 : Heap) (Z0 : n0 ≤ h0.size) (A1 : Ary Z h0 a1 .int [.int x0, .int x1]) (A2 : Ary Z h0 a2 .int [.int x0, .int x1, .int y2, .int y3, .int y4, .int y5]) :
    Met1 l Z ⟨"org/linkloom/io/FieldsSplitPinLaw", "at", "([I[III)Z"⟩ method_5_code 4 (some .boolean) ⟨0, 0, 0, 0⟩ n0 #[(.ref a1), (.ref a2), (.int 2), (.int 5)] h0 (fun v h => v = some (.int 1) ∧ h0 = h) := by
  refine met_of (plainFor_of_name pn_0) (L0 := #[.val (.ref a1), .val (.ref a2), .val (.int 2), .val (.int 5)]) (by first | (simp [argsToLocals, Value.category]; done) | rfl) ?_
  intro B C hN
  change Ctx B l _ _ "org/linkloom/io/FieldsSplitPinLaw" "at" _ _ Z at C
  refine iN C 5 d21_0 rfl <| iN C 2 d21_1 rfl <| cY C d21_2 (XT.ii_ge_t (by decide)) 14 (by decide) <| iC C 1 d21_14 rfl <| gT C d21_15 19 (by decide) ?_
  refine g_ret C (eN hN) (v := (.int 1)) (ty := .boolean) rfl rfl (Or.inl ⟨rfl, Or.inr (Or.inl rfl), _, rfl⟩) d21_19 (by decide) (by decide) ?_
  exact ⟨rfl, rfl⟩
theorem rm_at_3_0 (hw : HW a0 Z) (a1 a2 : Addr) (x0 x1 x2 y3 y4 y5 : Int32) (h0 : Heap) (Z0 : n0 ≤ h0.size) (A1 : Ary Z h0 a1 .int [.int x0, .int x1, .int x2]) (A2 : Ary Z h0 a2 .int [.int x0, .int x1, .int x2, .int y3, .int y4, .int y5]) :
    Met1 l Z ⟨"org/linkloom/io/FieldsSplitPinLaw", "at", "([I[III)Z"⟩ method_5_code 4 (some .boolean) ⟨0, 0, 0, 0⟩ n0 #[(.ref a1), (.ref a2), (.int 3), (.int 0)] h0 (fun v h => v = some (.int 1) ∧ h0 = h) := by
  refine met_of (plainFor_of_name pn_0) (L0 := #[.val (.ref a1), .val (.ref a2), .val (.int 3), .val (.int 0)]) (by first | (simp [argsToLocals, Value.category]; done) | rfl) ?_
  intro B C hN
  change Ctx B l _ _ "org/linkloom/io/FieldsSplitPinLaw" "at" _ _ Z at C
  refine iN C 0 d21_0 rfl <| iN C 3 d21_1 rfl <| yicmp_n C d21_2 (XT.ii_ge_f (by decide)) <| aN C ((.ref a1)) d21_5 rfl rfl <| iN C 0 d21_6 rfl <| yiaload C A1 (by decide) (i := 0) (by decide) (v := x0) rfl d21_7 <| aN C ((.ref a2)) d21_8 rfl rfl <| iN C 0 d21_9 rfl <| yiaload C A2 (by decide) (i := 0) (by decide) (v := x0) rfl d21_10 <| yicmp_n C d21_11 (XT.ii_ne_f rfl) <| iC C 1 d21_14 rfl <| gT C d21_15 19 (by decide) ?_
  refine g_ret C (eN hN) (v := (.int 1)) (ty := .boolean) rfl rfl (Or.inl ⟨rfl, Or.inr (Or.inl rfl), _, rfl⟩) d21_19 (by decide) (by decide) ?_
  exact ⟨rfl, rfl⟩
theorem rm_at_3_1 (hw : HW a0 Z) (a1 a2 : Addr) (x0 x1 x2 y3 y4 y5 : Int32) (h0 : Heap) (Z0 : n0 ≤ h0.size) (A1 : Ary Z h0 a1 .int [.int x0, .int x1, .int x2]) (A2 : Ary Z h0 a2 .int [.int x0, .int x1, .int x2, .int y3, .int y4, .int y5]) :
    Met1 l Z ⟨"org/linkloom/io/FieldsSplitPinLaw", "at", "([I[III)Z"⟩ method_5_code 4 (some .boolean) ⟨0, 0, 0, 0⟩ n0 #[(.ref a1), (.ref a2), (.int 3), (.int 1)] h0 (fun v h => v = some (.int 1) ∧ h0 = h) := by
  refine met_of (plainFor_of_name pn_0) (L0 := #[.val (.ref a1), .val (.ref a2), .val (.int 3), .val (.int 1)]) (by first | (simp [argsToLocals, Value.category]; done) | rfl) ?_
  intro B C hN
  change Ctx B l _ _ "org/linkloom/io/FieldsSplitPinLaw" "at" _ _ Z at C
  refine iN C 1 d21_0 rfl <| iN C 3 d21_1 rfl <| yicmp_n C d21_2 (XT.ii_ge_f (by decide)) <| aN C ((.ref a1)) d21_5 rfl rfl <| iN C 1 d21_6 rfl <| yiaload C A1 (by decide) (i := 1) (by decide) (v := x1) rfl d21_7 <| aN C ((.ref a2)) d21_8 rfl rfl <| iN C 1 d21_9 rfl <| yiaload C A2 (by decide) (i := 1) (by decide) (v := x1) rfl d21_10 <| yicmp_n C d21_11 (XT.ii_ne_f rfl) <| iC C 1 d21_14 rfl <| gT C d21_15 19 (by decide) ?_
  refine g_ret C (eN hN) (v := (.int 1)) (ty := .boolean) rfl rfl (Or.inl ⟨rfl, Or.inr (Or.inl rfl), _, rfl⟩) d21_19 (by decide) (by decide) ?_
  exact ⟨rfl, rfl⟩
theorem rm_at_3_2 (hw : HW a0 Z) (a1 a2 : Addr) (x0 x1 x2 y3 y4 y5 : Int32) (h0 : Heap) (Z0 : n0 ≤ h0.size) (A1 : Ary Z h0 a1 .int [.int x0, .int x1, .int x2]) (A2 : Ary Z h0 a2 .int [.int x0, .int x1, .int x2, .int y3, .int y4, .int y5]) :
    Met1 l Z ⟨"org/linkloom/io/FieldsSplitPinLaw", "at", "([I[III)Z"⟩ method_5_code 4 (some .boolean) ⟨0, 0, 0, 0⟩ n0 #[(.ref a1), (.ref a2), (.int 3), (.int 2)] h0 (fun v h => v = some (.int 1) ∧ h0 = h) := by
  refine met_of (plainFor_of_name pn_0) (L0 := #[.val (.ref a1), .val (.ref a2), .val (.int 3), .val (.int 2)]) (by first | (simp [argsToLocals, Value.category]; done) | rfl) ?_
  intro B C hN
  change Ctx B l _ _ "org/linkloom/io/FieldsSplitPinLaw" "at" _ _ Z at C
  refine iN C 2 d21_0 rfl <| iN C 3 d21_1 rfl <| yicmp_n C d21_2 (XT.ii_ge_f (by decide)) <| aN C ((.ref a1)) d21_5 rfl rfl <| iN C 2 d21_6 rfl <| yiaload C A1 (by decide) (i := 2) (by decide) (v := x2) rfl d21_7 <| aN C ((.ref a2)) d21_8 rfl rfl <| iN C 2 d21_9 rfl <| yiaload C A2 (by decide) (i := 2) (by decide) (v := x2) rfl d21_10 <| yicmp_n C d21_11 (XT.ii_ne_f rfl) <| iC C 1 d21_14 rfl <| gT C d21_15 19 (by decide) ?_
  refine g_ret C (eN hN) (v := (.int 1)) (ty := .boolean) rfl rfl (Or.inl ⟨rfl, Or.inr (Or.inl rfl), _, rfl⟩) d21_19 (by decide) (by decide) ?_
  exact ⟨rfl, rfl⟩
theorem rm_at_3_3 (hw : HW a0 Z) (a1 a2 : Addr) (x0 x1 x2 y3 y4 y5 : Int32) (h0 : Heap) (Z0 : n0 ≤ h0.size) (A1 : Ary Z h0 a1 .int [.int x0, .int x1, .int x2]) (A2 : Ary Z h0 a2 .int [.int x0, .int x1, .int x2, .int y3, .int y4, .int y5]) :
    Met1 l Z ⟨"org/linkloom/io/FieldsSplitPinLaw", "at", "([I[III)Z"⟩ method_5_code 4 (some .boolean) ⟨0, 0, 0, 0⟩ n0 #[(.ref a1), (.ref a2), (.int 3), (.int 3)] h0 (fun v h => v = some (.int 1) ∧ h0 = h) := by
  refine met_of (plainFor_of_name pn_0) (L0 := #[.val (.ref a1), .val (.ref a2), .val (.int 3), .val (.int 3)]) (by first | (simp [argsToLocals, Value.category]; done) | rfl) ?_
  intro B C hN
  change Ctx B l _ _ "org/linkloom/io/FieldsSplitPinLaw" "at" _ _ Z at C
  refine iN C 3 d21_0 rfl <| iN C 3 d21_1 rfl <| cY C d21_2 (XT.ii_ge_t (by decide)) 14 (by decide) <| iC C 1 d21_14 rfl <| gT C d21_15 19 (by decide) ?_
  refine g_ret C (eN hN) (v := (.int 1)) (ty := .boolean) rfl rfl (Or.inl ⟨rfl, Or.inr (Or.inl rfl), _, rfl⟩) d21_19 (by decide) (by decide) ?_
  exact ⟨rfl, rfl⟩
theorem rm_at_3_4 (hw : HW a0 Z) (a1 a2 : Addr) (x0 x1 x2 y3 y4 y5 : Int32) (h0 : Heap) (Z0 : n0 ≤ h0.size) (A1 : Ary Z h0 a1 .int [.int x0, .int x1, .int x2]) (A2 : Ary Z h0 a2 .int [.int x0, .int x1, .int x2, .int y3, .int y4, .int y5]) :
    Met1 l Z ⟨"org/linkloom/io/FieldsSplitPinLaw", "at", "([I[III)Z"⟩ method_5_code 4 (some .boolean) ⟨0, 0, 0, 0⟩ n0 #[(.ref a1), (.ref a2), (.int 3), (.int 4)] h0 (fun v h => v = some (.int 1) ∧ h0 = h) := by
  refine met_of (plainFor_of_name pn_0) (L0 := #[.val (.ref a1), .val (.ref a2), .val (.int 3), .val (.int 4)]) (by first | (simp [argsToLocals, Value.category]; done) | rfl) ?_
  intro B C hN
  change Ctx B l _ _ "org/linkloom/io/FieldsSplitPinLaw" "at" _ _ Z at C
  refine iN C 4 d21_0 rfl <| iN C 3 d21_1 rfl <| cY C d21_2 (XT.ii_ge_t (by decide)) 14 (by decide) <| iC C 1 d21_14 rfl <| gT C d21_15 19 (by decide) ?_
  refine g_ret C (eN hN) (v := (.int 1)) (ty := .boolean) rfl rfl (Or.inl ⟨rfl, Or.inr (Or.inl rfl), _, rfl⟩) d21_19 (by decide) (by decide) ?_
  exact ⟨rfl, rfl⟩
theorem rm_at_3_5 (hw : HW a0 Z) (a1 a2 : Addr) (x0 x1 x2 y3 y4 y5 : Int32) (h0 : Heap) (Z0 : n0 ≤ h0.size) (A1 : Ary Z h0 a1 .int [.int x0, .int x1, .int x2]) (A2 : Ary Z h0 a2 .int [.int x0, .int x1, .int x2, .int y3, .int y4, .int y5]) :
    Met1 l Z ⟨"org/linkloom/io/FieldsSplitPinLaw", "at", "([I[III)Z"⟩ method_5_code 4 (some .boolean) ⟨0, 0, 0, 0⟩ n0 #[(.ref a1), (.ref a2), (.int 3), (.int 5)] h0 (fun v h => v = some (.int 1) ∧ h0 = h) := by
  refine met_of (plainFor_of_name pn_0) (L0 := #[.val (.ref a1), .val (.ref a2), .val (.int 3), .val (.int 5)]) (by first | (simp [argsToLocals, Value.category]; done) | rfl) ?_
  intro B C hN
  change Ctx B l _ _ "org/linkloom/io/FieldsSplitPinLaw" "at" _ _ Z at C
  refine iN C 5 d21_0 rfl <| iN C 3 d21_1 rfl <| cY C d21_2 (XT.ii_ge_t (by decide)) 14 (by decide) <| iC C 1 d21_14 rfl <| gT C d21_15 19 (by decide) ?_
  refine g_ret C (eN hN) (v := (.int 1)) (ty := .boolean) rfl rfl (Or.inl ⟨rfl, Or.inr (Or.inl rfl), _, rfl⟩) d21_19 (by decide) (by decide) ?_
  exact ⟨rfl, rfl⟩
theorem rm_at_4_0 (hw : HW a0 Z) (a1 a2 : Addr) (x0 x1 x2 x3 y4 y5 : Int32) (h0 : Heap) (Z0 : n0 ≤ h0.size) (A1 : Ary Z h0 a1 .int [.int x0, .int x1, .int x2, .int x3]) (A2 : Ary Z h0 a2 .int [.int x0, .int x1, .int x2, .int x3, .int y4, .int y5]) :
    Met1 l Z ⟨"org/linkloom/io/FieldsSplitPinLaw", "at", "([I[III)Z"⟩ method_5_code 4 (some .boolean) ⟨0, 0, 0, 0⟩ n0 #[(.ref a1), (.ref a2), (.int 4), (.int 0)] h0 (fun v h => v = some (.int 1) ∧ h0 = h) := by
  refine met_of (plainFor_of_name pn_0) (L0 := #[.val (.ref a1), .val (.ref a2), .val (.int 4), .val (.int 0)]) (by first | (simp [argsToLocals, Value.category]; done) | rfl) ?_
  intro B C hN
  change Ctx B l _ _ "org/linkloom/io/FieldsSplitPinLaw" "at" _ _ Z at C
  refine iN C 0 d21_0 rfl <| iN C 4 d21_1 rfl <| yicmp_n C d21_2 (XT.ii_ge_f (by decide)) <| aN C ((.ref a1)) d21_5 rfl rfl <| iN C 0 d21_6 rfl <| yiaload C A1 (by decide) (i := 0) (by decide) (v := x0) rfl d21_7 <| aN C ((.ref a2)) d21_8 rfl rfl <| iN C 0 d21_9 rfl <| yiaload C A2 (by decide) (i := 0) (by decide) (v := x0) rfl d21_10 <| yicmp_n C d21_11 (XT.ii_ne_f rfl) <| iC C 1 d21_14 rfl <| gT C d21_15 19 (by decide) ?_
  refine g_ret C (eN hN) (v := (.int 1)) (ty := .boolean) rfl rfl (Or.inl ⟨rfl, Or.inr (Or.inl rfl), _, rfl⟩) d21_19 (by decide) (by decide) ?_
  exact ⟨rfl, rfl⟩
theorem rm_at_4_1 (hw : HW a0 Z) (a1 a2 : Addr) (x0 x1 x2 x3 y4 y5 : Int32) (h0 : Heap) (Z0 : n0 ≤ h0.size) (A1 : Ary Z h0 a1 .int [.int x0, .int x1, .int x2, .int x3]) (A2 : Ary Z h0 a2 .int [.int x0, .int x1, .int x2, .int x3, .int y4, .int y5]) :
    Met1 l Z ⟨"org/linkloom/io/FieldsSplitPinLaw", "at", "([I[III)Z"⟩ method_5_code 4 (some .boolean) ⟨0, 0, 0, 0⟩ n0 #[(.ref a1), (.ref a2), (.int 4), (.int 1)] h0 (fun v h => v = some (.int 1) ∧ h0 = h) := by
  refine met_of (plainFor_of_name pn_0) (L0 := #[.val (.ref a1), .val (.ref a2), .val (.int 4), .val (.int 1)]) (by first | (simp [argsToLocals, Value.category]; done) | rfl) ?_
  intro B C hN
  change Ctx B l _ _ "org/linkloom/io/FieldsSplitPinLaw" "at" _ _ Z at C
  refine iN C 1 d21_0 rfl <| iN C 4 d21_1 rfl <| yicmp_n C d21_2 (XT.ii_ge_f (by decide)) <| aN C ((.ref a1)) d21_5 rfl rfl <| iN C 1 d21_6 rfl <| yiaload C A1 (by decide) (i := 1) (by decide) (v := x1) rfl d21_7 <| aN C ((.ref a2)) d21_8 rfl rfl <| iN C 1 d21_9 rfl <| yiaload C A2 (by decide) (i := 1) (by decide) (v := x1) rfl d21_10 <| yicmp_n C d21_11 (XT.ii_ne_f rfl) <| iC C 1 d21_14 rfl <| gT C d21_15 19 (by decide) ?_
  refine g_ret C (eN hN) (v := (.int 1)) (ty := .boolean) rfl rfl (Or.inl ⟨rfl, Or.inr (Or.inl rfl), _, rfl⟩) d21_19 (by decide) (by decide) ?_
  exact ⟨rfl, rfl⟩
theorem rm_at_4_2 (hw : HW a0 Z) (a1 a2 : Addr) (x0 x1 x2 x3 y4 y5 : Int32) (h0 : Heap) (Z0 : n0 ≤ h0.size) (A1 : Ary Z h0 a1 .int [.int x0, .int x1, .int x2, .int x3]) (A2 : Ary Z h0 a2 .int [.int x0, .int x1, .int x2, .int x3, .int y4, .int y5]) :
    Met1 l Z ⟨"org/linkloom/io/FieldsSplitPinLaw", "at", "([I[III)Z"⟩ method_5_code 4 (some .boolean) ⟨0, 0, 0, 0⟩ n0 #[(.ref a1), (.ref a2), (.int 4), (.int 2)] h0 (fun v h => v = some (.int 1) ∧ h0 = h) := by
  refine met_of (plainFor_of_name pn_0) (L0 := #[.val (.ref a1), .val (.ref a2), .val (.int 4), .val (.int 2)]) (by first | (simp [argsToLocals, Value.category]; done) | rfl) ?_
  intro B C hN
  change Ctx B l _ _ "org/linkloom/io/FieldsSplitPinLaw" "at" _ _ Z at C
  refine iN C 2 d21_0 rfl <| iN C 4 d21_1 rfl <| yicmp_n C d21_2 (XT.ii_ge_f (by decide)) <| aN C ((.ref a1)) d21_5 rfl rfl <| iN C 2 d21_6 rfl <| yiaload C A1 (by decide) (i := 2) (by decide) (v := x2) rfl d21_7 <| aN C ((.ref a2)) d21_8 rfl rfl <| iN C 2 d21_9 rfl <| yiaload C A2 (by decide) (i := 2) (by decide) (v := x2) rfl d21_10 <| yicmp_n C d21_11 (XT.ii_ne_f rfl) <| iC C 1 d21_14 rfl <| gT C d21_15 19 (by decide) ?_
  refine g_ret C (eN hN) (v := (.int 1)) (ty := .boolean) rfl rfl (Or.inl ⟨rfl, Or.inr (Or.inl rfl), _, rfl⟩) d21_19 (by decide) (by decide) ?_
  exact ⟨rfl, rfl⟩
theorem rm_at_4_3 (hw : HW a0 Z) (a1 a2 : Addr) (x0 x1 x2 x3 y4 y5 : Int32) (h0 : Heap) (Z0 : n0 ≤ h0.size) (A1 : Ary Z h0 a1 .int [.int x0, .int x1, .int x2, .int x3]) (A2 : Ary Z h0 a2 .int [.int x0, .int x1, .int x2, .int x3, .int y4, .int y5]) :
    Met1 l Z ⟨"org/linkloom/io/FieldsSplitPinLaw", "at", "([I[III)Z"⟩ method_5_code 4 (some .boolean) ⟨0, 0, 0, 0⟩ n0 #[(.ref a1), (.ref a2), (.int 4), (.int 3)] h0 (fun v h => v = some (.int 1) ∧ h0 = h) := by
  refine met_of (plainFor_of_name pn_0) (L0 := #[.val (.ref a1), .val (.ref a2), .val (.int 4), .val (.int 3)]) (by first | (simp [argsToLocals, Value.category]; done) | rfl) ?_
  intro B C hN
  change Ctx B l _ _ "org/linkloom/io/FieldsSplitPinLaw" "at" _ _ Z at C
  refine iN C 3 d21_0 rfl <| iN C 4 d21_1 rfl <| yicmp_n C d21_2 (XT.ii_ge_f (by decide)) <| aN C ((.ref a1)) d21_5 rfl rfl <| iN C 3 d21_6 rfl <| yiaload C A1 (by decide) (i := 3) (by decide) (v := x3) rfl d21_7 <| aN C ((.ref a2)) d21_8 rfl rfl <| iN C 3 d21_9 rfl <| yiaload C A2 (by decide) (i := 3) (by decide) (v := x3) rfl d21_10 <| yicmp_n C d21_11 (XT.ii_ne_f rfl) <| iC C 1 d21_14 rfl <| gT C d21_15 19 (by decide) ?_
  refine g_ret C (eN hN) (v := (.int 1)) (ty := .boolean) rfl rfl (Or.inl ⟨rfl, Or.inr (Or.inl rfl), _, rfl⟩) d21_19 (by decide) (by decide) ?_
  exact ⟨rfl, rfl⟩
theorem rm_at_4_4 (hw : HW a0 Z) (a1 a2 : Addr) (x0 x1 x2 x3 y4 y5 : Int32) (h0 : Heap) (Z0 : n0 ≤ h0.size) (A1 : Ary Z h0 a1 .int [.int x0, .int x1, .int x2, .int x3]) (A2 : Ary Z h0 a2 .int [.int x0, .int x1, .int x2, .int x3, .int y4, .int y5]) :
    Met1 l Z ⟨"org/linkloom/io/FieldsSplitPinLaw", "at", "([I[III)Z"⟩ method_5_code 4 (some .boolean) ⟨0, 0, 0, 0⟩ n0 #[(.ref a1), (.ref a2), (.int 4), (.int 4)] h0 (fun v h => v = some (.int 1) ∧ h0 = h) := by
  refine met_of (plainFor_of_name pn_0) (L0 := #[.val (.ref a1), .val (.ref a2), .val (.int 4), .val (.int 4)]) (by first | (simp [argsToLocals, Value.category]; done) | rfl) ?_
  intro B C hN
  change Ctx B l _ _ "org/linkloom/io/FieldsSplitPinLaw" "at" _ _ Z at C
  refine iN C 4 d21_0 rfl <| iN C 4 d21_1 rfl <| cY C d21_2 (XT.ii_ge_t (by decide)) 14 (by decide) <| iC C 1 d21_14 rfl <| gT C d21_15 19 (by decide) ?_
  refine g_ret C (eN hN) (v := (.int 1)) (ty := .boolean) rfl rfl (Or.inl ⟨rfl, Or.inr (Or.inl rfl), _, rfl⟩) d21_19 (by decide) (by decide) ?_
  exact ⟨rfl, rfl⟩
theorem rm_at_4_5 (hw : HW a0 Z) (a1 a2 : Addr) (x0 x1 x2 x3 y4 y5 : Int32) (h0 : Heap) (Z0 : n0 ≤ h0.size) (A1 : Ary Z h0 a1 .int [.int x0, .int x1, .int x2, .int x3]) (A2 : Ary Z h0 a2 .int [.int x0, .int x1, .int x2, .int x3, .int y4, .int y5]) :
    Met1 l Z ⟨"org/linkloom/io/FieldsSplitPinLaw", "at", "([I[III)Z"⟩ method_5_code 4 (some .boolean) ⟨0, 0, 0, 0⟩ n0 #[(.ref a1), (.ref a2), (.int 4), (.int 5)] h0 (fun v h => v = some (.int 1) ∧ h0 = h) := by
  refine met_of (plainFor_of_name pn_0) (L0 := #[.val (.ref a1), .val (.ref a2), .val (.int 4), .val (.int 5)]) (by first | (simp [argsToLocals, Value.category]; done) | rfl) ?_
  intro B C hN
  change Ctx B l _ _ "org/linkloom/io/FieldsSplitPinLaw" "at" _ _ Z at C
  refine iN C 5 d21_0 rfl <| iN C 4 d21_1 rfl <| cY C d21_2 (XT.ii_ge_t (by decide)) 14 (by decide) <| iC C 1 d21_14 rfl <| gT C d21_15 19 (by decide) ?_
  refine g_ret C (eN hN) (v := (.int 1)) (ty := .boolean) rfl rfl (Or.inl ⟨rfl, Or.inr (Or.inl rfl), _, rfl⟩) d21_19 (by decide) (by decide) ?_
  exact ⟨rfl, rfl⟩
theorem rm_at_5_0 (hw : HW a0 Z) (a1 a2 : Addr) (x0 x1 x2 x3 x4 y5 : Int32) (h0 : Heap) (Z0 : n0 ≤ h0.size) (A1 : Ary Z h0 a1 .int [.int x0, .int x1, .int x2, .int x3, .int x4]) (A2 : Ary Z h0 a2 .int [.int x0, .int x1, .int x2, .int x3, .int x4, .int y5]) :
    Met1 l Z ⟨"org/linkloom/io/FieldsSplitPinLaw", "at", "([I[III)Z"⟩ method_5_code 4 (some .boolean) ⟨0, 0, 0, 0⟩ n0 #[(.ref a1), (.ref a2), (.int 5), (.int 0)] h0 (fun v h => v = some (.int 1) ∧ h0 = h) := by
  refine met_of (plainFor_of_name pn_0) (L0 := #[.val (.ref a1), .val (.ref a2), .val (.int 5), .val (.int 0)]) (by first | (simp [argsToLocals, Value.category]; done) | rfl) ?_
  intro B C hN
  change Ctx B l _ _ "org/linkloom/io/FieldsSplitPinLaw" "at" _ _ Z at C
  refine iN C 0 d21_0 rfl <| iN C 5 d21_1 rfl <| yicmp_n C d21_2 (XT.ii_ge_f (by decide)) <| aN C ((.ref a1)) d21_5 rfl rfl <| iN C 0 d21_6 rfl <| yiaload C A1 (by decide) (i := 0) (by decide) (v := x0) rfl d21_7 <| aN C ((.ref a2)) d21_8 rfl rfl <| iN C 0 d21_9 rfl <| yiaload C A2 (by decide) (i := 0) (by decide) (v := x0) rfl d21_10 <| yicmp_n C d21_11 (XT.ii_ne_f rfl) <| iC C 1 d21_14 rfl <| gT C d21_15 19 (by decide) ?_
  refine g_ret C (eN hN) (v := (.int 1)) (ty := .boolean) rfl rfl (Or.inl ⟨rfl, Or.inr (Or.inl rfl), _, rfl⟩) d21_19 (by decide) (by decide) ?_
  exact ⟨rfl, rfl⟩
theorem rm_at_5_1 (hw : HW a0 Z) (a1 a2 : Addr) (x0 x1 x2 x3 x4 y5 : Int32) (h0 : Heap) (Z0 : n0 ≤ h0.size) (A1 : Ary Z h0 a1 .int [.int x0, .int x1, .int x2, .int x3, .int x4]) (A2 : Ary Z h0 a2 .int [.int x0, .int x1, .int x2, .int x3, .int x4, .int y5]) :
    Met1 l Z ⟨"org/linkloom/io/FieldsSplitPinLaw", "at", "([I[III)Z"⟩ method_5_code 4 (some .boolean) ⟨0, 0, 0, 0⟩ n0 #[(.ref a1), (.ref a2), (.int 5), (.int 1)] h0 (fun v h => v = some (.int 1) ∧ h0 = h) := by
  refine met_of (plainFor_of_name pn_0) (L0 := #[.val (.ref a1), .val (.ref a2), .val (.int 5), .val (.int 1)]) (by first | (simp [argsToLocals, Value.category]; done) | rfl) ?_
  intro B C hN
  change Ctx B l _ _ "org/linkloom/io/FieldsSplitPinLaw" "at" _ _ Z at C
  refine iN C 1 d21_0 rfl <| iN C 5 d21_1 rfl <| yicmp_n C d21_2 (XT.ii_ge_f (by decide)) <| aN C ((.ref a1)) d21_5 rfl rfl <| iN C 1 d21_6 rfl <| yiaload C A1 (by decide) (i := 1) (by decide) (v := x1) rfl d21_7 <| aN C ((.ref a2)) d21_8 rfl rfl <| iN C 1 d21_9 rfl <| yiaload C A2 (by decide) (i := 1) (by decide) (v := x1) rfl d21_10 <| yicmp_n C d21_11 (XT.ii_ne_f rfl) <| iC C 1 d21_14 rfl <| gT C d21_15 19 (by decide) ?_
  refine g_ret C (eN hN) (v := (.int 1)) (ty := .boolean) rfl rfl (Or.inl ⟨rfl, Or.inr (Or.inl rfl), _, rfl⟩) d21_19 (by decide) (by decide) ?_
  exact ⟨rfl, rfl⟩
theorem rm_at_5_2 (hw : HW a0 Z) (a1 a2 : Addr) (x0 x1 x2 x3 x4 y5 : Int32) (h0 : Heap) (Z0 : n0 ≤ h0.size) (A1 : Ary Z h0 a1 .int [.int x0, .int x1, .int x2, .int x3, .int x4]) (A2 : Ary Z h0 a2 .int [.int x0, .int x1, .int x2, .int x3, .int x4, .int y5]) :
    Met1 l Z ⟨"org/linkloom/io/FieldsSplitPinLaw", "at", "([I[III)Z"⟩ method_5_code 4 (some .boolean) ⟨0, 0, 0, 0⟩ n0 #[(.ref a1), (.ref a2), (.int 5), (.int 2)] h0 (fun v h => v = some (.int 1) ∧ h0 = h) := by
  refine met_of (plainFor_of_name pn_0) (L0 := #[.val (.ref a1), .val (.ref a2), .val (.int 5), .val (.int 2)]) (by first | (simp [argsToLocals, Value.category]; done) | rfl) ?_
  intro B C hN
  change Ctx B l _ _ "org/linkloom/io/FieldsSplitPinLaw" "at" _ _ Z at C
  refine iN C 2 d21_0 rfl <| iN C 5 d21_1 rfl <| yicmp_n C d21_2 (XT.ii_ge_f (by decide)) <| aN C ((.ref a1)) d21_5 rfl rfl <| iN C 2 d21_6 rfl <| yiaload C A1 (by decide) (i := 2) (by decide) (v := x2) rfl d21_7 <| aN C ((.ref a2)) d21_8 rfl rfl <| iN C 2 d21_9 rfl <| yiaload C A2 (by decide) (i := 2) (by decide) (v := x2) rfl d21_10 <| yicmp_n C d21_11 (XT.ii_ne_f rfl) <| iC C 1 d21_14 rfl <| gT C d21_15 19 (by decide) ?_
  refine g_ret C (eN hN) (v := (.int 1)) (ty := .boolean) rfl rfl (Or.inl ⟨rfl, Or.inr (Or.inl rfl), _, rfl⟩) d21_19 (by decide) (by decide) ?_
  exact ⟨rfl, rfl⟩
theorem rm_at_5_3 (hw : HW a0 Z) (a1 a2 : Addr) (x0 x1 x2 x3 x4 y5 : Int32) (h0 : Heap) (Z0 : n0 ≤ h0.size) (A1 : Ary Z h0 a1 .int [.int x0, .int x1, .int x2, .int x3, .int x4]) (A2 : Ary Z h0 a2 .int [.int x0, .int x1, .int x2, .int x3, .int x4, .int y5]) :
    Met1 l Z ⟨"org/linkloom/io/FieldsSplitPinLaw", "at", "([I[III)Z"⟩ method_5_code 4 (some .boolean) ⟨0, 0, 0, 0⟩ n0 #[(.ref a1), (.ref a2), (.int 5), (.int 3)] h0 (fun v h => v = some (.int 1) ∧ h0 = h) := by
  refine met_of (plainFor_of_name pn_0) (L0 := #[.val (.ref a1), .val (.ref a2), .val (.int 5), .val (.int 3)]) (by first | (simp [argsToLocals, Value.category]; done) | rfl) ?_
  intro B C hN
  change Ctx B l _ _ "org/linkloom/io/FieldsSplitPinLaw" "at" _ _ Z at C
  refine iN C 3 d21_0 rfl <| iN C 5 d21_1 rfl <| yicmp_n C d21_2 (XT.ii_ge_f (by decide)) <| aN C ((.ref a1)) d21_5 rfl rfl <| iN C 3 d21_6 rfl <| yiaload C A1 (by decide) (i := 3) (by decide) (v := x3) rfl d21_7 <| aN C ((.ref a2)) d21_8 rfl rfl <| iN C 3 d21_9 rfl <| yiaload C A2 (by decide) (i := 3) (by decide) (v := x3) rfl d21_10 <| yicmp_n C d21_11 (XT.ii_ne_f rfl) <| iC C 1 d21_14 rfl <| gT C d21_15 19 (by decide) ?_
  refine g_ret C (eN hN) (v := (.int 1)) (ty := .boolean) rfl rfl (Or.inl ⟨rfl, Or.inr (Or.inl rfl), _, rfl⟩) d21_19 (by decide) (by decide) ?_
  exact ⟨rfl, rfl⟩
theorem rm_at_5_4 (hw : HW a0 Z) (a1 a2 : Addr) (x0 x1 x2 x3 x4 y5 : Int32) (h0 : Heap) (Z0 : n0 ≤ h0.size) (A1 : Ary Z h0 a1 .int [.int x0, .int x1, .int x2, .int x3, .int x4]) (A2 : Ary Z h0 a2 .int [.int x0, .int x1, .int x2, .int x3, .int x4, .int y5]) :
    Met1 l Z ⟨"org/linkloom/io/FieldsSplitPinLaw", "at", "([I[III)Z"⟩ method_5_code 4 (some .boolean) ⟨0, 0, 0, 0⟩ n0 #[(.ref a1), (.ref a2), (.int 5), (.int 4)] h0 (fun v h => v = some (.int 1) ∧ h0 = h) := by
  refine met_of (plainFor_of_name pn_0) (L0 := #[.val (.ref a1), .val (.ref a2), .val (.int 5), .val (.int 4)]) (by first | (simp [argsToLocals, Value.category]; done) | rfl) ?_
  intro B C hN
  change Ctx B l _ _ "org/linkloom/io/FieldsSplitPinLaw" "at" _ _ Z at C
  refine iN C 4 d21_0 rfl <| iN C 5 d21_1 rfl <| yicmp_n C d21_2 (XT.ii_ge_f (by decide)) <| aN C ((.ref a1)) d21_5 rfl rfl <| iN C 4 d21_6 rfl <| yiaload C A1 (by decide) (i := 4) (by decide) (v := x4) rfl d21_7 <| aN C ((.ref a2)) d21_8 rfl rfl <| iN C 4 d21_9 rfl <| yiaload C A2 (by decide) (i := 4) (by decide) (v := x4) rfl d21_10 <| yicmp_n C d21_11 (XT.ii_ne_f rfl) <| iC C 1 d21_14 rfl <| gT C d21_15 19 (by decide) ?_
  refine g_ret C (eN hN) (v := (.int 1)) (ty := .boolean) rfl rfl (Or.inl ⟨rfl, Or.inr (Or.inl rfl), _, rfl⟩) d21_19 (by decide) (by decide) ?_
  exact ⟨rfl, rfl⟩
theorem rm_at_5_5 (hw : HW a0 Z) (a1 a2 : Addr) (x0 x1 x2 x3 x4 y5 : Int32) (h0 : Heap) (Z0 : n0 ≤ h0.size) (A1 : Ary Z h0 a1 .int [.int x0, .int x1, .int x2, .int x3, .int x4]) (A2 : Ary Z h0 a2 .int [.int x0, .int x1, .int x2, .int x3, .int x4, .int y5]) :
    Met1 l Z ⟨"org/linkloom/io/FieldsSplitPinLaw", "at", "([I[III)Z"⟩ method_5_code 4 (some .boolean) ⟨0, 0, 0, 0⟩ n0 #[(.ref a1), (.ref a2), (.int 5), (.int 5)] h0 (fun v h => v = some (.int 1) ∧ h0 = h) := by
  refine met_of (plainFor_of_name pn_0) (L0 := #[.val (.ref a1), .val (.ref a2), .val (.int 5), .val (.int 5)]) (by first | (simp [argsToLocals, Value.category]; done) | rfl) ?_
  intro B C hN
  change Ctx B l _ _ "org/linkloom/io/FieldsSplitPinLaw" "at" _ _ Z at C
  refine iN C 5 d21_0 rfl <| iN C 5 d21_1 rfl <| cY C d21_2 (XT.ii_ge_t (by decide)) 14 (by decide) <| iC C 1 d21_14 rfl <| gT C d21_15 19 (by decide) ?_
  refine g_ret C (eN hN) (v := (.int 1)) (ty := .boolean) rfl rfl (Or.inl ⟨rfl, Or.inr (Or.inl rfl), _, rfl⟩) d21_19 (by decide) (by decide) ?_
  exact ⟨rfl, rfl⟩
theorem rm_at_6_0 (hw : HW a0 Z) (a1 a2 : Addr) (x0 x1 x2 x3 x4 x5  : Int32) (h0 : Heap) (Z0 : n0 ≤ h0.size) (A1 : Ary Z h0 a1 .int [.int x0, .int x1, .int x2, .int x3, .int x4, .int x5]) (A2 : Ary Z h0 a2 .int [.int x0, .int x1, .int x2, .int x3, .int x4, .int x5]) :
    Met1 l Z ⟨"org/linkloom/io/FieldsSplitPinLaw", "at", "([I[III)Z"⟩ method_5_code 4 (some .boolean) ⟨0, 0, 0, 0⟩ n0 #[(.ref a1), (.ref a2), (.int 6), (.int 0)] h0 (fun v h => v = some (.int 1) ∧ h0 = h) := by
  refine met_of (plainFor_of_name pn_0) (L0 := #[.val (.ref a1), .val (.ref a2), .val (.int 6), .val (.int 0)]) (by first | (simp [argsToLocals, Value.category]; done) | rfl) ?_
  intro B C hN
  change Ctx B l _ _ "org/linkloom/io/FieldsSplitPinLaw" "at" _ _ Z at C
  refine iN C 0 d21_0 rfl <| iN C 6 d21_1 rfl <| yicmp_n C d21_2 (XT.ii_ge_f (by decide)) <| aN C ((.ref a1)) d21_5 rfl rfl <| iN C 0 d21_6 rfl <| yiaload C A1 (by decide) (i := 0) (by decide) (v := x0) rfl d21_7 <| aN C ((.ref a2)) d21_8 rfl rfl <| iN C 0 d21_9 rfl <| yiaload C A2 (by decide) (i := 0) (by decide) (v := x0) rfl d21_10 <| yicmp_n C d21_11 (XT.ii_ne_f rfl) <| iC C 1 d21_14 rfl <| gT C d21_15 19 (by decide) ?_
  refine g_ret C (eN hN) (v := (.int 1)) (ty := .boolean) rfl rfl (Or.inl ⟨rfl, Or.inr (Or.inl rfl), _, rfl⟩) d21_19 (by decide) (by decide) ?_
  exact ⟨rfl, rfl⟩
theorem rm_at_6_1 (hw : HW a0 Z) (a1 a2 : Addr) (x0 x1 x2 x3 x4 x5  : Int32) (h0 : Heap) (Z0 : n0 ≤ h0.size) (A1 : Ary Z h0 a1 .int [.int x0, .int x1, .int x2, .int x3, .int x4, .int x5]) (A2 : Ary Z h0 a2 .int [.int x0, .int x1, .int x2, .int x3, .int x4, .int x5]) :
    Met1 l Z ⟨"org/linkloom/io/FieldsSplitPinLaw", "at", "([I[III)Z"⟩ method_5_code 4 (some .boolean) ⟨0, 0, 0, 0⟩ n0 #[(.ref a1), (.ref a2), (.int 6), (.int 1)] h0 (fun v h => v = some (.int 1) ∧ h0 = h) := by
  refine met_of (plainFor_of_name pn_0) (L0 := #[.val (.ref a1), .val (.ref a2), .val (.int 6), .val (.int 1)]) (by first | (simp [argsToLocals, Value.category]; done) | rfl) ?_
  intro B C hN
  change Ctx B l _ _ "org/linkloom/io/FieldsSplitPinLaw" "at" _ _ Z at C
  refine iN C 1 d21_0 rfl <| iN C 6 d21_1 rfl <| yicmp_n C d21_2 (XT.ii_ge_f (by decide)) <| aN C ((.ref a1)) d21_5 rfl rfl <| iN C 1 d21_6 rfl <| yiaload C A1 (by decide) (i := 1) (by decide) (v := x1) rfl d21_7 <| aN C ((.ref a2)) d21_8 rfl rfl <| iN C 1 d21_9 rfl <| yiaload C A2 (by decide) (i := 1) (by decide) (v := x1) rfl d21_10 <| yicmp_n C d21_11 (XT.ii_ne_f rfl) <| iC C 1 d21_14 rfl <| gT C d21_15 19 (by decide) ?_
  refine g_ret C (eN hN) (v := (.int 1)) (ty := .boolean) rfl rfl (Or.inl ⟨rfl, Or.inr (Or.inl rfl), _, rfl⟩) d21_19 (by decide) (by decide) ?_
  exact ⟨rfl, rfl⟩
theorem rm_at_6_2 (hw : HW a0 Z) (a1 a2 : Addr) (x0 x1 x2 x3 x4 x5  : Int32) (h0 : Heap) (Z0 : n0 ≤ h0.size) (A1 : Ary Z h0 a1 .int [.int x0, .int x1, .int x2, .int x3, .int x4, .int x5]) (A2 : Ary Z h0 a2 .int [.int x0, .int x1, .int x2, .int x3, .int x4, .int x5]) :
    Met1 l Z ⟨"org/linkloom/io/FieldsSplitPinLaw", "at", "([I[III)Z"⟩ method_5_code 4 (some .boolean) ⟨0, 0, 0, 0⟩ n0 #[(.ref a1), (.ref a2), (.int 6), (.int 2)] h0 (fun v h => v = some (.int 1) ∧ h0 = h) := by
  refine met_of (plainFor_of_name pn_0) (L0 := #[.val (.ref a1), .val (.ref a2), .val (.int 6), .val (.int 2)]) (by first | (simp [argsToLocals, Value.category]; done) | rfl) ?_
  intro B C hN
  change Ctx B l _ _ "org/linkloom/io/FieldsSplitPinLaw" "at" _ _ Z at C
  refine iN C 2 d21_0 rfl <| iN C 6 d21_1 rfl <| yicmp_n C d21_2 (XT.ii_ge_f (by decide)) <| aN C ((.ref a1)) d21_5 rfl rfl <| iN C 2 d21_6 rfl <| yiaload C A1 (by decide) (i := 2) (by decide) (v := x2) rfl d21_7 <| aN C ((.ref a2)) d21_8 rfl rfl <| iN C 2 d21_9 rfl <| yiaload C A2 (by decide) (i := 2) (by decide) (v := x2) rfl d21_10 <| yicmp_n C d21_11 (XT.ii_ne_f rfl) <| iC C 1 d21_14 rfl <| gT C d21_15 19 (by decide) ?_
  refine g_ret C (eN hN) (v := (.int 1)) (ty := .boolean) rfl rfl (Or.inl ⟨rfl, Or.inr (Or.inl rfl), _, rfl⟩) d21_19 (by decide) (by decide) ?_
  exact ⟨rfl, rfl⟩
theorem rm_at_6_3 (hw : HW a0 Z) (a1 a2 : Addr) (x0 x1 x2 x3 x4 x5  : Int32) (h0 : Heap) (Z0 : n0 ≤ h0.size) (A1 : Ary Z h0 a1 .int [.int x0, .int x1, .int x2, .int x3, .int x4, .int x5]) (A2 : Ary Z h0 a2 .int [.int x0, .int x1, .int x2, .int x3, .int x4, .int x5]) :
    Met1 l Z ⟨"org/linkloom/io/FieldsSplitPinLaw", "at", "([I[III)Z"⟩ method_5_code 4 (some .boolean) ⟨0, 0, 0, 0⟩ n0 #[(.ref a1), (.ref a2), (.int 6), (.int 3)] h0 (fun v h => v = some (.int 1) ∧ h0 = h) := by
  refine met_of (plainFor_of_name pn_0) (L0 := #[.val (.ref a1), .val (.ref a2), .val (.int 6), .val (.int 3)]) (by first | (simp [argsToLocals, Value.category]; done) | rfl) ?_
  intro B C hN
  change Ctx B l _ _ "org/linkloom/io/FieldsSplitPinLaw" "at" _ _ Z at C
  refine iN C 3 d21_0 rfl <| iN C 6 d21_1 rfl <| yicmp_n C d21_2 (XT.ii_ge_f (by decide)) <| aN C ((.ref a1)) d21_5 rfl rfl <| iN C 3 d21_6 rfl <| yiaload C A1 (by decide) (i := 3) (by decide) (v := x3) rfl d21_7 <| aN C ((.ref a2)) d21_8 rfl rfl <| iN C 3 d21_9 rfl <| yiaload C A2 (by decide) (i := 3) (by decide) (v := x3) rfl d21_10 <| yicmp_n C d21_11 (XT.ii_ne_f rfl) <| iC C 1 d21_14 rfl <| gT C d21_15 19 (by decide) ?_
  refine g_ret C (eN hN) (v := (.int 1)) (ty := .boolean) rfl rfl (Or.inl ⟨rfl, Or.inr (Or.inl rfl), _, rfl⟩) d21_19 (by decide) (by decide) ?_
  exact ⟨rfl, rfl⟩
theorem rm_at_6_4 (hw : HW a0 Z) (a1 a2 : Addr) (x0 x1 x2 x3 x4 x5  : Int32) (h0 : Heap) (Z0 : n0 ≤ h0.size) (A1 : Ary Z h0 a1 .int [.int x0, .int x1, .int x2, .int x3, .int x4, .int x5]) (A2 : Ary Z h0 a2 .int [.int x0, .int x1, .int x2, .int x3, .int x4, .int x5]) :
    Met1 l Z ⟨"org/linkloom/io/FieldsSplitPinLaw", "at", "([I[III)Z"⟩ method_5_code 4 (some .boolean) ⟨0, 0, 0, 0⟩ n0 #[(.ref a1), (.ref a2), (.int 6), (.int 4)] h0 (fun v h => v = some (.int 1) ∧ h0 = h) := by
  refine met_of (plainFor_of_name pn_0) (L0 := #[.val (.ref a1), .val (.ref a2), .val (.int 6), .val (.int 4)]) (by first | (simp [argsToLocals, Value.category]; done) | rfl) ?_
  intro B C hN
  change Ctx B l _ _ "org/linkloom/io/FieldsSplitPinLaw" "at" _ _ Z at C
  refine iN C 4 d21_0 rfl <| iN C 6 d21_1 rfl <| yicmp_n C d21_2 (XT.ii_ge_f (by decide)) <| aN C ((.ref a1)) d21_5 rfl rfl <| iN C 4 d21_6 rfl <| yiaload C A1 (by decide) (i := 4) (by decide) (v := x4) rfl d21_7 <| aN C ((.ref a2)) d21_8 rfl rfl <| iN C 4 d21_9 rfl <| yiaload C A2 (by decide) (i := 4) (by decide) (v := x4) rfl d21_10 <| yicmp_n C d21_11 (XT.ii_ne_f rfl) <| iC C 1 d21_14 rfl <| gT C d21_15 19 (by decide) ?_
  refine g_ret C (eN hN) (v := (.int 1)) (ty := .boolean) rfl rfl (Or.inl ⟨rfl, Or.inr (Or.inl rfl), _, rfl⟩) d21_19 (by decide) (by decide) ?_
  exact ⟨rfl, rfl⟩
theorem rm_at_6_5 (hw : HW a0 Z) (a1 a2 : Addr) (x0 x1 x2 x3 x4 x5  : Int32) (h0 : Heap) (Z0 : n0 ≤ h0.size) (A1 : Ary Z h0 a1 .int [.int x0, .int x1, .int x2, .int x3, .int x4, .int x5]) (A2 : Ary Z h0 a2 .int [.int x0, .int x1, .int x2, .int x3, .int x4, .int x5]) :
    Met1 l Z ⟨"org/linkloom/io/FieldsSplitPinLaw", "at", "([I[III)Z"⟩ method_5_code 4 (some .boolean) ⟨0, 0, 0, 0⟩ n0 #[(.ref a1), (.ref a2), (.int 6), (.int 5)] h0 (fun v h => v = some (.int 1) ∧ h0 = h) := by
  refine met_of (plainFor_of_name pn_0) (L0 := #[.val (.ref a1), .val (.ref a2), .val (.int 6), .val (.int 5)]) (by first | (simp [argsToLocals, Value.category]; done) | rfl) ?_
  intro B C hN
  change Ctx B l _ _ "org/linkloom/io/FieldsSplitPinLaw" "at" _ _ Z at C
  refine iN C 5 d21_0 rfl <| iN C 6 d21_1 rfl <| yicmp_n C d21_2 (XT.ii_ge_f (by decide)) <| aN C ((.ref a1)) d21_5 rfl rfl <| iN C 5 d21_6 rfl <| yiaload C A1 (by decide) (i := 5) (by decide) (v := x5) rfl d21_7 <| aN C ((.ref a2)) d21_8 rfl rfl <| iN C 5 d21_9 rfl <| yiaload C A2 (by decide) (i := 5) (by decide) (v := x5) rfl d21_10 <| yicmp_n C d21_11 (XT.ii_ne_f rfl) <| iC C 1 d21_14 rfl <| gT C d21_15 19 (by decide) ?_
  refine g_ret C (eN hN) (v := (.int 1)) (ty := .boolean) rfl rfl (Or.inl ⟨rfl, Or.inr (Or.inl rfl), _, rfl⟩) d21_19 (by decide) (by decide) ?_
  exact ⟨rfl, rfl⟩
theorem own_up {B : Bod} {n0 : Nat} {Q : Option Value → Heap → Prop} {h : Heap} {k n k' n' pc : Nat} {L : Array Slot} {st : List Value} (go : Go B n0 Q h k' n' pc L st) (hk : k ≤ k') (hn : n ≤ n') : Go B n0 Q h k n pc L st := fun T locs X N eT => go T locs (X.mono hk hn) N eT
theorem own_split6 (i : Int32) (h0 : 0 ≤ i.toInt) (h1 : i.toInt < 6) : i = (0 : Int32) ∨ i = (1 : Int32) ∨ i = (2 : Int32) ∨ i = (3 : Int32) ∨ i = (4 : Int32) ∨ i = (5 : Int32) := by
  simp only [← Int32.toInt_inj, Int32.reduceToInt]; omega
theorem pd_24 : parseMethodDescriptor "(III)C" = some ⟨[.int, .int, .int], (some .char)⟩ := by decide +kernel
theorem pd_20 : parseMethodDescriptor "(ICCCCC)[C" = some ⟨[.int, .char, .char, .char, .char, .char], (some (.array .char))⟩ := by decide +kernel
theorem pd_16 : parseMethodDescriptor "([C)V" = some ⟨[(.array .char)], none⟩ := by decide +kernel
theorem pd_19 : parseMethodDescriptor "([IIIIC)I" = some ⟨[(.array .int), .int, .int, .int, .char], (some .int)⟩ := by decide +kernel
theorem pd_15 : parseMethodDescriptor "(Ljava/lang/String;I)[I" = some ⟨[(.object "java/lang/String"), .int], (some (.array .int))⟩ := by decide +kernel
theorem pd_21 : parseMethodDescriptor "([I[III)Z" = some ⟨[(.array .int), (.array .int), .int, .int], (some .boolean)⟩ := by decide +kernel
theorem rm_tail_1 (hw : HW a0 Z) (p0 p1 p2 p3 p4 p5 nn r0 r1 r2 r3 r4 : Int32) (a1 e1 : Addr) (x0 x1 x2 x3 x4 x5 : Int32) (h0 : Heap) (Z0 : n0 ≤ h0.size) (O : Old Z n0 h0) (Ae : Ary Z h0 e1 .int [.int x0, .int x1, .int x2, .int x3, .int x4, .int x5]) (hs : Met1 l Z ⟨"org/linkloom/io/Fields", "split", "(Ljava/lang/String;I)[I"⟩ prog_23_method_2_code 5 (some (.array .int)) ⟨4, 1, 1, 59⟩ n0 #[(.ref a1), (.int 1)] h0 (fun v h => ∃ b : Addr, v = some (.ref b) ∧ h0.size ≤ b ∧ Keep h0 h [] ∧ Ary Z h b .int [.int x0])) (B : Bod) (C : Ctx B l room_1 code "org/linkloom/io/FieldsSplitPinLaw" "law" 17 (some .boolean) Z) (hW : B.1 = some (fun _ _ => True)) :
    Go B n0 (fun v h => v = some (.int 1)) h0 5 20 172 #[iV p0, iV p1, iV p2, iV p3, iV p4, iV p5, iV nn, iV r0, iV r1, iV r2, iV r3, iV r4, aV a1, aV e1, iV 0, iV 1, uV] [] := by
  refine aL C ((.ref a1)) at_172 rfl rfl <| iL C 1 at_174 rfl <| cS C hw 41 42 43 44 rfl rfl rfl rfl hs [] [(.ref a1), (.int 1)] pd_15 0 at_176 ⟨rfl, rfl, rfl, rfl, rfl⟩ (by decide) ?_
  intro v_3 h_1 q_2
  obtain ⟨b_5, rfl, le_6, K_7, f_8⟩ := q_2
  have ne_9 : e1 ≠ b_5 := ne_ge Ae.lt le_6
  have ge_b_5 : n0 ≤ b_5 := lT Z0 le_6
  have gs_b_5 : h0.size ≤ b_5 := lT (Nat.le_refl h0.size) le_6
  show Go _ _ _ _ 6 21 179 _ [(.ref b_5)]
  refine aS C at_179 (#[iV p0, iV p1, iV p2, iV p3, iV p4, iV p5, iV nn, iV r0, iV r1, iV r2, iV r3, iV r4, aV a1, aV e1, iV 0, iV 1, aV b_5]) rfl rfl <| aL C ((.ref b_5)) at_181 rfl rfl <| yarraylength C f_8 (z := 1) rfl at_183 <| iL C 1 at_184 rfl <| yicmp_n C at_186 (XT.ii_ne_f (by decide)) <| aL C ((.ref b_5)) at_189 rfl rfl <| aL C ((.ref e1)) at_191 rfl rfl <| iL C 1 at_193 rfl <| iC C 0 at_195 rfl ?_
  have f_10 := (Ae.keep K_7 nin0)
  have f_11 := (lT Z0 K_7.1)
  refine cS C hw 88 89 2 90 rfl rfl rfl rfl (rm_at_1_0 hw b_5 e1 x0 x1 x2 x3 x4 x5 h_1 f_11 f_8 f_10) [] [(.ref b_5), (.ref e1), (.int 1), (.int 0)] pd_21 0 at_196 ⟨rfl, rfl, rfl, rfl, rfl⟩ (by decide) ?_
  intro v_14 h_12 q_13
  obtain ⟨rfl, rfl⟩ := q_13
  show Go _ _ _ _ 6 21 199 _ [(.int 1)]
  refine yif_n C at_199 (XT.i0_eq_f (by decide)) <| aL C ((.ref b_5)) at_202 rfl rfl <| aL C ((.ref e1)) at_204 rfl rfl <| iL C 1 at_206 rfl <| iC C 1 at_208 rfl <| cS C hw 88 89 2 90 rfl rfl rfl rfl (rm_at_1_1 hw b_5 e1 x0 x1 x2 x3 x4 x5 h_1 f_11 f_8 f_10) [] [(.ref b_5), (.ref e1), (.int 1), (.int 1)] pd_21 0 at_209 ⟨rfl, rfl, rfl, rfl, rfl⟩ (by decide) ?_
  intro v_18 h_16 q_17
  obtain ⟨rfl, rfl⟩ := q_17
  show Go _ _ _ _ 6 21 212 _ [(.int 1)]
  refine yif_n C at_212 (XT.i0_eq_f (by decide)) <| aL C ((.ref b_5)) at_215 rfl rfl <| aL C ((.ref e1)) at_217 rfl rfl <| iL C 1 at_219 rfl <| iC C 2 at_221 rfl <| cS C hw 88 89 2 90 rfl rfl rfl rfl (rm_at_1_2 hw b_5 e1 x0 x1 x2 x3 x4 x5 h_1 f_11 f_8 f_10) [] [(.ref b_5), (.ref e1), (.int 1), (.int 2)] pd_21 0 at_222 ⟨rfl, rfl, rfl, rfl, rfl⟩ (by decide) ?_
  intro v_22 h_20 q_21
  obtain ⟨rfl, rfl⟩ := q_21
  show Go _ _ _ _ 6 21 225 _ [(.int 1)]
  refine yif_n C at_225 (XT.i0_eq_f (by decide)) <| aL C ((.ref b_5)) at_228 rfl rfl <| aL C ((.ref e1)) at_230 rfl rfl <| iL C 1 at_232 rfl <| iC C 3 at_234 rfl <| cS C hw 88 89 2 90 rfl rfl rfl rfl (rm_at_1_3 hw b_5 e1 x0 x1 x2 x3 x4 x5 h_1 f_11 f_8 f_10) [] [(.ref b_5), (.ref e1), (.int 1), (.int 3)] pd_21 0 at_235 ⟨rfl, rfl, rfl, rfl, rfl⟩ (by decide) ?_
  intro v_26 h_24 q_25
  obtain ⟨rfl, rfl⟩ := q_25
  show Go _ _ _ _ 6 21 238 _ [(.int 1)]
  refine yif_n C at_238 (XT.i0_eq_f (by decide)) <| aL C ((.ref b_5)) at_241 rfl rfl <| aL C ((.ref e1)) at_243 rfl rfl <| iL C 1 at_245 rfl <| iC C 4 at_247 rfl <| cS C hw 88 89 2 90 rfl rfl rfl rfl (rm_at_1_4 hw b_5 e1 x0 x1 x2 x3 x4 x5 h_1 f_11 f_8 f_10) [] [(.ref b_5), (.ref e1), (.int 1), (.int 4)] pd_21 0 at_248 ⟨rfl, rfl, rfl, rfl, rfl⟩ (by decide) ?_
  intro v_30 h_28 q_29
  obtain ⟨rfl, rfl⟩ := q_29
  show Go _ _ _ _ 6 21 251 _ [(.int 1)]
  refine yif_n C at_251 (XT.i0_eq_f (by decide)) <| aL C ((.ref b_5)) at_254 rfl rfl <| aL C ((.ref e1)) at_256 rfl rfl <| iL C 1 at_258 rfl <| iC C 5 at_260 rfl <| cS C hw 88 89 2 90 rfl rfl rfl rfl (rm_at_1_5 hw b_5 e1 x0 x1 x2 x3 x4 x5 h_1 f_11 f_8 f_10) [] [(.ref b_5), (.ref e1), (.int 1), (.int 5)] pd_21 0 at_261 ⟨rfl, rfl, rfl, rfl, rfl⟩ (by decide) ?_
  intro v_34 h_32 q_33
  obtain ⟨rfl, rfl⟩ := q_33
  show Go _ _ _ _ 6 21 264 _ [(.int 1)]
  refine yif_n C at_264 (XT.i0_eq_f (by decide)) <| iC C 1 at_267 rfl <| gT C at_268 272 (by decide) ?_
  refine g_ret C (eW hW fun vm' hw' => trivial) (v := (.int 1)) (ty := .boolean) rfl rfl (Or.inl ⟨rfl, Or.inr (Or.inl rfl), _, rfl⟩) at_272 (by decide) (by decide) ?_
  rfl
theorem rm_tail_2 (hw : HW a0 Z) (p0 p1 p2 p3 p4 p5 nn r0 r1 r2 r3 r4 : Int32) (a1 e1 : Addr) (x0 x1 x2 x3 x4 x5 : Int32) (h0 : Heap) (Z0 : n0 ≤ h0.size) (O : Old Z n0 h0) (Ae : Ary Z h0 e1 .int [.int x0, .int x1, .int x2, .int x3, .int x4, .int x5]) (hs : Met1 l Z ⟨"org/linkloom/io/Fields", "split", "(Ljava/lang/String;I)[I"⟩ prog_23_method_2_code 5 (some (.array .int)) ⟨4, 1, 2, 59⟩ n0 #[(.ref a1), (.int 2)] h0 (fun v h => ∃ b : Addr, v = some (.ref b) ∧ h0.size ≤ b ∧ Keep h0 h [] ∧ Ary Z h b .int [.int x0, .int x1])) (B : Bod) (C : Ctx B l room_1 code "org/linkloom/io/FieldsSplitPinLaw" "law" 17 (some .boolean) Z) (hW : B.1 = some (fun _ _ => True)) :
    Go B n0 (fun v h => v = some (.int 1)) h0 5 20 172 #[iV p0, iV p1, iV p2, iV p3, iV p4, iV p5, iV nn, iV r0, iV r1, iV r2, iV r3, iV r4, aV a1, aV e1, iV 1, iV 2, uV] [] := by
  refine aL C ((.ref a1)) at_172 rfl rfl <| iL C 2 at_174 rfl <| cS C hw 41 42 43 44 rfl rfl rfl rfl hs [] [(.ref a1), (.int 2)] pd_15 0 at_176 ⟨rfl, rfl, rfl, rfl, rfl⟩ (by decide) ?_
  intro v_3 h_1 q_2
  obtain ⟨b_5, rfl, le_6, K_7, f_8⟩ := q_2
  have ne_9 : e1 ≠ b_5 := ne_ge Ae.lt le_6
  have ge_b_5 : n0 ≤ b_5 := lT Z0 le_6
  have gs_b_5 : h0.size ≤ b_5 := lT (Nat.le_refl h0.size) le_6
  show Go _ _ _ _ 6 22 179 _ [(.ref b_5)]
  refine aS C at_179 (#[iV p0, iV p1, iV p2, iV p3, iV p4, iV p5, iV nn, iV r0, iV r1, iV r2, iV r3, iV r4, aV a1, aV e1, iV 1, iV 2, aV b_5]) rfl rfl <| aL C ((.ref b_5)) at_181 rfl rfl <| yarraylength C f_8 (z := 2) rfl at_183 <| iL C 2 at_184 rfl <| yicmp_n C at_186 (XT.ii_ne_f (by decide)) <| aL C ((.ref b_5)) at_189 rfl rfl <| aL C ((.ref e1)) at_191 rfl rfl <| iL C 2 at_193 rfl <| iC C 0 at_195 rfl ?_
  have f_10 := (Ae.keep K_7 nin0)
  have f_11 := (lT Z0 K_7.1)
  refine cS C hw 88 89 2 90 rfl rfl rfl rfl (rm_at_2_0 hw b_5 e1 x0 x1 x2 x3 x4 x5 h_1 f_11 f_8 f_10) [] [(.ref b_5), (.ref e1), (.int 2), (.int 0)] pd_21 0 at_196 ⟨rfl, rfl, rfl, rfl, rfl⟩ (by decide) ?_
  intro v_14 h_12 q_13
  obtain ⟨rfl, rfl⟩ := q_13
  show Go _ _ _ _ 6 22 199 _ [(.int 1)]
  refine yif_n C at_199 (XT.i0_eq_f (by decide)) <| aL C ((.ref b_5)) at_202 rfl rfl <| aL C ((.ref e1)) at_204 rfl rfl <| iL C 2 at_206 rfl <| iC C 1 at_208 rfl <| cS C hw 88 89 2 90 rfl rfl rfl rfl (rm_at_2_1 hw b_5 e1 x0 x1 x2 x3 x4 x5 h_1 f_11 f_8 f_10) [] [(.ref b_5), (.ref e1), (.int 2), (.int 1)] pd_21 0 at_209 ⟨rfl, rfl, rfl, rfl, rfl⟩ (by decide) ?_
  intro v_18 h_16 q_17
  obtain ⟨rfl, rfl⟩ := q_17
  show Go _ _ _ _ 6 22 212 _ [(.int 1)]
  refine yif_n C at_212 (XT.i0_eq_f (by decide)) <| aL C ((.ref b_5)) at_215 rfl rfl <| aL C ((.ref e1)) at_217 rfl rfl <| iL C 2 at_219 rfl <| iC C 2 at_221 rfl <| cS C hw 88 89 2 90 rfl rfl rfl rfl (rm_at_2_2 hw b_5 e1 x0 x1 x2 x3 x4 x5 h_1 f_11 f_8 f_10) [] [(.ref b_5), (.ref e1), (.int 2), (.int 2)] pd_21 0 at_222 ⟨rfl, rfl, rfl, rfl, rfl⟩ (by decide) ?_
  intro v_22 h_20 q_21
  obtain ⟨rfl, rfl⟩ := q_21
  show Go _ _ _ _ 6 22 225 _ [(.int 1)]
  refine yif_n C at_225 (XT.i0_eq_f (by decide)) <| aL C ((.ref b_5)) at_228 rfl rfl <| aL C ((.ref e1)) at_230 rfl rfl <| iL C 2 at_232 rfl <| iC C 3 at_234 rfl <| cS C hw 88 89 2 90 rfl rfl rfl rfl (rm_at_2_3 hw b_5 e1 x0 x1 x2 x3 x4 x5 h_1 f_11 f_8 f_10) [] [(.ref b_5), (.ref e1), (.int 2), (.int 3)] pd_21 0 at_235 ⟨rfl, rfl, rfl, rfl, rfl⟩ (by decide) ?_
  intro v_26 h_24 q_25
  obtain ⟨rfl, rfl⟩ := q_25
  show Go _ _ _ _ 6 22 238 _ [(.int 1)]
  refine yif_n C at_238 (XT.i0_eq_f (by decide)) <| aL C ((.ref b_5)) at_241 rfl rfl <| aL C ((.ref e1)) at_243 rfl rfl <| iL C 2 at_245 rfl <| iC C 4 at_247 rfl <| cS C hw 88 89 2 90 rfl rfl rfl rfl (rm_at_2_4 hw b_5 e1 x0 x1 x2 x3 x4 x5 h_1 f_11 f_8 f_10) [] [(.ref b_5), (.ref e1), (.int 2), (.int 4)] pd_21 0 at_248 ⟨rfl, rfl, rfl, rfl, rfl⟩ (by decide) ?_
  intro v_30 h_28 q_29
  obtain ⟨rfl, rfl⟩ := q_29
  show Go _ _ _ _ 6 22 251 _ [(.int 1)]
  refine yif_n C at_251 (XT.i0_eq_f (by decide)) <| aL C ((.ref b_5)) at_254 rfl rfl <| aL C ((.ref e1)) at_256 rfl rfl <| iL C 2 at_258 rfl <| iC C 5 at_260 rfl <| cS C hw 88 89 2 90 rfl rfl rfl rfl (rm_at_2_5 hw b_5 e1 x0 x1 x2 x3 x4 x5 h_1 f_11 f_8 f_10) [] [(.ref b_5), (.ref e1), (.int 2), (.int 5)] pd_21 0 at_261 ⟨rfl, rfl, rfl, rfl, rfl⟩ (by decide) ?_
  intro v_34 h_32 q_33
  obtain ⟨rfl, rfl⟩ := q_33
  show Go _ _ _ _ 6 22 264 _ [(.int 1)]
  refine yif_n C at_264 (XT.i0_eq_f (by decide)) <| iC C 1 at_267 rfl <| gT C at_268 272 (by decide) ?_
  refine g_ret C (eW hW fun vm' hw' => trivial) (v := (.int 1)) (ty := .boolean) rfl rfl (Or.inl ⟨rfl, Or.inr (Or.inl rfl), _, rfl⟩) at_272 (by decide) (by decide) ?_
  rfl
theorem rm_tail_3 (hw : HW a0 Z) (p0 p1 p2 p3 p4 p5 nn r0 r1 r2 r3 r4 : Int32) (a1 e1 : Addr) (x0 x1 x2 x3 x4 x5 : Int32) (h0 : Heap) (Z0 : n0 ≤ h0.size) (O : Old Z n0 h0) (Ae : Ary Z h0 e1 .int [.int x0, .int x1, .int x2, .int x3, .int x4, .int x5]) (hs : Met1 l Z ⟨"org/linkloom/io/Fields", "split", "(Ljava/lang/String;I)[I"⟩ prog_23_method_2_code 5 (some (.array .int)) ⟨4, 1, 3, 59⟩ n0 #[(.ref a1), (.int 3)] h0 (fun v h => ∃ b : Addr, v = some (.ref b) ∧ h0.size ≤ b ∧ Keep h0 h [] ∧ Ary Z h b .int [.int x0, .int x1, .int x2])) (B : Bod) (C : Ctx B l room_1 code "org/linkloom/io/FieldsSplitPinLaw" "law" 17 (some .boolean) Z) (hW : B.1 = some (fun _ _ => True)) :
    Go B n0 (fun v h => v = some (.int 1)) h0 5 20 172 #[iV p0, iV p1, iV p2, iV p3, iV p4, iV p5, iV nn, iV r0, iV r1, iV r2, iV r3, iV r4, aV a1, aV e1, iV 2, iV 3, uV] [] := by
  refine aL C ((.ref a1)) at_172 rfl rfl <| iL C 3 at_174 rfl <| cS C hw 41 42 43 44 rfl rfl rfl rfl hs [] [(.ref a1), (.int 3)] pd_15 0 at_176 ⟨rfl, rfl, rfl, rfl, rfl⟩ (by decide) ?_
  intro v_3 h_1 q_2
  obtain ⟨b_5, rfl, le_6, K_7, f_8⟩ := q_2
  have ne_9 : e1 ≠ b_5 := ne_ge Ae.lt le_6
  have ge_b_5 : n0 ≤ b_5 := lT Z0 le_6
  have gs_b_5 : h0.size ≤ b_5 := lT (Nat.le_refl h0.size) le_6
  show Go _ _ _ _ 6 23 179 _ [(.ref b_5)]
  refine aS C at_179 (#[iV p0, iV p1, iV p2, iV p3, iV p4, iV p5, iV nn, iV r0, iV r1, iV r2, iV r3, iV r4, aV a1, aV e1, iV 2, iV 3, aV b_5]) rfl rfl <| aL C ((.ref b_5)) at_181 rfl rfl <| yarraylength C f_8 (z := 3) rfl at_183 <| iL C 3 at_184 rfl <| yicmp_n C at_186 (XT.ii_ne_f (by decide)) <| aL C ((.ref b_5)) at_189 rfl rfl <| aL C ((.ref e1)) at_191 rfl rfl <| iL C 3 at_193 rfl <| iC C 0 at_195 rfl ?_
  have f_10 := (Ae.keep K_7 nin0)
  have f_11 := (lT Z0 K_7.1)
  refine cS C hw 88 89 2 90 rfl rfl rfl rfl (rm_at_3_0 hw b_5 e1 x0 x1 x2 x3 x4 x5 h_1 f_11 f_8 f_10) [] [(.ref b_5), (.ref e1), (.int 3), (.int 0)] pd_21 0 at_196 ⟨rfl, rfl, rfl, rfl, rfl⟩ (by decide) ?_
  intro v_14 h_12 q_13
  obtain ⟨rfl, rfl⟩ := q_13
  show Go _ _ _ _ 6 23 199 _ [(.int 1)]
  refine yif_n C at_199 (XT.i0_eq_f (by decide)) <| aL C ((.ref b_5)) at_202 rfl rfl <| aL C ((.ref e1)) at_204 rfl rfl <| iL C 3 at_206 rfl <| iC C 1 at_208 rfl <| cS C hw 88 89 2 90 rfl rfl rfl rfl (rm_at_3_1 hw b_5 e1 x0 x1 x2 x3 x4 x5 h_1 f_11 f_8 f_10) [] [(.ref b_5), (.ref e1), (.int 3), (.int 1)] pd_21 0 at_209 ⟨rfl, rfl, rfl, rfl, rfl⟩ (by decide) ?_
  intro v_18 h_16 q_17
  obtain ⟨rfl, rfl⟩ := q_17
  show Go _ _ _ _ 6 23 212 _ [(.int 1)]
  refine yif_n C at_212 (XT.i0_eq_f (by decide)) <| aL C ((.ref b_5)) at_215 rfl rfl <| aL C ((.ref e1)) at_217 rfl rfl <| iL C 3 at_219 rfl <| iC C 2 at_221 rfl <| cS C hw 88 89 2 90 rfl rfl rfl rfl (rm_at_3_2 hw b_5 e1 x0 x1 x2 x3 x4 x5 h_1 f_11 f_8 f_10) [] [(.ref b_5), (.ref e1), (.int 3), (.int 2)] pd_21 0 at_222 ⟨rfl, rfl, rfl, rfl, rfl⟩ (by decide) ?_
  intro v_22 h_20 q_21
  obtain ⟨rfl, rfl⟩ := q_21
  show Go _ _ _ _ 6 23 225 _ [(.int 1)]
  refine yif_n C at_225 (XT.i0_eq_f (by decide)) <| aL C ((.ref b_5)) at_228 rfl rfl <| aL C ((.ref e1)) at_230 rfl rfl <| iL C 3 at_232 rfl <| iC C 3 at_234 rfl <| cS C hw 88 89 2 90 rfl rfl rfl rfl (rm_at_3_3 hw b_5 e1 x0 x1 x2 x3 x4 x5 h_1 f_11 f_8 f_10) [] [(.ref b_5), (.ref e1), (.int 3), (.int 3)] pd_21 0 at_235 ⟨rfl, rfl, rfl, rfl, rfl⟩ (by decide) ?_
  intro v_26 h_24 q_25
  obtain ⟨rfl, rfl⟩ := q_25
  show Go _ _ _ _ 6 23 238 _ [(.int 1)]
  refine yif_n C at_238 (XT.i0_eq_f (by decide)) <| aL C ((.ref b_5)) at_241 rfl rfl <| aL C ((.ref e1)) at_243 rfl rfl <| iL C 3 at_245 rfl <| iC C 4 at_247 rfl <| cS C hw 88 89 2 90 rfl rfl rfl rfl (rm_at_3_4 hw b_5 e1 x0 x1 x2 x3 x4 x5 h_1 f_11 f_8 f_10) [] [(.ref b_5), (.ref e1), (.int 3), (.int 4)] pd_21 0 at_248 ⟨rfl, rfl, rfl, rfl, rfl⟩ (by decide) ?_
  intro v_30 h_28 q_29
  obtain ⟨rfl, rfl⟩ := q_29
  show Go _ _ _ _ 6 23 251 _ [(.int 1)]
  refine yif_n C at_251 (XT.i0_eq_f (by decide)) <| aL C ((.ref b_5)) at_254 rfl rfl <| aL C ((.ref e1)) at_256 rfl rfl <| iL C 3 at_258 rfl <| iC C 5 at_260 rfl <| cS C hw 88 89 2 90 rfl rfl rfl rfl (rm_at_3_5 hw b_5 e1 x0 x1 x2 x3 x4 x5 h_1 f_11 f_8 f_10) [] [(.ref b_5), (.ref e1), (.int 3), (.int 5)] pd_21 0 at_261 ⟨rfl, rfl, rfl, rfl, rfl⟩ (by decide) ?_
  intro v_34 h_32 q_33
  obtain ⟨rfl, rfl⟩ := q_33
  show Go _ _ _ _ 6 23 264 _ [(.int 1)]
  refine yif_n C at_264 (XT.i0_eq_f (by decide)) <| iC C 1 at_267 rfl <| gT C at_268 272 (by decide) ?_
  refine g_ret C (eW hW fun vm' hw' => trivial) (v := (.int 1)) (ty := .boolean) rfl rfl (Or.inl ⟨rfl, Or.inr (Or.inl rfl), _, rfl⟩) at_272 (by decide) (by decide) ?_
  rfl
theorem rm_tail_4 (hw : HW a0 Z) (p0 p1 p2 p3 p4 p5 nn r0 r1 r2 r3 r4 : Int32) (a1 e1 : Addr) (x0 x1 x2 x3 x4 x5 : Int32) (h0 : Heap) (Z0 : n0 ≤ h0.size) (O : Old Z n0 h0) (Ae : Ary Z h0 e1 .int [.int x0, .int x1, .int x2, .int x3, .int x4, .int x5]) (hs : Met1 l Z ⟨"org/linkloom/io/Fields", "split", "(Ljava/lang/String;I)[I"⟩ prog_23_method_2_code 5 (some (.array .int)) ⟨4, 1, 4, 59⟩ n0 #[(.ref a1), (.int 4)] h0 (fun v h => ∃ b : Addr, v = some (.ref b) ∧ h0.size ≤ b ∧ Keep h0 h [] ∧ Ary Z h b .int [.int x0, .int x1, .int x2, .int x3])) (B : Bod) (C : Ctx B l room_1 code "org/linkloom/io/FieldsSplitPinLaw" "law" 17 (some .boolean) Z) (hW : B.1 = some (fun _ _ => True)) :
    Go B n0 (fun v h => v = some (.int 1)) h0 5 20 172 #[iV p0, iV p1, iV p2, iV p3, iV p4, iV p5, iV nn, iV r0, iV r1, iV r2, iV r3, iV r4, aV a1, aV e1, iV 3, iV 4, uV] [] := by
  refine aL C ((.ref a1)) at_172 rfl rfl <| iL C 4 at_174 rfl <| cS C hw 41 42 43 44 rfl rfl rfl rfl hs [] [(.ref a1), (.int 4)] pd_15 0 at_176 ⟨rfl, rfl, rfl, rfl, rfl⟩ (by decide) ?_
  intro v_3 h_1 q_2
  obtain ⟨b_5, rfl, le_6, K_7, f_8⟩ := q_2
  have ne_9 : e1 ≠ b_5 := ne_ge Ae.lt le_6
  have ge_b_5 : n0 ≤ b_5 := lT Z0 le_6
  have gs_b_5 : h0.size ≤ b_5 := lT (Nat.le_refl h0.size) le_6
  show Go _ _ _ _ 6 24 179 _ [(.ref b_5)]
  refine aS C at_179 (#[iV p0, iV p1, iV p2, iV p3, iV p4, iV p5, iV nn, iV r0, iV r1, iV r2, iV r3, iV r4, aV a1, aV e1, iV 3, iV 4, aV b_5]) rfl rfl <| aL C ((.ref b_5)) at_181 rfl rfl <| yarraylength C f_8 (z := 4) rfl at_183 <| iL C 4 at_184 rfl <| yicmp_n C at_186 (XT.ii_ne_f (by decide)) <| aL C ((.ref b_5)) at_189 rfl rfl <| aL C ((.ref e1)) at_191 rfl rfl <| iL C 4 at_193 rfl <| iC C 0 at_195 rfl ?_
  have f_10 := (Ae.keep K_7 nin0)
  have f_11 := (lT Z0 K_7.1)
  refine cS C hw 88 89 2 90 rfl rfl rfl rfl (rm_at_4_0 hw b_5 e1 x0 x1 x2 x3 x4 x5 h_1 f_11 f_8 f_10) [] [(.ref b_5), (.ref e1), (.int 4), (.int 0)] pd_21 0 at_196 ⟨rfl, rfl, rfl, rfl, rfl⟩ (by decide) ?_
  intro v_14 h_12 q_13
  obtain ⟨rfl, rfl⟩ := q_13
  show Go _ _ _ _ 6 24 199 _ [(.int 1)]
  refine yif_n C at_199 (XT.i0_eq_f (by decide)) <| aL C ((.ref b_5)) at_202 rfl rfl <| aL C ((.ref e1)) at_204 rfl rfl <| iL C 4 at_206 rfl <| iC C 1 at_208 rfl <| cS C hw 88 89 2 90 rfl rfl rfl rfl (rm_at_4_1 hw b_5 e1 x0 x1 x2 x3 x4 x5 h_1 f_11 f_8 f_10) [] [(.ref b_5), (.ref e1), (.int 4), (.int 1)] pd_21 0 at_209 ⟨rfl, rfl, rfl, rfl, rfl⟩ (by decide) ?_
  intro v_18 h_16 q_17
  obtain ⟨rfl, rfl⟩ := q_17
  show Go _ _ _ _ 6 24 212 _ [(.int 1)]
  refine yif_n C at_212 (XT.i0_eq_f (by decide)) <| aL C ((.ref b_5)) at_215 rfl rfl <| aL C ((.ref e1)) at_217 rfl rfl <| iL C 4 at_219 rfl <| iC C 2 at_221 rfl <| cS C hw 88 89 2 90 rfl rfl rfl rfl (rm_at_4_2 hw b_5 e1 x0 x1 x2 x3 x4 x5 h_1 f_11 f_8 f_10) [] [(.ref b_5), (.ref e1), (.int 4), (.int 2)] pd_21 0 at_222 ⟨rfl, rfl, rfl, rfl, rfl⟩ (by decide) ?_
  intro v_22 h_20 q_21
  obtain ⟨rfl, rfl⟩ := q_21
  show Go _ _ _ _ 6 24 225 _ [(.int 1)]
  refine yif_n C at_225 (XT.i0_eq_f (by decide)) <| aL C ((.ref b_5)) at_228 rfl rfl <| aL C ((.ref e1)) at_230 rfl rfl <| iL C 4 at_232 rfl <| iC C 3 at_234 rfl <| cS C hw 88 89 2 90 rfl rfl rfl rfl (rm_at_4_3 hw b_5 e1 x0 x1 x2 x3 x4 x5 h_1 f_11 f_8 f_10) [] [(.ref b_5), (.ref e1), (.int 4), (.int 3)] pd_21 0 at_235 ⟨rfl, rfl, rfl, rfl, rfl⟩ (by decide) ?_
  intro v_26 h_24 q_25
  obtain ⟨rfl, rfl⟩ := q_25
  show Go _ _ _ _ 6 24 238 _ [(.int 1)]
  refine yif_n C at_238 (XT.i0_eq_f (by decide)) <| aL C ((.ref b_5)) at_241 rfl rfl <| aL C ((.ref e1)) at_243 rfl rfl <| iL C 4 at_245 rfl <| iC C 4 at_247 rfl <| cS C hw 88 89 2 90 rfl rfl rfl rfl (rm_at_4_4 hw b_5 e1 x0 x1 x2 x3 x4 x5 h_1 f_11 f_8 f_10) [] [(.ref b_5), (.ref e1), (.int 4), (.int 4)] pd_21 0 at_248 ⟨rfl, rfl, rfl, rfl, rfl⟩ (by decide) ?_
  intro v_30 h_28 q_29
  obtain ⟨rfl, rfl⟩ := q_29
  show Go _ _ _ _ 6 24 251 _ [(.int 1)]
  refine yif_n C at_251 (XT.i0_eq_f (by decide)) <| aL C ((.ref b_5)) at_254 rfl rfl <| aL C ((.ref e1)) at_256 rfl rfl <| iL C 4 at_258 rfl <| iC C 5 at_260 rfl <| cS C hw 88 89 2 90 rfl rfl rfl rfl (rm_at_4_5 hw b_5 e1 x0 x1 x2 x3 x4 x5 h_1 f_11 f_8 f_10) [] [(.ref b_5), (.ref e1), (.int 4), (.int 5)] pd_21 0 at_261 ⟨rfl, rfl, rfl, rfl, rfl⟩ (by decide) ?_
  intro v_34 h_32 q_33
  obtain ⟨rfl, rfl⟩ := q_33
  show Go _ _ _ _ 6 24 264 _ [(.int 1)]
  refine yif_n C at_264 (XT.i0_eq_f (by decide)) <| iC C 1 at_267 rfl <| gT C at_268 272 (by decide) ?_
  refine g_ret C (eW hW fun vm' hw' => trivial) (v := (.int 1)) (ty := .boolean) rfl rfl (Or.inl ⟨rfl, Or.inr (Or.inl rfl), _, rfl⟩) at_272 (by decide) (by decide) ?_
  rfl
theorem rm_tail_5 (hw : HW a0 Z) (p0 p1 p2 p3 p4 p5 nn r0 r1 r2 r3 r4 : Int32) (a1 e1 : Addr) (x0 x1 x2 x3 x4 x5 : Int32) (h0 : Heap) (Z0 : n0 ≤ h0.size) (O : Old Z n0 h0) (Ae : Ary Z h0 e1 .int [.int x0, .int x1, .int x2, .int x3, .int x4, .int x5]) (hs : Met1 l Z ⟨"org/linkloom/io/Fields", "split", "(Ljava/lang/String;I)[I"⟩ prog_23_method_2_code 5 (some (.array .int)) ⟨4, 1, 5, 59⟩ n0 #[(.ref a1), (.int 5)] h0 (fun v h => ∃ b : Addr, v = some (.ref b) ∧ h0.size ≤ b ∧ Keep h0 h [] ∧ Ary Z h b .int [.int x0, .int x1, .int x2, .int x3, .int x4])) (B : Bod) (C : Ctx B l room_1 code "org/linkloom/io/FieldsSplitPinLaw" "law" 17 (some .boolean) Z) (hW : B.1 = some (fun _ _ => True)) :
    Go B n0 (fun v h => v = some (.int 1)) h0 5 20 172 #[iV p0, iV p1, iV p2, iV p3, iV p4, iV p5, iV nn, iV r0, iV r1, iV r2, iV r3, iV r4, aV a1, aV e1, iV 4, iV 5, uV] [] := by
  refine aL C ((.ref a1)) at_172 rfl rfl <| iL C 5 at_174 rfl <| cS C hw 41 42 43 44 rfl rfl rfl rfl hs [] [(.ref a1), (.int 5)] pd_15 0 at_176 ⟨rfl, rfl, rfl, rfl, rfl⟩ (by decide) ?_
  intro v_3 h_1 q_2
  obtain ⟨b_5, rfl, le_6, K_7, f_8⟩ := q_2
  have ne_9 : e1 ≠ b_5 := ne_ge Ae.lt le_6
  have ge_b_5 : n0 ≤ b_5 := lT Z0 le_6
  have gs_b_5 : h0.size ≤ b_5 := lT (Nat.le_refl h0.size) le_6
  show Go _ _ _ _ 6 25 179 _ [(.ref b_5)]
  refine aS C at_179 (#[iV p0, iV p1, iV p2, iV p3, iV p4, iV p5, iV nn, iV r0, iV r1, iV r2, iV r3, iV r4, aV a1, aV e1, iV 4, iV 5, aV b_5]) rfl rfl <| aL C ((.ref b_5)) at_181 rfl rfl <| yarraylength C f_8 (z := 5) rfl at_183 <| iL C 5 at_184 rfl <| yicmp_n C at_186 (XT.ii_ne_f (by decide)) <| aL C ((.ref b_5)) at_189 rfl rfl <| aL C ((.ref e1)) at_191 rfl rfl <| iL C 5 at_193 rfl <| iC C 0 at_195 rfl ?_
  have f_10 := (Ae.keep K_7 nin0)
  have f_11 := (lT Z0 K_7.1)
  refine cS C hw 88 89 2 90 rfl rfl rfl rfl (rm_at_5_0 hw b_5 e1 x0 x1 x2 x3 x4 x5 h_1 f_11 f_8 f_10) [] [(.ref b_5), (.ref e1), (.int 5), (.int 0)] pd_21 0 at_196 ⟨rfl, rfl, rfl, rfl, rfl⟩ (by decide) ?_
  intro v_14 h_12 q_13
  obtain ⟨rfl, rfl⟩ := q_13
  show Go _ _ _ _ 6 25 199 _ [(.int 1)]
  refine yif_n C at_199 (XT.i0_eq_f (by decide)) <| aL C ((.ref b_5)) at_202 rfl rfl <| aL C ((.ref e1)) at_204 rfl rfl <| iL C 5 at_206 rfl <| iC C 1 at_208 rfl <| cS C hw 88 89 2 90 rfl rfl rfl rfl (rm_at_5_1 hw b_5 e1 x0 x1 x2 x3 x4 x5 h_1 f_11 f_8 f_10) [] [(.ref b_5), (.ref e1), (.int 5), (.int 1)] pd_21 0 at_209 ⟨rfl, rfl, rfl, rfl, rfl⟩ (by decide) ?_
  intro v_18 h_16 q_17
  obtain ⟨rfl, rfl⟩ := q_17
  show Go _ _ _ _ 6 25 212 _ [(.int 1)]
  refine yif_n C at_212 (XT.i0_eq_f (by decide)) <| aL C ((.ref b_5)) at_215 rfl rfl <| aL C ((.ref e1)) at_217 rfl rfl <| iL C 5 at_219 rfl <| iC C 2 at_221 rfl <| cS C hw 88 89 2 90 rfl rfl rfl rfl (rm_at_5_2 hw b_5 e1 x0 x1 x2 x3 x4 x5 h_1 f_11 f_8 f_10) [] [(.ref b_5), (.ref e1), (.int 5), (.int 2)] pd_21 0 at_222 ⟨rfl, rfl, rfl, rfl, rfl⟩ (by decide) ?_
  intro v_22 h_20 q_21
  obtain ⟨rfl, rfl⟩ := q_21
  show Go _ _ _ _ 6 25 225 _ [(.int 1)]
  refine yif_n C at_225 (XT.i0_eq_f (by decide)) <| aL C ((.ref b_5)) at_228 rfl rfl <| aL C ((.ref e1)) at_230 rfl rfl <| iL C 5 at_232 rfl <| iC C 3 at_234 rfl <| cS C hw 88 89 2 90 rfl rfl rfl rfl (rm_at_5_3 hw b_5 e1 x0 x1 x2 x3 x4 x5 h_1 f_11 f_8 f_10) [] [(.ref b_5), (.ref e1), (.int 5), (.int 3)] pd_21 0 at_235 ⟨rfl, rfl, rfl, rfl, rfl⟩ (by decide) ?_
  intro v_26 h_24 q_25
  obtain ⟨rfl, rfl⟩ := q_25
  show Go _ _ _ _ 6 25 238 _ [(.int 1)]
  refine yif_n C at_238 (XT.i0_eq_f (by decide)) <| aL C ((.ref b_5)) at_241 rfl rfl <| aL C ((.ref e1)) at_243 rfl rfl <| iL C 5 at_245 rfl <| iC C 4 at_247 rfl <| cS C hw 88 89 2 90 rfl rfl rfl rfl (rm_at_5_4 hw b_5 e1 x0 x1 x2 x3 x4 x5 h_1 f_11 f_8 f_10) [] [(.ref b_5), (.ref e1), (.int 5), (.int 4)] pd_21 0 at_248 ⟨rfl, rfl, rfl, rfl, rfl⟩ (by decide) ?_
  intro v_30 h_28 q_29
  obtain ⟨rfl, rfl⟩ := q_29
  show Go _ _ _ _ 6 25 251 _ [(.int 1)]
  refine yif_n C at_251 (XT.i0_eq_f (by decide)) <| aL C ((.ref b_5)) at_254 rfl rfl <| aL C ((.ref e1)) at_256 rfl rfl <| iL C 5 at_258 rfl <| iC C 5 at_260 rfl <| cS C hw 88 89 2 90 rfl rfl rfl rfl (rm_at_5_5 hw b_5 e1 x0 x1 x2 x3 x4 x5 h_1 f_11 f_8 f_10) [] [(.ref b_5), (.ref e1), (.int 5), (.int 5)] pd_21 0 at_261 ⟨rfl, rfl, rfl, rfl, rfl⟩ (by decide) ?_
  intro v_34 h_32 q_33
  obtain ⟨rfl, rfl⟩ := q_33
  show Go _ _ _ _ 6 25 264 _ [(.int 1)]
  refine yif_n C at_264 (XT.i0_eq_f (by decide)) <| iC C 1 at_267 rfl <| gT C at_268 272 (by decide) ?_
  refine g_ret C (eW hW fun vm' hw' => trivial) (v := (.int 1)) (ty := .boolean) rfl rfl (Or.inl ⟨rfl, Or.inr (Or.inl rfl), _, rfl⟩) at_272 (by decide) (by decide) ?_
  rfl
theorem rm_tail_6 (hw : HW a0 Z) (p0 p1 p2 p3 p4 p5 nn r0 r1 r2 r3 r4 : Int32) (a1 e1 : Addr) (x0 x1 x2 x3 x4 x5 : Int32) (h0 : Heap) (Z0 : n0 ≤ h0.size) (O : Old Z n0 h0) (Ae : Ary Z h0 e1 .int [.int x0, .int x1, .int x2, .int x3, .int x4, .int x5]) (hs : Met1 l Z ⟨"org/linkloom/io/Fields", "split", "(Ljava/lang/String;I)[I"⟩ prog_23_method_2_code 5 (some (.array .int)) ⟨4, 1, 6, 59⟩ n0 #[(.ref a1), (.int 6)] h0 (fun v h => ∃ b : Addr, v = some (.ref b) ∧ h0.size ≤ b ∧ Keep h0 h [] ∧ Ary Z h b .int [.int x0, .int x1, .int x2, .int x3, .int x4, .int x5])) (B : Bod) (C : Ctx B l room_1 code "org/linkloom/io/FieldsSplitPinLaw" "law" 17 (some .boolean) Z) (hW : B.1 = some (fun _ _ => True)) :
    Go B n0 (fun v h => v = some (.int 1)) h0 5 20 172 #[iV p0, iV p1, iV p2, iV p3, iV p4, iV p5, iV nn, iV r0, iV r1, iV r2, iV r3, iV r4, aV a1, aV e1, iV 5, iV 6, uV] [] := by
  refine aL C ((.ref a1)) at_172 rfl rfl <| iL C 6 at_174 rfl <| cS C hw 41 42 43 44 rfl rfl rfl rfl hs [] [(.ref a1), (.int 6)] pd_15 0 at_176 ⟨rfl, rfl, rfl, rfl, rfl⟩ (by decide) ?_
  intro v_3 h_1 q_2
  obtain ⟨b_5, rfl, le_6, K_7, f_8⟩ := q_2
  have ne_9 : e1 ≠ b_5 := ne_ge Ae.lt le_6
  have ge_b_5 : n0 ≤ b_5 := lT Z0 le_6
  have gs_b_5 : h0.size ≤ b_5 := lT (Nat.le_refl h0.size) le_6
  show Go _ _ _ _ 6 26 179 _ [(.ref b_5)]
  refine aS C at_179 (#[iV p0, iV p1, iV p2, iV p3, iV p4, iV p5, iV nn, iV r0, iV r1, iV r2, iV r3, iV r4, aV a1, aV e1, iV 5, iV 6, aV b_5]) rfl rfl <| aL C ((.ref b_5)) at_181 rfl rfl <| yarraylength C f_8 (z := 6) rfl at_183 <| iL C 6 at_184 rfl <| yicmp_n C at_186 (XT.ii_ne_f (by decide)) <| aL C ((.ref b_5)) at_189 rfl rfl <| aL C ((.ref e1)) at_191 rfl rfl <| iL C 6 at_193 rfl <| iC C 0 at_195 rfl ?_
  have f_10 := (Ae.keep K_7 nin0)
  have f_11 := (lT Z0 K_7.1)
  refine cS C hw 88 89 2 90 rfl rfl rfl rfl (rm_at_6_0 hw b_5 e1 x0 x1 x2 x3 x4 x5 h_1 f_11 f_8 f_10) [] [(.ref b_5), (.ref e1), (.int 6), (.int 0)] pd_21 0 at_196 ⟨rfl, rfl, rfl, rfl, rfl⟩ (by decide) ?_
  intro v_14 h_12 q_13
  obtain ⟨rfl, rfl⟩ := q_13
  show Go _ _ _ _ 6 26 199 _ [(.int 1)]
  refine yif_n C at_199 (XT.i0_eq_f (by decide)) <| aL C ((.ref b_5)) at_202 rfl rfl <| aL C ((.ref e1)) at_204 rfl rfl <| iL C 6 at_206 rfl <| iC C 1 at_208 rfl <| cS C hw 88 89 2 90 rfl rfl rfl rfl (rm_at_6_1 hw b_5 e1 x0 x1 x2 x3 x4 x5 h_1 f_11 f_8 f_10) [] [(.ref b_5), (.ref e1), (.int 6), (.int 1)] pd_21 0 at_209 ⟨rfl, rfl, rfl, rfl, rfl⟩ (by decide) ?_
  intro v_18 h_16 q_17
  obtain ⟨rfl, rfl⟩ := q_17
  show Go _ _ _ _ 6 26 212 _ [(.int 1)]
  refine yif_n C at_212 (XT.i0_eq_f (by decide)) <| aL C ((.ref b_5)) at_215 rfl rfl <| aL C ((.ref e1)) at_217 rfl rfl <| iL C 6 at_219 rfl <| iC C 2 at_221 rfl <| cS C hw 88 89 2 90 rfl rfl rfl rfl (rm_at_6_2 hw b_5 e1 x0 x1 x2 x3 x4 x5 h_1 f_11 f_8 f_10) [] [(.ref b_5), (.ref e1), (.int 6), (.int 2)] pd_21 0 at_222 ⟨rfl, rfl, rfl, rfl, rfl⟩ (by decide) ?_
  intro v_22 h_20 q_21
  obtain ⟨rfl, rfl⟩ := q_21
  show Go _ _ _ _ 6 26 225 _ [(.int 1)]
  refine yif_n C at_225 (XT.i0_eq_f (by decide)) <| aL C ((.ref b_5)) at_228 rfl rfl <| aL C ((.ref e1)) at_230 rfl rfl <| iL C 6 at_232 rfl <| iC C 3 at_234 rfl <| cS C hw 88 89 2 90 rfl rfl rfl rfl (rm_at_6_3 hw b_5 e1 x0 x1 x2 x3 x4 x5 h_1 f_11 f_8 f_10) [] [(.ref b_5), (.ref e1), (.int 6), (.int 3)] pd_21 0 at_235 ⟨rfl, rfl, rfl, rfl, rfl⟩ (by decide) ?_
  intro v_26 h_24 q_25
  obtain ⟨rfl, rfl⟩ := q_25
  show Go _ _ _ _ 6 26 238 _ [(.int 1)]
  refine yif_n C at_238 (XT.i0_eq_f (by decide)) <| aL C ((.ref b_5)) at_241 rfl rfl <| aL C ((.ref e1)) at_243 rfl rfl <| iL C 6 at_245 rfl <| iC C 4 at_247 rfl <| cS C hw 88 89 2 90 rfl rfl rfl rfl (rm_at_6_4 hw b_5 e1 x0 x1 x2 x3 x4 x5 h_1 f_11 f_8 f_10) [] [(.ref b_5), (.ref e1), (.int 6), (.int 4)] pd_21 0 at_248 ⟨rfl, rfl, rfl, rfl, rfl⟩ (by decide) ?_
  intro v_30 h_28 q_29
  obtain ⟨rfl, rfl⟩ := q_29
  show Go _ _ _ _ 6 26 251 _ [(.int 1)]
  refine yif_n C at_251 (XT.i0_eq_f (by decide)) <| aL C ((.ref b_5)) at_254 rfl rfl <| aL C ((.ref e1)) at_256 rfl rfl <| iL C 6 at_258 rfl <| iC C 5 at_260 rfl <| cS C hw 88 89 2 90 rfl rfl rfl rfl (rm_at_6_5 hw b_5 e1 x0 x1 x2 x3 x4 x5 h_1 f_11 f_8 f_10) [] [(.ref b_5), (.ref e1), (.int 6), (.int 5)] pd_21 0 at_261 ⟨rfl, rfl, rfl, rfl, rfl⟩ (by decide) ?_
  intro v_34 h_32 q_33
  obtain ⟨rfl, rfl⟩ := q_33
  show Go _ _ _ _ 6 26 264 _ [(.int 1)]
  refine yif_n C at_264 (XT.i0_eq_f (by decide)) <| iC C 1 at_267 rfl <| gT C at_268 272 (by decide) ?_
  refine g_ret C (eW hW fun vm' hw' => trivial) (v := (.int 1)) (ty := .boolean) rfl rfl (Or.inl ⟨rfl, Or.inr (Or.inl rfl), _, rfl⟩) at_272 (by decide) (by decide) ?_
  rfl
theorem rm_law (hw : HW a0 Z) (p0 p1 p2 p3 p4 p5 : Int32) (h0 : Heap) (Z0 : n0 ≤ h0.size) (cm : Cmp Z) (O : Old Z n0 h0) (ch0 : Jvm.Lit.constHeld Z "java/lang/String" 7) (cw : Jvm.Lit.compactW.before a0 Z = true) :
    Met1V l Z x code maxLocals ret room_1 n0 #[(.int p0), (.int p1), (.int p2), (.int p3), (.int p4), (.int p5)] h0 (fun vm => InvK own_K Z vm h0) (fun _ _ => True) (fun v h => v = some (.int 1)) := by
  refine met_ofV (plainFor_of_name pn_0) (L0 := #[.val (.int p0), .val (.int p1), .val (.int p2), .val (.int p3), .val (.int p4), .val (.int p5), .unset, .unset, .unset, .unset, .unset, .unset, .unset, .unset, .unset, .unset, .unset]) (by first | (simp [argsToLocals, Value.category, maxLocals]; done) | rfl) ?_
  intro B C hW hP
  change Ctx B l room_1 code "org/linkloom/io/FieldsSplitPinLaw" "law" 17 (some .boolean) Z at C
  have cm' := cm
  obtain ⟨cz, Scz, hcz⟩ := cm'
  have I0 : InvK own_K Z B.s.vm h0 := hP
  refine iL C p5 at_0 rfl <| iB C 7 at_2 rfl <| yiand C at_4 <| iB C 6 at_5 rfl <| yirem C at_7 (by decide) ?_
  obtain ⟨i_1, hi_2⟩ : ∃ z : Int32, z = ((p5 &&& 7) - ((p5 &&& 7) / 6) * 6) := ⟨_, rfl⟩
  rw [← hi_2]
  rcases own_split6 i_1 (by rw [hi_2]; exact (own_rem6 (own_m7 p5)).1) (by rw [hi_2]; exact (own_rem6 (own_m7 p5)).2) with i_1e | i_1e | i_1e | i_1e | i_1e | i_1e
  · subst i_1e
    show Go _ _ _ _ 0 0 8 _ [(.int 0)]
    refine iS C at_8 (#[iV p0, iV p1, iV p2, iV p3, iV p4, iV p5, iV 0, uV, uV, uV, uV, uV, uV, uV, uV, uV, uV]) rfl <| iN C p0 at_10 rfl <| iL C p5 at_11 rfl <| iC C 0 at_13 rfl <| cS C hw 0 1 2 3 rfl rfl rfl rfl (rm_ch hw p0 p5 0 h0 Z0 ) [] [(.int p0), (.int p5), (.int 0)] pd_24 0 at_14 ⟨rfl, rfl, rfl, rfl, rfl⟩ (by decide) ?_
    intro v_5 h_3 q_4
    obtain ⟨r0, rfl, kr0, rfl⟩ := q_4
    show Go _ _ _ _ 0 0 17 _ [(.int r0)]
    refine iS C at_17 (#[iV p0, iV p1, iV p2, iV p3, iV p4, iV p5, iV 0, iV r0, uV, uV, uV, uV, uV, uV, uV, uV, uV]) rfl <| iN C p1 at_19 rfl <| iL C p5 at_20 rfl <| iC C 1 at_22 rfl <| cS C hw 0 1 2 3 rfl rfl rfl rfl (rm_ch hw p1 p5 1 h0 Z0 ) [] [(.int p1), (.int p5), (.int 1)] pd_24 0 at_23 ⟨rfl, rfl, rfl, rfl, rfl⟩ (by decide) ?_
    intro v_9 h_7 q_8
    obtain ⟨r1, rfl, kr1, rfl⟩ := q_8
    show Go _ _ _ _ 0 0 26 _ [(.int r1)]
    refine iS C at_26 (#[iV p0, iV p1, iV p2, iV p3, iV p4, iV p5, iV 0, iV r0, iV r1, uV, uV, uV, uV, uV, uV, uV, uV]) rfl <| iN C p2 at_28 rfl <| iL C p5 at_29 rfl <| iC C 2 at_31 rfl <| cS C hw 0 1 2 3 rfl rfl rfl rfl (rm_ch hw p2 p5 2 h0 Z0 ) [] [(.int p2), (.int p5), (.int 2)] pd_24 0 at_32 ⟨rfl, rfl, rfl, rfl, rfl⟩ (by decide) ?_
    intro v_13 h_11 q_12
    obtain ⟨r2, rfl, kr2, rfl⟩ := q_12
    show Go _ _ _ _ 0 0 35 _ [(.int r2)]
    refine iS C at_35 (#[iV p0, iV p1, iV p2, iV p3, iV p4, iV p5, iV 0, iV r0, iV r1, iV r2, uV, uV, uV, uV, uV, uV, uV]) rfl <| iN C p3 at_37 rfl <| iL C p5 at_38 rfl <| iC C 3 at_40 rfl <| cS C hw 0 1 2 3 rfl rfl rfl rfl (rm_ch hw p3 p5 3 h0 Z0 ) [] [(.int p3), (.int p5), (.int 3)] pd_24 0 at_41 ⟨rfl, rfl, rfl, rfl, rfl⟩ (by decide) ?_
    intro v_17 h_15 q_16
    obtain ⟨r3, rfl, kr3, rfl⟩ := q_16
    show Go _ _ _ _ 0 0 44 _ [(.int r3)]
    refine iS C at_44 (#[iV p0, iV p1, iV p2, iV p3, iV p4, iV p5, iV 0, iV r0, iV r1, iV r2, iV r3, uV, uV, uV, uV, uV, uV]) rfl <| iL C p4 at_46 rfl <| iL C p5 at_48 rfl <| iC C 4 at_50 rfl <| cS C hw 0 1 2 3 rfl rfl rfl rfl (rm_ch hw p4 p5 4 h0 Z0 ) [] [(.int p4), (.int p5), (.int 4)] pd_24 0 at_51 ⟨rfl, rfl, rfl, rfl, rfl⟩ (by decide) ?_
    intro v_21 h_19 q_20
    obtain ⟨r4, rfl, kr4, rfl⟩ := q_20
    show Go _ _ _ _ 0 0 54 _ [(.int r4)]
    refine iS C at_54 (#[iV p0, iV p1, iV p2, iV p3, iV p4, iV p5, iV 0, iV r0, iV r1, iV r2, iV r3, iV r4, uV, uV, uV, uV, uV]) rfl <| ynew C (oW hw 4 rfl) (oW hw 5 rfl) (oW hw 6 rfl) (by decide) (by decide) at_56 ?_
    intro h_23 a_24 g_25 E_26 A_27 D_28
    have ge_a_24 : n0 ≤ a_24 := lT Z0 (lE g_25.symm)
    have gs_a_24 : h0.size ≤ a_24 := lT (Nat.le_refl h0.size) (lE g_25.symm)
    have f_29 : Fld Z h_23 a_24 "java/lang/String" "coder" "B" (.int 0) := D_28 (Or.inr (oW hw 34 rfl)) (ty := .byte) (by decide)
    have f_30 : Fld Z h_23 a_24 "java/lang/String" "value" "[B" .null := D_28 (Or.inr (oW hw 36 rfl)) (ty := (.array .byte)) (by decide)
    show Go _ _ _ _ 1 4 59 _ [(.ref a_24)]
    refine ydup C at_59 rfl <| iL C 0 at_60 rfl <| iL C r0 at_62 rfl <| iL C r1 at_64 rfl <| iL C r2 at_66 rfl <| iL C r3 at_68 rfl <| iL C r4 at_70 rfl ?_
    have f_31 := (lT Z0 E_26.1)
    have f_32 := (lT (Nat.le_refl h0.size) E_26.1)
    refine cS C hw 7 8 2 9 rfl rfl rfl rfl (rm_chars_0 hw r0 r1 r2 r3 r4 h_23 f_31 kr0 kr1 kr2 kr3 kr4) [(.ref a_24), (.ref a_24)] [(.int 0), (.int r0), (.int r1), (.int r2), (.int r3), (.int r4)] pd_20 2 at_72 ⟨rfl, rfl, rfl, rfl, rfl⟩ (by decide) ?_
    intro v_35 h_33 q_34
    obtain ⟨b_37, rfl, le_38, K_39, f_40⟩ := q_34
    have ne_41 : a_24 ≠ b_37 := ne_ge A_27.lt le_38
    have ge_b_37 : n0 ≤ b_37 := lT f_31 le_38
    have gs_b_37 : h0.size ≤ b_37 := lT f_32 le_38
    show Go _ _ _ _ 2 4 75 _ [(.ref b_37), (.ref a_24), (.ref a_24)]
    have f_42 := ((O.ext E_26).keep K_39 all0)
    have f_43 := (A_27.keep K_39)
    have f_44 := (f_30.keep K_39 nin0)
    have f_45 := (f_29.keep K_39 nin0)
    have f_46 := (lT f_31 K_39.1)
    have f_47 := ((I0.ext E_26).keep0 K_39)
    refine yspecialV C hW (a := a_24) rfl (oW hw 11 rfl) (oW hw 12 rfl) (oW hw 6 rfl) (oW hw 13 rfl) (by decide) (rm_init1_0 hw a_24 b_37 h_33 f_46 cm f_42 ch0 cw f_43 f_44 f_45 ge_a_24 f_40 ne_41) (fun vm' hw' => InvK.warm f_47 hw') (st := [(.ref a_24)]) [(.ref b_37)] rfl rfl pd_16 rfl rfl (by decide) (W := 1) (lE rfl) (by decide) (by decide) (by decide) at_75 ?_
    intro B C hW v_50 h_48 q_49 I_51
    obtain ⟨rfl, K_52, b_53, nb_54, f_55, f_56, f_57⟩ := q_49
    show Go _ _ _ _ 4 8 78 _ [(.ref a_24)]
    refine aS C at_78 (#[iV p0, iV p1, iV p2, iV p3, iV p4, iV p5, iV 0, iV r0, iV r1, iV r2, iV r3, iV r4, aV a_24, uV, uV, uV, uV]) rfl rfl <| iB C 6 at_80 rfl ?_
    have f_58 := (f_43.keep K_52)
    have f_59 := (f_40.keep K_52 (ninS (Ne.symm ne_41) nin0))
    refine ynewarray C (oW hw 37 rfl) (ty := .int) rfl (by decide) (cap := 6) (by decide) (by decide) (by decide) (by decide) at_82 ?_
    intro h_60 a_61 g_62 E_63 A_64
    have ne_65 : a_24 ≠ a_61 := ne_new f_58.lt g_62
    have ne_66 : b_37 ≠ a_61 := ne_new f_59.lt g_62
    have ne_67 : b_53 ≠ a_61 := ne_new f_57.lt g_62
    have f_68 := (lT f_46 K_52.1)
    have ge_a_61 : n0 ≤ a_61 := lT f_68 (lE g_62.symm)
    have f_69 := (lT (lT f_32 K_39.1) K_52.1)
    have gs_a_61 : h0.size ≤ a_61 := lT f_69 (lE g_62.symm)
    have f_70 : Ary Z h_60 a_61 .int [(.int 0), (.int 0), (.int 0), (.int 0), (.int 0), (.int 0)] := A_64
    show Go _ _ _ _ 5 14 84 _ [(.ref a_61)]
    refine aS C at_84 (#[iV p0, iV p1, iV p2, iV p3, iV p4, iV p5, iV 0, iV r0, iV r1, iV r2, iV r3, iV r4, aV a_24, aV a_61, uV, uV, uV]) rfl rfl <| iC C 0 at_86 rfl <| iS C at_87 (#[iV p0, iV p1, iV p2, iV p3, iV p4, iV p5, iV 0, iV r0, iV r1, iV r2, iV r3, iV r4, aV a_24, aV a_61, iV 0, uV, uV]) rfl <| aL C ((.ref a_61)) at_89 rfl rfl <| iL C 0 at_91 rfl <| iL C 0 at_93 rfl <| iC C 0 at_95 rfl <| iL C r0 at_96 rfl ?_
    have f_71 := (lT f_68 E_63.1)
    refine cS C hw 38 39 2 40 rfl rfl rfl rfl (rm_noteN_0 hw a_61 0 0 0 r0 h_60 f_71 (by decide)) [] [(.ref a_61), (.int 0), (.int 0), (.int 0), (.int r0)] pd_19 0 at_98 ⟨rfl, rfl, rfl, rfl, rfl⟩ (by decide) ?_
    intro v_74 h_72 q_73
    obtain ⟨rfl, rfl⟩ := q_73
    show Go _ _ _ _ 5 14 101 _ [(.int 0)]
    refine iS C at_101 (#[iV p0, iV p1, iV p2, iV p3, iV p4, iV p5, iV 0, iV r0, iV r1, iV r2, iV r3, iV r4, aV a_24, aV a_61, iV 0, uV, uV]) rfl <| aL C ((.ref a_61)) at_103 rfl rfl <| iL C 0 at_105 rfl <| iL C 0 at_107 rfl <| iC C 1 at_109 rfl <| iL C r1 at_110 rfl <| cS C hw 38 39 2 40 rfl rfl rfl rfl (rm_noteN_0 hw a_61 0 0 1 r1 h_60 f_71 (by decide)) [] [(.ref a_61), (.int 0), (.int 0), (.int 1), (.int r1)] pd_19 0 at_112 ⟨rfl, rfl, rfl, rfl, rfl⟩ (by decide) ?_
    intro v_78 h_76 q_77
    obtain ⟨rfl, rfl⟩ := q_77
    show Go _ _ _ _ 5 14 115 _ [(.int 0)]
    refine iS C at_115 (#[iV p0, iV p1, iV p2, iV p3, iV p4, iV p5, iV 0, iV r0, iV r1, iV r2, iV r3, iV r4, aV a_24, aV a_61, iV 0, uV, uV]) rfl <| aL C ((.ref a_61)) at_117 rfl rfl <| iL C 0 at_119 rfl <| iL C 0 at_121 rfl <| iC C 2 at_123 rfl <| iL C r2 at_124 rfl <| cS C hw 38 39 2 40 rfl rfl rfl rfl (rm_noteN_0 hw a_61 0 0 2 r2 h_60 f_71 (by decide)) [] [(.ref a_61), (.int 0), (.int 0), (.int 2), (.int r2)] pd_19 0 at_126 ⟨rfl, rfl, rfl, rfl, rfl⟩ (by decide) ?_
    intro v_82 h_80 q_81
    obtain ⟨rfl, rfl⟩ := q_81
    show Go _ _ _ _ 5 14 129 _ [(.int 0)]
    refine iS C at_129 (#[iV p0, iV p1, iV p2, iV p3, iV p4, iV p5, iV 0, iV r0, iV r1, iV r2, iV r3, iV r4, aV a_24, aV a_61, iV 0, uV, uV]) rfl <| aL C ((.ref a_61)) at_131 rfl rfl <| iL C 0 at_133 rfl <| iL C 0 at_135 rfl <| iC C 3 at_137 rfl <| iL C r3 at_138 rfl <| cS C hw 38 39 2 40 rfl rfl rfl rfl (rm_noteN_0 hw a_61 0 0 3 r3 h_60 f_71 (by decide)) [] [(.ref a_61), (.int 0), (.int 0), (.int 3), (.int r3)] pd_19 0 at_140 ⟨rfl, rfl, rfl, rfl, rfl⟩ (by decide) ?_
    intro v_86 h_84 q_85
    obtain ⟨rfl, rfl⟩ := q_85
    show Go _ _ _ _ 5 14 143 _ [(.int 0)]
    refine iS C at_143 (#[iV p0, iV p1, iV p2, iV p3, iV p4, iV p5, iV 0, iV r0, iV r1, iV r2, iV r3, iV r4, aV a_24, aV a_61, iV 0, uV, uV]) rfl <| aL C ((.ref a_61)) at_145 rfl rfl <| iL C 0 at_147 rfl <| iL C 0 at_149 rfl <| iC C 4 at_151 rfl <| iL C r4 at_152 rfl <| cS C hw 38 39 2 40 rfl rfl rfl rfl (rm_noteN_0 hw a_61 0 0 4 r4 h_60 f_71 (by decide)) [] [(.ref a_61), (.int 0), (.int 0), (.int 4), (.int r4)] pd_19 0 at_154 ⟨rfl, rfl, rfl, rfl, rfl⟩ (by decide) ?_
    intro v_90 h_88 q_89
    obtain ⟨rfl, rfl⟩ := q_89
    show Go _ _ _ _ 5 14 157 _ [(.int 0)]
    refine iS C at_157 (#[iV p0, iV p1, iV p2, iV p3, iV p4, iV p5, iV 0, iV r0, iV r1, iV r2, iV r3, iV r4, aV a_24, aV a_61, iV 0, uV, uV]) rfl <| aL C ((.ref a_61)) at_159 rfl rfl <| iL C 0 at_161 rfl <| iL C 0 at_163 rfl <| yiastore C f_70 (by decide) (i := 0) (by decide) (show 0 < 6 by decide) (w := (.int 0)) rfl ge_a_61 at_165 ?_
    intro h_92 K_93 A_94
    have f_95 : Ary Z h_92 a_61 .int [(.int 0), (.int 0), (.int 0), (.int 0), (.int 0), (.int 0)] := A_94
    refine iL C 0 at_166 rfl <| iC C 1 at_168 rfl <| yiadd C at_169 <| eS [(.int 1)] rfl <| iS C at_170 (#[iV p0, iV p1, iV p2, iV p3, iV p4, iV p5, iV 0, iV r0, iV r1, iV r2, iV r3, iV r4, aV a_24, aV a_61, iV 0, iV 1, uV]) rfl ?_
    have f_96 := ((f_58.ext E_63).keep K_93)
    have f_97 := ((f_55.ext E_63).keep K_93 (ninS ne_65 nin0))
    have f_98 := ((f_56.ext E_63).keep K_93 (ninS ne_65 nin0))
    have f_99 := ((f_57.ext E_63).keep K_93 (ninS ne_67 nin0))
    have f_100 := (lT f_71 K_93.1)
    have f_101 := (((f_42.keep K_52 (allS ge_a_24 all0)).ext E_63).keep K_93 (allS ge_a_61 all0))
    exact own_up (rm_tail_1 hw p0 p1 p2 p3 p4 p5 0 r0 r1 r2 r3 r4 a_24 a_61 0 0 0 0 0 0 h_92 f_100 f_101 f_95 (rm_split_1 hw a_24 0 h_92 f_100 f_101 f_96  (fun h u v k => rm_sio1 hw a_24 (-1 : Int32) h u (f_96.keep k) (rm_sioI_0_0_0 hw a_24 b_53  h u cm v (f_96.keep k) (f_97.keep k nin0) (f_98.keep k nin0) (f_99.keep k nin0) )) (fun h u v k => rm_length_0 hw a_24 b_53  h u cm v (f_96.keep k) (f_97.keep k nin0) (f_98.keep k nin0) (f_99.keep k nin0))) B C hW) (by decide) (by decide)
  · subst i_1e
    show Go _ _ _ _ 0 0 8 _ [(.int 1)]
    refine iS C at_8 (#[iV p0, iV p1, iV p2, iV p3, iV p4, iV p5, iV 1, uV, uV, uV, uV, uV, uV, uV, uV, uV, uV]) rfl <| iN C p0 at_10 rfl <| iL C p5 at_11 rfl <| iC C 0 at_13 rfl <| cS C hw 0 1 2 3 rfl rfl rfl rfl (rm_ch hw p0 p5 0 h0 Z0 ) [] [(.int p0), (.int p5), (.int 0)] pd_24 0 at_14 ⟨rfl, rfl, rfl, rfl, rfl⟩ (by decide) ?_
    intro v_104 h_102 q_103
    obtain ⟨r0, rfl, kr0, rfl⟩ := q_103
    show Go _ _ _ _ 0 0 17 _ [(.int r0)]
    refine iS C at_17 (#[iV p0, iV p1, iV p2, iV p3, iV p4, iV p5, iV 1, iV r0, uV, uV, uV, uV, uV, uV, uV, uV, uV]) rfl <| iN C p1 at_19 rfl <| iL C p5 at_20 rfl <| iC C 1 at_22 rfl <| cS C hw 0 1 2 3 rfl rfl rfl rfl (rm_ch hw p1 p5 1 h0 Z0 ) [] [(.int p1), (.int p5), (.int 1)] pd_24 0 at_23 ⟨rfl, rfl, rfl, rfl, rfl⟩ (by decide) ?_
    intro v_108 h_106 q_107
    obtain ⟨r1, rfl, kr1, rfl⟩ := q_107
    show Go _ _ _ _ 0 0 26 _ [(.int r1)]
    refine iS C at_26 (#[iV p0, iV p1, iV p2, iV p3, iV p4, iV p5, iV 1, iV r0, iV r1, uV, uV, uV, uV, uV, uV, uV, uV]) rfl <| iN C p2 at_28 rfl <| iL C p5 at_29 rfl <| iC C 2 at_31 rfl <| cS C hw 0 1 2 3 rfl rfl rfl rfl (rm_ch hw p2 p5 2 h0 Z0 ) [] [(.int p2), (.int p5), (.int 2)] pd_24 0 at_32 ⟨rfl, rfl, rfl, rfl, rfl⟩ (by decide) ?_
    intro v_112 h_110 q_111
    obtain ⟨r2, rfl, kr2, rfl⟩ := q_111
    show Go _ _ _ _ 0 0 35 _ [(.int r2)]
    refine iS C at_35 (#[iV p0, iV p1, iV p2, iV p3, iV p4, iV p5, iV 1, iV r0, iV r1, iV r2, uV, uV, uV, uV, uV, uV, uV]) rfl <| iN C p3 at_37 rfl <| iL C p5 at_38 rfl <| iC C 3 at_40 rfl <| cS C hw 0 1 2 3 rfl rfl rfl rfl (rm_ch hw p3 p5 3 h0 Z0 ) [] [(.int p3), (.int p5), (.int 3)] pd_24 0 at_41 ⟨rfl, rfl, rfl, rfl, rfl⟩ (by decide) ?_
    intro v_116 h_114 q_115
    obtain ⟨r3, rfl, kr3, rfl⟩ := q_115
    show Go _ _ _ _ 0 0 44 _ [(.int r3)]
    refine iS C at_44 (#[iV p0, iV p1, iV p2, iV p3, iV p4, iV p5, iV 1, iV r0, iV r1, iV r2, iV r3, uV, uV, uV, uV, uV, uV]) rfl <| iL C p4 at_46 rfl <| iL C p5 at_48 rfl <| iC C 4 at_50 rfl <| cS C hw 0 1 2 3 rfl rfl rfl rfl (rm_ch hw p4 p5 4 h0 Z0 ) [] [(.int p4), (.int p5), (.int 4)] pd_24 0 at_51 ⟨rfl, rfl, rfl, rfl, rfl⟩ (by decide) ?_
    intro v_120 h_118 q_119
    obtain ⟨r4, rfl, kr4, rfl⟩ := q_119
    show Go _ _ _ _ 0 0 54 _ [(.int r4)]
    refine iS C at_54 (#[iV p0, iV p1, iV p2, iV p3, iV p4, iV p5, iV 1, iV r0, iV r1, iV r2, iV r3, iV r4, uV, uV, uV, uV, uV]) rfl <| ynew C (oW hw 4 rfl) (oW hw 5 rfl) (oW hw 6 rfl) (by decide) (by decide) at_56 ?_
    intro h_122 a_123 g_124 E_125 A_126 D_127
    have ge_a_123 : n0 ≤ a_123 := lT Z0 (lE g_124.symm)
    have gs_a_123 : h0.size ≤ a_123 := lT (Nat.le_refl h0.size) (lE g_124.symm)
    have f_128 : Fld Z h_122 a_123 "java/lang/String" "coder" "B" (.int 0) := D_127 (Or.inr (oW hw 34 rfl)) (ty := .byte) (by decide)
    have f_129 : Fld Z h_122 a_123 "java/lang/String" "value" "[B" .null := D_127 (Or.inr (oW hw 36 rfl)) (ty := (.array .byte)) (by decide)
    show Go _ _ _ _ 1 4 59 _ [(.ref a_123)]
    refine ydup C at_59 rfl <| iL C 1 at_60 rfl <| iL C r0 at_62 rfl <| iL C r1 at_64 rfl <| iL C r2 at_66 rfl <| iL C r3 at_68 rfl <| iL C r4 at_70 rfl ?_
    have f_130 := (lT Z0 E_125.1)
    have f_131 := (lT (Nat.le_refl h0.size) E_125.1)
    refine cS C hw 7 8 2 9 rfl rfl rfl rfl (rm_chars_1 hw r0 r1 r2 r3 r4 h_122 f_130 kr0 kr1 kr2 kr3 kr4) [(.ref a_123), (.ref a_123)] [(.int 1), (.int r0), (.int r1), (.int r2), (.int r3), (.int r4)] pd_20 2 at_72 ⟨rfl, rfl, rfl, rfl, rfl⟩ (by decide) ?_
    intro v_134 h_132 q_133
    obtain ⟨b_136, rfl, le_137, K_138, f_139⟩ := q_133
    have ne_140 : a_123 ≠ b_136 := ne_ge A_126.lt le_137
    have ge_b_136 : n0 ≤ b_136 := lT f_130 le_137
    have gs_b_136 : h0.size ≤ b_136 := lT f_131 le_137
    show Go _ _ _ _ 2 5 75 _ [(.ref b_136), (.ref a_123), (.ref a_123)]
    have f_141 := ((O.ext E_125).keep K_138 all0)
    have f_142 := (A_126.keep K_138)
    have f_143 := (f_129.keep K_138 nin0)
    have f_144 := (f_128.keep K_138 nin0)
    have f_145 := (lT f_130 K_138.1)
    have f_146 := (lT f_131 K_138.1)
    refine cP C hw 11 12 6 13 rfl rfl rfl rfl rfl (rm_init1_1 hw a_123 b_136 r0 h_132 f_145 cm f_141 f_142 f_143 f_144 ge_a_123 f_139 ne_140 kr0) [(.ref a_123)] [(.ref b_136)] pd_16 1 at_75 ⟨rfl, rfl, rfl, rfl, rfl⟩ (by decide) ?_
    intro v_149 h_147 q_148
    obtain ⟨rfl, K_151, b_152, le_153, f_154, f_155, f_156⟩ := q_148
    have ne_157 : a_123 ≠ b_152 := ne_ge f_142.lt le_153
    have ne_158 : b_136 ≠ b_152 := ne_ge f_139.lt le_153
    have ge_b_152 : n0 ≤ b_152 := lT f_145 le_153
    have gs_b_152 : h0.size ≤ b_152 := lT f_146 le_153
    show Go _ _ _ _ 3 6 78 _ [(.ref a_123)]
    refine aS C at_78 (#[iV p0, iV p1, iV p2, iV p3, iV p4, iV p5, iV 1, iV r0, iV r1, iV r2, iV r3, iV r4, aV a_123, uV, uV, uV, uV]) rfl rfl <| iB C 6 at_80 rfl ?_
    have f_159 := (f_142.keep K_151)
    have f_160 := (f_139.keep K_151 (ninS (Ne.symm ne_140) nin0))
    refine ynewarray C (oW hw 37 rfl) (ty := .int) rfl (by decide) (cap := 6) (by decide) (by decide) (by decide) (by decide) at_82 ?_
    intro h_161 a_162 g_163 E_164 A_165
    have ne_166 : a_123 ≠ a_162 := ne_new f_159.lt g_163
    have ne_167 : b_136 ≠ a_162 := ne_new f_160.lt g_163
    have ne_168 : b_152 ≠ a_162 := ne_new f_156.lt g_163
    have f_169 := (lT f_145 K_151.1)
    have ge_a_162 : n0 ≤ a_162 := lT f_169 (lE g_163.symm)
    have f_170 := (lT f_146 K_151.1)
    have gs_a_162 : h0.size ≤ a_162 := lT f_170 (lE g_163.symm)
    have f_171 : Ary Z h_161 a_162 .int [(.int 0), (.int 0), (.int 0), (.int 0), (.int 0), (.int 0)] := A_165
    show Go _ _ _ _ 4 12 84 _ [(.ref a_162)]
    refine aS C at_84 (#[iV p0, iV p1, iV p2, iV p3, iV p4, iV p5, iV 1, iV r0, iV r1, iV r2, iV r3, iV r4, aV a_123, aV a_162, uV, uV, uV]) rfl rfl <| iC C 0 at_86 rfl <| iS C at_87 (#[iV p0, iV p1, iV p2, iV p3, iV p4, iV p5, iV 1, iV r0, iV r1, iV r2, iV r3, iV r4, aV a_123, aV a_162, iV 0, uV, uV]) rfl <| aL C ((.ref a_162)) at_89 rfl rfl <| iL C 0 at_91 rfl <| iL C 1 at_93 rfl <| iC C 0 at_95 rfl <| iL C r0 at_96 rfl ?_
    by_cases hb_172 : r0 = 9
    · have f_173 := (lT f_169 E_164.1)
      refine cS C hw 38 39 2 40 rfl rfl rfl rfl (rm_noteY_0 hw a_162 0 0 0 0 0 0 1 0 r0 h_161 f_173 f_171 ge_a_162 (by decide) hb_172) [] [(.ref a_162), (.int 0), (.int 1), (.int 0), (.int r0)] pd_19 0 at_98 ⟨rfl, rfl, rfl, rfl, rfl⟩ (by decide) ?_
      intro v_176 h_174 q_175
      obtain ⟨rfl, K_178, f_179⟩ := q_175
      show Go _ _ _ _ 4 12 101 _ [(.int 1)]
      refine iS C at_101 (#[iV p0, iV p1, iV p2, iV p3, iV p4, iV p5, iV 1, iV r0, iV r1, iV r2, iV r3, iV r4, aV a_123, aV a_162, iV 1, uV, uV]) rfl <| aL C ((.ref a_162)) at_103 rfl rfl <| iL C 1 at_105 rfl <| iL C 1 at_107 rfl <| iC C 1 at_109 rfl <| iL C r1 at_110 rfl ?_
      have f_180 := (lT f_173 K_178.1)
      refine cS C hw 38 39 2 40 rfl rfl rfl rfl (rm_noteN_0 hw a_162 1 1 1 r1 h_174 f_180 (by decide)) [] [(.ref a_162), (.int 1), (.int 1), (.int 1), (.int r1)] pd_19 0 at_112 ⟨rfl, rfl, rfl, rfl, rfl⟩ (by decide) ?_
      intro v_183 h_181 q_182
      obtain ⟨rfl, rfl⟩ := q_182
      show Go _ _ _ _ 4 12 115 _ [(.int 1)]
      refine iS C at_115 (#[iV p0, iV p1, iV p2, iV p3, iV p4, iV p5, iV 1, iV r0, iV r1, iV r2, iV r3, iV r4, aV a_123, aV a_162, iV 1, uV, uV]) rfl <| aL C ((.ref a_162)) at_117 rfl rfl <| iL C 1 at_119 rfl <| iL C 1 at_121 rfl <| iC C 2 at_123 rfl <| iL C r2 at_124 rfl <| cS C hw 38 39 2 40 rfl rfl rfl rfl (rm_noteN_0 hw a_162 1 1 2 r2 h_174 f_180 (by decide)) [] [(.ref a_162), (.int 1), (.int 1), (.int 2), (.int r2)] pd_19 0 at_126 ⟨rfl, rfl, rfl, rfl, rfl⟩ (by decide) ?_
      intro v_187 h_185 q_186
      obtain ⟨rfl, rfl⟩ := q_186
      show Go _ _ _ _ 4 12 129 _ [(.int 1)]
      refine iS C at_129 (#[iV p0, iV p1, iV p2, iV p3, iV p4, iV p5, iV 1, iV r0, iV r1, iV r2, iV r3, iV r4, aV a_123, aV a_162, iV 1, uV, uV]) rfl <| aL C ((.ref a_162)) at_131 rfl rfl <| iL C 1 at_133 rfl <| iL C 1 at_135 rfl <| iC C 3 at_137 rfl <| iL C r3 at_138 rfl <| cS C hw 38 39 2 40 rfl rfl rfl rfl (rm_noteN_0 hw a_162 1 1 3 r3 h_174 f_180 (by decide)) [] [(.ref a_162), (.int 1), (.int 1), (.int 3), (.int r3)] pd_19 0 at_140 ⟨rfl, rfl, rfl, rfl, rfl⟩ (by decide) ?_
      intro v_191 h_189 q_190
      obtain ⟨rfl, rfl⟩ := q_190
      show Go _ _ _ _ 4 12 143 _ [(.int 1)]
      refine iS C at_143 (#[iV p0, iV p1, iV p2, iV p3, iV p4, iV p5, iV 1, iV r0, iV r1, iV r2, iV r3, iV r4, aV a_123, aV a_162, iV 1, uV, uV]) rfl <| aL C ((.ref a_162)) at_145 rfl rfl <| iL C 1 at_147 rfl <| iL C 1 at_149 rfl <| iC C 4 at_151 rfl <| iL C r4 at_152 rfl <| cS C hw 38 39 2 40 rfl rfl rfl rfl (rm_noteN_0 hw a_162 1 1 4 r4 h_174 f_180 (by decide)) [] [(.ref a_162), (.int 1), (.int 1), (.int 4), (.int r4)] pd_19 0 at_154 ⟨rfl, rfl, rfl, rfl, rfl⟩ (by decide) ?_
      intro v_195 h_193 q_194
      obtain ⟨rfl, rfl⟩ := q_194
      show Go _ _ _ _ 4 12 157 _ [(.int 1)]
      refine iS C at_157 (#[iV p0, iV p1, iV p2, iV p3, iV p4, iV p5, iV 1, iV r0, iV r1, iV r2, iV r3, iV r4, aV a_123, aV a_162, iV 1, uV, uV]) rfl <| aL C ((.ref a_162)) at_159 rfl rfl <| iL C 1 at_161 rfl <| iL C 1 at_163 rfl <| yiastore C f_179 (by decide) (i := 1) (by decide) (show 1 < 6 by decide) (w := (.int 1)) rfl ge_a_162 at_165 ?_
      intro h_197 K_198 A_199
      have f_200 : Ary Z h_197 a_162 .int [(.int 0), (.int 1), (.int 0), (.int 0), (.int 0), (.int 0)] := A_199
      refine iL C 1 at_166 rfl <| iC C 1 at_168 rfl <| yiadd C at_169 <| eS [(.int 2)] rfl <| iS C at_170 (#[iV p0, iV p1, iV p2, iV p3, iV p4, iV p5, iV 1, iV r0, iV r1, iV r2, iV r3, iV r4, aV a_123, aV a_162, iV 1, iV 2, uV]) rfl ?_
      have f_201 := (((f_159.ext E_164).keep K_178).keep K_198)
      have f_202 := (((f_154.ext E_164).keep K_178 (ninS ne_166 nin0)).keep K_198 (ninS ne_166 nin0))
      have f_203 := (((f_155.ext E_164).keep K_178 (ninS ne_166 nin0)).keep K_198 (ninS ne_166 nin0))
      have f_204 := (((f_156.ext E_164).keep K_178 (ninS ne_168 nin0)).keep K_198 (ninS ne_168 nin0))
      have f_205 := (lT f_180 K_198.1)
      have f_206 := ((((f_141.keep K_151 (allS ge_a_123 all0)).ext E_164).keep K_178 (allS ge_a_162 all0)).keep K_198 (allS ge_a_162 all0))
      exact own_up (rm_tail_2 hw p0 p1 p2 p3 p4 p5 1 r0 r1 r2 r3 r4 a_123 a_162 0 1 0 0 0 0 h_197 f_205 f_206 f_200 (rm_split_2 hw a_123 0 1 h_197 f_205 f_206 f_201 (by decide) (fun h u v k => rm_sio1 hw a_123 0 h u (f_201.keep k) (rm_sioI_1_0_1 hw a_123 b_152 (bY r0) h u cm v (f_201.keep k) (f_202.keep k nin0) (f_203.keep k nin0) (f_204.keep k nin0) (own_by9' hb_172))) (fun h u v k => rm_sioI_1_1_0 hw a_123 b_152 (bY r0) h u cm v (f_201.keep k) (f_202.keep k nin0) (f_203.keep k nin0) (f_204.keep k nin0) ) (fun h u v k => rm_length_1 hw a_123 b_152 (bY r0) h u cm v (f_201.keep k) (f_202.keep k nin0) (f_203.keep k nin0) (f_204.keep k nin0))) B C hW) (by decide) (by decide)
    · have f_207 := (lT f_169 E_164.1)
      refine cS C hw 38 39 2 40 rfl rfl rfl rfl (rm_noteN_1 hw a_162 0 1 0 r0 h_161 f_207 (by decide) hb_172) [] [(.ref a_162), (.int 0), (.int 1), (.int 0), (.int r0)] pd_19 0 at_98 ⟨rfl, rfl, rfl, rfl, rfl⟩ (by decide) ?_
      intro v_210 h_208 q_209
      obtain ⟨rfl, rfl⟩ := q_209
      show Go _ _ _ _ 4 12 101 _ [(.int 0)]
      refine iS C at_101 (#[iV p0, iV p1, iV p2, iV p3, iV p4, iV p5, iV 1, iV r0, iV r1, iV r2, iV r3, iV r4, aV a_123, aV a_162, iV 0, uV, uV]) rfl <| aL C ((.ref a_162)) at_103 rfl rfl <| iL C 0 at_105 rfl <| iL C 1 at_107 rfl <| iC C 1 at_109 rfl <| iL C r1 at_110 rfl <| cS C hw 38 39 2 40 rfl rfl rfl rfl (rm_noteN_0 hw a_162 0 1 1 r1 h_161 f_207 (by decide)) [] [(.ref a_162), (.int 0), (.int 1), (.int 1), (.int r1)] pd_19 0 at_112 ⟨rfl, rfl, rfl, rfl, rfl⟩ (by decide) ?_
      intro v_214 h_212 q_213
      obtain ⟨rfl, rfl⟩ := q_213
      show Go _ _ _ _ 4 12 115 _ [(.int 0)]
      refine iS C at_115 (#[iV p0, iV p1, iV p2, iV p3, iV p4, iV p5, iV 1, iV r0, iV r1, iV r2, iV r3, iV r4, aV a_123, aV a_162, iV 0, uV, uV]) rfl <| aL C ((.ref a_162)) at_117 rfl rfl <| iL C 0 at_119 rfl <| iL C 1 at_121 rfl <| iC C 2 at_123 rfl <| iL C r2 at_124 rfl <| cS C hw 38 39 2 40 rfl rfl rfl rfl (rm_noteN_0 hw a_162 0 1 2 r2 h_161 f_207 (by decide)) [] [(.ref a_162), (.int 0), (.int 1), (.int 2), (.int r2)] pd_19 0 at_126 ⟨rfl, rfl, rfl, rfl, rfl⟩ (by decide) ?_
      intro v_218 h_216 q_217
      obtain ⟨rfl, rfl⟩ := q_217
      show Go _ _ _ _ 4 12 129 _ [(.int 0)]
      refine iS C at_129 (#[iV p0, iV p1, iV p2, iV p3, iV p4, iV p5, iV 1, iV r0, iV r1, iV r2, iV r3, iV r4, aV a_123, aV a_162, iV 0, uV, uV]) rfl <| aL C ((.ref a_162)) at_131 rfl rfl <| iL C 0 at_133 rfl <| iL C 1 at_135 rfl <| iC C 3 at_137 rfl <| iL C r3 at_138 rfl <| cS C hw 38 39 2 40 rfl rfl rfl rfl (rm_noteN_0 hw a_162 0 1 3 r3 h_161 f_207 (by decide)) [] [(.ref a_162), (.int 0), (.int 1), (.int 3), (.int r3)] pd_19 0 at_140 ⟨rfl, rfl, rfl, rfl, rfl⟩ (by decide) ?_
      intro v_222 h_220 q_221
      obtain ⟨rfl, rfl⟩ := q_221
      show Go _ _ _ _ 4 12 143 _ [(.int 0)]
      refine iS C at_143 (#[iV p0, iV p1, iV p2, iV p3, iV p4, iV p5, iV 1, iV r0, iV r1, iV r2, iV r3, iV r4, aV a_123, aV a_162, iV 0, uV, uV]) rfl <| aL C ((.ref a_162)) at_145 rfl rfl <| iL C 0 at_147 rfl <| iL C 1 at_149 rfl <| iC C 4 at_151 rfl <| iL C r4 at_152 rfl <| cS C hw 38 39 2 40 rfl rfl rfl rfl (rm_noteN_0 hw a_162 0 1 4 r4 h_161 f_207 (by decide)) [] [(.ref a_162), (.int 0), (.int 1), (.int 4), (.int r4)] pd_19 0 at_154 ⟨rfl, rfl, rfl, rfl, rfl⟩ (by decide) ?_
      intro v_226 h_224 q_225
      obtain ⟨rfl, rfl⟩ := q_225
      show Go _ _ _ _ 4 12 157 _ [(.int 0)]
      refine iS C at_157 (#[iV p0, iV p1, iV p2, iV p3, iV p4, iV p5, iV 1, iV r0, iV r1, iV r2, iV r3, iV r4, aV a_123, aV a_162, iV 0, uV, uV]) rfl <| aL C ((.ref a_162)) at_159 rfl rfl <| iL C 0 at_161 rfl <| iL C 1 at_163 rfl <| yiastore C f_171 (by decide) (i := 0) (by decide) (show 0 < 6 by decide) (w := (.int 1)) rfl ge_a_162 at_165 ?_
      intro h_228 K_229 A_230
      have f_231 : Ary Z h_228 a_162 .int [(.int 1), (.int 0), (.int 0), (.int 0), (.int 0), (.int 0)] := A_230
      refine iL C 0 at_166 rfl <| iC C 1 at_168 rfl <| yiadd C at_169 <| eS [(.int 1)] rfl <| iS C at_170 (#[iV p0, iV p1, iV p2, iV p3, iV p4, iV p5, iV 1, iV r0, iV r1, iV r2, iV r3, iV r4, aV a_123, aV a_162, iV 0, iV 1, uV]) rfl ?_
      have f_232 := ((f_159.ext E_164).keep K_229)
      have f_233 := ((f_154.ext E_164).keep K_229 (ninS ne_166 nin0))
      have f_234 := ((f_155.ext E_164).keep K_229 (ninS ne_166 nin0))
      have f_235 := ((f_156.ext E_164).keep K_229 (ninS ne_168 nin0))
      have f_236 := (lT f_207 K_229.1)
      have f_237 := (((f_141.keep K_151 (allS ge_a_123 all0)).ext E_164).keep K_229 (allS ge_a_162 all0))
      exact own_up (rm_tail_1 hw p0 p1 p2 p3 p4 p5 1 r0 r1 r2 r3 r4 a_123 a_162 1 0 0 0 0 0 h_228 f_236 f_237 f_231 (rm_split_1 hw a_123 1 h_228 f_236 f_237 f_232  (fun h u v k => rm_sio1 hw a_123 (-1 : Int32) h u (f_232.keep k) (rm_sioI_1_0_0 hw a_123 b_152 (bY r0) h u cm v (f_232.keep k) (f_233.keep k nin0) (f_234.keep k nin0) (f_235.keep k nin0) (own_by9 kr0 hb_172))) (fun h u v k => rm_length_1 hw a_123 b_152 (bY r0) h u cm v (f_232.keep k) (f_233.keep k nin0) (f_234.keep k nin0) (f_235.keep k nin0))) B C hW) (by decide) (by decide)
  · subst i_1e
    show Go _ _ _ _ 0 0 8 _ [(.int 2)]
    refine iS C at_8 (#[iV p0, iV p1, iV p2, iV p3, iV p4, iV p5, iV 2, uV, uV, uV, uV, uV, uV, uV, uV, uV, uV]) rfl <| iN C p0 at_10 rfl <| iL C p5 at_11 rfl <| iC C 0 at_13 rfl <| cS C hw 0 1 2 3 rfl rfl rfl rfl (rm_ch hw p0 p5 0 h0 Z0 ) [] [(.int p0), (.int p5), (.int 0)] pd_24 0 at_14 ⟨rfl, rfl, rfl, rfl, rfl⟩ (by decide) ?_
    intro v_240 h_238 q_239
    obtain ⟨r0, rfl, kr0, rfl⟩ := q_239
    show Go _ _ _ _ 0 0 17 _ [(.int r0)]
    refine iS C at_17 (#[iV p0, iV p1, iV p2, iV p3, iV p4, iV p5, iV 2, iV r0, uV, uV, uV, uV, uV, uV, uV, uV, uV]) rfl <| iN C p1 at_19 rfl <| iL C p5 at_20 rfl <| iC C 1 at_22 rfl <| cS C hw 0 1 2 3 rfl rfl rfl rfl (rm_ch hw p1 p5 1 h0 Z0 ) [] [(.int p1), (.int p5), (.int 1)] pd_24 0 at_23 ⟨rfl, rfl, rfl, rfl, rfl⟩ (by decide) ?_
    intro v_244 h_242 q_243
    obtain ⟨r1, rfl, kr1, rfl⟩ := q_243
    show Go _ _ _ _ 0 0 26 _ [(.int r1)]
    refine iS C at_26 (#[iV p0, iV p1, iV p2, iV p3, iV p4, iV p5, iV 2, iV r0, iV r1, uV, uV, uV, uV, uV, uV, uV, uV]) rfl <| iN C p2 at_28 rfl <| iL C p5 at_29 rfl <| iC C 2 at_31 rfl <| cS C hw 0 1 2 3 rfl rfl rfl rfl (rm_ch hw p2 p5 2 h0 Z0 ) [] [(.int p2), (.int p5), (.int 2)] pd_24 0 at_32 ⟨rfl, rfl, rfl, rfl, rfl⟩ (by decide) ?_
    intro v_248 h_246 q_247
    obtain ⟨r2, rfl, kr2, rfl⟩ := q_247
    show Go _ _ _ _ 0 0 35 _ [(.int r2)]
    refine iS C at_35 (#[iV p0, iV p1, iV p2, iV p3, iV p4, iV p5, iV 2, iV r0, iV r1, iV r2, uV, uV, uV, uV, uV, uV, uV]) rfl <| iN C p3 at_37 rfl <| iL C p5 at_38 rfl <| iC C 3 at_40 rfl <| cS C hw 0 1 2 3 rfl rfl rfl rfl (rm_ch hw p3 p5 3 h0 Z0 ) [] [(.int p3), (.int p5), (.int 3)] pd_24 0 at_41 ⟨rfl, rfl, rfl, rfl, rfl⟩ (by decide) ?_
    intro v_252 h_250 q_251
    obtain ⟨r3, rfl, kr3, rfl⟩ := q_251
    show Go _ _ _ _ 0 0 44 _ [(.int r3)]
    refine iS C at_44 (#[iV p0, iV p1, iV p2, iV p3, iV p4, iV p5, iV 2, iV r0, iV r1, iV r2, iV r3, uV, uV, uV, uV, uV, uV]) rfl <| iL C p4 at_46 rfl <| iL C p5 at_48 rfl <| iC C 4 at_50 rfl <| cS C hw 0 1 2 3 rfl rfl rfl rfl (rm_ch hw p4 p5 4 h0 Z0 ) [] [(.int p4), (.int p5), (.int 4)] pd_24 0 at_51 ⟨rfl, rfl, rfl, rfl, rfl⟩ (by decide) ?_
    intro v_256 h_254 q_255
    obtain ⟨r4, rfl, kr4, rfl⟩ := q_255
    show Go _ _ _ _ 0 0 54 _ [(.int r4)]
    refine iS C at_54 (#[iV p0, iV p1, iV p2, iV p3, iV p4, iV p5, iV 2, iV r0, iV r1, iV r2, iV r3, iV r4, uV, uV, uV, uV, uV]) rfl <| ynew C (oW hw 4 rfl) (oW hw 5 rfl) (oW hw 6 rfl) (by decide) (by decide) at_56 ?_
    intro h_258 a_259 g_260 E_261 A_262 D_263
    have ge_a_259 : n0 ≤ a_259 := lT Z0 (lE g_260.symm)
    have gs_a_259 : h0.size ≤ a_259 := lT (Nat.le_refl h0.size) (lE g_260.symm)
    have f_264 : Fld Z h_258 a_259 "java/lang/String" "coder" "B" (.int 0) := D_263 (Or.inr (oW hw 34 rfl)) (ty := .byte) (by decide)
    have f_265 : Fld Z h_258 a_259 "java/lang/String" "value" "[B" .null := D_263 (Or.inr (oW hw 36 rfl)) (ty := (.array .byte)) (by decide)
    show Go _ _ _ _ 1 4 59 _ [(.ref a_259)]
    refine ydup C at_59 rfl <| iL C 2 at_60 rfl <| iL C r0 at_62 rfl <| iL C r1 at_64 rfl <| iL C r2 at_66 rfl <| iL C r3 at_68 rfl <| iL C r4 at_70 rfl ?_
    have f_266 := (lT Z0 E_261.1)
    have f_267 := (lT (Nat.le_refl h0.size) E_261.1)
    refine cS C hw 7 8 2 9 rfl rfl rfl rfl (rm_chars_2 hw r0 r1 r2 r3 r4 h_258 f_266 kr0 kr1 kr2 kr3 kr4) [(.ref a_259), (.ref a_259)] [(.int 2), (.int r0), (.int r1), (.int r2), (.int r3), (.int r4)] pd_20 2 at_72 ⟨rfl, rfl, rfl, rfl, rfl⟩ (by decide) ?_
    intro v_270 h_268 q_269
    obtain ⟨b_272, rfl, le_273, K_274, f_275⟩ := q_269
    have ne_276 : a_259 ≠ b_272 := ne_ge A_262.lt le_273
    have ge_b_272 : n0 ≤ b_272 := lT f_266 le_273
    have gs_b_272 : h0.size ≤ b_272 := lT f_267 le_273
    show Go _ _ _ _ 2 6 75 _ [(.ref b_272), (.ref a_259), (.ref a_259)]
    have f_277 := ((O.ext E_261).keep K_274 all0)
    have f_278 := (A_262.keep K_274)
    have f_279 := (f_265.keep K_274 nin0)
    have f_280 := (f_264.keep K_274 nin0)
    have f_281 := (lT f_266 K_274.1)
    have f_282 := (lT f_267 K_274.1)
    refine cP C hw 11 12 6 13 rfl rfl rfl rfl rfl (rm_init1_2 hw a_259 b_272 r0 r1 h_268 f_281 cm f_277 f_278 f_279 f_280 ge_a_259 f_275 ne_276 kr0 kr1) [(.ref a_259)] [(.ref b_272)] pd_16 1 at_75 ⟨rfl, rfl, rfl, rfl, rfl⟩ (by decide) ?_
    intro v_285 h_283 q_284
    obtain ⟨rfl, K_287, b_288, le_289, f_290, f_291, f_292⟩ := q_284
    have ne_293 : a_259 ≠ b_288 := ne_ge f_278.lt le_289
    have ne_294 : b_272 ≠ b_288 := ne_ge f_275.lt le_289
    have ge_b_288 : n0 ≤ b_288 := lT f_281 le_289
    have gs_b_288 : h0.size ≤ b_288 := lT f_282 le_289
    show Go _ _ _ _ 3 8 78 _ [(.ref a_259)]
    refine aS C at_78 (#[iV p0, iV p1, iV p2, iV p3, iV p4, iV p5, iV 2, iV r0, iV r1, iV r2, iV r3, iV r4, aV a_259, uV, uV, uV, uV]) rfl rfl <| iB C 6 at_80 rfl ?_
    have f_295 := (f_278.keep K_287)
    have f_296 := (f_275.keep K_287 (ninS (Ne.symm ne_276) nin0))
    refine ynewarray C (oW hw 37 rfl) (ty := .int) rfl (by decide) (cap := 6) (by decide) (by decide) (by decide) (by decide) at_82 ?_
    intro h_297 a_298 g_299 E_300 A_301
    have ne_302 : a_259 ≠ a_298 := ne_new f_295.lt g_299
    have ne_303 : b_272 ≠ a_298 := ne_new f_296.lt g_299
    have ne_304 : b_288 ≠ a_298 := ne_new f_292.lt g_299
    have f_305 := (lT f_281 K_287.1)
    have ge_a_298 : n0 ≤ a_298 := lT f_305 (lE g_299.symm)
    have f_306 := (lT f_282 K_287.1)
    have gs_a_298 : h0.size ≤ a_298 := lT f_306 (lE g_299.symm)
    have f_307 : Ary Z h_297 a_298 .int [(.int 0), (.int 0), (.int 0), (.int 0), (.int 0), (.int 0)] := A_301
    show Go _ _ _ _ 4 14 84 _ [(.ref a_298)]
    refine aS C at_84 (#[iV p0, iV p1, iV p2, iV p3, iV p4, iV p5, iV 2, iV r0, iV r1, iV r2, iV r3, iV r4, aV a_259, aV a_298, uV, uV, uV]) rfl rfl <| iC C 0 at_86 rfl <| iS C at_87 (#[iV p0, iV p1, iV p2, iV p3, iV p4, iV p5, iV 2, iV r0, iV r1, iV r2, iV r3, iV r4, aV a_259, aV a_298, iV 0, uV, uV]) rfl <| aL C ((.ref a_298)) at_89 rfl rfl <| iL C 0 at_91 rfl <| iL C 2 at_93 rfl <| iC C 0 at_95 rfl <| iL C r0 at_96 rfl ?_
    by_cases hb_308 : r0 = 9
    · have f_309 := (lT f_305 E_300.1)
      refine cS C hw 38 39 2 40 rfl rfl rfl rfl (rm_noteY_0 hw a_298 0 0 0 0 0 0 2 0 r0 h_297 f_309 f_307 ge_a_298 (by decide) hb_308) [] [(.ref a_298), (.int 0), (.int 2), (.int 0), (.int r0)] pd_19 0 at_98 ⟨rfl, rfl, rfl, rfl, rfl⟩ (by decide) ?_
      intro v_312 h_310 q_311
      obtain ⟨rfl, K_314, f_315⟩ := q_311
      show Go _ _ _ _ 4 14 101 _ [(.int 1)]
      refine iS C at_101 (#[iV p0, iV p1, iV p2, iV p3, iV p4, iV p5, iV 2, iV r0, iV r1, iV r2, iV r3, iV r4, aV a_259, aV a_298, iV 1, uV, uV]) rfl <| aL C ((.ref a_298)) at_103 rfl rfl <| iL C 1 at_105 rfl <| iL C 2 at_107 rfl <| iC C 1 at_109 rfl <| iL C r1 at_110 rfl ?_
      by_cases hb_316 : r1 = 9
      · have f_317 := (lT f_309 K_314.1)
        refine cS C hw 38 39 2 40 rfl rfl rfl rfl (rm_noteY_1 hw a_298 0 0 0 0 0 0 2 1 r1 h_310 f_317 f_315 ge_a_298 (by decide) hb_316) [] [(.ref a_298), (.int 1), (.int 2), (.int 1), (.int r1)] pd_19 0 at_112 ⟨rfl, rfl, rfl, rfl, rfl⟩ (by decide) ?_
        intro v_320 h_318 q_319
        obtain ⟨rfl, K_322, f_323⟩ := q_319
        show Go _ _ _ _ 4 14 115 _ [(.int 2)]
        refine iS C at_115 (#[iV p0, iV p1, iV p2, iV p3, iV p4, iV p5, iV 2, iV r0, iV r1, iV r2, iV r3, iV r4, aV a_259, aV a_298, iV 2, uV, uV]) rfl <| aL C ((.ref a_298)) at_117 rfl rfl <| iL C 2 at_119 rfl <| iL C 2 at_121 rfl <| iC C 2 at_123 rfl <| iL C r2 at_124 rfl ?_
        have f_324 := (lT f_317 K_322.1)
        refine cS C hw 38 39 2 40 rfl rfl rfl rfl (rm_noteN_0 hw a_298 2 2 2 r2 h_318 f_324 (by decide)) [] [(.ref a_298), (.int 2), (.int 2), (.int 2), (.int r2)] pd_19 0 at_126 ⟨rfl, rfl, rfl, rfl, rfl⟩ (by decide) ?_
        intro v_327 h_325 q_326
        obtain ⟨rfl, rfl⟩ := q_326
        show Go _ _ _ _ 4 14 129 _ [(.int 2)]
        refine iS C at_129 (#[iV p0, iV p1, iV p2, iV p3, iV p4, iV p5, iV 2, iV r0, iV r1, iV r2, iV r3, iV r4, aV a_259, aV a_298, iV 2, uV, uV]) rfl <| aL C ((.ref a_298)) at_131 rfl rfl <| iL C 2 at_133 rfl <| iL C 2 at_135 rfl <| iC C 3 at_137 rfl <| iL C r3 at_138 rfl <| cS C hw 38 39 2 40 rfl rfl rfl rfl (rm_noteN_0 hw a_298 2 2 3 r3 h_318 f_324 (by decide)) [] [(.ref a_298), (.int 2), (.int 2), (.int 3), (.int r3)] pd_19 0 at_140 ⟨rfl, rfl, rfl, rfl, rfl⟩ (by decide) ?_
        intro v_331 h_329 q_330
        obtain ⟨rfl, rfl⟩ := q_330
        show Go _ _ _ _ 4 14 143 _ [(.int 2)]
        refine iS C at_143 (#[iV p0, iV p1, iV p2, iV p3, iV p4, iV p5, iV 2, iV r0, iV r1, iV r2, iV r3, iV r4, aV a_259, aV a_298, iV 2, uV, uV]) rfl <| aL C ((.ref a_298)) at_145 rfl rfl <| iL C 2 at_147 rfl <| iL C 2 at_149 rfl <| iC C 4 at_151 rfl <| iL C r4 at_152 rfl <| cS C hw 38 39 2 40 rfl rfl rfl rfl (rm_noteN_0 hw a_298 2 2 4 r4 h_318 f_324 (by decide)) [] [(.ref a_298), (.int 2), (.int 2), (.int 4), (.int r4)] pd_19 0 at_154 ⟨rfl, rfl, rfl, rfl, rfl⟩ (by decide) ?_
        intro v_335 h_333 q_334
        obtain ⟨rfl, rfl⟩ := q_334
        show Go _ _ _ _ 4 14 157 _ [(.int 2)]
        refine iS C at_157 (#[iV p0, iV p1, iV p2, iV p3, iV p4, iV p5, iV 2, iV r0, iV r1, iV r2, iV r3, iV r4, aV a_259, aV a_298, iV 2, uV, uV]) rfl <| aL C ((.ref a_298)) at_159 rfl rfl <| iL C 2 at_161 rfl <| iL C 2 at_163 rfl <| yiastore C f_323 (by decide) (i := 2) (by decide) (show 2 < 6 by decide) (w := (.int 2)) rfl ge_a_298 at_165 ?_
        intro h_337 K_338 A_339
        have f_340 : Ary Z h_337 a_298 .int [(.int 0), (.int 1), (.int 2), (.int 0), (.int 0), (.int 0)] := A_339
        refine iL C 2 at_166 rfl <| iC C 1 at_168 rfl <| yiadd C at_169 <| eS [(.int 3)] rfl <| iS C at_170 (#[iV p0, iV p1, iV p2, iV p3, iV p4, iV p5, iV 2, iV r0, iV r1, iV r2, iV r3, iV r4, aV a_259, aV a_298, iV 2, iV 3, uV]) rfl ?_
        have f_341 := ((((f_295.ext E_300).keep K_314).keep K_322).keep K_338)
        have f_342 := ((((f_290.ext E_300).keep K_314 (ninS ne_302 nin0)).keep K_322 (ninS ne_302 nin0)).keep K_338 (ninS ne_302 nin0))
        have f_343 := ((((f_291.ext E_300).keep K_314 (ninS ne_302 nin0)).keep K_322 (ninS ne_302 nin0)).keep K_338 (ninS ne_302 nin0))
        have f_344 := ((((f_292.ext E_300).keep K_314 (ninS ne_304 nin0)).keep K_322 (ninS ne_304 nin0)).keep K_338 (ninS ne_304 nin0))
        have f_345 := (lT f_324 K_338.1)
        have f_346 := (((((f_277.keep K_287 (allS ge_a_259 all0)).ext E_300).keep K_314 (allS ge_a_298 all0)).keep K_322 (allS ge_a_298 all0)).keep K_338 (allS ge_a_298 all0))
        exact own_up (rm_tail_3 hw p0 p1 p2 p3 p4 p5 2 r0 r1 r2 r3 r4 a_259 a_298 0 1 2 0 0 0 h_337 f_345 f_346 f_340 (rm_split_3 hw a_259 0 1 2 h_337 f_345 f_346 f_341 (by decide) (by decide) (fun h u v k => rm_sio1 hw a_259 0 h u (f_341.keep k) (rm_sioI_2_0_1 hw a_259 b_288 (bY r0) (bY r1) h u cm v (f_341.keep k) (f_342.keep k nin0) (f_343.keep k nin0) (f_344.keep k nin0) (own_by9' hb_308))) (fun h u v k => rm_sioI_2_1_2 hw a_259 b_288 (bY r0) (bY r1) h u cm v (f_341.keep k) (f_342.keep k nin0) (f_343.keep k nin0) (f_344.keep k nin0) (own_by9' hb_316)) (fun h u v k => rm_sioI_2_2_0 hw a_259 b_288 (bY r0) (bY r1) h u cm v (f_341.keep k) (f_342.keep k nin0) (f_343.keep k nin0) (f_344.keep k nin0) ) (fun h u v k => rm_length_2 hw a_259 b_288 (bY r0) (bY r1) h u cm v (f_341.keep k) (f_342.keep k nin0) (f_343.keep k nin0) (f_344.keep k nin0))) B C hW) (by decide) (by decide)
      · have f_347 := (lT f_309 K_314.1)
        refine cS C hw 38 39 2 40 rfl rfl rfl rfl (rm_noteN_1 hw a_298 1 2 1 r1 h_310 f_347 (by decide) hb_316) [] [(.ref a_298), (.int 1), (.int 2), (.int 1), (.int r1)] pd_19 0 at_112 ⟨rfl, rfl, rfl, rfl, rfl⟩ (by decide) ?_
        intro v_350 h_348 q_349
        obtain ⟨rfl, rfl⟩ := q_349
        show Go _ _ _ _ 4 14 115 _ [(.int 1)]
        refine iS C at_115 (#[iV p0, iV p1, iV p2, iV p3, iV p4, iV p5, iV 2, iV r0, iV r1, iV r2, iV r3, iV r4, aV a_259, aV a_298, iV 1, uV, uV]) rfl <| aL C ((.ref a_298)) at_117 rfl rfl <| iL C 1 at_119 rfl <| iL C 2 at_121 rfl <| iC C 2 at_123 rfl <| iL C r2 at_124 rfl <| cS C hw 38 39 2 40 rfl rfl rfl rfl (rm_noteN_0 hw a_298 1 2 2 r2 h_310 f_347 (by decide)) [] [(.ref a_298), (.int 1), (.int 2), (.int 2), (.int r2)] pd_19 0 at_126 ⟨rfl, rfl, rfl, rfl, rfl⟩ (by decide) ?_
        intro v_354 h_352 q_353
        obtain ⟨rfl, rfl⟩ := q_353
        show Go _ _ _ _ 4 14 129 _ [(.int 1)]
        refine iS C at_129 (#[iV p0, iV p1, iV p2, iV p3, iV p4, iV p5, iV 2, iV r0, iV r1, iV r2, iV r3, iV r4, aV a_259, aV a_298, iV 1, uV, uV]) rfl <| aL C ((.ref a_298)) at_131 rfl rfl <| iL C 1 at_133 rfl <| iL C 2 at_135 rfl <| iC C 3 at_137 rfl <| iL C r3 at_138 rfl <| cS C hw 38 39 2 40 rfl rfl rfl rfl (rm_noteN_0 hw a_298 1 2 3 r3 h_310 f_347 (by decide)) [] [(.ref a_298), (.int 1), (.int 2), (.int 3), (.int r3)] pd_19 0 at_140 ⟨rfl, rfl, rfl, rfl, rfl⟩ (by decide) ?_
        intro v_358 h_356 q_357
        obtain ⟨rfl, rfl⟩ := q_357
        show Go _ _ _ _ 4 14 143 _ [(.int 1)]
        refine iS C at_143 (#[iV p0, iV p1, iV p2, iV p3, iV p4, iV p5, iV 2, iV r0, iV r1, iV r2, iV r3, iV r4, aV a_259, aV a_298, iV 1, uV, uV]) rfl <| aL C ((.ref a_298)) at_145 rfl rfl <| iL C 1 at_147 rfl <| iL C 2 at_149 rfl <| iC C 4 at_151 rfl <| iL C r4 at_152 rfl <| cS C hw 38 39 2 40 rfl rfl rfl rfl (rm_noteN_0 hw a_298 1 2 4 r4 h_310 f_347 (by decide)) [] [(.ref a_298), (.int 1), (.int 2), (.int 4), (.int r4)] pd_19 0 at_154 ⟨rfl, rfl, rfl, rfl, rfl⟩ (by decide) ?_
        intro v_362 h_360 q_361
        obtain ⟨rfl, rfl⟩ := q_361
        show Go _ _ _ _ 4 14 157 _ [(.int 1)]
        refine iS C at_157 (#[iV p0, iV p1, iV p2, iV p3, iV p4, iV p5, iV 2, iV r0, iV r1, iV r2, iV r3, iV r4, aV a_259, aV a_298, iV 1, uV, uV]) rfl <| aL C ((.ref a_298)) at_159 rfl rfl <| iL C 1 at_161 rfl <| iL C 2 at_163 rfl <| yiastore C f_315 (by decide) (i := 1) (by decide) (show 1 < 6 by decide) (w := (.int 2)) rfl ge_a_298 at_165 ?_
        intro h_364 K_365 A_366
        have f_367 : Ary Z h_364 a_298 .int [(.int 0), (.int 2), (.int 0), (.int 0), (.int 0), (.int 0)] := A_366
        refine iL C 1 at_166 rfl <| iC C 1 at_168 rfl <| yiadd C at_169 <| eS [(.int 2)] rfl <| iS C at_170 (#[iV p0, iV p1, iV p2, iV p3, iV p4, iV p5, iV 2, iV r0, iV r1, iV r2, iV r3, iV r4, aV a_259, aV a_298, iV 1, iV 2, uV]) rfl ?_
        have f_368 := (((f_295.ext E_300).keep K_314).keep K_365)
        have f_369 := (((f_290.ext E_300).keep K_314 (ninS ne_302 nin0)).keep K_365 (ninS ne_302 nin0))
        have f_370 := (((f_291.ext E_300).keep K_314 (ninS ne_302 nin0)).keep K_365 (ninS ne_302 nin0))
        have f_371 := (((f_292.ext E_300).keep K_314 (ninS ne_304 nin0)).keep K_365 (ninS ne_304 nin0))
        have f_372 := (lT f_347 K_365.1)
        have f_373 := ((((f_277.keep K_287 (allS ge_a_259 all0)).ext E_300).keep K_314 (allS ge_a_298 all0)).keep K_365 (allS ge_a_298 all0))
        exact own_up (rm_tail_2 hw p0 p1 p2 p3 p4 p5 2 r0 r1 r2 r3 r4 a_259 a_298 0 2 0 0 0 0 h_364 f_372 f_373 f_367 (rm_split_2 hw a_259 0 2 h_364 f_372 f_373 f_368 (by decide) (fun h u v k => rm_sio1 hw a_259 0 h u (f_368.keep k) (rm_sioI_2_0_1 hw a_259 b_288 (bY r0) (bY r1) h u cm v (f_368.keep k) (f_369.keep k nin0) (f_370.keep k nin0) (f_371.keep k nin0) (own_by9' hb_308))) (fun h u v k => rm_sioI_2_1_0 hw a_259 b_288 (bY r0) (bY r1) h u cm v (f_368.keep k) (f_369.keep k nin0) (f_370.keep k nin0) (f_371.keep k nin0) (own_by9 kr1 hb_316)) (fun h u v k => rm_length_2 hw a_259 b_288 (bY r0) (bY r1) h u cm v (f_368.keep k) (f_369.keep k nin0) (f_370.keep k nin0) (f_371.keep k nin0))) B C hW) (by decide) (by decide)
    · have f_374 := (lT f_305 E_300.1)
      refine cS C hw 38 39 2 40 rfl rfl rfl rfl (rm_noteN_1 hw a_298 0 2 0 r0 h_297 f_374 (by decide) hb_308) [] [(.ref a_298), (.int 0), (.int 2), (.int 0), (.int r0)] pd_19 0 at_98 ⟨rfl, rfl, rfl, rfl, rfl⟩ (by decide) ?_
      intro v_377 h_375 q_376
      obtain ⟨rfl, rfl⟩ := q_376
      show Go _ _ _ _ 4 14 101 _ [(.int 0)]
      refine iS C at_101 (#[iV p0, iV p1, iV p2, iV p3, iV p4, iV p5, iV 2, iV r0, iV r1, iV r2, iV r3, iV r4, aV a_259, aV a_298, iV 0, uV, uV]) rfl <| aL C ((.ref a_298)) at_103 rfl rfl <| iL C 0 at_105 rfl <| iL C 2 at_107 rfl <| iC C 1 at_109 rfl <| iL C r1 at_110 rfl ?_
      by_cases hb_379 : r1 = 9
      · refine cS C hw 38 39 2 40 rfl rfl rfl rfl (rm_noteY_0 hw a_298 0 0 0 0 0 0 2 1 r1 h_297 f_374 f_307 ge_a_298 (by decide) hb_379) [] [(.ref a_298), (.int 0), (.int 2), (.int 1), (.int r1)] pd_19 0 at_112 ⟨rfl, rfl, rfl, rfl, rfl⟩ (by decide) ?_
        intro v_382 h_380 q_381
        obtain ⟨rfl, K_384, f_385⟩ := q_381
        show Go _ _ _ _ 4 14 115 _ [(.int 1)]
        refine iS C at_115 (#[iV p0, iV p1, iV p2, iV p3, iV p4, iV p5, iV 2, iV r0, iV r1, iV r2, iV r3, iV r4, aV a_259, aV a_298, iV 1, uV, uV]) rfl <| aL C ((.ref a_298)) at_117 rfl rfl <| iL C 1 at_119 rfl <| iL C 2 at_121 rfl <| iC C 2 at_123 rfl <| iL C r2 at_124 rfl ?_
        have f_386 := (lT f_374 K_384.1)
        refine cS C hw 38 39 2 40 rfl rfl rfl rfl (rm_noteN_0 hw a_298 1 2 2 r2 h_380 f_386 (by decide)) [] [(.ref a_298), (.int 1), (.int 2), (.int 2), (.int r2)] pd_19 0 at_126 ⟨rfl, rfl, rfl, rfl, rfl⟩ (by decide) ?_
        intro v_389 h_387 q_388
        obtain ⟨rfl, rfl⟩ := q_388
        show Go _ _ _ _ 4 14 129 _ [(.int 1)]
        refine iS C at_129 (#[iV p0, iV p1, iV p2, iV p3, iV p4, iV p5, iV 2, iV r0, iV r1, iV r2, iV r3, iV r4, aV a_259, aV a_298, iV 1, uV, uV]) rfl <| aL C ((.ref a_298)) at_131 rfl rfl <| iL C 1 at_133 rfl <| iL C 2 at_135 rfl <| iC C 3 at_137 rfl <| iL C r3 at_138 rfl <| cS C hw 38 39 2 40 rfl rfl rfl rfl (rm_noteN_0 hw a_298 1 2 3 r3 h_380 f_386 (by decide)) [] [(.ref a_298), (.int 1), (.int 2), (.int 3), (.int r3)] pd_19 0 at_140 ⟨rfl, rfl, rfl, rfl, rfl⟩ (by decide) ?_
        intro v_393 h_391 q_392
        obtain ⟨rfl, rfl⟩ := q_392
        show Go _ _ _ _ 4 14 143 _ [(.int 1)]
        refine iS C at_143 (#[iV p0, iV p1, iV p2, iV p3, iV p4, iV p5, iV 2, iV r0, iV r1, iV r2, iV r3, iV r4, aV a_259, aV a_298, iV 1, uV, uV]) rfl <| aL C ((.ref a_298)) at_145 rfl rfl <| iL C 1 at_147 rfl <| iL C 2 at_149 rfl <| iC C 4 at_151 rfl <| iL C r4 at_152 rfl <| cS C hw 38 39 2 40 rfl rfl rfl rfl (rm_noteN_0 hw a_298 1 2 4 r4 h_380 f_386 (by decide)) [] [(.ref a_298), (.int 1), (.int 2), (.int 4), (.int r4)] pd_19 0 at_154 ⟨rfl, rfl, rfl, rfl, rfl⟩ (by decide) ?_
        intro v_397 h_395 q_396
        obtain ⟨rfl, rfl⟩ := q_396
        show Go _ _ _ _ 4 14 157 _ [(.int 1)]
        refine iS C at_157 (#[iV p0, iV p1, iV p2, iV p3, iV p4, iV p5, iV 2, iV r0, iV r1, iV r2, iV r3, iV r4, aV a_259, aV a_298, iV 1, uV, uV]) rfl <| aL C ((.ref a_298)) at_159 rfl rfl <| iL C 1 at_161 rfl <| iL C 2 at_163 rfl <| yiastore C f_385 (by decide) (i := 1) (by decide) (show 1 < 6 by decide) (w := (.int 2)) rfl ge_a_298 at_165 ?_
        intro h_399 K_400 A_401
        have f_402 : Ary Z h_399 a_298 .int [(.int 1), (.int 2), (.int 0), (.int 0), (.int 0), (.int 0)] := A_401
        refine iL C 1 at_166 rfl <| iC C 1 at_168 rfl <| yiadd C at_169 <| eS [(.int 2)] rfl <| iS C at_170 (#[iV p0, iV p1, iV p2, iV p3, iV p4, iV p5, iV 2, iV r0, iV r1, iV r2, iV r3, iV r4, aV a_259, aV a_298, iV 1, iV 2, uV]) rfl ?_
        have f_403 := (((f_295.ext E_300).keep K_384).keep K_400)
        have f_404 := (((f_290.ext E_300).keep K_384 (ninS ne_302 nin0)).keep K_400 (ninS ne_302 nin0))
        have f_405 := (((f_291.ext E_300).keep K_384 (ninS ne_302 nin0)).keep K_400 (ninS ne_302 nin0))
        have f_406 := (((f_292.ext E_300).keep K_384 (ninS ne_304 nin0)).keep K_400 (ninS ne_304 nin0))
        have f_407 := (lT f_386 K_400.1)
        have f_408 := ((((f_277.keep K_287 (allS ge_a_259 all0)).ext E_300).keep K_384 (allS ge_a_298 all0)).keep K_400 (allS ge_a_298 all0))
        exact own_up (rm_tail_2 hw p0 p1 p2 p3 p4 p5 2 r0 r1 r2 r3 r4 a_259 a_298 1 2 0 0 0 0 h_399 f_407 f_408 f_402 (rm_split_2 hw a_259 1 2 h_399 f_407 f_408 f_403 (by decide) (fun h u v k => rm_sio1 hw a_259 1 h u (f_403.keep k) (rm_sioI_2_0_2 hw a_259 b_288 (bY r0) (bY r1) h u cm v (f_403.keep k) (f_404.keep k nin0) (f_405.keep k nin0) (f_406.keep k nin0) (own_by9 kr0 hb_308) (own_by9' hb_379))) (fun h u v k => rm_sioI_2_2_0 hw a_259 b_288 (bY r0) (bY r1) h u cm v (f_403.keep k) (f_404.keep k nin0) (f_405.keep k nin0) (f_406.keep k nin0) ) (fun h u v k => rm_length_2 hw a_259 b_288 (bY r0) (bY r1) h u cm v (f_403.keep k) (f_404.keep k nin0) (f_405.keep k nin0) (f_406.keep k nin0))) B C hW) (by decide) (by decide)
      · refine cS C hw 38 39 2 40 rfl rfl rfl rfl (rm_noteN_1 hw a_298 0 2 1 r1 h_297 f_374 (by decide) hb_379) [] [(.ref a_298), (.int 0), (.int 2), (.int 1), (.int r1)] pd_19 0 at_112 ⟨rfl, rfl, rfl, rfl, rfl⟩ (by decide) ?_
        intro v_411 h_409 q_410
        obtain ⟨rfl, rfl⟩ := q_410
        show Go _ _ _ _ 4 14 115 _ [(.int 0)]
        refine iS C at_115 (#[iV p0, iV p1, iV p2, iV p3, iV p4, iV p5, iV 2, iV r0, iV r1, iV r2, iV r3, iV r4, aV a_259, aV a_298, iV 0, uV, uV]) rfl <| aL C ((.ref a_298)) at_117 rfl rfl <| iL C 0 at_119 rfl <| iL C 2 at_121 rfl <| iC C 2 at_123 rfl <| iL C r2 at_124 rfl <| cS C hw 38 39 2 40 rfl rfl rfl rfl (rm_noteN_0 hw a_298 0 2 2 r2 h_297 f_374 (by decide)) [] [(.ref a_298), (.int 0), (.int 2), (.int 2), (.int r2)] pd_19 0 at_126 ⟨rfl, rfl, rfl, rfl, rfl⟩ (by decide) ?_
        intro v_415 h_413 q_414
        obtain ⟨rfl, rfl⟩ := q_414
        show Go _ _ _ _ 4 14 129 _ [(.int 0)]
        refine iS C at_129 (#[iV p0, iV p1, iV p2, iV p3, iV p4, iV p5, iV 2, iV r0, iV r1, iV r2, iV r3, iV r4, aV a_259, aV a_298, iV 0, uV, uV]) rfl <| aL C ((.ref a_298)) at_131 rfl rfl <| iL C 0 at_133 rfl <| iL C 2 at_135 rfl <| iC C 3 at_137 rfl <| iL C r3 at_138 rfl <| cS C hw 38 39 2 40 rfl rfl rfl rfl (rm_noteN_0 hw a_298 0 2 3 r3 h_297 f_374 (by decide)) [] [(.ref a_298), (.int 0), (.int 2), (.int 3), (.int r3)] pd_19 0 at_140 ⟨rfl, rfl, rfl, rfl, rfl⟩ (by decide) ?_
        intro v_419 h_417 q_418
        obtain ⟨rfl, rfl⟩ := q_418
        show Go _ _ _ _ 4 14 143 _ [(.int 0)]
        refine iS C at_143 (#[iV p0, iV p1, iV p2, iV p3, iV p4, iV p5, iV 2, iV r0, iV r1, iV r2, iV r3, iV r4, aV a_259, aV a_298, iV 0, uV, uV]) rfl <| aL C ((.ref a_298)) at_145 rfl rfl <| iL C 0 at_147 rfl <| iL C 2 at_149 rfl <| iC C 4 at_151 rfl <| iL C r4 at_152 rfl <| cS C hw 38 39 2 40 rfl rfl rfl rfl (rm_noteN_0 hw a_298 0 2 4 r4 h_297 f_374 (by decide)) [] [(.ref a_298), (.int 0), (.int 2), (.int 4), (.int r4)] pd_19 0 at_154 ⟨rfl, rfl, rfl, rfl, rfl⟩ (by decide) ?_
        intro v_423 h_421 q_422
        obtain ⟨rfl, rfl⟩ := q_422
        show Go _ _ _ _ 4 14 157 _ [(.int 0)]
        refine iS C at_157 (#[iV p0, iV p1, iV p2, iV p3, iV p4, iV p5, iV 2, iV r0, iV r1, iV r2, iV r3, iV r4, aV a_259, aV a_298, iV 0, uV, uV]) rfl <| aL C ((.ref a_298)) at_159 rfl rfl <| iL C 0 at_161 rfl <| iL C 2 at_163 rfl <| yiastore C f_307 (by decide) (i := 0) (by decide) (show 0 < 6 by decide) (w := (.int 2)) rfl ge_a_298 at_165 ?_
        intro h_425 K_426 A_427
        have f_428 : Ary Z h_425 a_298 .int [(.int 2), (.int 0), (.int 0), (.int 0), (.int 0), (.int 0)] := A_427
        refine iL C 0 at_166 rfl <| iC C 1 at_168 rfl <| yiadd C at_169 <| eS [(.int 1)] rfl <| iS C at_170 (#[iV p0, iV p1, iV p2, iV p3, iV p4, iV p5, iV 2, iV r0, iV r1, iV r2, iV r3, iV r4, aV a_259, aV a_298, iV 0, iV 1, uV]) rfl ?_
        have f_429 := ((f_295.ext E_300).keep K_426)
        have f_430 := ((f_290.ext E_300).keep K_426 (ninS ne_302 nin0))
        have f_431 := ((f_291.ext E_300).keep K_426 (ninS ne_302 nin0))
        have f_432 := ((f_292.ext E_300).keep K_426 (ninS ne_304 nin0))
        have f_433 := (lT f_374 K_426.1)
        have f_434 := (((f_277.keep K_287 (allS ge_a_259 all0)).ext E_300).keep K_426 (allS ge_a_298 all0))
        exact own_up (rm_tail_1 hw p0 p1 p2 p3 p4 p5 2 r0 r1 r2 r3 r4 a_259 a_298 2 0 0 0 0 0 h_425 f_433 f_434 f_428 (rm_split_1 hw a_259 2 h_425 f_433 f_434 f_429  (fun h u v k => rm_sio1 hw a_259 (-1 : Int32) h u (f_429.keep k) (rm_sioI_2_0_0 hw a_259 b_288 (bY r0) (bY r1) h u cm v (f_429.keep k) (f_430.keep k nin0) (f_431.keep k nin0) (f_432.keep k nin0) (own_by9 kr0 hb_308) (own_by9 kr1 hb_379))) (fun h u v k => rm_length_2 hw a_259 b_288 (bY r0) (bY r1) h u cm v (f_429.keep k) (f_430.keep k nin0) (f_431.keep k nin0) (f_432.keep k nin0))) B C hW) (by decide) (by decide)
  · subst i_1e
    show Go _ _ _ _ 0 0 8 _ [(.int 3)]
    refine iS C at_8 (#[iV p0, iV p1, iV p2, iV p3, iV p4, iV p5, iV 3, uV, uV, uV, uV, uV, uV, uV, uV, uV, uV]) rfl <| iN C p0 at_10 rfl <| iL C p5 at_11 rfl <| iC C 0 at_13 rfl <| cS C hw 0 1 2 3 rfl rfl rfl rfl (rm_ch hw p0 p5 0 h0 Z0 ) [] [(.int p0), (.int p5), (.int 0)] pd_24 0 at_14 ⟨rfl, rfl, rfl, rfl, rfl⟩ (by decide) ?_
    intro v_437 h_435 q_436
    obtain ⟨r0, rfl, kr0, rfl⟩ := q_436
    show Go _ _ _ _ 0 0 17 _ [(.int r0)]
    refine iS C at_17 (#[iV p0, iV p1, iV p2, iV p3, iV p4, iV p5, iV 3, iV r0, uV, uV, uV, uV, uV, uV, uV, uV, uV]) rfl <| iN C p1 at_19 rfl <| iL C p5 at_20 rfl <| iC C 1 at_22 rfl <| cS C hw 0 1 2 3 rfl rfl rfl rfl (rm_ch hw p1 p5 1 h0 Z0 ) [] [(.int p1), (.int p5), (.int 1)] pd_24 0 at_23 ⟨rfl, rfl, rfl, rfl, rfl⟩ (by decide) ?_
    intro v_441 h_439 q_440
    obtain ⟨r1, rfl, kr1, rfl⟩ := q_440
    show Go _ _ _ _ 0 0 26 _ [(.int r1)]
    refine iS C at_26 (#[iV p0, iV p1, iV p2, iV p3, iV p4, iV p5, iV 3, iV r0, iV r1, uV, uV, uV, uV, uV, uV, uV, uV]) rfl <| iN C p2 at_28 rfl <| iL C p5 at_29 rfl <| iC C 2 at_31 rfl <| cS C hw 0 1 2 3 rfl rfl rfl rfl (rm_ch hw p2 p5 2 h0 Z0 ) [] [(.int p2), (.int p5), (.int 2)] pd_24 0 at_32 ⟨rfl, rfl, rfl, rfl, rfl⟩ (by decide) ?_
    intro v_445 h_443 q_444
    obtain ⟨r2, rfl, kr2, rfl⟩ := q_444
    show Go _ _ _ _ 0 0 35 _ [(.int r2)]
    refine iS C at_35 (#[iV p0, iV p1, iV p2, iV p3, iV p4, iV p5, iV 3, iV r0, iV r1, iV r2, uV, uV, uV, uV, uV, uV, uV]) rfl <| iN C p3 at_37 rfl <| iL C p5 at_38 rfl <| iC C 3 at_40 rfl <| cS C hw 0 1 2 3 rfl rfl rfl rfl (rm_ch hw p3 p5 3 h0 Z0 ) [] [(.int p3), (.int p5), (.int 3)] pd_24 0 at_41 ⟨rfl, rfl, rfl, rfl, rfl⟩ (by decide) ?_
    intro v_449 h_447 q_448
    obtain ⟨r3, rfl, kr3, rfl⟩ := q_448
    show Go _ _ _ _ 0 0 44 _ [(.int r3)]
    refine iS C at_44 (#[iV p0, iV p1, iV p2, iV p3, iV p4, iV p5, iV 3, iV r0, iV r1, iV r2, iV r3, uV, uV, uV, uV, uV, uV]) rfl <| iL C p4 at_46 rfl <| iL C p5 at_48 rfl <| iC C 4 at_50 rfl <| cS C hw 0 1 2 3 rfl rfl rfl rfl (rm_ch hw p4 p5 4 h0 Z0 ) [] [(.int p4), (.int p5), (.int 4)] pd_24 0 at_51 ⟨rfl, rfl, rfl, rfl, rfl⟩ (by decide) ?_
    intro v_453 h_451 q_452
    obtain ⟨r4, rfl, kr4, rfl⟩ := q_452
    show Go _ _ _ _ 0 0 54 _ [(.int r4)]
    refine iS C at_54 (#[iV p0, iV p1, iV p2, iV p3, iV p4, iV p5, iV 3, iV r0, iV r1, iV r2, iV r3, iV r4, uV, uV, uV, uV, uV]) rfl <| ynew C (oW hw 4 rfl) (oW hw 5 rfl) (oW hw 6 rfl) (by decide) (by decide) at_56 ?_
    intro h_455 a_456 g_457 E_458 A_459 D_460
    have ge_a_456 : n0 ≤ a_456 := lT Z0 (lE g_457.symm)
    have gs_a_456 : h0.size ≤ a_456 := lT (Nat.le_refl h0.size) (lE g_457.symm)
    have f_461 : Fld Z h_455 a_456 "java/lang/String" "coder" "B" (.int 0) := D_460 (Or.inr (oW hw 34 rfl)) (ty := .byte) (by decide)
    have f_462 : Fld Z h_455 a_456 "java/lang/String" "value" "[B" .null := D_460 (Or.inr (oW hw 36 rfl)) (ty := (.array .byte)) (by decide)
    show Go _ _ _ _ 1 4 59 _ [(.ref a_456)]
    refine ydup C at_59 rfl <| iL C 3 at_60 rfl <| iL C r0 at_62 rfl <| iL C r1 at_64 rfl <| iL C r2 at_66 rfl <| iL C r3 at_68 rfl <| iL C r4 at_70 rfl ?_
    have f_463 := (lT Z0 E_458.1)
    have f_464 := (lT (Nat.le_refl h0.size) E_458.1)
    refine cS C hw 7 8 2 9 rfl rfl rfl rfl (rm_chars_3 hw r0 r1 r2 r3 r4 h_455 f_463 kr0 kr1 kr2 kr3 kr4) [(.ref a_456), (.ref a_456)] [(.int 3), (.int r0), (.int r1), (.int r2), (.int r3), (.int r4)] pd_20 2 at_72 ⟨rfl, rfl, rfl, rfl, rfl⟩ (by decide) ?_
    intro v_467 h_465 q_466
    obtain ⟨b_469, rfl, le_470, K_471, f_472⟩ := q_466
    have ne_473 : a_456 ≠ b_469 := ne_ge A_459.lt le_470
    have ge_b_469 : n0 ≤ b_469 := lT f_463 le_470
    have gs_b_469 : h0.size ≤ b_469 := lT f_464 le_470
    show Go _ _ _ _ 2 7 75 _ [(.ref b_469), (.ref a_456), (.ref a_456)]
    have f_474 := ((O.ext E_458).keep K_471 all0)
    have f_475 := (A_459.keep K_471)
    have f_476 := (f_462.keep K_471 nin0)
    have f_477 := (f_461.keep K_471 nin0)
    have f_478 := (lT f_463 K_471.1)
    have f_479 := (lT f_464 K_471.1)
    refine cP C hw 11 12 6 13 rfl rfl rfl rfl rfl (rm_init1_3 hw a_456 b_469 r0 r1 r2 h_465 f_478 cm f_474 f_475 f_476 f_477 ge_a_456 f_472 ne_473 kr0 kr1 kr2) [(.ref a_456)] [(.ref b_469)] pd_16 1 at_75 ⟨rfl, rfl, rfl, rfl, rfl⟩ (by decide) ?_
    intro v_482 h_480 q_481
    obtain ⟨rfl, K_484, b_485, le_486, f_487, f_488, f_489⟩ := q_481
    have ne_490 : a_456 ≠ b_485 := ne_ge f_475.lt le_486
    have ne_491 : b_469 ≠ b_485 := ne_ge f_472.lt le_486
    have ge_b_485 : n0 ≤ b_485 := lT f_478 le_486
    have gs_b_485 : h0.size ≤ b_485 := lT f_479 le_486
    show Go _ _ _ _ 3 10 78 _ [(.ref a_456)]
    refine aS C at_78 (#[iV p0, iV p1, iV p2, iV p3, iV p4, iV p5, iV 3, iV r0, iV r1, iV r2, iV r3, iV r4, aV a_456, uV, uV, uV, uV]) rfl rfl <| iB C 6 at_80 rfl ?_
    have f_492 := (f_475.keep K_484)
    have f_493 := (f_472.keep K_484 (ninS (Ne.symm ne_473) nin0))
    refine ynewarray C (oW hw 37 rfl) (ty := .int) rfl (by decide) (cap := 6) (by decide) (by decide) (by decide) (by decide) at_82 ?_
    intro h_494 a_495 g_496 E_497 A_498
    have ne_499 : a_456 ≠ a_495 := ne_new f_492.lt g_496
    have ne_500 : b_469 ≠ a_495 := ne_new f_493.lt g_496
    have ne_501 : b_485 ≠ a_495 := ne_new f_489.lt g_496
    have f_502 := (lT f_478 K_484.1)
    have ge_a_495 : n0 ≤ a_495 := lT f_502 (lE g_496.symm)
    have f_503 := (lT f_479 K_484.1)
    have gs_a_495 : h0.size ≤ a_495 := lT f_503 (lE g_496.symm)
    have f_504 : Ary Z h_494 a_495 .int [(.int 0), (.int 0), (.int 0), (.int 0), (.int 0), (.int 0)] := A_498
    show Go _ _ _ _ 4 16 84 _ [(.ref a_495)]
    refine aS C at_84 (#[iV p0, iV p1, iV p2, iV p3, iV p4, iV p5, iV 3, iV r0, iV r1, iV r2, iV r3, iV r4, aV a_456, aV a_495, uV, uV, uV]) rfl rfl <| iC C 0 at_86 rfl <| iS C at_87 (#[iV p0, iV p1, iV p2, iV p3, iV p4, iV p5, iV 3, iV r0, iV r1, iV r2, iV r3, iV r4, aV a_456, aV a_495, iV 0, uV, uV]) rfl <| aL C ((.ref a_495)) at_89 rfl rfl <| iL C 0 at_91 rfl <| iL C 3 at_93 rfl <| iC C 0 at_95 rfl <| iL C r0 at_96 rfl ?_
    by_cases hb_505 : r0 = 9
    · have f_506 := (lT f_502 E_497.1)
      refine cS C hw 38 39 2 40 rfl rfl rfl rfl (rm_noteY_0 hw a_495 0 0 0 0 0 0 3 0 r0 h_494 f_506 f_504 ge_a_495 (by decide) hb_505) [] [(.ref a_495), (.int 0), (.int 3), (.int 0), (.int r0)] pd_19 0 at_98 ⟨rfl, rfl, rfl, rfl, rfl⟩ (by decide) ?_
      intro v_509 h_507 q_508
      obtain ⟨rfl, K_511, f_512⟩ := q_508
      show Go _ _ _ _ 4 16 101 _ [(.int 1)]
      refine iS C at_101 (#[iV p0, iV p1, iV p2, iV p3, iV p4, iV p5, iV 3, iV r0, iV r1, iV r2, iV r3, iV r4, aV a_456, aV a_495, iV 1, uV, uV]) rfl <| aL C ((.ref a_495)) at_103 rfl rfl <| iL C 1 at_105 rfl <| iL C 3 at_107 rfl <| iC C 1 at_109 rfl <| iL C r1 at_110 rfl ?_
      by_cases hb_513 : r1 = 9
      · have f_514 := (lT f_506 K_511.1)
        refine cS C hw 38 39 2 40 rfl rfl rfl rfl (rm_noteY_1 hw a_495 0 0 0 0 0 0 3 1 r1 h_507 f_514 f_512 ge_a_495 (by decide) hb_513) [] [(.ref a_495), (.int 1), (.int 3), (.int 1), (.int r1)] pd_19 0 at_112 ⟨rfl, rfl, rfl, rfl, rfl⟩ (by decide) ?_
        intro v_517 h_515 q_516
        obtain ⟨rfl, K_519, f_520⟩ := q_516
        show Go _ _ _ _ 4 16 115 _ [(.int 2)]
        refine iS C at_115 (#[iV p0, iV p1, iV p2, iV p3, iV p4, iV p5, iV 3, iV r0, iV r1, iV r2, iV r3, iV r4, aV a_456, aV a_495, iV 2, uV, uV]) rfl <| aL C ((.ref a_495)) at_117 rfl rfl <| iL C 2 at_119 rfl <| iL C 3 at_121 rfl <| iC C 2 at_123 rfl <| iL C r2 at_124 rfl ?_
        by_cases hb_521 : r2 = 9
        · have f_522 := (lT f_514 K_519.1)
          refine cS C hw 38 39 2 40 rfl rfl rfl rfl (rm_noteY_2 hw a_495 0 1 0 0 0 0 3 2 r2 h_515 f_522 f_520 ge_a_495 (by decide) hb_521) [] [(.ref a_495), (.int 2), (.int 3), (.int 2), (.int r2)] pd_19 0 at_126 ⟨rfl, rfl, rfl, rfl, rfl⟩ (by decide) ?_
          intro v_525 h_523 q_524
          obtain ⟨rfl, K_527, f_528⟩ := q_524
          show Go _ _ _ _ 4 16 129 _ [(.int 3)]
          refine iS C at_129 (#[iV p0, iV p1, iV p2, iV p3, iV p4, iV p5, iV 3, iV r0, iV r1, iV r2, iV r3, iV r4, aV a_456, aV a_495, iV 3, uV, uV]) rfl <| aL C ((.ref a_495)) at_131 rfl rfl <| iL C 3 at_133 rfl <| iL C 3 at_135 rfl <| iC C 3 at_137 rfl <| iL C r3 at_138 rfl ?_
          have f_529 := (lT f_522 K_527.1)
          refine cS C hw 38 39 2 40 rfl rfl rfl rfl (rm_noteN_0 hw a_495 3 3 3 r3 h_523 f_529 (by decide)) [] [(.ref a_495), (.int 3), (.int 3), (.int 3), (.int r3)] pd_19 0 at_140 ⟨rfl, rfl, rfl, rfl, rfl⟩ (by decide) ?_
          intro v_532 h_530 q_531
          obtain ⟨rfl, rfl⟩ := q_531
          show Go _ _ _ _ 4 16 143 _ [(.int 3)]
          refine iS C at_143 (#[iV p0, iV p1, iV p2, iV p3, iV p4, iV p5, iV 3, iV r0, iV r1, iV r2, iV r3, iV r4, aV a_456, aV a_495, iV 3, uV, uV]) rfl <| aL C ((.ref a_495)) at_145 rfl rfl <| iL C 3 at_147 rfl <| iL C 3 at_149 rfl <| iC C 4 at_151 rfl <| iL C r4 at_152 rfl <| cS C hw 38 39 2 40 rfl rfl rfl rfl (rm_noteN_0 hw a_495 3 3 4 r4 h_523 f_529 (by decide)) [] [(.ref a_495), (.int 3), (.int 3), (.int 4), (.int r4)] pd_19 0 at_154 ⟨rfl, rfl, rfl, rfl, rfl⟩ (by decide) ?_
          intro v_536 h_534 q_535
          obtain ⟨rfl, rfl⟩ := q_535
          show Go _ _ _ _ 4 16 157 _ [(.int 3)]
          refine iS C at_157 (#[iV p0, iV p1, iV p2, iV p3, iV p4, iV p5, iV 3, iV r0, iV r1, iV r2, iV r3, iV r4, aV a_456, aV a_495, iV 3, uV, uV]) rfl <| aL C ((.ref a_495)) at_159 rfl rfl <| iL C 3 at_161 rfl <| iL C 3 at_163 rfl <| yiastore C f_528 (by decide) (i := 3) (by decide) (show 3 < 6 by decide) (w := (.int 3)) rfl ge_a_495 at_165 ?_
          intro h_538 K_539 A_540
          have f_541 : Ary Z h_538 a_495 .int [(.int 0), (.int 1), (.int 2), (.int 3), (.int 0), (.int 0)] := A_540
          refine iL C 3 at_166 rfl <| iC C 1 at_168 rfl <| yiadd C at_169 <| eS [(.int 4)] rfl <| iS C at_170 (#[iV p0, iV p1, iV p2, iV p3, iV p4, iV p5, iV 3, iV r0, iV r1, iV r2, iV r3, iV r4, aV a_456, aV a_495, iV 3, iV 4, uV]) rfl ?_
          have f_542 := (((((f_492.ext E_497).keep K_511).keep K_519).keep K_527).keep K_539)
          have f_543 := (((((f_487.ext E_497).keep K_511 (ninS ne_499 nin0)).keep K_519 (ninS ne_499 nin0)).keep K_527 (ninS ne_499 nin0)).keep K_539 (ninS ne_499 nin0))
          have f_544 := (((((f_488.ext E_497).keep K_511 (ninS ne_499 nin0)).keep K_519 (ninS ne_499 nin0)).keep K_527 (ninS ne_499 nin0)).keep K_539 (ninS ne_499 nin0))
          have f_545 := (((((f_489.ext E_497).keep K_511 (ninS ne_501 nin0)).keep K_519 (ninS ne_501 nin0)).keep K_527 (ninS ne_501 nin0)).keep K_539 (ninS ne_501 nin0))
          have f_546 := (lT f_529 K_539.1)
          have f_547 := ((((((f_474.keep K_484 (allS ge_a_456 all0)).ext E_497).keep K_511 (allS ge_a_495 all0)).keep K_519 (allS ge_a_495 all0)).keep K_527 (allS ge_a_495 all0)).keep K_539 (allS ge_a_495 all0))
          exact own_up (rm_tail_4 hw p0 p1 p2 p3 p4 p5 3 r0 r1 r2 r3 r4 a_456 a_495 0 1 2 3 0 0 h_538 f_546 f_547 f_541 (rm_split_4 hw a_456 0 1 2 3 h_538 f_546 f_547 f_542 (by decide) (by decide) (by decide) (fun h u v k => rm_sio1 hw a_456 0 h u (f_542.keep k) (rm_sioI_3_0_1 hw a_456 b_485 (bY r0) (bY r1) (bY r2) h u cm v (f_542.keep k) (f_543.keep k nin0) (f_544.keep k nin0) (f_545.keep k nin0) (own_by9' hb_505))) (fun h u v k => rm_sioI_3_1_2 hw a_456 b_485 (bY r0) (bY r1) (bY r2) h u cm v (f_542.keep k) (f_543.keep k nin0) (f_544.keep k nin0) (f_545.keep k nin0) (own_by9' hb_513)) (fun h u v k => rm_sioI_3_2_3 hw a_456 b_485 (bY r0) (bY r1) (bY r2) h u cm v (f_542.keep k) (f_543.keep k nin0) (f_544.keep k nin0) (f_545.keep k nin0) (own_by9' hb_521)) (fun h u v k => rm_sioI_3_3_0 hw a_456 b_485 (bY r0) (bY r1) (bY r2) h u cm v (f_542.keep k) (f_543.keep k nin0) (f_544.keep k nin0) (f_545.keep k nin0) ) (fun h u v k => rm_length_3 hw a_456 b_485 (bY r0) (bY r1) (bY r2) h u cm v (f_542.keep k) (f_543.keep k nin0) (f_544.keep k nin0) (f_545.keep k nin0))) B C hW) (by decide) (by decide)
        · have f_548 := (lT f_514 K_519.1)
          refine cS C hw 38 39 2 40 rfl rfl rfl rfl (rm_noteN_1 hw a_495 2 3 2 r2 h_515 f_548 (by decide) hb_521) [] [(.ref a_495), (.int 2), (.int 3), (.int 2), (.int r2)] pd_19 0 at_126 ⟨rfl, rfl, rfl, rfl, rfl⟩ (by decide) ?_
          intro v_551 h_549 q_550
          obtain ⟨rfl, rfl⟩ := q_550
          show Go _ _ _ _ 4 16 129 _ [(.int 2)]
          refine iS C at_129 (#[iV p0, iV p1, iV p2, iV p3, iV p4, iV p5, iV 3, iV r0, iV r1, iV r2, iV r3, iV r4, aV a_456, aV a_495, iV 2, uV, uV]) rfl <| aL C ((.ref a_495)) at_131 rfl rfl <| iL C 2 at_133 rfl <| iL C 3 at_135 rfl <| iC C 3 at_137 rfl <| iL C r3 at_138 rfl <| cS C hw 38 39 2 40 rfl rfl rfl rfl (rm_noteN_0 hw a_495 2 3 3 r3 h_515 f_548 (by decide)) [] [(.ref a_495), (.int 2), (.int 3), (.int 3), (.int r3)] pd_19 0 at_140 ⟨rfl, rfl, rfl, rfl, rfl⟩ (by decide) ?_
          intro v_555 h_553 q_554
          obtain ⟨rfl, rfl⟩ := q_554
          show Go _ _ _ _ 4 16 143 _ [(.int 2)]
          refine iS C at_143 (#[iV p0, iV p1, iV p2, iV p3, iV p4, iV p5, iV 3, iV r0, iV r1, iV r2, iV r3, iV r4, aV a_456, aV a_495, iV 2, uV, uV]) rfl <| aL C ((.ref a_495)) at_145 rfl rfl <| iL C 2 at_147 rfl <| iL C 3 at_149 rfl <| iC C 4 at_151 rfl <| iL C r4 at_152 rfl <| cS C hw 38 39 2 40 rfl rfl rfl rfl (rm_noteN_0 hw a_495 2 3 4 r4 h_515 f_548 (by decide)) [] [(.ref a_495), (.int 2), (.int 3), (.int 4), (.int r4)] pd_19 0 at_154 ⟨rfl, rfl, rfl, rfl, rfl⟩ (by decide) ?_
          intro v_559 h_557 q_558
          obtain ⟨rfl, rfl⟩ := q_558
          show Go _ _ _ _ 4 16 157 _ [(.int 2)]
          refine iS C at_157 (#[iV p0, iV p1, iV p2, iV p3, iV p4, iV p5, iV 3, iV r0, iV r1, iV r2, iV r3, iV r4, aV a_456, aV a_495, iV 2, uV, uV]) rfl <| aL C ((.ref a_495)) at_159 rfl rfl <| iL C 2 at_161 rfl <| iL C 3 at_163 rfl <| yiastore C f_520 (by decide) (i := 2) (by decide) (show 2 < 6 by decide) (w := (.int 3)) rfl ge_a_495 at_165 ?_
          intro h_561 K_562 A_563
          have f_564 : Ary Z h_561 a_495 .int [(.int 0), (.int 1), (.int 3), (.int 0), (.int 0), (.int 0)] := A_563
          refine iL C 2 at_166 rfl <| iC C 1 at_168 rfl <| yiadd C at_169 <| eS [(.int 3)] rfl <| iS C at_170 (#[iV p0, iV p1, iV p2, iV p3, iV p4, iV p5, iV 3, iV r0, iV r1, iV r2, iV r3, iV r4, aV a_456, aV a_495, iV 2, iV 3, uV]) rfl ?_
          have f_565 := ((((f_492.ext E_497).keep K_511).keep K_519).keep K_562)
          have f_566 := ((((f_487.ext E_497).keep K_511 (ninS ne_499 nin0)).keep K_519 (ninS ne_499 nin0)).keep K_562 (ninS ne_499 nin0))
          have f_567 := ((((f_488.ext E_497).keep K_511 (ninS ne_499 nin0)).keep K_519 (ninS ne_499 nin0)).keep K_562 (ninS ne_499 nin0))
          have f_568 := ((((f_489.ext E_497).keep K_511 (ninS ne_501 nin0)).keep K_519 (ninS ne_501 nin0)).keep K_562 (ninS ne_501 nin0))
          have f_569 := (lT f_548 K_562.1)
          have f_570 := (((((f_474.keep K_484 (allS ge_a_456 all0)).ext E_497).keep K_511 (allS ge_a_495 all0)).keep K_519 (allS ge_a_495 all0)).keep K_562 (allS ge_a_495 all0))
          exact own_up (rm_tail_3 hw p0 p1 p2 p3 p4 p5 3 r0 r1 r2 r3 r4 a_456 a_495 0 1 3 0 0 0 h_561 f_569 f_570 f_564 (rm_split_3 hw a_456 0 1 3 h_561 f_569 f_570 f_565 (by decide) (by decide) (fun h u v k => rm_sio1 hw a_456 0 h u (f_565.keep k) (rm_sioI_3_0_1 hw a_456 b_485 (bY r0) (bY r1) (bY r2) h u cm v (f_565.keep k) (f_566.keep k nin0) (f_567.keep k nin0) (f_568.keep k nin0) (own_by9' hb_505))) (fun h u v k => rm_sioI_3_1_2 hw a_456 b_485 (bY r0) (bY r1) (bY r2) h u cm v (f_565.keep k) (f_566.keep k nin0) (f_567.keep k nin0) (f_568.keep k nin0) (own_by9' hb_513)) (fun h u v k => rm_sioI_3_2_0 hw a_456 b_485 (bY r0) (bY r1) (bY r2) h u cm v (f_565.keep k) (f_566.keep k nin0) (f_567.keep k nin0) (f_568.keep k nin0) (own_by9 kr2 hb_521)) (fun h u v k => rm_length_3 hw a_456 b_485 (bY r0) (bY r1) (bY r2) h u cm v (f_565.keep k) (f_566.keep k nin0) (f_567.keep k nin0) (f_568.keep k nin0))) B C hW) (by decide) (by decide)
      · have f_571 := (lT f_506 K_511.1)
        refine cS C hw 38 39 2 40 rfl rfl rfl rfl (rm_noteN_1 hw a_495 1 3 1 r1 h_507 f_571 (by decide) hb_513) [] [(.ref a_495), (.int 1), (.int 3), (.int 1), (.int r1)] pd_19 0 at_112 ⟨rfl, rfl, rfl, rfl, rfl⟩ (by decide) ?_
        intro v_574 h_572 q_573
        obtain ⟨rfl, rfl⟩ := q_573
        show Go _ _ _ _ 4 16 115 _ [(.int 1)]
        refine iS C at_115 (#[iV p0, iV p1, iV p2, iV p3, iV p4, iV p5, iV 3, iV r0, iV r1, iV r2, iV r3, iV r4, aV a_456, aV a_495, iV 1, uV, uV]) rfl <| aL C ((.ref a_495)) at_117 rfl rfl <| iL C 1 at_119 rfl <| iL C 3 at_121 rfl <| iC C 2 at_123 rfl <| iL C r2 at_124 rfl ?_
        by_cases hb_576 : r2 = 9
        · refine cS C hw 38 39 2 40 rfl rfl rfl rfl (rm_noteY_1 hw a_495 0 0 0 0 0 0 3 2 r2 h_507 f_571 f_512 ge_a_495 (by decide) hb_576) [] [(.ref a_495), (.int 1), (.int 3), (.int 2), (.int r2)] pd_19 0 at_126 ⟨rfl, rfl, rfl, rfl, rfl⟩ (by decide) ?_
          intro v_579 h_577 q_578
          obtain ⟨rfl, K_581, f_582⟩ := q_578
          show Go _ _ _ _ 4 16 129 _ [(.int 2)]
          refine iS C at_129 (#[iV p0, iV p1, iV p2, iV p3, iV p4, iV p5, iV 3, iV r0, iV r1, iV r2, iV r3, iV r4, aV a_456, aV a_495, iV 2, uV, uV]) rfl <| aL C ((.ref a_495)) at_131 rfl rfl <| iL C 2 at_133 rfl <| iL C 3 at_135 rfl <| iC C 3 at_137 rfl <| iL C r3 at_138 rfl ?_
          have f_583 := (lT f_571 K_581.1)
          refine cS C hw 38 39 2 40 rfl rfl rfl rfl (rm_noteN_0 hw a_495 2 3 3 r3 h_577 f_583 (by decide)) [] [(.ref a_495), (.int 2), (.int 3), (.int 3), (.int r3)] pd_19 0 at_140 ⟨rfl, rfl, rfl, rfl, rfl⟩ (by decide) ?_
          intro v_586 h_584 q_585
          obtain ⟨rfl, rfl⟩ := q_585
          show Go _ _ _ _ 4 16 143 _ [(.int 2)]
          refine iS C at_143 (#[iV p0, iV p1, iV p2, iV p3, iV p4, iV p5, iV 3, iV r0, iV r1, iV r2, iV r3, iV r4, aV a_456, aV a_495, iV 2, uV, uV]) rfl <| aL C ((.ref a_495)) at_145 rfl rfl <| iL C 2 at_147 rfl <| iL C 3 at_149 rfl <| iC C 4 at_151 rfl <| iL C r4 at_152 rfl <| cS C hw 38 39 2 40 rfl rfl rfl rfl (rm_noteN_0 hw a_495 2 3 4 r4 h_577 f_583 (by decide)) [] [(.ref a_495), (.int 2), (.int 3), (.int 4), (.int r4)] pd_19 0 at_154 ⟨rfl, rfl, rfl, rfl, rfl⟩ (by decide) ?_
          intro v_590 h_588 q_589
          obtain ⟨rfl, rfl⟩ := q_589
          show Go _ _ _ _ 4 16 157 _ [(.int 2)]
          refine iS C at_157 (#[iV p0, iV p1, iV p2, iV p3, iV p4, iV p5, iV 3, iV r0, iV r1, iV r2, iV r3, iV r4, aV a_456, aV a_495, iV 2, uV, uV]) rfl <| aL C ((.ref a_495)) at_159 rfl rfl <| iL C 2 at_161 rfl <| iL C 3 at_163 rfl <| yiastore C f_582 (by decide) (i := 2) (by decide) (show 2 < 6 by decide) (w := (.int 3)) rfl ge_a_495 at_165 ?_
          intro h_592 K_593 A_594
          have f_595 : Ary Z h_592 a_495 .int [(.int 0), (.int 2), (.int 3), (.int 0), (.int 0), (.int 0)] := A_594
          refine iL C 2 at_166 rfl <| iC C 1 at_168 rfl <| yiadd C at_169 <| eS [(.int 3)] rfl <| iS C at_170 (#[iV p0, iV p1, iV p2, iV p3, iV p4, iV p5, iV 3, iV r0, iV r1, iV r2, iV r3, iV r4, aV a_456, aV a_495, iV 2, iV 3, uV]) rfl ?_
          have f_596 := ((((f_492.ext E_497).keep K_511).keep K_581).keep K_593)
          have f_597 := ((((f_487.ext E_497).keep K_511 (ninS ne_499 nin0)).keep K_581 (ninS ne_499 nin0)).keep K_593 (ninS ne_499 nin0))
          have f_598 := ((((f_488.ext E_497).keep K_511 (ninS ne_499 nin0)).keep K_581 (ninS ne_499 nin0)).keep K_593 (ninS ne_499 nin0))
          have f_599 := ((((f_489.ext E_497).keep K_511 (ninS ne_501 nin0)).keep K_581 (ninS ne_501 nin0)).keep K_593 (ninS ne_501 nin0))
          have f_600 := (lT f_583 K_593.1)
          have f_601 := (((((f_474.keep K_484 (allS ge_a_456 all0)).ext E_497).keep K_511 (allS ge_a_495 all0)).keep K_581 (allS ge_a_495 all0)).keep K_593 (allS ge_a_495 all0))
          exact own_up (rm_tail_3 hw p0 p1 p2 p3 p4 p5 3 r0 r1 r2 r3 r4 a_456 a_495 0 2 3 0 0 0 h_592 f_600 f_601 f_595 (rm_split_3 hw a_456 0 2 3 h_592 f_600 f_601 f_596 (by decide) (by decide) (fun h u v k => rm_sio1 hw a_456 0 h u (f_596.keep k) (rm_sioI_3_0_1 hw a_456 b_485 (bY r0) (bY r1) (bY r2) h u cm v (f_596.keep k) (f_597.keep k nin0) (f_598.keep k nin0) (f_599.keep k nin0) (own_by9' hb_505))) (fun h u v k => rm_sioI_3_1_3 hw a_456 b_485 (bY r0) (bY r1) (bY r2) h u cm v (f_596.keep k) (f_597.keep k nin0) (f_598.keep k nin0) (f_599.keep k nin0) (own_by9 kr1 hb_513) (own_by9' hb_576)) (fun h u v k => rm_sioI_3_3_0 hw a_456 b_485 (bY r0) (bY r1) (bY r2) h u cm v (f_596.keep k) (f_597.keep k nin0) (f_598.keep k nin0) (f_599.keep k nin0) ) (fun h u v k => rm_length_3 hw a_456 b_485 (bY r0) (bY r1) (bY r2) h u cm v (f_596.keep k) (f_597.keep k nin0) (f_598.keep k nin0) (f_599.keep k nin0))) B C hW) (by decide) (by decide)
        · refine cS C hw 38 39 2 40 rfl rfl rfl rfl (rm_noteN_1 hw a_495 1 3 2 r2 h_507 f_571 (by decide) hb_576) [] [(.ref a_495), (.int 1), (.int 3), (.int 2), (.int r2)] pd_19 0 at_126 ⟨rfl, rfl, rfl, rfl, rfl⟩ (by decide) ?_
          intro v_604 h_602 q_603
          obtain ⟨rfl, rfl⟩ := q_603
          show Go _ _ _ _ 4 16 129 _ [(.int 1)]
          refine iS C at_129 (#[iV p0, iV p1, iV p2, iV p3, iV p4, iV p5, iV 3, iV r0, iV r1, iV r2, iV r3, iV r4, aV a_456, aV a_495, iV 1, uV, uV]) rfl <| aL C ((.ref a_495)) at_131 rfl rfl <| iL C 1 at_133 rfl <| iL C 3 at_135 rfl <| iC C 3 at_137 rfl <| iL C r3 at_138 rfl <| cS C hw 38 39 2 40 rfl rfl rfl rfl (rm_noteN_0 hw a_495 1 3 3 r3 h_507 f_571 (by decide)) [] [(.ref a_495), (.int 1), (.int 3), (.int 3), (.int r3)] pd_19 0 at_140 ⟨rfl, rfl, rfl, rfl, rfl⟩ (by decide) ?_
          intro v_608 h_606 q_607
          obtain ⟨rfl, rfl⟩ := q_607
          show Go _ _ _ _ 4 16 143 _ [(.int 1)]
          refine iS C at_143 (#[iV p0, iV p1, iV p2, iV p3, iV p4, iV p5, iV 3, iV r0, iV r1, iV r2, iV r3, iV r4, aV a_456, aV a_495, iV 1, uV, uV]) rfl <| aL C ((.ref a_495)) at_145 rfl rfl <| iL C 1 at_147 rfl <| iL C 3 at_149 rfl <| iC C 4 at_151 rfl <| iL C r4 at_152 rfl <| cS C hw 38 39 2 40 rfl rfl rfl rfl (rm_noteN_0 hw a_495 1 3 4 r4 h_507 f_571 (by decide)) [] [(.ref a_495), (.int 1), (.int 3), (.int 4), (.int r4)] pd_19 0 at_154 ⟨rfl, rfl, rfl, rfl, rfl⟩ (by decide) ?_
          intro v_612 h_610 q_611
          obtain ⟨rfl, rfl⟩ := q_611
          show Go _ _ _ _ 4 16 157 _ [(.int 1)]
          refine iS C at_157 (#[iV p0, iV p1, iV p2, iV p3, iV p4, iV p5, iV 3, iV r0, iV r1, iV r2, iV r3, iV r4, aV a_456, aV a_495, iV 1, uV, uV]) rfl <| aL C ((.ref a_495)) at_159 rfl rfl <| iL C 1 at_161 rfl <| iL C 3 at_163 rfl <| yiastore C f_512 (by decide) (i := 1) (by decide) (show 1 < 6 by decide) (w := (.int 3)) rfl ge_a_495 at_165 ?_
          intro h_614 K_615 A_616
          have f_617 : Ary Z h_614 a_495 .int [(.int 0), (.int 3), (.int 0), (.int 0), (.int 0), (.int 0)] := A_616
          refine iL C 1 at_166 rfl <| iC C 1 at_168 rfl <| yiadd C at_169 <| eS [(.int 2)] rfl <| iS C at_170 (#[iV p0, iV p1, iV p2, iV p3, iV p4, iV p5, iV 3, iV r0, iV r1, iV r2, iV r3, iV r4, aV a_456, aV a_495, iV 1, iV 2, uV]) rfl ?_
          have f_618 := (((f_492.ext E_497).keep K_511).keep K_615)
          have f_619 := (((f_487.ext E_497).keep K_511 (ninS ne_499 nin0)).keep K_615 (ninS ne_499 nin0))
          have f_620 := (((f_488.ext E_497).keep K_511 (ninS ne_499 nin0)).keep K_615 (ninS ne_499 nin0))
          have f_621 := (((f_489.ext E_497).keep K_511 (ninS ne_501 nin0)).keep K_615 (ninS ne_501 nin0))
          have f_622 := (lT f_571 K_615.1)
          have f_623 := ((((f_474.keep K_484 (allS ge_a_456 all0)).ext E_497).keep K_511 (allS ge_a_495 all0)).keep K_615 (allS ge_a_495 all0))
          exact own_up (rm_tail_2 hw p0 p1 p2 p3 p4 p5 3 r0 r1 r2 r3 r4 a_456 a_495 0 3 0 0 0 0 h_614 f_622 f_623 f_617 (rm_split_2 hw a_456 0 3 h_614 f_622 f_623 f_618 (by decide) (fun h u v k => rm_sio1 hw a_456 0 h u (f_618.keep k) (rm_sioI_3_0_1 hw a_456 b_485 (bY r0) (bY r1) (bY r2) h u cm v (f_618.keep k) (f_619.keep k nin0) (f_620.keep k nin0) (f_621.keep k nin0) (own_by9' hb_505))) (fun h u v k => rm_sioI_3_1_0 hw a_456 b_485 (bY r0) (bY r1) (bY r2) h u cm v (f_618.keep k) (f_619.keep k nin0) (f_620.keep k nin0) (f_621.keep k nin0) (own_by9 kr1 hb_513) (own_by9 kr2 hb_576)) (fun h u v k => rm_length_3 hw a_456 b_485 (bY r0) (bY r1) (bY r2) h u cm v (f_618.keep k) (f_619.keep k nin0) (f_620.keep k nin0) (f_621.keep k nin0))) B C hW) (by decide) (by decide)
    · have f_624 := (lT f_502 E_497.1)
      refine cS C hw 38 39 2 40 rfl rfl rfl rfl (rm_noteN_1 hw a_495 0 3 0 r0 h_494 f_624 (by decide) hb_505) [] [(.ref a_495), (.int 0), (.int 3), (.int 0), (.int r0)] pd_19 0 at_98 ⟨rfl, rfl, rfl, rfl, rfl⟩ (by decide) ?_
      intro v_627 h_625 q_626
      obtain ⟨rfl, rfl⟩ := q_626
      show Go _ _ _ _ 4 16 101 _ [(.int 0)]
      refine iS C at_101 (#[iV p0, iV p1, iV p2, iV p3, iV p4, iV p5, iV 3, iV r0, iV r1, iV r2, iV r3, iV r4, aV a_456, aV a_495, iV 0, uV, uV]) rfl <| aL C ((.ref a_495)) at_103 rfl rfl <| iL C 0 at_105 rfl <| iL C 3 at_107 rfl <| iC C 1 at_109 rfl <| iL C r1 at_110 rfl ?_
      by_cases hb_629 : r1 = 9
      · refine cS C hw 38 39 2 40 rfl rfl rfl rfl (rm_noteY_0 hw a_495 0 0 0 0 0 0 3 1 r1 h_494 f_624 f_504 ge_a_495 (by decide) hb_629) [] [(.ref a_495), (.int 0), (.int 3), (.int 1), (.int r1)] pd_19 0 at_112 ⟨rfl, rfl, rfl, rfl, rfl⟩ (by decide) ?_
        intro v_632 h_630 q_631
        obtain ⟨rfl, K_634, f_635⟩ := q_631
        show Go _ _ _ _ 4 16 115 _ [(.int 1)]
        refine iS C at_115 (#[iV p0, iV p1, iV p2, iV p3, iV p4, iV p5, iV 3, iV r0, iV r1, iV r2, iV r3, iV r4, aV a_456, aV a_495, iV 1, uV, uV]) rfl <| aL C ((.ref a_495)) at_117 rfl rfl <| iL C 1 at_119 rfl <| iL C 3 at_121 rfl <| iC C 2 at_123 rfl <| iL C r2 at_124 rfl ?_
        by_cases hb_636 : r2 = 9
        · have f_637 := (lT f_624 K_634.1)
          refine cS C hw 38 39 2 40 rfl rfl rfl rfl (rm_noteY_1 hw a_495 1 0 0 0 0 0 3 2 r2 h_630 f_637 f_635 ge_a_495 (by decide) hb_636) [] [(.ref a_495), (.int 1), (.int 3), (.int 2), (.int r2)] pd_19 0 at_126 ⟨rfl, rfl, rfl, rfl, rfl⟩ (by decide) ?_
          intro v_640 h_638 q_639
          obtain ⟨rfl, K_642, f_643⟩ := q_639
          show Go _ _ _ _ 4 16 129 _ [(.int 2)]
          refine iS C at_129 (#[iV p0, iV p1, iV p2, iV p3, iV p4, iV p5, iV 3, iV r0, iV r1, iV r2, iV r3, iV r4, aV a_456, aV a_495, iV 2, uV, uV]) rfl <| aL C ((.ref a_495)) at_131 rfl rfl <| iL C 2 at_133 rfl <| iL C 3 at_135 rfl <| iC C 3 at_137 rfl <| iL C r3 at_138 rfl ?_
          have f_644 := (lT f_637 K_642.1)
          refine cS C hw 38 39 2 40 rfl rfl rfl rfl (rm_noteN_0 hw a_495 2 3 3 r3 h_638 f_644 (by decide)) [] [(.ref a_495), (.int 2), (.int 3), (.int 3), (.int r3)] pd_19 0 at_140 ⟨rfl, rfl, rfl, rfl, rfl⟩ (by decide) ?_
          intro v_647 h_645 q_646
          obtain ⟨rfl, rfl⟩ := q_646
          show Go _ _ _ _ 4 16 143 _ [(.int 2)]
          refine iS C at_143 (#[iV p0, iV p1, iV p2, iV p3, iV p4, iV p5, iV 3, iV r0, iV r1, iV r2, iV r3, iV r4, aV a_456, aV a_495, iV 2, uV, uV]) rfl <| aL C ((.ref a_495)) at_145 rfl rfl <| iL C 2 at_147 rfl <| iL C 3 at_149 rfl <| iC C 4 at_151 rfl <| iL C r4 at_152 rfl <| cS C hw 38 39 2 40 rfl rfl rfl rfl (rm_noteN_0 hw a_495 2 3 4 r4 h_638 f_644 (by decide)) [] [(.ref a_495), (.int 2), (.int 3), (.int 4), (.int r4)] pd_19 0 at_154 ⟨rfl, rfl, rfl, rfl, rfl⟩ (by decide) ?_
          intro v_651 h_649 q_650
          obtain ⟨rfl, rfl⟩ := q_650
          show Go _ _ _ _ 4 16 157 _ [(.int 2)]
          refine iS C at_157 (#[iV p0, iV p1, iV p2, iV p3, iV p4, iV p5, iV 3, iV r0, iV r1, iV r2, iV r3, iV r4, aV a_456, aV a_495, iV 2, uV, uV]) rfl <| aL C ((.ref a_495)) at_159 rfl rfl <| iL C 2 at_161 rfl <| iL C 3 at_163 rfl <| yiastore C f_643 (by decide) (i := 2) (by decide) (show 2 < 6 by decide) (w := (.int 3)) rfl ge_a_495 at_165 ?_
          intro h_653 K_654 A_655
          have f_656 : Ary Z h_653 a_495 .int [(.int 1), (.int 2), (.int 3), (.int 0), (.int 0), (.int 0)] := A_655
          refine iL C 2 at_166 rfl <| iC C 1 at_168 rfl <| yiadd C at_169 <| eS [(.int 3)] rfl <| iS C at_170 (#[iV p0, iV p1, iV p2, iV p3, iV p4, iV p5, iV 3, iV r0, iV r1, iV r2, iV r3, iV r4, aV a_456, aV a_495, iV 2, iV 3, uV]) rfl ?_
          have f_657 := ((((f_492.ext E_497).keep K_634).keep K_642).keep K_654)
          have f_658 := ((((f_487.ext E_497).keep K_634 (ninS ne_499 nin0)).keep K_642 (ninS ne_499 nin0)).keep K_654 (ninS ne_499 nin0))
          have f_659 := ((((f_488.ext E_497).keep K_634 (ninS ne_499 nin0)).keep K_642 (ninS ne_499 nin0)).keep K_654 (ninS ne_499 nin0))
          have f_660 := ((((f_489.ext E_497).keep K_634 (ninS ne_501 nin0)).keep K_642 (ninS ne_501 nin0)).keep K_654 (ninS ne_501 nin0))
          have f_661 := (lT f_644 K_654.1)
          have f_662 := (((((f_474.keep K_484 (allS ge_a_456 all0)).ext E_497).keep K_634 (allS ge_a_495 all0)).keep K_642 (allS ge_a_495 all0)).keep K_654 (allS ge_a_495 all0))
          exact own_up (rm_tail_3 hw p0 p1 p2 p3 p4 p5 3 r0 r1 r2 r3 r4 a_456 a_495 1 2 3 0 0 0 h_653 f_661 f_662 f_656 (rm_split_3 hw a_456 1 2 3 h_653 f_661 f_662 f_657 (by decide) (by decide) (fun h u v k => rm_sio1 hw a_456 1 h u (f_657.keep k) (rm_sioI_3_0_2 hw a_456 b_485 (bY r0) (bY r1) (bY r2) h u cm v (f_657.keep k) (f_658.keep k nin0) (f_659.keep k nin0) (f_660.keep k nin0) (own_by9 kr0 hb_505) (own_by9' hb_629))) (fun h u v k => rm_sioI_3_2_3 hw a_456 b_485 (bY r0) (bY r1) (bY r2) h u cm v (f_657.keep k) (f_658.keep k nin0) (f_659.keep k nin0) (f_660.keep k nin0) (own_by9' hb_636)) (fun h u v k => rm_sioI_3_3_0 hw a_456 b_485 (bY r0) (bY r1) (bY r2) h u cm v (f_657.keep k) (f_658.keep k nin0) (f_659.keep k nin0) (f_660.keep k nin0) ) (fun h u v k => rm_length_3 hw a_456 b_485 (bY r0) (bY r1) (bY r2) h u cm v (f_657.keep k) (f_658.keep k nin0) (f_659.keep k nin0) (f_660.keep k nin0))) B C hW) (by decide) (by decide)
        · have f_663 := (lT f_624 K_634.1)
          refine cS C hw 38 39 2 40 rfl rfl rfl rfl (rm_noteN_1 hw a_495 1 3 2 r2 h_630 f_663 (by decide) hb_636) [] [(.ref a_495), (.int 1), (.int 3), (.int 2), (.int r2)] pd_19 0 at_126 ⟨rfl, rfl, rfl, rfl, rfl⟩ (by decide) ?_
          intro v_666 h_664 q_665
          obtain ⟨rfl, rfl⟩ := q_665
          show Go _ _ _ _ 4 16 129 _ [(.int 1)]
          refine iS C at_129 (#[iV p0, iV p1, iV p2, iV p3, iV p4, iV p5, iV 3, iV r0, iV r1, iV r2, iV r3, iV r4, aV a_456, aV a_495, iV 1, uV, uV]) rfl <| aL C ((.ref a_495)) at_131 rfl rfl <| iL C 1 at_133 rfl <| iL C 3 at_135 rfl <| iC C 3 at_137 rfl <| iL C r3 at_138 rfl <| cS C hw 38 39 2 40 rfl rfl rfl rfl (rm_noteN_0 hw a_495 1 3 3 r3 h_630 f_663 (by decide)) [] [(.ref a_495), (.int 1), (.int 3), (.int 3), (.int r3)] pd_19 0 at_140 ⟨rfl, rfl, rfl, rfl, rfl⟩ (by decide) ?_
          intro v_670 h_668 q_669
          obtain ⟨rfl, rfl⟩ := q_669
          show Go _ _ _ _ 4 16 143 _ [(.int 1)]
          refine iS C at_143 (#[iV p0, iV p1, iV p2, iV p3, iV p4, iV p5, iV 3, iV r0, iV r1, iV r2, iV r3, iV r4, aV a_456, aV a_495, iV 1, uV, uV]) rfl <| aL C ((.ref a_495)) at_145 rfl rfl <| iL C 1 at_147 rfl <| iL C 3 at_149 rfl <| iC C 4 at_151 rfl <| iL C r4 at_152 rfl <| cS C hw 38 39 2 40 rfl rfl rfl rfl (rm_noteN_0 hw a_495 1 3 4 r4 h_630 f_663 (by decide)) [] [(.ref a_495), (.int 1), (.int 3), (.int 4), (.int r4)] pd_19 0 at_154 ⟨rfl, rfl, rfl, rfl, rfl⟩ (by decide) ?_
          intro v_674 h_672 q_673
          obtain ⟨rfl, rfl⟩ := q_673
          show Go _ _ _ _ 4 16 157 _ [(.int 1)]
          refine iS C at_157 (#[iV p0, iV p1, iV p2, iV p3, iV p4, iV p5, iV 3, iV r0, iV r1, iV r2, iV r3, iV r4, aV a_456, aV a_495, iV 1, uV, uV]) rfl <| aL C ((.ref a_495)) at_159 rfl rfl <| iL C 1 at_161 rfl <| iL C 3 at_163 rfl <| yiastore C f_635 (by decide) (i := 1) (by decide) (show 1 < 6 by decide) (w := (.int 3)) rfl ge_a_495 at_165 ?_
          intro h_676 K_677 A_678
          have f_679 : Ary Z h_676 a_495 .int [(.int 1), (.int 3), (.int 0), (.int 0), (.int 0), (.int 0)] := A_678
          refine iL C 1 at_166 rfl <| iC C 1 at_168 rfl <| yiadd C at_169 <| eS [(.int 2)] rfl <| iS C at_170 (#[iV p0, iV p1, iV p2, iV p3, iV p4, iV p5, iV 3, iV r0, iV r1, iV r2, iV r3, iV r4, aV a_456, aV a_495, iV 1, iV 2, uV]) rfl ?_
          have f_680 := (((f_492.ext E_497).keep K_634).keep K_677)
          have f_681 := (((f_487.ext E_497).keep K_634 (ninS ne_499 nin0)).keep K_677 (ninS ne_499 nin0))
          have f_682 := (((f_488.ext E_497).keep K_634 (ninS ne_499 nin0)).keep K_677 (ninS ne_499 nin0))
          have f_683 := (((f_489.ext E_497).keep K_634 (ninS ne_501 nin0)).keep K_677 (ninS ne_501 nin0))
          have f_684 := (lT f_663 K_677.1)
          have f_685 := ((((f_474.keep K_484 (allS ge_a_456 all0)).ext E_497).keep K_634 (allS ge_a_495 all0)).keep K_677 (allS ge_a_495 all0))
          exact own_up (rm_tail_2 hw p0 p1 p2 p3 p4 p5 3 r0 r1 r2 r3 r4 a_456 a_495 1 3 0 0 0 0 h_676 f_684 f_685 f_679 (rm_split_2 hw a_456 1 3 h_676 f_684 f_685 f_680 (by decide) (fun h u v k => rm_sio1 hw a_456 1 h u (f_680.keep k) (rm_sioI_3_0_2 hw a_456 b_485 (bY r0) (bY r1) (bY r2) h u cm v (f_680.keep k) (f_681.keep k nin0) (f_682.keep k nin0) (f_683.keep k nin0) (own_by9 kr0 hb_505) (own_by9' hb_629))) (fun h u v k => rm_sioI_3_2_0 hw a_456 b_485 (bY r0) (bY r1) (bY r2) h u cm v (f_680.keep k) (f_681.keep k nin0) (f_682.keep k nin0) (f_683.keep k nin0) (own_by9 kr2 hb_636)) (fun h u v k => rm_length_3 hw a_456 b_485 (bY r0) (bY r1) (bY r2) h u cm v (f_680.keep k) (f_681.keep k nin0) (f_682.keep k nin0) (f_683.keep k nin0))) B C hW) (by decide) (by decide)
      · refine cS C hw 38 39 2 40 rfl rfl rfl rfl (rm_noteN_1 hw a_495 0 3 1 r1 h_494 f_624 (by decide) hb_629) [] [(.ref a_495), (.int 0), (.int 3), (.int 1), (.int r1)] pd_19 0 at_112 ⟨rfl, rfl, rfl, rfl, rfl⟩ (by decide) ?_
        intro v_688 h_686 q_687
        obtain ⟨rfl, rfl⟩ := q_687
        show Go _ _ _ _ 4 16 115 _ [(.int 0)]
        refine iS C at_115 (#[iV p0, iV p1, iV p2, iV p3, iV p4, iV p5, iV 3, iV r0, iV r1, iV r2, iV r3, iV r4, aV a_456, aV a_495, iV 0, uV, uV]) rfl <| aL C ((.ref a_495)) at_117 rfl rfl <| iL C 0 at_119 rfl <| iL C 3 at_121 rfl <| iC C 2 at_123 rfl <| iL C r2 at_124 rfl ?_
        by_cases hb_690 : r2 = 9
        · refine cS C hw 38 39 2 40 rfl rfl rfl rfl (rm_noteY_0 hw a_495 0 0 0 0 0 0 3 2 r2 h_494 f_624 f_504 ge_a_495 (by decide) hb_690) [] [(.ref a_495), (.int 0), (.int 3), (.int 2), (.int r2)] pd_19 0 at_126 ⟨rfl, rfl, rfl, rfl, rfl⟩ (by decide) ?_
          intro v_693 h_691 q_692
          obtain ⟨rfl, K_695, f_696⟩ := q_692
          show Go _ _ _ _ 4 16 129 _ [(.int 1)]
          refine iS C at_129 (#[iV p0, iV p1, iV p2, iV p3, iV p4, iV p5, iV 3, iV r0, iV r1, iV r2, iV r3, iV r4, aV a_456, aV a_495, iV 1, uV, uV]) rfl <| aL C ((.ref a_495)) at_131 rfl rfl <| iL C 1 at_133 rfl <| iL C 3 at_135 rfl <| iC C 3 at_137 rfl <| iL C r3 at_138 rfl ?_
          have f_697 := (lT f_624 K_695.1)
          refine cS C hw 38 39 2 40 rfl rfl rfl rfl (rm_noteN_0 hw a_495 1 3 3 r3 h_691 f_697 (by decide)) [] [(.ref a_495), (.int 1), (.int 3), (.int 3), (.int r3)] pd_19 0 at_140 ⟨rfl, rfl, rfl, rfl, rfl⟩ (by decide) ?_
          intro v_700 h_698 q_699
          obtain ⟨rfl, rfl⟩ := q_699
          show Go _ _ _ _ 4 16 143 _ [(.int 1)]
          refine iS C at_143 (#[iV p0, iV p1, iV p2, iV p3, iV p4, iV p5, iV 3, iV r0, iV r1, iV r2, iV r3, iV r4, aV a_456, aV a_495, iV 1, uV, uV]) rfl <| aL C ((.ref a_495)) at_145 rfl rfl <| iL C 1 at_147 rfl <| iL C 3 at_149 rfl <| iC C 4 at_151 rfl <| iL C r4 at_152 rfl <| cS C hw 38 39 2 40 rfl rfl rfl rfl (rm_noteN_0 hw a_495 1 3 4 r4 h_691 f_697 (by decide)) [] [(.ref a_495), (.int 1), (.int 3), (.int 4), (.int r4)] pd_19 0 at_154 ⟨rfl, rfl, rfl, rfl, rfl⟩ (by decide) ?_
          intro v_704 h_702 q_703
          obtain ⟨rfl, rfl⟩ := q_703
          show Go _ _ _ _ 4 16 157 _ [(.int 1)]
          refine iS C at_157 (#[iV p0, iV p1, iV p2, iV p3, iV p4, iV p5, iV 3, iV r0, iV r1, iV r2, iV r3, iV r4, aV a_456, aV a_495, iV 1, uV, uV]) rfl <| aL C ((.ref a_495)) at_159 rfl rfl <| iL C 1 at_161 rfl <| iL C 3 at_163 rfl <| yiastore C f_696 (by decide) (i := 1) (by decide) (show 1 < 6 by decide) (w := (.int 3)) rfl ge_a_495 at_165 ?_
          intro h_706 K_707 A_708
          have f_709 : Ary Z h_706 a_495 .int [(.int 2), (.int 3), (.int 0), (.int 0), (.int 0), (.int 0)] := A_708
          refine iL C 1 at_166 rfl <| iC C 1 at_168 rfl <| yiadd C at_169 <| eS [(.int 2)] rfl <| iS C at_170 (#[iV p0, iV p1, iV p2, iV p3, iV p4, iV p5, iV 3, iV r0, iV r1, iV r2, iV r3, iV r4, aV a_456, aV a_495, iV 1, iV 2, uV]) rfl ?_
          have f_710 := (((f_492.ext E_497).keep K_695).keep K_707)
          have f_711 := (((f_487.ext E_497).keep K_695 (ninS ne_499 nin0)).keep K_707 (ninS ne_499 nin0))
          have f_712 := (((f_488.ext E_497).keep K_695 (ninS ne_499 nin0)).keep K_707 (ninS ne_499 nin0))
          have f_713 := (((f_489.ext E_497).keep K_695 (ninS ne_501 nin0)).keep K_707 (ninS ne_501 nin0))
          have f_714 := (lT f_697 K_707.1)
          have f_715 := ((((f_474.keep K_484 (allS ge_a_456 all0)).ext E_497).keep K_695 (allS ge_a_495 all0)).keep K_707 (allS ge_a_495 all0))
          exact own_up (rm_tail_2 hw p0 p1 p2 p3 p4 p5 3 r0 r1 r2 r3 r4 a_456 a_495 2 3 0 0 0 0 h_706 f_714 f_715 f_709 (rm_split_2 hw a_456 2 3 h_706 f_714 f_715 f_710 (by decide) (fun h u v k => rm_sio1 hw a_456 2 h u (f_710.keep k) (rm_sioI_3_0_3 hw a_456 b_485 (bY r0) (bY r1) (bY r2) h u cm v (f_710.keep k) (f_711.keep k nin0) (f_712.keep k nin0) (f_713.keep k nin0) (own_by9 kr0 hb_505) (own_by9 kr1 hb_629) (own_by9' hb_690))) (fun h u v k => rm_sioI_3_3_0 hw a_456 b_485 (bY r0) (bY r1) (bY r2) h u cm v (f_710.keep k) (f_711.keep k nin0) (f_712.keep k nin0) (f_713.keep k nin0) ) (fun h u v k => rm_length_3 hw a_456 b_485 (bY r0) (bY r1) (bY r2) h u cm v (f_710.keep k) (f_711.keep k nin0) (f_712.keep k nin0) (f_713.keep k nin0))) B C hW) (by decide) (by decide)
        · refine cS C hw 38 39 2 40 rfl rfl rfl rfl (rm_noteN_1 hw a_495 0 3 2 r2 h_494 f_624 (by decide) hb_690) [] [(.ref a_495), (.int 0), (.int 3), (.int 2), (.int r2)] pd_19 0 at_126 ⟨rfl, rfl, rfl, rfl, rfl⟩ (by decide) ?_
          intro v_718 h_716 q_717
          obtain ⟨rfl, rfl⟩ := q_717
          show Go _ _ _ _ 4 16 129 _ [(.int 0)]
          refine iS C at_129 (#[iV p0, iV p1, iV p2, iV p3, iV p4, iV p5, iV 3, iV r0, iV r1, iV r2, iV r3, iV r4, aV a_456, aV a_495, iV 0, uV, uV]) rfl <| aL C ((.ref a_495)) at_131 rfl rfl <| iL C 0 at_133 rfl <| iL C 3 at_135 rfl <| iC C 3 at_137 rfl <| iL C r3 at_138 rfl <| cS C hw 38 39 2 40 rfl rfl rfl rfl (rm_noteN_0 hw a_495 0 3 3 r3 h_494 f_624 (by decide)) [] [(.ref a_495), (.int 0), (.int 3), (.int 3), (.int r3)] pd_19 0 at_140 ⟨rfl, rfl, rfl, rfl, rfl⟩ (by decide) ?_
          intro v_722 h_720 q_721
          obtain ⟨rfl, rfl⟩ := q_721
          show Go _ _ _ _ 4 16 143 _ [(.int 0)]
          refine iS C at_143 (#[iV p0, iV p1, iV p2, iV p3, iV p4, iV p5, iV 3, iV r0, iV r1, iV r2, iV r3, iV r4, aV a_456, aV a_495, iV 0, uV, uV]) rfl <| aL C ((.ref a_495)) at_145 rfl rfl <| iL C 0 at_147 rfl <| iL C 3 at_149 rfl <| iC C 4 at_151 rfl <| iL C r4 at_152 rfl <| cS C hw 38 39 2 40 rfl rfl rfl rfl (rm_noteN_0 hw a_495 0 3 4 r4 h_494 f_624 (by decide)) [] [(.ref a_495), (.int 0), (.int 3), (.int 4), (.int r4)] pd_19 0 at_154 ⟨rfl, rfl, rfl, rfl, rfl⟩ (by decide) ?_
          intro v_726 h_724 q_725
          obtain ⟨rfl, rfl⟩ := q_725
          show Go _ _ _ _ 4 16 157 _ [(.int 0)]
          refine iS C at_157 (#[iV p0, iV p1, iV p2, iV p3, iV p4, iV p5, iV 3, iV r0, iV r1, iV r2, iV r3, iV r4, aV a_456, aV a_495, iV 0, uV, uV]) rfl <| aL C ((.ref a_495)) at_159 rfl rfl <| iL C 0 at_161 rfl <| iL C 3 at_163 rfl <| yiastore C f_504 (by decide) (i := 0) (by decide) (show 0 < 6 by decide) (w := (.int 3)) rfl ge_a_495 at_165 ?_
          intro h_728 K_729 A_730
          have f_731 : Ary Z h_728 a_495 .int [(.int 3), (.int 0), (.int 0), (.int 0), (.int 0), (.int 0)] := A_730
          refine iL C 0 at_166 rfl <| iC C 1 at_168 rfl <| yiadd C at_169 <| eS [(.int 1)] rfl <| iS C at_170 (#[iV p0, iV p1, iV p2, iV p3, iV p4, iV p5, iV 3, iV r0, iV r1, iV r2, iV r3, iV r4, aV a_456, aV a_495, iV 0, iV 1, uV]) rfl ?_
          have f_732 := ((f_492.ext E_497).keep K_729)
          have f_733 := ((f_487.ext E_497).keep K_729 (ninS ne_499 nin0))
          have f_734 := ((f_488.ext E_497).keep K_729 (ninS ne_499 nin0))
          have f_735 := ((f_489.ext E_497).keep K_729 (ninS ne_501 nin0))
          have f_736 := (lT f_624 K_729.1)
          have f_737 := (((f_474.keep K_484 (allS ge_a_456 all0)).ext E_497).keep K_729 (allS ge_a_495 all0))
          exact own_up (rm_tail_1 hw p0 p1 p2 p3 p4 p5 3 r0 r1 r2 r3 r4 a_456 a_495 3 0 0 0 0 0 h_728 f_736 f_737 f_731 (rm_split_1 hw a_456 3 h_728 f_736 f_737 f_732  (fun h u v k => rm_sio1 hw a_456 (-1 : Int32) h u (f_732.keep k) (rm_sioI_3_0_0 hw a_456 b_485 (bY r0) (bY r1) (bY r2) h u cm v (f_732.keep k) (f_733.keep k nin0) (f_734.keep k nin0) (f_735.keep k nin0) (own_by9 kr0 hb_505) (own_by9 kr1 hb_629) (own_by9 kr2 hb_690))) (fun h u v k => rm_length_3 hw a_456 b_485 (bY r0) (bY r1) (bY r2) h u cm v (f_732.keep k) (f_733.keep k nin0) (f_734.keep k nin0) (f_735.keep k nin0))) B C hW) (by decide) (by decide)
  · subst i_1e
    show Go _ _ _ _ 0 0 8 _ [(.int 4)]
    refine iS C at_8 (#[iV p0, iV p1, iV p2, iV p3, iV p4, iV p5, iV 4, uV, uV, uV, uV, uV, uV, uV, uV, uV, uV]) rfl <| iN C p0 at_10 rfl <| iL C p5 at_11 rfl <| iC C 0 at_13 rfl <| cS C hw 0 1 2 3 rfl rfl rfl rfl (rm_ch hw p0 p5 0 h0 Z0 ) [] [(.int p0), (.int p5), (.int 0)] pd_24 0 at_14 ⟨rfl, rfl, rfl, rfl, rfl⟩ (by decide) ?_
    intro v_740 h_738 q_739
    obtain ⟨r0, rfl, kr0, rfl⟩ := q_739
    show Go _ _ _ _ 0 0 17 _ [(.int r0)]
    refine iS C at_17 (#[iV p0, iV p1, iV p2, iV p3, iV p4, iV p5, iV 4, iV r0, uV, uV, uV, uV, uV, uV, uV, uV, uV]) rfl <| iN C p1 at_19 rfl <| iL C p5 at_20 rfl <| iC C 1 at_22 rfl <| cS C hw 0 1 2 3 rfl rfl rfl rfl (rm_ch hw p1 p5 1 h0 Z0 ) [] [(.int p1), (.int p5), (.int 1)] pd_24 0 at_23 ⟨rfl, rfl, rfl, rfl, rfl⟩ (by decide) ?_
    intro v_744 h_742 q_743
    obtain ⟨r1, rfl, kr1, rfl⟩ := q_743
    show Go _ _ _ _ 0 0 26 _ [(.int r1)]
    refine iS C at_26 (#[iV p0, iV p1, iV p2, iV p3, iV p4, iV p5, iV 4, iV r0, iV r1, uV, uV, uV, uV, uV, uV, uV, uV]) rfl <| iN C p2 at_28 rfl <| iL C p5 at_29 rfl <| iC C 2 at_31 rfl <| cS C hw 0 1 2 3 rfl rfl rfl rfl (rm_ch hw p2 p5 2 h0 Z0 ) [] [(.int p2), (.int p5), (.int 2)] pd_24 0 at_32 ⟨rfl, rfl, rfl, rfl, rfl⟩ (by decide) ?_
    intro v_748 h_746 q_747
    obtain ⟨r2, rfl, kr2, rfl⟩ := q_747
    show Go _ _ _ _ 0 0 35 _ [(.int r2)]
    refine iS C at_35 (#[iV p0, iV p1, iV p2, iV p3, iV p4, iV p5, iV 4, iV r0, iV r1, iV r2, uV, uV, uV, uV, uV, uV, uV]) rfl <| iN C p3 at_37 rfl <| iL C p5 at_38 rfl <| iC C 3 at_40 rfl <| cS C hw 0 1 2 3 rfl rfl rfl rfl (rm_ch hw p3 p5 3 h0 Z0 ) [] [(.int p3), (.int p5), (.int 3)] pd_24 0 at_41 ⟨rfl, rfl, rfl, rfl, rfl⟩ (by decide) ?_
    intro v_752 h_750 q_751
    obtain ⟨r3, rfl, kr3, rfl⟩ := q_751
    show Go _ _ _ _ 0 0 44 _ [(.int r3)]
    refine iS C at_44 (#[iV p0, iV p1, iV p2, iV p3, iV p4, iV p5, iV 4, iV r0, iV r1, iV r2, iV r3, uV, uV, uV, uV, uV, uV]) rfl <| iL C p4 at_46 rfl <| iL C p5 at_48 rfl <| iC C 4 at_50 rfl <| cS C hw 0 1 2 3 rfl rfl rfl rfl (rm_ch hw p4 p5 4 h0 Z0 ) [] [(.int p4), (.int p5), (.int 4)] pd_24 0 at_51 ⟨rfl, rfl, rfl, rfl, rfl⟩ (by decide) ?_
    intro v_756 h_754 q_755
    obtain ⟨r4, rfl, kr4, rfl⟩ := q_755
    show Go _ _ _ _ 0 0 54 _ [(.int r4)]
    refine iS C at_54 (#[iV p0, iV p1, iV p2, iV p3, iV p4, iV p5, iV 4, iV r0, iV r1, iV r2, iV r3, iV r4, uV, uV, uV, uV, uV]) rfl <| ynew C (oW hw 4 rfl) (oW hw 5 rfl) (oW hw 6 rfl) (by decide) (by decide) at_56 ?_
    intro h_758 a_759 g_760 E_761 A_762 D_763
    have ge_a_759 : n0 ≤ a_759 := lT Z0 (lE g_760.symm)
    have gs_a_759 : h0.size ≤ a_759 := lT (Nat.le_refl h0.size) (lE g_760.symm)
    have f_764 : Fld Z h_758 a_759 "java/lang/String" "coder" "B" (.int 0) := D_763 (Or.inr (oW hw 34 rfl)) (ty := .byte) (by decide)
    have f_765 : Fld Z h_758 a_759 "java/lang/String" "value" "[B" .null := D_763 (Or.inr (oW hw 36 rfl)) (ty := (.array .byte)) (by decide)
    show Go _ _ _ _ 1 4 59 _ [(.ref a_759)]
    refine ydup C at_59 rfl <| iL C 4 at_60 rfl <| iL C r0 at_62 rfl <| iL C r1 at_64 rfl <| iL C r2 at_66 rfl <| iL C r3 at_68 rfl <| iL C r4 at_70 rfl ?_
    have f_766 := (lT Z0 E_761.1)
    have f_767 := (lT (Nat.le_refl h0.size) E_761.1)
    refine cS C hw 7 8 2 9 rfl rfl rfl rfl (rm_chars_4 hw r0 r1 r2 r3 r4 h_758 f_766 kr0 kr1 kr2 kr3 kr4) [(.ref a_759), (.ref a_759)] [(.int 4), (.int r0), (.int r1), (.int r2), (.int r3), (.int r4)] pd_20 2 at_72 ⟨rfl, rfl, rfl, rfl, rfl⟩ (by decide) ?_
    intro v_770 h_768 q_769
    obtain ⟨b_772, rfl, le_773, K_774, f_775⟩ := q_769
    have ne_776 : a_759 ≠ b_772 := ne_ge A_762.lt le_773
    have ge_b_772 : n0 ≤ b_772 := lT f_766 le_773
    have gs_b_772 : h0.size ≤ b_772 := lT f_767 le_773
    show Go _ _ _ _ 2 8 75 _ [(.ref b_772), (.ref a_759), (.ref a_759)]
    have f_777 := ((O.ext E_761).keep K_774 all0)
    have f_778 := (A_762.keep K_774)
    have f_779 := (f_765.keep K_774 nin0)
    have f_780 := (f_764.keep K_774 nin0)
    have f_781 := (lT f_766 K_774.1)
    have f_782 := (lT f_767 K_774.1)
    refine cP C hw 11 12 6 13 rfl rfl rfl rfl rfl (rm_init1_4 hw a_759 b_772 r0 r1 r2 r3 h_768 f_781 cm f_777 f_778 f_779 f_780 ge_a_759 f_775 ne_776 kr0 kr1 kr2 kr3) [(.ref a_759)] [(.ref b_772)] pd_16 1 at_75 ⟨rfl, rfl, rfl, rfl, rfl⟩ (by decide) ?_
    intro v_785 h_783 q_784
    obtain ⟨rfl, K_787, b_788, le_789, f_790, f_791, f_792⟩ := q_784
    have ne_793 : a_759 ≠ b_788 := ne_ge f_778.lt le_789
    have ne_794 : b_772 ≠ b_788 := ne_ge f_775.lt le_789
    have ge_b_788 : n0 ≤ b_788 := lT f_781 le_789
    have gs_b_788 : h0.size ≤ b_788 := lT f_782 le_789
    show Go _ _ _ _ 3 12 78 _ [(.ref a_759)]
    refine aS C at_78 (#[iV p0, iV p1, iV p2, iV p3, iV p4, iV p5, iV 4, iV r0, iV r1, iV r2, iV r3, iV r4, aV a_759, uV, uV, uV, uV]) rfl rfl <| iB C 6 at_80 rfl ?_
    have f_795 := (f_778.keep K_787)
    have f_796 := (f_775.keep K_787 (ninS (Ne.symm ne_776) nin0))
    refine ynewarray C (oW hw 37 rfl) (ty := .int) rfl (by decide) (cap := 6) (by decide) (by decide) (by decide) (by decide) at_82 ?_
    intro h_797 a_798 g_799 E_800 A_801
    have ne_802 : a_759 ≠ a_798 := ne_new f_795.lt g_799
    have ne_803 : b_772 ≠ a_798 := ne_new f_796.lt g_799
    have ne_804 : b_788 ≠ a_798 := ne_new f_792.lt g_799
    have f_805 := (lT f_781 K_787.1)
    have ge_a_798 : n0 ≤ a_798 := lT f_805 (lE g_799.symm)
    have f_806 := (lT f_782 K_787.1)
    have gs_a_798 : h0.size ≤ a_798 := lT f_806 (lE g_799.symm)
    have f_807 : Ary Z h_797 a_798 .int [(.int 0), (.int 0), (.int 0), (.int 0), (.int 0), (.int 0)] := A_801
    show Go _ _ _ _ 4 18 84 _ [(.ref a_798)]
    refine aS C at_84 (#[iV p0, iV p1, iV p2, iV p3, iV p4, iV p5, iV 4, iV r0, iV r1, iV r2, iV r3, iV r4, aV a_759, aV a_798, uV, uV, uV]) rfl rfl <| iC C 0 at_86 rfl <| iS C at_87 (#[iV p0, iV p1, iV p2, iV p3, iV p4, iV p5, iV 4, iV r0, iV r1, iV r2, iV r3, iV r4, aV a_759, aV a_798, iV 0, uV, uV]) rfl <| aL C ((.ref a_798)) at_89 rfl rfl <| iL C 0 at_91 rfl <| iL C 4 at_93 rfl <| iC C 0 at_95 rfl <| iL C r0 at_96 rfl ?_
    by_cases hb_808 : r0 = 9
    · have f_809 := (lT f_805 E_800.1)
      refine cS C hw 38 39 2 40 rfl rfl rfl rfl (rm_noteY_0 hw a_798 0 0 0 0 0 0 4 0 r0 h_797 f_809 f_807 ge_a_798 (by decide) hb_808) [] [(.ref a_798), (.int 0), (.int 4), (.int 0), (.int r0)] pd_19 0 at_98 ⟨rfl, rfl, rfl, rfl, rfl⟩ (by decide) ?_
      intro v_812 h_810 q_811
      obtain ⟨rfl, K_814, f_815⟩ := q_811
      show Go _ _ _ _ 4 18 101 _ [(.int 1)]
      refine iS C at_101 (#[iV p0, iV p1, iV p2, iV p3, iV p4, iV p5, iV 4, iV r0, iV r1, iV r2, iV r3, iV r4, aV a_759, aV a_798, iV 1, uV, uV]) rfl <| aL C ((.ref a_798)) at_103 rfl rfl <| iL C 1 at_105 rfl <| iL C 4 at_107 rfl <| iC C 1 at_109 rfl <| iL C r1 at_110 rfl ?_
      by_cases hb_816 : r1 = 9
      · have f_817 := (lT f_809 K_814.1)
        refine cS C hw 38 39 2 40 rfl rfl rfl rfl (rm_noteY_1 hw a_798 0 0 0 0 0 0 4 1 r1 h_810 f_817 f_815 ge_a_798 (by decide) hb_816) [] [(.ref a_798), (.int 1), (.int 4), (.int 1), (.int r1)] pd_19 0 at_112 ⟨rfl, rfl, rfl, rfl, rfl⟩ (by decide) ?_
        intro v_820 h_818 q_819
        obtain ⟨rfl, K_822, f_823⟩ := q_819
        show Go _ _ _ _ 4 18 115 _ [(.int 2)]
        refine iS C at_115 (#[iV p0, iV p1, iV p2, iV p3, iV p4, iV p5, iV 4, iV r0, iV r1, iV r2, iV r3, iV r4, aV a_759, aV a_798, iV 2, uV, uV]) rfl <| aL C ((.ref a_798)) at_117 rfl rfl <| iL C 2 at_119 rfl <| iL C 4 at_121 rfl <| iC C 2 at_123 rfl <| iL C r2 at_124 rfl ?_
        by_cases hb_824 : r2 = 9
        · have f_825 := (lT f_817 K_822.1)
          refine cS C hw 38 39 2 40 rfl rfl rfl rfl (rm_noteY_2 hw a_798 0 1 0 0 0 0 4 2 r2 h_818 f_825 f_823 ge_a_798 (by decide) hb_824) [] [(.ref a_798), (.int 2), (.int 4), (.int 2), (.int r2)] pd_19 0 at_126 ⟨rfl, rfl, rfl, rfl, rfl⟩ (by decide) ?_
          intro v_828 h_826 q_827
          obtain ⟨rfl, K_830, f_831⟩ := q_827
          show Go _ _ _ _ 4 18 129 _ [(.int 3)]
          refine iS C at_129 (#[iV p0, iV p1, iV p2, iV p3, iV p4, iV p5, iV 4, iV r0, iV r1, iV r2, iV r3, iV r4, aV a_759, aV a_798, iV 3, uV, uV]) rfl <| aL C ((.ref a_798)) at_131 rfl rfl <| iL C 3 at_133 rfl <| iL C 4 at_135 rfl <| iC C 3 at_137 rfl <| iL C r3 at_138 rfl ?_
          by_cases hb_832 : r3 = 9
          · have f_833 := (lT f_825 K_830.1)
            refine cS C hw 38 39 2 40 rfl rfl rfl rfl (rm_noteY_3 hw a_798 0 1 2 0 0 0 4 3 r3 h_826 f_833 f_831 ge_a_798 (by decide) hb_832) [] [(.ref a_798), (.int 3), (.int 4), (.int 3), (.int r3)] pd_19 0 at_140 ⟨rfl, rfl, rfl, rfl, rfl⟩ (by decide) ?_
            intro v_836 h_834 q_835
            obtain ⟨rfl, K_838, f_839⟩ := q_835
            show Go _ _ _ _ 4 18 143 _ [(.int 4)]
            refine iS C at_143 (#[iV p0, iV p1, iV p2, iV p3, iV p4, iV p5, iV 4, iV r0, iV r1, iV r2, iV r3, iV r4, aV a_759, aV a_798, iV 4, uV, uV]) rfl <| aL C ((.ref a_798)) at_145 rfl rfl <| iL C 4 at_147 rfl <| iL C 4 at_149 rfl <| iC C 4 at_151 rfl <| iL C r4 at_152 rfl ?_
            have f_840 := (lT f_833 K_838.1)
            refine cS C hw 38 39 2 40 rfl rfl rfl rfl (rm_noteN_0 hw a_798 4 4 4 r4 h_834 f_840 (by decide)) [] [(.ref a_798), (.int 4), (.int 4), (.int 4), (.int r4)] pd_19 0 at_154 ⟨rfl, rfl, rfl, rfl, rfl⟩ (by decide) ?_
            intro v_843 h_841 q_842
            obtain ⟨rfl, rfl⟩ := q_842
            show Go _ _ _ _ 4 18 157 _ [(.int 4)]
            refine iS C at_157 (#[iV p0, iV p1, iV p2, iV p3, iV p4, iV p5, iV 4, iV r0, iV r1, iV r2, iV r3, iV r4, aV a_759, aV a_798, iV 4, uV, uV]) rfl <| aL C ((.ref a_798)) at_159 rfl rfl <| iL C 4 at_161 rfl <| iL C 4 at_163 rfl <| yiastore C f_839 (by decide) (i := 4) (by decide) (show 4 < 6 by decide) (w := (.int 4)) rfl ge_a_798 at_165 ?_
            intro h_845 K_846 A_847
            have f_848 : Ary Z h_845 a_798 .int [(.int 0), (.int 1), (.int 2), (.int 3), (.int 4), (.int 0)] := A_847
            refine iL C 4 at_166 rfl <| iC C 1 at_168 rfl <| yiadd C at_169 <| eS [(.int 5)] rfl <| iS C at_170 (#[iV p0, iV p1, iV p2, iV p3, iV p4, iV p5, iV 4, iV r0, iV r1, iV r2, iV r3, iV r4, aV a_759, aV a_798, iV 4, iV 5, uV]) rfl ?_
            have f_849 := ((((((f_795.ext E_800).keep K_814).keep K_822).keep K_830).keep K_838).keep K_846)
            have f_850 := ((((((f_790.ext E_800).keep K_814 (ninS ne_802 nin0)).keep K_822 (ninS ne_802 nin0)).keep K_830 (ninS ne_802 nin0)).keep K_838 (ninS ne_802 nin0)).keep K_846 (ninS ne_802 nin0))
            have f_851 := ((((((f_791.ext E_800).keep K_814 (ninS ne_802 nin0)).keep K_822 (ninS ne_802 nin0)).keep K_830 (ninS ne_802 nin0)).keep K_838 (ninS ne_802 nin0)).keep K_846 (ninS ne_802 nin0))
            have f_852 := ((((((f_792.ext E_800).keep K_814 (ninS ne_804 nin0)).keep K_822 (ninS ne_804 nin0)).keep K_830 (ninS ne_804 nin0)).keep K_838 (ninS ne_804 nin0)).keep K_846 (ninS ne_804 nin0))
            have f_853 := (lT f_840 K_846.1)
            have f_854 := (((((((f_777.keep K_787 (allS ge_a_759 all0)).ext E_800).keep K_814 (allS ge_a_798 all0)).keep K_822 (allS ge_a_798 all0)).keep K_830 (allS ge_a_798 all0)).keep K_838 (allS ge_a_798 all0)).keep K_846 (allS ge_a_798 all0))
            exact own_up (rm_tail_5 hw p0 p1 p2 p3 p4 p5 4 r0 r1 r2 r3 r4 a_759 a_798 0 1 2 3 4 0 h_845 f_853 f_854 f_848 (rm_split_5 hw a_759 0 1 2 3 4 h_845 f_853 f_854 f_849 (by decide) (by decide) (by decide) (by decide) (fun h u v k => rm_sio1 hw a_759 0 h u (f_849.keep k) (rm_sioI_4_0_1 hw a_759 b_788 (bY r0) (bY r1) (bY r2) (bY r3) h u cm v (f_849.keep k) (f_850.keep k nin0) (f_851.keep k nin0) (f_852.keep k nin0) (own_by9' hb_808))) (fun h u v k => rm_sioI_4_1_2 hw a_759 b_788 (bY r0) (bY r1) (bY r2) (bY r3) h u cm v (f_849.keep k) (f_850.keep k nin0) (f_851.keep k nin0) (f_852.keep k nin0) (own_by9' hb_816)) (fun h u v k => rm_sioI_4_2_3 hw a_759 b_788 (bY r0) (bY r1) (bY r2) (bY r3) h u cm v (f_849.keep k) (f_850.keep k nin0) (f_851.keep k nin0) (f_852.keep k nin0) (own_by9' hb_824)) (fun h u v k => rm_sioI_4_3_4 hw a_759 b_788 (bY r0) (bY r1) (bY r2) (bY r3) h u cm v (f_849.keep k) (f_850.keep k nin0) (f_851.keep k nin0) (f_852.keep k nin0) (own_by9' hb_832)) (fun h u v k => rm_sioI_4_4_0 hw a_759 b_788 (bY r0) (bY r1) (bY r2) (bY r3) h u cm v (f_849.keep k) (f_850.keep k nin0) (f_851.keep k nin0) (f_852.keep k nin0) ) (fun h u v k => rm_length_4 hw a_759 b_788 (bY r0) (bY r1) (bY r2) (bY r3) h u cm v (f_849.keep k) (f_850.keep k nin0) (f_851.keep k nin0) (f_852.keep k nin0))) B C hW) (by decide) (by decide)
          · have f_855 := (lT f_825 K_830.1)
            refine cS C hw 38 39 2 40 rfl rfl rfl rfl (rm_noteN_1 hw a_798 3 4 3 r3 h_826 f_855 (by decide) hb_832) [] [(.ref a_798), (.int 3), (.int 4), (.int 3), (.int r3)] pd_19 0 at_140 ⟨rfl, rfl, rfl, rfl, rfl⟩ (by decide) ?_
            intro v_858 h_856 q_857
            obtain ⟨rfl, rfl⟩ := q_857
            show Go _ _ _ _ 4 18 143 _ [(.int 3)]
            refine iS C at_143 (#[iV p0, iV p1, iV p2, iV p3, iV p4, iV p5, iV 4, iV r0, iV r1, iV r2, iV r3, iV r4, aV a_759, aV a_798, iV 3, uV, uV]) rfl <| aL C ((.ref a_798)) at_145 rfl rfl <| iL C 3 at_147 rfl <| iL C 4 at_149 rfl <| iC C 4 at_151 rfl <| iL C r4 at_152 rfl <| cS C hw 38 39 2 40 rfl rfl rfl rfl (rm_noteN_0 hw a_798 3 4 4 r4 h_826 f_855 (by decide)) [] [(.ref a_798), (.int 3), (.int 4), (.int 4), (.int r4)] pd_19 0 at_154 ⟨rfl, rfl, rfl, rfl, rfl⟩ (by decide) ?_
            intro v_862 h_860 q_861
            obtain ⟨rfl, rfl⟩ := q_861
            show Go _ _ _ _ 4 18 157 _ [(.int 3)]
            refine iS C at_157 (#[iV p0, iV p1, iV p2, iV p3, iV p4, iV p5, iV 4, iV r0, iV r1, iV r2, iV r3, iV r4, aV a_759, aV a_798, iV 3, uV, uV]) rfl <| aL C ((.ref a_798)) at_159 rfl rfl <| iL C 3 at_161 rfl <| iL C 4 at_163 rfl <| yiastore C f_831 (by decide) (i := 3) (by decide) (show 3 < 6 by decide) (w := (.int 4)) rfl ge_a_798 at_165 ?_
            intro h_864 K_865 A_866
            have f_867 : Ary Z h_864 a_798 .int [(.int 0), (.int 1), (.int 2), (.int 4), (.int 0), (.int 0)] := A_866
            refine iL C 3 at_166 rfl <| iC C 1 at_168 rfl <| yiadd C at_169 <| eS [(.int 4)] rfl <| iS C at_170 (#[iV p0, iV p1, iV p2, iV p3, iV p4, iV p5, iV 4, iV r0, iV r1, iV r2, iV r3, iV r4, aV a_759, aV a_798, iV 3, iV 4, uV]) rfl ?_
            have f_868 := (((((f_795.ext E_800).keep K_814).keep K_822).keep K_830).keep K_865)
            have f_869 := (((((f_790.ext E_800).keep K_814 (ninS ne_802 nin0)).keep K_822 (ninS ne_802 nin0)).keep K_830 (ninS ne_802 nin0)).keep K_865 (ninS ne_802 nin0))
            have f_870 := (((((f_791.ext E_800).keep K_814 (ninS ne_802 nin0)).keep K_822 (ninS ne_802 nin0)).keep K_830 (ninS ne_802 nin0)).keep K_865 (ninS ne_802 nin0))
            have f_871 := (((((f_792.ext E_800).keep K_814 (ninS ne_804 nin0)).keep K_822 (ninS ne_804 nin0)).keep K_830 (ninS ne_804 nin0)).keep K_865 (ninS ne_804 nin0))
            have f_872 := (lT f_855 K_865.1)
            have f_873 := ((((((f_777.keep K_787 (allS ge_a_759 all0)).ext E_800).keep K_814 (allS ge_a_798 all0)).keep K_822 (allS ge_a_798 all0)).keep K_830 (allS ge_a_798 all0)).keep K_865 (allS ge_a_798 all0))
            exact own_up (rm_tail_4 hw p0 p1 p2 p3 p4 p5 4 r0 r1 r2 r3 r4 a_759 a_798 0 1 2 4 0 0 h_864 f_872 f_873 f_867 (rm_split_4 hw a_759 0 1 2 4 h_864 f_872 f_873 f_868 (by decide) (by decide) (by decide) (fun h u v k => rm_sio1 hw a_759 0 h u (f_868.keep k) (rm_sioI_4_0_1 hw a_759 b_788 (bY r0) (bY r1) (bY r2) (bY r3) h u cm v (f_868.keep k) (f_869.keep k nin0) (f_870.keep k nin0) (f_871.keep k nin0) (own_by9' hb_808))) (fun h u v k => rm_sioI_4_1_2 hw a_759 b_788 (bY r0) (bY r1) (bY r2) (bY r3) h u cm v (f_868.keep k) (f_869.keep k nin0) (f_870.keep k nin0) (f_871.keep k nin0) (own_by9' hb_816)) (fun h u v k => rm_sioI_4_2_3 hw a_759 b_788 (bY r0) (bY r1) (bY r2) (bY r3) h u cm v (f_868.keep k) (f_869.keep k nin0) (f_870.keep k nin0) (f_871.keep k nin0) (own_by9' hb_824)) (fun h u v k => rm_sioI_4_3_0 hw a_759 b_788 (bY r0) (bY r1) (bY r2) (bY r3) h u cm v (f_868.keep k) (f_869.keep k nin0) (f_870.keep k nin0) (f_871.keep k nin0) (own_by9 kr3 hb_832)) (fun h u v k => rm_length_4 hw a_759 b_788 (bY r0) (bY r1) (bY r2) (bY r3) h u cm v (f_868.keep k) (f_869.keep k nin0) (f_870.keep k nin0) (f_871.keep k nin0))) B C hW) (by decide) (by decide)
        · have f_874 := (lT f_817 K_822.1)
          refine cS C hw 38 39 2 40 rfl rfl rfl rfl (rm_noteN_1 hw a_798 2 4 2 r2 h_818 f_874 (by decide) hb_824) [] [(.ref a_798), (.int 2), (.int 4), (.int 2), (.int r2)] pd_19 0 at_126 ⟨rfl, rfl, rfl, rfl, rfl⟩ (by decide) ?_
          intro v_877 h_875 q_876
          obtain ⟨rfl, rfl⟩ := q_876
          show Go _ _ _ _ 4 18 129 _ [(.int 2)]
          refine iS C at_129 (#[iV p0, iV p1, iV p2, iV p3, iV p4, iV p5, iV 4, iV r0, iV r1, iV r2, iV r3, iV r4, aV a_759, aV a_798, iV 2, uV, uV]) rfl <| aL C ((.ref a_798)) at_131 rfl rfl <| iL C 2 at_133 rfl <| iL C 4 at_135 rfl <| iC C 3 at_137 rfl <| iL C r3 at_138 rfl ?_
          by_cases hb_879 : r3 = 9
          · refine cS C hw 38 39 2 40 rfl rfl rfl rfl (rm_noteY_2 hw a_798 0 1 0 0 0 0 4 3 r3 h_818 f_874 f_823 ge_a_798 (by decide) hb_879) [] [(.ref a_798), (.int 2), (.int 4), (.int 3), (.int r3)] pd_19 0 at_140 ⟨rfl, rfl, rfl, rfl, rfl⟩ (by decide) ?_
            intro v_882 h_880 q_881
            obtain ⟨rfl, K_884, f_885⟩ := q_881
            show Go _ _ _ _ 4 18 143 _ [(.int 3)]
            refine iS C at_143 (#[iV p0, iV p1, iV p2, iV p3, iV p4, iV p5, iV 4, iV r0, iV r1, iV r2, iV r3, iV r4, aV a_759, aV a_798, iV 3, uV, uV]) rfl <| aL C ((.ref a_798)) at_145 rfl rfl <| iL C 3 at_147 rfl <| iL C 4 at_149 rfl <| iC C 4 at_151 rfl <| iL C r4 at_152 rfl ?_
            have f_886 := (lT f_874 K_884.1)
            refine cS C hw 38 39 2 40 rfl rfl rfl rfl (rm_noteN_0 hw a_798 3 4 4 r4 h_880 f_886 (by decide)) [] [(.ref a_798), (.int 3), (.int 4), (.int 4), (.int r4)] pd_19 0 at_154 ⟨rfl, rfl, rfl, rfl, rfl⟩ (by decide) ?_
            intro v_889 h_887 q_888
            obtain ⟨rfl, rfl⟩ := q_888
            show Go _ _ _ _ 4 18 157 _ [(.int 3)]
            refine iS C at_157 (#[iV p0, iV p1, iV p2, iV p3, iV p4, iV p5, iV 4, iV r0, iV r1, iV r2, iV r3, iV r4, aV a_759, aV a_798, iV 3, uV, uV]) rfl <| aL C ((.ref a_798)) at_159 rfl rfl <| iL C 3 at_161 rfl <| iL C 4 at_163 rfl <| yiastore C f_885 (by decide) (i := 3) (by decide) (show 3 < 6 by decide) (w := (.int 4)) rfl ge_a_798 at_165 ?_
            intro h_891 K_892 A_893
            have f_894 : Ary Z h_891 a_798 .int [(.int 0), (.int 1), (.int 3), (.int 4), (.int 0), (.int 0)] := A_893
            refine iL C 3 at_166 rfl <| iC C 1 at_168 rfl <| yiadd C at_169 <| eS [(.int 4)] rfl <| iS C at_170 (#[iV p0, iV p1, iV p2, iV p3, iV p4, iV p5, iV 4, iV r0, iV r1, iV r2, iV r3, iV r4, aV a_759, aV a_798, iV 3, iV 4, uV]) rfl ?_
            have f_895 := (((((f_795.ext E_800).keep K_814).keep K_822).keep K_884).keep K_892)
            have f_896 := (((((f_790.ext E_800).keep K_814 (ninS ne_802 nin0)).keep K_822 (ninS ne_802 nin0)).keep K_884 (ninS ne_802 nin0)).keep K_892 (ninS ne_802 nin0))
            have f_897 := (((((f_791.ext E_800).keep K_814 (ninS ne_802 nin0)).keep K_822 (ninS ne_802 nin0)).keep K_884 (ninS ne_802 nin0)).keep K_892 (ninS ne_802 nin0))
            have f_898 := (((((f_792.ext E_800).keep K_814 (ninS ne_804 nin0)).keep K_822 (ninS ne_804 nin0)).keep K_884 (ninS ne_804 nin0)).keep K_892 (ninS ne_804 nin0))
            have f_899 := (lT f_886 K_892.1)
            have f_900 := ((((((f_777.keep K_787 (allS ge_a_759 all0)).ext E_800).keep K_814 (allS ge_a_798 all0)).keep K_822 (allS ge_a_798 all0)).keep K_884 (allS ge_a_798 all0)).keep K_892 (allS ge_a_798 all0))
            exact own_up (rm_tail_4 hw p0 p1 p2 p3 p4 p5 4 r0 r1 r2 r3 r4 a_759 a_798 0 1 3 4 0 0 h_891 f_899 f_900 f_894 (rm_split_4 hw a_759 0 1 3 4 h_891 f_899 f_900 f_895 (by decide) (by decide) (by decide) (fun h u v k => rm_sio1 hw a_759 0 h u (f_895.keep k) (rm_sioI_4_0_1 hw a_759 b_788 (bY r0) (bY r1) (bY r2) (bY r3) h u cm v (f_895.keep k) (f_896.keep k nin0) (f_897.keep k nin0) (f_898.keep k nin0) (own_by9' hb_808))) (fun h u v k => rm_sioI_4_1_2 hw a_759 b_788 (bY r0) (bY r1) (bY r2) (bY r3) h u cm v (f_895.keep k) (f_896.keep k nin0) (f_897.keep k nin0) (f_898.keep k nin0) (own_by9' hb_816)) (fun h u v k => rm_sioI_4_2_4 hw a_759 b_788 (bY r0) (bY r1) (bY r2) (bY r3) h u cm v (f_895.keep k) (f_896.keep k nin0) (f_897.keep k nin0) (f_898.keep k nin0) (own_by9 kr2 hb_824) (own_by9' hb_879)) (fun h u v k => rm_sioI_4_4_0 hw a_759 b_788 (bY r0) (bY r1) (bY r2) (bY r3) h u cm v (f_895.keep k) (f_896.keep k nin0) (f_897.keep k nin0) (f_898.keep k nin0) ) (fun h u v k => rm_length_4 hw a_759 b_788 (bY r0) (bY r1) (bY r2) (bY r3) h u cm v (f_895.keep k) (f_896.keep k nin0) (f_897.keep k nin0) (f_898.keep k nin0))) B C hW) (by decide) (by decide)
          · refine cS C hw 38 39 2 40 rfl rfl rfl rfl (rm_noteN_1 hw a_798 2 4 3 r3 h_818 f_874 (by decide) hb_879) [] [(.ref a_798), (.int 2), (.int 4), (.int 3), (.int r3)] pd_19 0 at_140 ⟨rfl, rfl, rfl, rfl, rfl⟩ (by decide) ?_
            intro v_903 h_901 q_902
            obtain ⟨rfl, rfl⟩ := q_902
            show Go _ _ _ _ 4 18 143 _ [(.int 2)]
            refine iS C at_143 (#[iV p0, iV p1, iV p2, iV p3, iV p4, iV p5, iV 4, iV r0, iV r1, iV r2, iV r3, iV r4, aV a_759, aV a_798, iV 2, uV, uV]) rfl <| aL C ((.ref a_798)) at_145 rfl rfl <| iL C 2 at_147 rfl <| iL C 4 at_149 rfl <| iC C 4 at_151 rfl <| iL C r4 at_152 rfl <| cS C hw 38 39 2 40 rfl rfl rfl rfl (rm_noteN_0 hw a_798 2 4 4 r4 h_818 f_874 (by decide)) [] [(.ref a_798), (.int 2), (.int 4), (.int 4), (.int r4)] pd_19 0 at_154 ⟨rfl, rfl, rfl, rfl, rfl⟩ (by decide) ?_
            intro v_907 h_905 q_906
            obtain ⟨rfl, rfl⟩ := q_906
            show Go _ _ _ _ 4 18 157 _ [(.int 2)]
            refine iS C at_157 (#[iV p0, iV p1, iV p2, iV p3, iV p4, iV p5, iV 4, iV r0, iV r1, iV r2, iV r3, iV r4, aV a_759, aV a_798, iV 2, uV, uV]) rfl <| aL C ((.ref a_798)) at_159 rfl rfl <| iL C 2 at_161 rfl <| iL C 4 at_163 rfl <| yiastore C f_823 (by decide) (i := 2) (by decide) (show 2 < 6 by decide) (w := (.int 4)) rfl ge_a_798 at_165 ?_
            intro h_909 K_910 A_911
            have f_912 : Ary Z h_909 a_798 .int [(.int 0), (.int 1), (.int 4), (.int 0), (.int 0), (.int 0)] := A_911
            refine iL C 2 at_166 rfl <| iC C 1 at_168 rfl <| yiadd C at_169 <| eS [(.int 3)] rfl <| iS C at_170 (#[iV p0, iV p1, iV p2, iV p3, iV p4, iV p5, iV 4, iV r0, iV r1, iV r2, iV r3, iV r4, aV a_759, aV a_798, iV 2, iV 3, uV]) rfl ?_
            have f_913 := ((((f_795.ext E_800).keep K_814).keep K_822).keep K_910)
            have f_914 := ((((f_790.ext E_800).keep K_814 (ninS ne_802 nin0)).keep K_822 (ninS ne_802 nin0)).keep K_910 (ninS ne_802 nin0))
            have f_915 := ((((f_791.ext E_800).keep K_814 (ninS ne_802 nin0)).keep K_822 (ninS ne_802 nin0)).keep K_910 (ninS ne_802 nin0))
            have f_916 := ((((f_792.ext E_800).keep K_814 (ninS ne_804 nin0)).keep K_822 (ninS ne_804 nin0)).keep K_910 (ninS ne_804 nin0))
            have f_917 := (lT f_874 K_910.1)
            have f_918 := (((((f_777.keep K_787 (allS ge_a_759 all0)).ext E_800).keep K_814 (allS ge_a_798 all0)).keep K_822 (allS ge_a_798 all0)).keep K_910 (allS ge_a_798 all0))
            exact own_up (rm_tail_3 hw p0 p1 p2 p3 p4 p5 4 r0 r1 r2 r3 r4 a_759 a_798 0 1 4 0 0 0 h_909 f_917 f_918 f_912 (rm_split_3 hw a_759 0 1 4 h_909 f_917 f_918 f_913 (by decide) (by decide) (fun h u v k => rm_sio1 hw a_759 0 h u (f_913.keep k) (rm_sioI_4_0_1 hw a_759 b_788 (bY r0) (bY r1) (bY r2) (bY r3) h u cm v (f_913.keep k) (f_914.keep k nin0) (f_915.keep k nin0) (f_916.keep k nin0) (own_by9' hb_808))) (fun h u v k => rm_sioI_4_1_2 hw a_759 b_788 (bY r0) (bY r1) (bY r2) (bY r3) h u cm v (f_913.keep k) (f_914.keep k nin0) (f_915.keep k nin0) (f_916.keep k nin0) (own_by9' hb_816)) (fun h u v k => rm_sioI_4_2_0 hw a_759 b_788 (bY r0) (bY r1) (bY r2) (bY r3) h u cm v (f_913.keep k) (f_914.keep k nin0) (f_915.keep k nin0) (f_916.keep k nin0) (own_by9 kr2 hb_824) (own_by9 kr3 hb_879)) (fun h u v k => rm_length_4 hw a_759 b_788 (bY r0) (bY r1) (bY r2) (bY r3) h u cm v (f_913.keep k) (f_914.keep k nin0) (f_915.keep k nin0) (f_916.keep k nin0))) B C hW) (by decide) (by decide)
      · have f_919 := (lT f_809 K_814.1)
        refine cS C hw 38 39 2 40 rfl rfl rfl rfl (rm_noteN_1 hw a_798 1 4 1 r1 h_810 f_919 (by decide) hb_816) [] [(.ref a_798), (.int 1), (.int 4), (.int 1), (.int r1)] pd_19 0 at_112 ⟨rfl, rfl, rfl, rfl, rfl⟩ (by decide) ?_
        intro v_922 h_920 q_921
        obtain ⟨rfl, rfl⟩ := q_921
        show Go _ _ _ _ 4 18 115 _ [(.int 1)]
        refine iS C at_115 (#[iV p0, iV p1, iV p2, iV p3, iV p4, iV p5, iV 4, iV r0, iV r1, iV r2, iV r3, iV r4, aV a_759, aV a_798, iV 1, uV, uV]) rfl <| aL C ((.ref a_798)) at_117 rfl rfl <| iL C 1 at_119 rfl <| iL C 4 at_121 rfl <| iC C 2 at_123 rfl <| iL C r2 at_124 rfl ?_
        by_cases hb_924 : r2 = 9
        · refine cS C hw 38 39 2 40 rfl rfl rfl rfl (rm_noteY_1 hw a_798 0 0 0 0 0 0 4 2 r2 h_810 f_919 f_815 ge_a_798 (by decide) hb_924) [] [(.ref a_798), (.int 1), (.int 4), (.int 2), (.int r2)] pd_19 0 at_126 ⟨rfl, rfl, rfl, rfl, rfl⟩ (by decide) ?_
          intro v_927 h_925 q_926
          obtain ⟨rfl, K_929, f_930⟩ := q_926
          show Go _ _ _ _ 4 18 129 _ [(.int 2)]
          refine iS C at_129 (#[iV p0, iV p1, iV p2, iV p3, iV p4, iV p5, iV 4, iV r0, iV r1, iV r2, iV r3, iV r4, aV a_759, aV a_798, iV 2, uV, uV]) rfl <| aL C ((.ref a_798)) at_131 rfl rfl <| iL C 2 at_133 rfl <| iL C 4 at_135 rfl <| iC C 3 at_137 rfl <| iL C r3 at_138 rfl ?_
          by_cases hb_931 : r3 = 9
          · have f_932 := (lT f_919 K_929.1)
            refine cS C hw 38 39 2 40 rfl rfl rfl rfl (rm_noteY_2 hw a_798 0 2 0 0 0 0 4 3 r3 h_925 f_932 f_930 ge_a_798 (by decide) hb_931) [] [(.ref a_798), (.int 2), (.int 4), (.int 3), (.int r3)] pd_19 0 at_140 ⟨rfl, rfl, rfl, rfl, rfl⟩ (by decide) ?_
            intro v_935 h_933 q_934
            obtain ⟨rfl, K_937, f_938⟩ := q_934
            show Go _ _ _ _ 4 18 143 _ [(.int 3)]
            refine iS C at_143 (#[iV p0, iV p1, iV p2, iV p3, iV p4, iV p5, iV 4, iV r0, iV r1, iV r2, iV r3, iV r4, aV a_759, aV a_798, iV 3, uV, uV]) rfl <| aL C ((.ref a_798)) at_145 rfl rfl <| iL C 3 at_147 rfl <| iL C 4 at_149 rfl <| iC C 4 at_151 rfl <| iL C r4 at_152 rfl ?_
            have f_939 := (lT f_932 K_937.1)
            refine cS C hw 38 39 2 40 rfl rfl rfl rfl (rm_noteN_0 hw a_798 3 4 4 r4 h_933 f_939 (by decide)) [] [(.ref a_798), (.int 3), (.int 4), (.int 4), (.int r4)] pd_19 0 at_154 ⟨rfl, rfl, rfl, rfl, rfl⟩ (by decide) ?_
            intro v_942 h_940 q_941
            obtain ⟨rfl, rfl⟩ := q_941
            show Go _ _ _ _ 4 18 157 _ [(.int 3)]
            refine iS C at_157 (#[iV p0, iV p1, iV p2, iV p3, iV p4, iV p5, iV 4, iV r0, iV r1, iV r2, iV r3, iV r4, aV a_759, aV a_798, iV 3, uV, uV]) rfl <| aL C ((.ref a_798)) at_159 rfl rfl <| iL C 3 at_161 rfl <| iL C 4 at_163 rfl <| yiastore C f_938 (by decide) (i := 3) (by decide) (show 3 < 6 by decide) (w := (.int 4)) rfl ge_a_798 at_165 ?_
            intro h_944 K_945 A_946
            have f_947 : Ary Z h_944 a_798 .int [(.int 0), (.int 2), (.int 3), (.int 4), (.int 0), (.int 0)] := A_946
            refine iL C 3 at_166 rfl <| iC C 1 at_168 rfl <| yiadd C at_169 <| eS [(.int 4)] rfl <| iS C at_170 (#[iV p0, iV p1, iV p2, iV p3, iV p4, iV p5, iV 4, iV r0, iV r1, iV r2, iV r3, iV r4, aV a_759, aV a_798, iV 3, iV 4, uV]) rfl ?_
            have f_948 := (((((f_795.ext E_800).keep K_814).keep K_929).keep K_937).keep K_945)
            have f_949 := (((((f_790.ext E_800).keep K_814 (ninS ne_802 nin0)).keep K_929 (ninS ne_802 nin0)).keep K_937 (ninS ne_802 nin0)).keep K_945 (ninS ne_802 nin0))
            have f_950 := (((((f_791.ext E_800).keep K_814 (ninS ne_802 nin0)).keep K_929 (ninS ne_802 nin0)).keep K_937 (ninS ne_802 nin0)).keep K_945 (ninS ne_802 nin0))
            have f_951 := (((((f_792.ext E_800).keep K_814 (ninS ne_804 nin0)).keep K_929 (ninS ne_804 nin0)).keep K_937 (ninS ne_804 nin0)).keep K_945 (ninS ne_804 nin0))
            have f_952 := (lT f_939 K_945.1)
            have f_953 := ((((((f_777.keep K_787 (allS ge_a_759 all0)).ext E_800).keep K_814 (allS ge_a_798 all0)).keep K_929 (allS ge_a_798 all0)).keep K_937 (allS ge_a_798 all0)).keep K_945 (allS ge_a_798 all0))
            exact own_up (rm_tail_4 hw p0 p1 p2 p3 p4 p5 4 r0 r1 r2 r3 r4 a_759 a_798 0 2 3 4 0 0 h_944 f_952 f_953 f_947 (rm_split_4 hw a_759 0 2 3 4 h_944 f_952 f_953 f_948 (by decide) (by decide) (by decide) (fun h u v k => rm_sio1 hw a_759 0 h u (f_948.keep k) (rm_sioI_4_0_1 hw a_759 b_788 (bY r0) (bY r1) (bY r2) (bY r3) h u cm v (f_948.keep k) (f_949.keep k nin0) (f_950.keep k nin0) (f_951.keep k nin0) (own_by9' hb_808))) (fun h u v k => rm_sioI_4_1_3 hw a_759 b_788 (bY r0) (bY r1) (bY r2) (bY r3) h u cm v (f_948.keep k) (f_949.keep k nin0) (f_950.keep k nin0) (f_951.keep k nin0) (own_by9 kr1 hb_816) (own_by9' hb_924)) (fun h u v k => rm_sioI_4_3_4 hw a_759 b_788 (bY r0) (bY r1) (bY r2) (bY r3) h u cm v (f_948.keep k) (f_949.keep k nin0) (f_950.keep k nin0) (f_951.keep k nin0) (own_by9' hb_931)) (fun h u v k => rm_sioI_4_4_0 hw a_759 b_788 (bY r0) (bY r1) (bY r2) (bY r3) h u cm v (f_948.keep k) (f_949.keep k nin0) (f_950.keep k nin0) (f_951.keep k nin0) ) (fun h u v k => rm_length_4 hw a_759 b_788 (bY r0) (bY r1) (bY r2) (bY r3) h u cm v (f_948.keep k) (f_949.keep k nin0) (f_950.keep k nin0) (f_951.keep k nin0))) B C hW) (by decide) (by decide)
          · have f_954 := (lT f_919 K_929.1)
            refine cS C hw 38 39 2 40 rfl rfl rfl rfl (rm_noteN_1 hw a_798 2 4 3 r3 h_925 f_954 (by decide) hb_931) [] [(.ref a_798), (.int 2), (.int 4), (.int 3), (.int r3)] pd_19 0 at_140 ⟨rfl, rfl, rfl, rfl, rfl⟩ (by decide) ?_
            intro v_957 h_955 q_956
            obtain ⟨rfl, rfl⟩ := q_956
            show Go _ _ _ _ 4 18 143 _ [(.int 2)]
            refine iS C at_143 (#[iV p0, iV p1, iV p2, iV p3, iV p4, iV p5, iV 4, iV r0, iV r1, iV r2, iV r3, iV r4, aV a_759, aV a_798, iV 2, uV, uV]) rfl <| aL C ((.ref a_798)) at_145 rfl rfl <| iL C 2 at_147 rfl <| iL C 4 at_149 rfl <| iC C 4 at_151 rfl <| iL C r4 at_152 rfl <| cS C hw 38 39 2 40 rfl rfl rfl rfl (rm_noteN_0 hw a_798 2 4 4 r4 h_925 f_954 (by decide)) [] [(.ref a_798), (.int 2), (.int 4), (.int 4), (.int r4)] pd_19 0 at_154 ⟨rfl, rfl, rfl, rfl, rfl⟩ (by decide) ?_
            intro v_961 h_959 q_960
            obtain ⟨rfl, rfl⟩ := q_960
            show Go _ _ _ _ 4 18 157 _ [(.int 2)]
            refine iS C at_157 (#[iV p0, iV p1, iV p2, iV p3, iV p4, iV p5, iV 4, iV r0, iV r1, iV r2, iV r3, iV r4, aV a_759, aV a_798, iV 2, uV, uV]) rfl <| aL C ((.ref a_798)) at_159 rfl rfl <| iL C 2 at_161 rfl <| iL C 4 at_163 rfl <| yiastore C f_930 (by decide) (i := 2) (by decide) (show 2 < 6 by decide) (w := (.int 4)) rfl ge_a_798 at_165 ?_
            intro h_963 K_964 A_965
            have f_966 : Ary Z h_963 a_798 .int [(.int 0), (.int 2), (.int 4), (.int 0), (.int 0), (.int 0)] := A_965
            refine iL C 2 at_166 rfl <| iC C 1 at_168 rfl <| yiadd C at_169 <| eS [(.int 3)] rfl <| iS C at_170 (#[iV p0, iV p1, iV p2, iV p3, iV p4, iV p5, iV 4, iV r0, iV r1, iV r2, iV r3, iV r4, aV a_759, aV a_798, iV 2, iV 3, uV]) rfl ?_
            have f_967 := ((((f_795.ext E_800).keep K_814).keep K_929).keep K_964)
            have f_968 := ((((f_790.ext E_800).keep K_814 (ninS ne_802 nin0)).keep K_929 (ninS ne_802 nin0)).keep K_964 (ninS ne_802 nin0))
            have f_969 := ((((f_791.ext E_800).keep K_814 (ninS ne_802 nin0)).keep K_929 (ninS ne_802 nin0)).keep K_964 (ninS ne_802 nin0))
            have f_970 := ((((f_792.ext E_800).keep K_814 (ninS ne_804 nin0)).keep K_929 (ninS ne_804 nin0)).keep K_964 (ninS ne_804 nin0))
            have f_971 := (lT f_954 K_964.1)
            have f_972 := (((((f_777.keep K_787 (allS ge_a_759 all0)).ext E_800).keep K_814 (allS ge_a_798 all0)).keep K_929 (allS ge_a_798 all0)).keep K_964 (allS ge_a_798 all0))
            exact own_up (rm_tail_3 hw p0 p1 p2 p3 p4 p5 4 r0 r1 r2 r3 r4 a_759 a_798 0 2 4 0 0 0 h_963 f_971 f_972 f_966 (rm_split_3 hw a_759 0 2 4 h_963 f_971 f_972 f_967 (by decide) (by decide) (fun h u v k => rm_sio1 hw a_759 0 h u (f_967.keep k) (rm_sioI_4_0_1 hw a_759 b_788 (bY r0) (bY r1) (bY r2) (bY r3) h u cm v (f_967.keep k) (f_968.keep k nin0) (f_969.keep k nin0) (f_970.keep k nin0) (own_by9' hb_808))) (fun h u v k => rm_sioI_4_1_3 hw a_759 b_788 (bY r0) (bY r1) (bY r2) (bY r3) h u cm v (f_967.keep k) (f_968.keep k nin0) (f_969.keep k nin0) (f_970.keep k nin0) (own_by9 kr1 hb_816) (own_by9' hb_924)) (fun h u v k => rm_sioI_4_3_0 hw a_759 b_788 (bY r0) (bY r1) (bY r2) (bY r3) h u cm v (f_967.keep k) (f_968.keep k nin0) (f_969.keep k nin0) (f_970.keep k nin0) (own_by9 kr3 hb_931)) (fun h u v k => rm_length_4 hw a_759 b_788 (bY r0) (bY r1) (bY r2) (bY r3) h u cm v (f_967.keep k) (f_968.keep k nin0) (f_969.keep k nin0) (f_970.keep k nin0))) B C hW) (by decide) (by decide)
        · refine cS C hw 38 39 2 40 rfl rfl rfl rfl (rm_noteN_1 hw a_798 1 4 2 r2 h_810 f_919 (by decide) hb_924) [] [(.ref a_798), (.int 1), (.int 4), (.int 2), (.int r2)] pd_19 0 at_126 ⟨rfl, rfl, rfl, rfl, rfl⟩ (by decide) ?_
          intro v_975 h_973 q_974
          obtain ⟨rfl, rfl⟩ := q_974
          show Go _ _ _ _ 4 18 129 _ [(.int 1)]
          refine iS C at_129 (#[iV p0, iV p1, iV p2, iV p3, iV p4, iV p5, iV 4, iV r0, iV r1, iV r2, iV r3, iV r4, aV a_759, aV a_798, iV 1, uV, uV]) rfl <| aL C ((.ref a_798)) at_131 rfl rfl <| iL C 1 at_133 rfl <| iL C 4 at_135 rfl <| iC C 3 at_137 rfl <| iL C r3 at_138 rfl ?_
          by_cases hb_977 : r3 = 9
          · refine cS C hw 38 39 2 40 rfl rfl rfl rfl (rm_noteY_1 hw a_798 0 0 0 0 0 0 4 3 r3 h_810 f_919 f_815 ge_a_798 (by decide) hb_977) [] [(.ref a_798), (.int 1), (.int 4), (.int 3), (.int r3)] pd_19 0 at_140 ⟨rfl, rfl, rfl, rfl, rfl⟩ (by decide) ?_
            intro v_980 h_978 q_979
            obtain ⟨rfl, K_982, f_983⟩ := q_979
            show Go _ _ _ _ 4 18 143 _ [(.int 2)]
            refine iS C at_143 (#[iV p0, iV p1, iV p2, iV p3, iV p4, iV p5, iV 4, iV r0, iV r1, iV r2, iV r3, iV r4, aV a_759, aV a_798, iV 2, uV, uV]) rfl <| aL C ((.ref a_798)) at_145 rfl rfl <| iL C 2 at_147 rfl <| iL C 4 at_149 rfl <| iC C 4 at_151 rfl <| iL C r4 at_152 rfl ?_
            have f_984 := (lT f_919 K_982.1)
            refine cS C hw 38 39 2 40 rfl rfl rfl rfl (rm_noteN_0 hw a_798 2 4 4 r4 h_978 f_984 (by decide)) [] [(.ref a_798), (.int 2), (.int 4), (.int 4), (.int r4)] pd_19 0 at_154 ⟨rfl, rfl, rfl, rfl, rfl⟩ (by decide) ?_
            intro v_987 h_985 q_986
            obtain ⟨rfl, rfl⟩ := q_986
            show Go _ _ _ _ 4 18 157 _ [(.int 2)]
            refine iS C at_157 (#[iV p0, iV p1, iV p2, iV p3, iV p4, iV p5, iV 4, iV r0, iV r1, iV r2, iV r3, iV r4, aV a_759, aV a_798, iV 2, uV, uV]) rfl <| aL C ((.ref a_798)) at_159 rfl rfl <| iL C 2 at_161 rfl <| iL C 4 at_163 rfl <| yiastore C f_983 (by decide) (i := 2) (by decide) (show 2 < 6 by decide) (w := (.int 4)) rfl ge_a_798 at_165 ?_
            intro h_989 K_990 A_991
            have f_992 : Ary Z h_989 a_798 .int [(.int 0), (.int 3), (.int 4), (.int 0), (.int 0), (.int 0)] := A_991
            refine iL C 2 at_166 rfl <| iC C 1 at_168 rfl <| yiadd C at_169 <| eS [(.int 3)] rfl <| iS C at_170 (#[iV p0, iV p1, iV p2, iV p3, iV p4, iV p5, iV 4, iV r0, iV r1, iV r2, iV r3, iV r4, aV a_759, aV a_798, iV 2, iV 3, uV]) rfl ?_
            have f_993 := ((((f_795.ext E_800).keep K_814).keep K_982).keep K_990)
            have f_994 := ((((f_790.ext E_800).keep K_814 (ninS ne_802 nin0)).keep K_982 (ninS ne_802 nin0)).keep K_990 (ninS ne_802 nin0))
            have f_995 := ((((f_791.ext E_800).keep K_814 (ninS ne_802 nin0)).keep K_982 (ninS ne_802 nin0)).keep K_990 (ninS ne_802 nin0))
            have f_996 := ((((f_792.ext E_800).keep K_814 (ninS ne_804 nin0)).keep K_982 (ninS ne_804 nin0)).keep K_990 (ninS ne_804 nin0))
            have f_997 := (lT f_984 K_990.1)
            have f_998 := (((((f_777.keep K_787 (allS ge_a_759 all0)).ext E_800).keep K_814 (allS ge_a_798 all0)).keep K_982 (allS ge_a_798 all0)).keep K_990 (allS ge_a_798 all0))
            exact own_up (rm_tail_3 hw p0 p1 p2 p3 p4 p5 4 r0 r1 r2 r3 r4 a_759 a_798 0 3 4 0 0 0 h_989 f_997 f_998 f_992 (rm_split_3 hw a_759 0 3 4 h_989 f_997 f_998 f_993 (by decide) (by decide) (fun h u v k => rm_sio1 hw a_759 0 h u (f_993.keep k) (rm_sioI_4_0_1 hw a_759 b_788 (bY r0) (bY r1) (bY r2) (bY r3) h u cm v (f_993.keep k) (f_994.keep k nin0) (f_995.keep k nin0) (f_996.keep k nin0) (own_by9' hb_808))) (fun h u v k => rm_sioI_4_1_4 hw a_759 b_788 (bY r0) (bY r1) (bY r2) (bY r3) h u cm v (f_993.keep k) (f_994.keep k nin0) (f_995.keep k nin0) (f_996.keep k nin0) (own_by9 kr1 hb_816) (own_by9 kr2 hb_924) (own_by9' hb_977)) (fun h u v k => rm_sioI_4_4_0 hw a_759 b_788 (bY r0) (bY r1) (bY r2) (bY r3) h u cm v (f_993.keep k) (f_994.keep k nin0) (f_995.keep k nin0) (f_996.keep k nin0) ) (fun h u v k => rm_length_4 hw a_759 b_788 (bY r0) (bY r1) (bY r2) (bY r3) h u cm v (f_993.keep k) (f_994.keep k nin0) (f_995.keep k nin0) (f_996.keep k nin0))) B C hW) (by decide) (by decide)
          · refine cS C hw 38 39 2 40 rfl rfl rfl rfl (rm_noteN_1 hw a_798 1 4 3 r3 h_810 f_919 (by decide) hb_977) [] [(.ref a_798), (.int 1), (.int 4), (.int 3), (.int r3)] pd_19 0 at_140 ⟨rfl, rfl, rfl, rfl, rfl⟩ (by decide) ?_
            intro v_1001 h_999 q_1000
            obtain ⟨rfl, rfl⟩ := q_1000
            show Go _ _ _ _ 4 18 143 _ [(.int 1)]
            refine iS C at_143 (#[iV p0, iV p1, iV p2, iV p3, iV p4, iV p5, iV 4, iV r0, iV r1, iV r2, iV r3, iV r4, aV a_759, aV a_798, iV 1, uV, uV]) rfl <| aL C ((.ref a_798)) at_145 rfl rfl <| iL C 1 at_147 rfl <| iL C 4 at_149 rfl <| iC C 4 at_151 rfl <| iL C r4 at_152 rfl <| cS C hw 38 39 2 40 rfl rfl rfl rfl (rm_noteN_0 hw a_798 1 4 4 r4 h_810 f_919 (by decide)) [] [(.ref a_798), (.int 1), (.int 4), (.int 4), (.int r4)] pd_19 0 at_154 ⟨rfl, rfl, rfl, rfl, rfl⟩ (by decide) ?_
            intro v_1005 h_1003 q_1004
            obtain ⟨rfl, rfl⟩ := q_1004
            show Go _ _ _ _ 4 18 157 _ [(.int 1)]
            refine iS C at_157 (#[iV p0, iV p1, iV p2, iV p3, iV p4, iV p5, iV 4, iV r0, iV r1, iV r2, iV r3, iV r4, aV a_759, aV a_798, iV 1, uV, uV]) rfl <| aL C ((.ref a_798)) at_159 rfl rfl <| iL C 1 at_161 rfl <| iL C 4 at_163 rfl <| yiastore C f_815 (by decide) (i := 1) (by decide) (show 1 < 6 by decide) (w := (.int 4)) rfl ge_a_798 at_165 ?_
            intro h_1007 K_1008 A_1009
            have f_1010 : Ary Z h_1007 a_798 .int [(.int 0), (.int 4), (.int 0), (.int 0), (.int 0), (.int 0)] := A_1009
            refine iL C 1 at_166 rfl <| iC C 1 at_168 rfl <| yiadd C at_169 <| eS [(.int 2)] rfl <| iS C at_170 (#[iV p0, iV p1, iV p2, iV p3, iV p4, iV p5, iV 4, iV r0, iV r1, iV r2, iV r3, iV r4, aV a_759, aV a_798, iV 1, iV 2, uV]) rfl ?_
            have f_1011 := (((f_795.ext E_800).keep K_814).keep K_1008)
            have f_1012 := (((f_790.ext E_800).keep K_814 (ninS ne_802 nin0)).keep K_1008 (ninS ne_802 nin0))
            have f_1013 := (((f_791.ext E_800).keep K_814 (ninS ne_802 nin0)).keep K_1008 (ninS ne_802 nin0))
            have f_1014 := (((f_792.ext E_800).keep K_814 (ninS ne_804 nin0)).keep K_1008 (ninS ne_804 nin0))
            have f_1015 := (lT f_919 K_1008.1)
            have f_1016 := ((((f_777.keep K_787 (allS ge_a_759 all0)).ext E_800).keep K_814 (allS ge_a_798 all0)).keep K_1008 (allS ge_a_798 all0))
            exact own_up (rm_tail_2 hw p0 p1 p2 p3 p4 p5 4 r0 r1 r2 r3 r4 a_759 a_798 0 4 0 0 0 0 h_1007 f_1015 f_1016 f_1010 (rm_split_2 hw a_759 0 4 h_1007 f_1015 f_1016 f_1011 (by decide) (fun h u v k => rm_sio1 hw a_759 0 h u (f_1011.keep k) (rm_sioI_4_0_1 hw a_759 b_788 (bY r0) (bY r1) (bY r2) (bY r3) h u cm v (f_1011.keep k) (f_1012.keep k nin0) (f_1013.keep k nin0) (f_1014.keep k nin0) (own_by9' hb_808))) (fun h u v k => rm_sioI_4_1_0 hw a_759 b_788 (bY r0) (bY r1) (bY r2) (bY r3) h u cm v (f_1011.keep k) (f_1012.keep k nin0) (f_1013.keep k nin0) (f_1014.keep k nin0) (own_by9 kr1 hb_816) (own_by9 kr2 hb_924) (own_by9 kr3 hb_977)) (fun h u v k => rm_length_4 hw a_759 b_788 (bY r0) (bY r1) (bY r2) (bY r3) h u cm v (f_1011.keep k) (f_1012.keep k nin0) (f_1013.keep k nin0) (f_1014.keep k nin0))) B C hW) (by decide) (by decide)
    · have f_1017 := (lT f_805 E_800.1)
      refine cS C hw 38 39 2 40 rfl rfl rfl rfl (rm_noteN_1 hw a_798 0 4 0 r0 h_797 f_1017 (by decide) hb_808) [] [(.ref a_798), (.int 0), (.int 4), (.int 0), (.int r0)] pd_19 0 at_98 ⟨rfl, rfl, rfl, rfl, rfl⟩ (by decide) ?_
      intro v_1020 h_1018 q_1019
      obtain ⟨rfl, rfl⟩ := q_1019
      show Go _ _ _ _ 4 18 101 _ [(.int 0)]
      refine iS C at_101 (#[iV p0, iV p1, iV p2, iV p3, iV p4, iV p5, iV 4, iV r0, iV r1, iV r2, iV r3, iV r4, aV a_759, aV a_798, iV 0, uV, uV]) rfl <| aL C ((.ref a_798)) at_103 rfl rfl <| iL C 0 at_105 rfl <| iL C 4 at_107 rfl <| iC C 1 at_109 rfl <| iL C r1 at_110 rfl ?_
      by_cases hb_1022 : r1 = 9
      · refine cS C hw 38 39 2 40 rfl rfl rfl rfl (rm_noteY_0 hw a_798 0 0 0 0 0 0 4 1 r1 h_797 f_1017 f_807 ge_a_798 (by decide) hb_1022) [] [(.ref a_798), (.int 0), (.int 4), (.int 1), (.int r1)] pd_19 0 at_112 ⟨rfl, rfl, rfl, rfl, rfl⟩ (by decide) ?_
        intro v_1025 h_1023 q_1024
        obtain ⟨rfl, K_1027, f_1028⟩ := q_1024
        show Go _ _ _ _ 4 18 115 _ [(.int 1)]
        refine iS C at_115 (#[iV p0, iV p1, iV p2, iV p3, iV p4, iV p5, iV 4, iV r0, iV r1, iV r2, iV r3, iV r4, aV a_759, aV a_798, iV 1, uV, uV]) rfl <| aL C ((.ref a_798)) at_117 rfl rfl <| iL C 1 at_119 rfl <| iL C 4 at_121 rfl <| iC C 2 at_123 rfl <| iL C r2 at_124 rfl ?_
        by_cases hb_1029 : r2 = 9
        · have f_1030 := (lT f_1017 K_1027.1)
          refine cS C hw 38 39 2 40 rfl rfl rfl rfl (rm_noteY_1 hw a_798 1 0 0 0 0 0 4 2 r2 h_1023 f_1030 f_1028 ge_a_798 (by decide) hb_1029) [] [(.ref a_798), (.int 1), (.int 4), (.int 2), (.int r2)] pd_19 0 at_126 ⟨rfl, rfl, rfl, rfl, rfl⟩ (by decide) ?_
          intro v_1033 h_1031 q_1032
          obtain ⟨rfl, K_1035, f_1036⟩ := q_1032
          show Go _ _ _ _ 4 18 129 _ [(.int 2)]
          refine iS C at_129 (#[iV p0, iV p1, iV p2, iV p3, iV p4, iV p5, iV 4, iV r0, iV r1, iV r2, iV r3, iV r4, aV a_759, aV a_798, iV 2, uV, uV]) rfl <| aL C ((.ref a_798)) at_131 rfl rfl <| iL C 2 at_133 rfl <| iL C 4 at_135 rfl <| iC C 3 at_137 rfl <| iL C r3 at_138 rfl ?_
          by_cases hb_1037 : r3 = 9
          · have f_1038 := (lT f_1030 K_1035.1)
            refine cS C hw 38 39 2 40 rfl rfl rfl rfl (rm_noteY_2 hw a_798 1 2 0 0 0 0 4 3 r3 h_1031 f_1038 f_1036 ge_a_798 (by decide) hb_1037) [] [(.ref a_798), (.int 2), (.int 4), (.int 3), (.int r3)] pd_19 0 at_140 ⟨rfl, rfl, rfl, rfl, rfl⟩ (by decide) ?_
            intro v_1041 h_1039 q_1040
            obtain ⟨rfl, K_1043, f_1044⟩ := q_1040
            show Go _ _ _ _ 4 18 143 _ [(.int 3)]
            refine iS C at_143 (#[iV p0, iV p1, iV p2, iV p3, iV p4, iV p5, iV 4, iV r0, iV r1, iV r2, iV r3, iV r4, aV a_759, aV a_798, iV 3, uV, uV]) rfl <| aL C ((.ref a_798)) at_145 rfl rfl <| iL C 3 at_147 rfl <| iL C 4 at_149 rfl <| iC C 4 at_151 rfl <| iL C r4 at_152 rfl ?_
            have f_1045 := (lT f_1038 K_1043.1)
            refine cS C hw 38 39 2 40 rfl rfl rfl rfl (rm_noteN_0 hw a_798 3 4 4 r4 h_1039 f_1045 (by decide)) [] [(.ref a_798), (.int 3), (.int 4), (.int 4), (.int r4)] pd_19 0 at_154 ⟨rfl, rfl, rfl, rfl, rfl⟩ (by decide) ?_
            intro v_1048 h_1046 q_1047
            obtain ⟨rfl, rfl⟩ := q_1047
            show Go _ _ _ _ 4 18 157 _ [(.int 3)]
            refine iS C at_157 (#[iV p0, iV p1, iV p2, iV p3, iV p4, iV p5, iV 4, iV r0, iV r1, iV r2, iV r3, iV r4, aV a_759, aV a_798, iV 3, uV, uV]) rfl <| aL C ((.ref a_798)) at_159 rfl rfl <| iL C 3 at_161 rfl <| iL C 4 at_163 rfl <| yiastore C f_1044 (by decide) (i := 3) (by decide) (show 3 < 6 by decide) (w := (.int 4)) rfl ge_a_798 at_165 ?_
            intro h_1050 K_1051 A_1052
            have f_1053 : Ary Z h_1050 a_798 .int [(.int 1), (.int 2), (.int 3), (.int 4), (.int 0), (.int 0)] := A_1052
            refine iL C 3 at_166 rfl <| iC C 1 at_168 rfl <| yiadd C at_169 <| eS [(.int 4)] rfl <| iS C at_170 (#[iV p0, iV p1, iV p2, iV p3, iV p4, iV p5, iV 4, iV r0, iV r1, iV r2, iV r3, iV r4, aV a_759, aV a_798, iV 3, iV 4, uV]) rfl ?_
            have f_1054 := (((((f_795.ext E_800).keep K_1027).keep K_1035).keep K_1043).keep K_1051)
            have f_1055 := (((((f_790.ext E_800).keep K_1027 (ninS ne_802 nin0)).keep K_1035 (ninS ne_802 nin0)).keep K_1043 (ninS ne_802 nin0)).keep K_1051 (ninS ne_802 nin0))
            have f_1056 := (((((f_791.ext E_800).keep K_1027 (ninS ne_802 nin0)).keep K_1035 (ninS ne_802 nin0)).keep K_1043 (ninS ne_802 nin0)).keep K_1051 (ninS ne_802 nin0))
            have f_1057 := (((((f_792.ext E_800).keep K_1027 (ninS ne_804 nin0)).keep K_1035 (ninS ne_804 nin0)).keep K_1043 (ninS ne_804 nin0)).keep K_1051 (ninS ne_804 nin0))
            have f_1058 := (lT f_1045 K_1051.1)
            have f_1059 := ((((((f_777.keep K_787 (allS ge_a_759 all0)).ext E_800).keep K_1027 (allS ge_a_798 all0)).keep K_1035 (allS ge_a_798 all0)).keep K_1043 (allS ge_a_798 all0)).keep K_1051 (allS ge_a_798 all0))
            exact own_up (rm_tail_4 hw p0 p1 p2 p3 p4 p5 4 r0 r1 r2 r3 r4 a_759 a_798 1 2 3 4 0 0 h_1050 f_1058 f_1059 f_1053 (rm_split_4 hw a_759 1 2 3 4 h_1050 f_1058 f_1059 f_1054 (by decide) (by decide) (by decide) (fun h u v k => rm_sio1 hw a_759 1 h u (f_1054.keep k) (rm_sioI_4_0_2 hw a_759 b_788 (bY r0) (bY r1) (bY r2) (bY r3) h u cm v (f_1054.keep k) (f_1055.keep k nin0) (f_1056.keep k nin0) (f_1057.keep k nin0) (own_by9 kr0 hb_808) (own_by9' hb_1022))) (fun h u v k => rm_sioI_4_2_3 hw a_759 b_788 (bY r0) (bY r1) (bY r2) (bY r3) h u cm v (f_1054.keep k) (f_1055.keep k nin0) (f_1056.keep k nin0) (f_1057.keep k nin0) (own_by9' hb_1029)) (fun h u v k => rm_sioI_4_3_4 hw a_759 b_788 (bY r0) (bY r1) (bY r2) (bY r3) h u cm v (f_1054.keep k) (f_1055.keep k nin0) (f_1056.keep k nin0) (f_1057.keep k nin0) (own_by9' hb_1037)) (fun h u v k => rm_sioI_4_4_0 hw a_759 b_788 (bY r0) (bY r1) (bY r2) (bY r3) h u cm v (f_1054.keep k) (f_1055.keep k nin0) (f_1056.keep k nin0) (f_1057.keep k nin0) ) (fun h u v k => rm_length_4 hw a_759 b_788 (bY r0) (bY r1) (bY r2) (bY r3) h u cm v (f_1054.keep k) (f_1055.keep k nin0) (f_1056.keep k nin0) (f_1057.keep k nin0))) B C hW) (by decide) (by decide)
          · have f_1060 := (lT f_1030 K_1035.1)
            refine cS C hw 38 39 2 40 rfl rfl rfl rfl (rm_noteN_1 hw a_798 2 4 3 r3 h_1031 f_1060 (by decide) hb_1037) [] [(.ref a_798), (.int 2), (.int 4), (.int 3), (.int r3)] pd_19 0 at_140 ⟨rfl, rfl, rfl, rfl, rfl⟩ (by decide) ?_
            intro v_1063 h_1061 q_1062
            obtain ⟨rfl, rfl⟩ := q_1062
            show Go _ _ _ _ 4 18 143 _ [(.int 2)]
            refine iS C at_143 (#[iV p0, iV p1, iV p2, iV p3, iV p4, iV p5, iV 4, iV r0, iV r1, iV r2, iV r3, iV r4, aV a_759, aV a_798, iV 2, uV, uV]) rfl <| aL C ((.ref a_798)) at_145 rfl rfl <| iL C 2 at_147 rfl <| iL C 4 at_149 rfl <| iC C 4 at_151 rfl <| iL C r4 at_152 rfl <| cS C hw 38 39 2 40 rfl rfl rfl rfl (rm_noteN_0 hw a_798 2 4 4 r4 h_1031 f_1060 (by decide)) [] [(.ref a_798), (.int 2), (.int 4), (.int 4), (.int r4)] pd_19 0 at_154 ⟨rfl, rfl, rfl, rfl, rfl⟩ (by decide) ?_
            intro v_1067 h_1065 q_1066
            obtain ⟨rfl, rfl⟩ := q_1066
            show Go _ _ _ _ 4 18 157 _ [(.int 2)]
            refine iS C at_157 (#[iV p0, iV p1, iV p2, iV p3, iV p4, iV p5, iV 4, iV r0, iV r1, iV r2, iV r3, iV r4, aV a_759, aV a_798, iV 2, uV, uV]) rfl <| aL C ((.ref a_798)) at_159 rfl rfl <| iL C 2 at_161 rfl <| iL C 4 at_163 rfl <| yiastore C f_1036 (by decide) (i := 2) (by decide) (show 2 < 6 by decide) (w := (.int 4)) rfl ge_a_798 at_165 ?_
            intro h_1069 K_1070 A_1071
            have f_1072 : Ary Z h_1069 a_798 .int [(.int 1), (.int 2), (.int 4), (.int 0), (.int 0), (.int 0)] := A_1071
            refine iL C 2 at_166 rfl <| iC C 1 at_168 rfl <| yiadd C at_169 <| eS [(.int 3)] rfl <| iS C at_170 (#[iV p0, iV p1, iV p2, iV p3, iV p4, iV p5, iV 4, iV r0, iV r1, iV r2, iV r3, iV r4, aV a_759, aV a_798, iV 2, iV 3, uV]) rfl ?_
            have f_1073 := ((((f_795.ext E_800).keep K_1027).keep K_1035).keep K_1070)
            have f_1074 := ((((f_790.ext E_800).keep K_1027 (ninS ne_802 nin0)).keep K_1035 (ninS ne_802 nin0)).keep K_1070 (ninS ne_802 nin0))
            have f_1075 := ((((f_791.ext E_800).keep K_1027 (ninS ne_802 nin0)).keep K_1035 (ninS ne_802 nin0)).keep K_1070 (ninS ne_802 nin0))
            have f_1076 := ((((f_792.ext E_800).keep K_1027 (ninS ne_804 nin0)).keep K_1035 (ninS ne_804 nin0)).keep K_1070 (ninS ne_804 nin0))
            have f_1077 := (lT f_1060 K_1070.1)
            have f_1078 := (((((f_777.keep K_787 (allS ge_a_759 all0)).ext E_800).keep K_1027 (allS ge_a_798 all0)).keep K_1035 (allS ge_a_798 all0)).keep K_1070 (allS ge_a_798 all0))
            exact own_up (rm_tail_3 hw p0 p1 p2 p3 p4 p5 4 r0 r1 r2 r3 r4 a_759 a_798 1 2 4 0 0 0 h_1069 f_1077 f_1078 f_1072 (rm_split_3 hw a_759 1 2 4 h_1069 f_1077 f_1078 f_1073 (by decide) (by decide) (fun h u v k => rm_sio1 hw a_759 1 h u (f_1073.keep k) (rm_sioI_4_0_2 hw a_759 b_788 (bY r0) (bY r1) (bY r2) (bY r3) h u cm v (f_1073.keep k) (f_1074.keep k nin0) (f_1075.keep k nin0) (f_1076.keep k nin0) (own_by9 kr0 hb_808) (own_by9' hb_1022))) (fun h u v k => rm_sioI_4_2_3 hw a_759 b_788 (bY r0) (bY r1) (bY r2) (bY r3) h u cm v (f_1073.keep k) (f_1074.keep k nin0) (f_1075.keep k nin0) (f_1076.keep k nin0) (own_by9' hb_1029)) (fun h u v k => rm_sioI_4_3_0 hw a_759 b_788 (bY r0) (bY r1) (bY r2) (bY r3) h u cm v (f_1073.keep k) (f_1074.keep k nin0) (f_1075.keep k nin0) (f_1076.keep k nin0) (own_by9 kr3 hb_1037)) (fun h u v k => rm_length_4 hw a_759 b_788 (bY r0) (bY r1) (bY r2) (bY r3) h u cm v (f_1073.keep k) (f_1074.keep k nin0) (f_1075.keep k nin0) (f_1076.keep k nin0))) B C hW) (by decide) (by decide)
        · have f_1079 := (lT f_1017 K_1027.1)
          refine cS C hw 38 39 2 40 rfl rfl rfl rfl (rm_noteN_1 hw a_798 1 4 2 r2 h_1023 f_1079 (by decide) hb_1029) [] [(.ref a_798), (.int 1), (.int 4), (.int 2), (.int r2)] pd_19 0 at_126 ⟨rfl, rfl, rfl, rfl, rfl⟩ (by decide) ?_
          intro v_1082 h_1080 q_1081
          obtain ⟨rfl, rfl⟩ := q_1081
          show Go _ _ _ _ 4 18 129 _ [(.int 1)]
          refine iS C at_129 (#[iV p0, iV p1, iV p2, iV p3, iV p4, iV p5, iV 4, iV r0, iV r1, iV r2, iV r3, iV r4, aV a_759, aV a_798, iV 1, uV, uV]) rfl <| aL C ((.ref a_798)) at_131 rfl rfl <| iL C 1 at_133 rfl <| iL C 4 at_135 rfl <| iC C 3 at_137 rfl <| iL C r3 at_138 rfl ?_
          by_cases hb_1084 : r3 = 9
          · refine cS C hw 38 39 2 40 rfl rfl rfl rfl (rm_noteY_1 hw a_798 1 0 0 0 0 0 4 3 r3 h_1023 f_1079 f_1028 ge_a_798 (by decide) hb_1084) [] [(.ref a_798), (.int 1), (.int 4), (.int 3), (.int r3)] pd_19 0 at_140 ⟨rfl, rfl, rfl, rfl, rfl⟩ (by decide) ?_
            intro v_1087 h_1085 q_1086
            obtain ⟨rfl, K_1089, f_1090⟩ := q_1086
            show Go _ _ _ _ 4 18 143 _ [(.int 2)]
            refine iS C at_143 (#[iV p0, iV p1, iV p2, iV p3, iV p4, iV p5, iV 4, iV r0, iV r1, iV r2, iV r3, iV r4, aV a_759, aV a_798, iV 2, uV, uV]) rfl <| aL C ((.ref a_798)) at_145 rfl rfl <| iL C 2 at_147 rfl <| iL C 4 at_149 rfl <| iC C 4 at_151 rfl <| iL C r4 at_152 rfl ?_
            have f_1091 := (lT f_1079 K_1089.1)
            refine cS C hw 38 39 2 40 rfl rfl rfl rfl (rm_noteN_0 hw a_798 2 4 4 r4 h_1085 f_1091 (by decide)) [] [(.ref a_798), (.int 2), (.int 4), (.int 4), (.int r4)] pd_19 0 at_154 ⟨rfl, rfl, rfl, rfl, rfl⟩ (by decide) ?_
            intro v_1094 h_1092 q_1093
            obtain ⟨rfl, rfl⟩ := q_1093
            show Go _ _ _ _ 4 18 157 _ [(.int 2)]
            refine iS C at_157 (#[iV p0, iV p1, iV p2, iV p3, iV p4, iV p5, iV 4, iV r0, iV r1, iV r2, iV r3, iV r4, aV a_759, aV a_798, iV 2, uV, uV]) rfl <| aL C ((.ref a_798)) at_159 rfl rfl <| iL C 2 at_161 rfl <| iL C 4 at_163 rfl <| yiastore C f_1090 (by decide) (i := 2) (by decide) (show 2 < 6 by decide) (w := (.int 4)) rfl ge_a_798 at_165 ?_
            intro h_1096 K_1097 A_1098
            have f_1099 : Ary Z h_1096 a_798 .int [(.int 1), (.int 3), (.int 4), (.int 0), (.int 0), (.int 0)] := A_1098
            refine iL C 2 at_166 rfl <| iC C 1 at_168 rfl <| yiadd C at_169 <| eS [(.int 3)] rfl <| iS C at_170 (#[iV p0, iV p1, iV p2, iV p3, iV p4, iV p5, iV 4, iV r0, iV r1, iV r2, iV r3, iV r4, aV a_759, aV a_798, iV 2, iV 3, uV]) rfl ?_
            have f_1100 := ((((f_795.ext E_800).keep K_1027).keep K_1089).keep K_1097)
            have f_1101 := ((((f_790.ext E_800).keep K_1027 (ninS ne_802 nin0)).keep K_1089 (ninS ne_802 nin0)).keep K_1097 (ninS ne_802 nin0))
            have f_1102 := ((((f_791.ext E_800).keep K_1027 (ninS ne_802 nin0)).keep K_1089 (ninS ne_802 nin0)).keep K_1097 (ninS ne_802 nin0))
            have f_1103 := ((((f_792.ext E_800).keep K_1027 (ninS ne_804 nin0)).keep K_1089 (ninS ne_804 nin0)).keep K_1097 (ninS ne_804 nin0))
            have f_1104 := (lT f_1091 K_1097.1)
            have f_1105 := (((((f_777.keep K_787 (allS ge_a_759 all0)).ext E_800).keep K_1027 (allS ge_a_798 all0)).keep K_1089 (allS ge_a_798 all0)).keep K_1097 (allS ge_a_798 all0))
            exact own_up (rm_tail_3 hw p0 p1 p2 p3 p4 p5 4 r0 r1 r2 r3 r4 a_759 a_798 1 3 4 0 0 0 h_1096 f_1104 f_1105 f_1099 (rm_split_3 hw a_759 1 3 4 h_1096 f_1104 f_1105 f_1100 (by decide) (by decide) (fun h u v k => rm_sio1 hw a_759 1 h u (f_1100.keep k) (rm_sioI_4_0_2 hw a_759 b_788 (bY r0) (bY r1) (bY r2) (bY r3) h u cm v (f_1100.keep k) (f_1101.keep k nin0) (f_1102.keep k nin0) (f_1103.keep k nin0) (own_by9 kr0 hb_808) (own_by9' hb_1022))) (fun h u v k => rm_sioI_4_2_4 hw a_759 b_788 (bY r0) (bY r1) (bY r2) (bY r3) h u cm v (f_1100.keep k) (f_1101.keep k nin0) (f_1102.keep k nin0) (f_1103.keep k nin0) (own_by9 kr2 hb_1029) (own_by9' hb_1084)) (fun h u v k => rm_sioI_4_4_0 hw a_759 b_788 (bY r0) (bY r1) (bY r2) (bY r3) h u cm v (f_1100.keep k) (f_1101.keep k nin0) (f_1102.keep k nin0) (f_1103.keep k nin0) ) (fun h u v k => rm_length_4 hw a_759 b_788 (bY r0) (bY r1) (bY r2) (bY r3) h u cm v (f_1100.keep k) (f_1101.keep k nin0) (f_1102.keep k nin0) (f_1103.keep k nin0))) B C hW) (by decide) (by decide)
          · refine cS C hw 38 39 2 40 rfl rfl rfl rfl (rm_noteN_1 hw a_798 1 4 3 r3 h_1023 f_1079 (by decide) hb_1084) [] [(.ref a_798), (.int 1), (.int 4), (.int 3), (.int r3)] pd_19 0 at_140 ⟨rfl, rfl, rfl, rfl, rfl⟩ (by decide) ?_
            intro v_1108 h_1106 q_1107
            obtain ⟨rfl, rfl⟩ := q_1107
            show Go _ _ _ _ 4 18 143 _ [(.int 1)]
            refine iS C at_143 (#[iV p0, iV p1, iV p2, iV p3, iV p4, iV p5, iV 4, iV r0, iV r1, iV r2, iV r3, iV r4, aV a_759, aV a_798, iV 1, uV, uV]) rfl <| aL C ((.ref a_798)) at_145 rfl rfl <| iL C 1 at_147 rfl <| iL C 4 at_149 rfl <| iC C 4 at_151 rfl <| iL C r4 at_152 rfl <| cS C hw 38 39 2 40 rfl rfl rfl rfl (rm_noteN_0 hw a_798 1 4 4 r4 h_1023 f_1079 (by decide)) [] [(.ref a_798), (.int 1), (.int 4), (.int 4), (.int r4)] pd_19 0 at_154 ⟨rfl, rfl, rfl, rfl, rfl⟩ (by decide) ?_
            intro v_1112 h_1110 q_1111
            obtain ⟨rfl, rfl⟩ := q_1111
            show Go _ _ _ _ 4 18 157 _ [(.int 1)]
            refine iS C at_157 (#[iV p0, iV p1, iV p2, iV p3, iV p4, iV p5, iV 4, iV r0, iV r1, iV r2, iV r3, iV r4, aV a_759, aV a_798, iV 1, uV, uV]) rfl <| aL C ((.ref a_798)) at_159 rfl rfl <| iL C 1 at_161 rfl <| iL C 4 at_163 rfl <| yiastore C f_1028 (by decide) (i := 1) (by decide) (show 1 < 6 by decide) (w := (.int 4)) rfl ge_a_798 at_165 ?_
            intro h_1114 K_1115 A_1116
            have f_1117 : Ary Z h_1114 a_798 .int [(.int 1), (.int 4), (.int 0), (.int 0), (.int 0), (.int 0)] := A_1116
            refine iL C 1 at_166 rfl <| iC C 1 at_168 rfl <| yiadd C at_169 <| eS [(.int 2)] rfl <| iS C at_170 (#[iV p0, iV p1, iV p2, iV p3, iV p4, iV p5, iV 4, iV r0, iV r1, iV r2, iV r3, iV r4, aV a_759, aV a_798, iV 1, iV 2, uV]) rfl ?_
            have f_1118 := (((f_795.ext E_800).keep K_1027).keep K_1115)
            have f_1119 := (((f_790.ext E_800).keep K_1027 (ninS ne_802 nin0)).keep K_1115 (ninS ne_802 nin0))
            have f_1120 := (((f_791.ext E_800).keep K_1027 (ninS ne_802 nin0)).keep K_1115 (ninS ne_802 nin0))
            have f_1121 := (((f_792.ext E_800).keep K_1027 (ninS ne_804 nin0)).keep K_1115 (ninS ne_804 nin0))
            have f_1122 := (lT f_1079 K_1115.1)
            have f_1123 := ((((f_777.keep K_787 (allS ge_a_759 all0)).ext E_800).keep K_1027 (allS ge_a_798 all0)).keep K_1115 (allS ge_a_798 all0))
            exact own_up (rm_tail_2 hw p0 p1 p2 p3 p4 p5 4 r0 r1 r2 r3 r4 a_759 a_798 1 4 0 0 0 0 h_1114 f_1122 f_1123 f_1117 (rm_split_2 hw a_759 1 4 h_1114 f_1122 f_1123 f_1118 (by decide) (fun h u v k => rm_sio1 hw a_759 1 h u (f_1118.keep k) (rm_sioI_4_0_2 hw a_759 b_788 (bY r0) (bY r1) (bY r2) (bY r3) h u cm v (f_1118.keep k) (f_1119.keep k nin0) (f_1120.keep k nin0) (f_1121.keep k nin0) (own_by9 kr0 hb_808) (own_by9' hb_1022))) (fun h u v k => rm_sioI_4_2_0 hw a_759 b_788 (bY r0) (bY r1) (bY r2) (bY r3) h u cm v (f_1118.keep k) (f_1119.keep k nin0) (f_1120.keep k nin0) (f_1121.keep k nin0) (own_by9 kr2 hb_1029) (own_by9 kr3 hb_1084)) (fun h u v k => rm_length_4 hw a_759 b_788 (bY r0) (bY r1) (bY r2) (bY r3) h u cm v (f_1118.keep k) (f_1119.keep k nin0) (f_1120.keep k nin0) (f_1121.keep k nin0))) B C hW) (by decide) (by decide)
      · refine cS C hw 38 39 2 40 rfl rfl rfl rfl (rm_noteN_1 hw a_798 0 4 1 r1 h_797 f_1017 (by decide) hb_1022) [] [(.ref a_798), (.int 0), (.int 4), (.int 1), (.int r1)] pd_19 0 at_112 ⟨rfl, rfl, rfl, rfl, rfl⟩ (by decide) ?_
        intro v_1126 h_1124 q_1125
        obtain ⟨rfl, rfl⟩ := q_1125
        show Go _ _ _ _ 4 18 115 _ [(.int 0)]
        refine iS C at_115 (#[iV p0, iV p1, iV p2, iV p3, iV p4, iV p5, iV 4, iV r0, iV r1, iV r2, iV r3, iV r4, aV a_759, aV a_798, iV 0, uV, uV]) rfl <| aL C ((.ref a_798)) at_117 rfl rfl <| iL C 0 at_119 rfl <| iL C 4 at_121 rfl <| iC C 2 at_123 rfl <| iL C r2 at_124 rfl ?_
        by_cases hb_1128 : r2 = 9
        · refine cS C hw 38 39 2 40 rfl rfl rfl rfl (rm_noteY_0 hw a_798 0 0 0 0 0 0 4 2 r2 h_797 f_1017 f_807 ge_a_798 (by decide) hb_1128) [] [(.ref a_798), (.int 0), (.int 4), (.int 2), (.int r2)] pd_19 0 at_126 ⟨rfl, rfl, rfl, rfl, rfl⟩ (by decide) ?_
          intro v_1131 h_1129 q_1130
          obtain ⟨rfl, K_1133, f_1134⟩ := q_1130
          show Go _ _ _ _ 4 18 129 _ [(.int 1)]
          refine iS C at_129 (#[iV p0, iV p1, iV p2, iV p3, iV p4, iV p5, iV 4, iV r0, iV r1, iV r2, iV r3, iV r4, aV a_759, aV a_798, iV 1, uV, uV]) rfl <| aL C ((.ref a_798)) at_131 rfl rfl <| iL C 1 at_133 rfl <| iL C 4 at_135 rfl <| iC C 3 at_137 rfl <| iL C r3 at_138 rfl ?_
          by_cases hb_1135 : r3 = 9
          · have f_1136 := (lT f_1017 K_1133.1)
            refine cS C hw 38 39 2 40 rfl rfl rfl rfl (rm_noteY_1 hw a_798 2 0 0 0 0 0 4 3 r3 h_1129 f_1136 f_1134 ge_a_798 (by decide) hb_1135) [] [(.ref a_798), (.int 1), (.int 4), (.int 3), (.int r3)] pd_19 0 at_140 ⟨rfl, rfl, rfl, rfl, rfl⟩ (by decide) ?_
            intro v_1139 h_1137 q_1138
            obtain ⟨rfl, K_1141, f_1142⟩ := q_1138
            show Go _ _ _ _ 4 18 143 _ [(.int 2)]
            refine iS C at_143 (#[iV p0, iV p1, iV p2, iV p3, iV p4, iV p5, iV 4, iV r0, iV r1, iV r2, iV r3, iV r4, aV a_759, aV a_798, iV 2, uV, uV]) rfl <| aL C ((.ref a_798)) at_145 rfl rfl <| iL C 2 at_147 rfl <| iL C 4 at_149 rfl <| iC C 4 at_151 rfl <| iL C r4 at_152 rfl ?_
            have f_1143 := (lT f_1136 K_1141.1)
            refine cS C hw 38 39 2 40 rfl rfl rfl rfl (rm_noteN_0 hw a_798 2 4 4 r4 h_1137 f_1143 (by decide)) [] [(.ref a_798), (.int 2), (.int 4), (.int 4), (.int r4)] pd_19 0 at_154 ⟨rfl, rfl, rfl, rfl, rfl⟩ (by decide) ?_
            intro v_1146 h_1144 q_1145
            obtain ⟨rfl, rfl⟩ := q_1145
            show Go _ _ _ _ 4 18 157 _ [(.int 2)]
            refine iS C at_157 (#[iV p0, iV p1, iV p2, iV p3, iV p4, iV p5, iV 4, iV r0, iV r1, iV r2, iV r3, iV r4, aV a_759, aV a_798, iV 2, uV, uV]) rfl <| aL C ((.ref a_798)) at_159 rfl rfl <| iL C 2 at_161 rfl <| iL C 4 at_163 rfl <| yiastore C f_1142 (by decide) (i := 2) (by decide) (show 2 < 6 by decide) (w := (.int 4)) rfl ge_a_798 at_165 ?_
            intro h_1148 K_1149 A_1150
            have f_1151 : Ary Z h_1148 a_798 .int [(.int 2), (.int 3), (.int 4), (.int 0), (.int 0), (.int 0)] := A_1150
            refine iL C 2 at_166 rfl <| iC C 1 at_168 rfl <| yiadd C at_169 <| eS [(.int 3)] rfl <| iS C at_170 (#[iV p0, iV p1, iV p2, iV p3, iV p4, iV p5, iV 4, iV r0, iV r1, iV r2, iV r3, iV r4, aV a_759, aV a_798, iV 2, iV 3, uV]) rfl ?_
            have f_1152 := ((((f_795.ext E_800).keep K_1133).keep K_1141).keep K_1149)
            have f_1153 := ((((f_790.ext E_800).keep K_1133 (ninS ne_802 nin0)).keep K_1141 (ninS ne_802 nin0)).keep K_1149 (ninS ne_802 nin0))
            have f_1154 := ((((f_791.ext E_800).keep K_1133 (ninS ne_802 nin0)).keep K_1141 (ninS ne_802 nin0)).keep K_1149 (ninS ne_802 nin0))
            have f_1155 := ((((f_792.ext E_800).keep K_1133 (ninS ne_804 nin0)).keep K_1141 (ninS ne_804 nin0)).keep K_1149 (ninS ne_804 nin0))
            have f_1156 := (lT f_1143 K_1149.1)
            have f_1157 := (((((f_777.keep K_787 (allS ge_a_759 all0)).ext E_800).keep K_1133 (allS ge_a_798 all0)).keep K_1141 (allS ge_a_798 all0)).keep K_1149 (allS ge_a_798 all0))
            exact own_up (rm_tail_3 hw p0 p1 p2 p3 p4 p5 4 r0 r1 r2 r3 r4 a_759 a_798 2 3 4 0 0 0 h_1148 f_1156 f_1157 f_1151 (rm_split_3 hw a_759 2 3 4 h_1148 f_1156 f_1157 f_1152 (by decide) (by decide) (fun h u v k => rm_sio1 hw a_759 2 h u (f_1152.keep k) (rm_sioI_4_0_3 hw a_759 b_788 (bY r0) (bY r1) (bY r2) (bY r3) h u cm v (f_1152.keep k) (f_1153.keep k nin0) (f_1154.keep k nin0) (f_1155.keep k nin0) (own_by9 kr0 hb_808) (own_by9 kr1 hb_1022) (own_by9' hb_1128))) (fun h u v k => rm_sioI_4_3_4 hw a_759 b_788 (bY r0) (bY r1) (bY r2) (bY r3) h u cm v (f_1152.keep k) (f_1153.keep k nin0) (f_1154.keep k nin0) (f_1155.keep k nin0) (own_by9' hb_1135)) (fun h u v k => rm_sioI_4_4_0 hw a_759 b_788 (bY r0) (bY r1) (bY r2) (bY r3) h u cm v (f_1152.keep k) (f_1153.keep k nin0) (f_1154.keep k nin0) (f_1155.keep k nin0) ) (fun h u v k => rm_length_4 hw a_759 b_788 (bY r0) (bY r1) (bY r2) (bY r3) h u cm v (f_1152.keep k) (f_1153.keep k nin0) (f_1154.keep k nin0) (f_1155.keep k nin0))) B C hW) (by decide) (by decide)
          · have f_1158 := (lT f_1017 K_1133.1)
            refine cS C hw 38 39 2 40 rfl rfl rfl rfl (rm_noteN_1 hw a_798 1 4 3 r3 h_1129 f_1158 (by decide) hb_1135) [] [(.ref a_798), (.int 1), (.int 4), (.int 3), (.int r3)] pd_19 0 at_140 ⟨rfl, rfl, rfl, rfl, rfl⟩ (by decide) ?_
            intro v_1161 h_1159 q_1160
            obtain ⟨rfl, rfl⟩ := q_1160
            show Go _ _ _ _ 4 18 143 _ [(.int 1)]
            refine iS C at_143 (#[iV p0, iV p1, iV p2, iV p3, iV p4, iV p5, iV 4, iV r0, iV r1, iV r2, iV r3, iV r4, aV a_759, aV a_798, iV 1, uV, uV]) rfl <| aL C ((.ref a_798)) at_145 rfl rfl <| iL C 1 at_147 rfl <| iL C 4 at_149 rfl <| iC C 4 at_151 rfl <| iL C r4 at_152 rfl <| cS C hw 38 39 2 40 rfl rfl rfl rfl (rm_noteN_0 hw a_798 1 4 4 r4 h_1129 f_1158 (by decide)) [] [(.ref a_798), (.int 1), (.int 4), (.int 4), (.int r4)] pd_19 0 at_154 ⟨rfl, rfl, rfl, rfl, rfl⟩ (by decide) ?_
            intro v_1165 h_1163 q_1164
            obtain ⟨rfl, rfl⟩ := q_1164
            show Go _ _ _ _ 4 18 157 _ [(.int 1)]
            refine iS C at_157 (#[iV p0, iV p1, iV p2, iV p3, iV p4, iV p5, iV 4, iV r0, iV r1, iV r2, iV r3, iV r4, aV a_759, aV a_798, iV 1, uV, uV]) rfl <| aL C ((.ref a_798)) at_159 rfl rfl <| iL C 1 at_161 rfl <| iL C 4 at_163 rfl <| yiastore C f_1134 (by decide) (i := 1) (by decide) (show 1 < 6 by decide) (w := (.int 4)) rfl ge_a_798 at_165 ?_
            intro h_1167 K_1168 A_1169
            have f_1170 : Ary Z h_1167 a_798 .int [(.int 2), (.int 4), (.int 0), (.int 0), (.int 0), (.int 0)] := A_1169
            refine iL C 1 at_166 rfl <| iC C 1 at_168 rfl <| yiadd C at_169 <| eS [(.int 2)] rfl <| iS C at_170 (#[iV p0, iV p1, iV p2, iV p3, iV p4, iV p5, iV 4, iV r0, iV r1, iV r2, iV r3, iV r4, aV a_759, aV a_798, iV 1, iV 2, uV]) rfl ?_
            have f_1171 := (((f_795.ext E_800).keep K_1133).keep K_1168)
            have f_1172 := (((f_790.ext E_800).keep K_1133 (ninS ne_802 nin0)).keep K_1168 (ninS ne_802 nin0))
            have f_1173 := (((f_791.ext E_800).keep K_1133 (ninS ne_802 nin0)).keep K_1168 (ninS ne_802 nin0))
            have f_1174 := (((f_792.ext E_800).keep K_1133 (ninS ne_804 nin0)).keep K_1168 (ninS ne_804 nin0))
            have f_1175 := (lT f_1158 K_1168.1)
            have f_1176 := ((((f_777.keep K_787 (allS ge_a_759 all0)).ext E_800).keep K_1133 (allS ge_a_798 all0)).keep K_1168 (allS ge_a_798 all0))
            exact own_up (rm_tail_2 hw p0 p1 p2 p3 p4 p5 4 r0 r1 r2 r3 r4 a_759 a_798 2 4 0 0 0 0 h_1167 f_1175 f_1176 f_1170 (rm_split_2 hw a_759 2 4 h_1167 f_1175 f_1176 f_1171 (by decide) (fun h u v k => rm_sio1 hw a_759 2 h u (f_1171.keep k) (rm_sioI_4_0_3 hw a_759 b_788 (bY r0) (bY r1) (bY r2) (bY r3) h u cm v (f_1171.keep k) (f_1172.keep k nin0) (f_1173.keep k nin0) (f_1174.keep k nin0) (own_by9 kr0 hb_808) (own_by9 kr1 hb_1022) (own_by9' hb_1128))) (fun h u v k => rm_sioI_4_3_0 hw a_759 b_788 (bY r0) (bY r1) (bY r2) (bY r3) h u cm v (f_1171.keep k) (f_1172.keep k nin0) (f_1173.keep k nin0) (f_1174.keep k nin0) (own_by9 kr3 hb_1135)) (fun h u v k => rm_length_4 hw a_759 b_788 (bY r0) (bY r1) (bY r2) (bY r3) h u cm v (f_1171.keep k) (f_1172.keep k nin0) (f_1173.keep k nin0) (f_1174.keep k nin0))) B C hW) (by decide) (by decide)
        · refine cS C hw 38 39 2 40 rfl rfl rfl rfl (rm_noteN_1 hw a_798 0 4 2 r2 h_797 f_1017 (by decide) hb_1128) [] [(.ref a_798), (.int 0), (.int 4), (.int 2), (.int r2)] pd_19 0 at_126 ⟨rfl, rfl, rfl, rfl, rfl⟩ (by decide) ?_
          intro v_1179 h_1177 q_1178
          obtain ⟨rfl, rfl⟩ := q_1178
          show Go _ _ _ _ 4 18 129 _ [(.int 0)]
          refine iS C at_129 (#[iV p0, iV p1, iV p2, iV p3, iV p4, iV p5, iV 4, iV r0, iV r1, iV r2, iV r3, iV r4, aV a_759, aV a_798, iV 0, uV, uV]) rfl <| aL C ((.ref a_798)) at_131 rfl rfl <| iL C 0 at_133 rfl <| iL C 4 at_135 rfl <| iC C 3 at_137 rfl <| iL C r3 at_138 rfl ?_
          by_cases hb_1181 : r3 = 9
          · refine cS C hw 38 39 2 40 rfl rfl rfl rfl (rm_noteY_0 hw a_798 0 0 0 0 0 0 4 3 r3 h_797 f_1017 f_807 ge_a_798 (by decide) hb_1181) [] [(.ref a_798), (.int 0), (.int 4), (.int 3), (.int r3)] pd_19 0 at_140 ⟨rfl, rfl, rfl, rfl, rfl⟩ (by decide) ?_
            intro v_1184 h_1182 q_1183
            obtain ⟨rfl, K_1186, f_1187⟩ := q_1183
            show Go _ _ _ _ 4 18 143 _ [(.int 1)]
            refine iS C at_143 (#[iV p0, iV p1, iV p2, iV p3, iV p4, iV p5, iV 4, iV r0, iV r1, iV r2, iV r3, iV r4, aV a_759, aV a_798, iV 1, uV, uV]) rfl <| aL C ((.ref a_798)) at_145 rfl rfl <| iL C 1 at_147 rfl <| iL C 4 at_149 rfl <| iC C 4 at_151 rfl <| iL C r4 at_152 rfl ?_
            have f_1188 := (lT f_1017 K_1186.1)
            refine cS C hw 38 39 2 40 rfl rfl rfl rfl (rm_noteN_0 hw a_798 1 4 4 r4 h_1182 f_1188 (by decide)) [] [(.ref a_798), (.int 1), (.int 4), (.int 4), (.int r4)] pd_19 0 at_154 ⟨rfl, rfl, rfl, rfl, rfl⟩ (by decide) ?_
            intro v_1191 h_1189 q_1190
            obtain ⟨rfl, rfl⟩ := q_1190
            show Go _ _ _ _ 4 18 157 _ [(.int 1)]
            refine iS C at_157 (#[iV p0, iV p1, iV p2, iV p3, iV p4, iV p5, iV 4, iV r0, iV r1, iV r2, iV r3, iV r4, aV a_759, aV a_798, iV 1, uV, uV]) rfl <| aL C ((.ref a_798)) at_159 rfl rfl <| iL C 1 at_161 rfl <| iL C 4 at_163 rfl <| yiastore C f_1187 (by decide) (i := 1) (by decide) (show 1 < 6 by decide) (w := (.int 4)) rfl ge_a_798 at_165 ?_
            intro h_1193 K_1194 A_1195
            have f_1196 : Ary Z h_1193 a_798 .int [(.int 3), (.int 4), (.int 0), (.int 0), (.int 0), (.int 0)] := A_1195
            refine iL C 1 at_166 rfl <| iC C 1 at_168 rfl <| yiadd C at_169 <| eS [(.int 2)] rfl <| iS C at_170 (#[iV p0, iV p1, iV p2, iV p3, iV p4, iV p5, iV 4, iV r0, iV r1, iV r2, iV r3, iV r4, aV a_759, aV a_798, iV 1, iV 2, uV]) rfl ?_
            have f_1197 := (((f_795.ext E_800).keep K_1186).keep K_1194)
            have f_1198 := (((f_790.ext E_800).keep K_1186 (ninS ne_802 nin0)).keep K_1194 (ninS ne_802 nin0))
            have f_1199 := (((f_791.ext E_800).keep K_1186 (ninS ne_802 nin0)).keep K_1194 (ninS ne_802 nin0))
            have f_1200 := (((f_792.ext E_800).keep K_1186 (ninS ne_804 nin0)).keep K_1194 (ninS ne_804 nin0))
            have f_1201 := (lT f_1188 K_1194.1)
            have f_1202 := ((((f_777.keep K_787 (allS ge_a_759 all0)).ext E_800).keep K_1186 (allS ge_a_798 all0)).keep K_1194 (allS ge_a_798 all0))
            exact own_up (rm_tail_2 hw p0 p1 p2 p3 p4 p5 4 r0 r1 r2 r3 r4 a_759 a_798 3 4 0 0 0 0 h_1193 f_1201 f_1202 f_1196 (rm_split_2 hw a_759 3 4 h_1193 f_1201 f_1202 f_1197 (by decide) (fun h u v k => rm_sio1 hw a_759 3 h u (f_1197.keep k) (rm_sioI_4_0_4 hw a_759 b_788 (bY r0) (bY r1) (bY r2) (bY r3) h u cm v (f_1197.keep k) (f_1198.keep k nin0) (f_1199.keep k nin0) (f_1200.keep k nin0) (own_by9 kr0 hb_808) (own_by9 kr1 hb_1022) (own_by9 kr2 hb_1128) (own_by9' hb_1181))) (fun h u v k => rm_sioI_4_4_0 hw a_759 b_788 (bY r0) (bY r1) (bY r2) (bY r3) h u cm v (f_1197.keep k) (f_1198.keep k nin0) (f_1199.keep k nin0) (f_1200.keep k nin0) ) (fun h u v k => rm_length_4 hw a_759 b_788 (bY r0) (bY r1) (bY r2) (bY r3) h u cm v (f_1197.keep k) (f_1198.keep k nin0) (f_1199.keep k nin0) (f_1200.keep k nin0))) B C hW) (by decide) (by decide)
          · refine cS C hw 38 39 2 40 rfl rfl rfl rfl (rm_noteN_1 hw a_798 0 4 3 r3 h_797 f_1017 (by decide) hb_1181) [] [(.ref a_798), (.int 0), (.int 4), (.int 3), (.int r3)] pd_19 0 at_140 ⟨rfl, rfl, rfl, rfl, rfl⟩ (by decide) ?_
            intro v_1205 h_1203 q_1204
            obtain ⟨rfl, rfl⟩ := q_1204
            show Go _ _ _ _ 4 18 143 _ [(.int 0)]
            refine iS C at_143 (#[iV p0, iV p1, iV p2, iV p3, iV p4, iV p5, iV 4, iV r0, iV r1, iV r2, iV r3, iV r4, aV a_759, aV a_798, iV 0, uV, uV]) rfl <| aL C ((.ref a_798)) at_145 rfl rfl <| iL C 0 at_147 rfl <| iL C 4 at_149 rfl <| iC C 4 at_151 rfl <| iL C r4 at_152 rfl <| cS C hw 38 39 2 40 rfl rfl rfl rfl (rm_noteN_0 hw a_798 0 4 4 r4 h_797 f_1017 (by decide)) [] [(.ref a_798), (.int 0), (.int 4), (.int 4), (.int r4)] pd_19 0 at_154 ⟨rfl, rfl, rfl, rfl, rfl⟩ (by decide) ?_
            intro v_1209 h_1207 q_1208
            obtain ⟨rfl, rfl⟩ := q_1208
            show Go _ _ _ _ 4 18 157 _ [(.int 0)]
            refine iS C at_157 (#[iV p0, iV p1, iV p2, iV p3, iV p4, iV p5, iV 4, iV r0, iV r1, iV r2, iV r3, iV r4, aV a_759, aV a_798, iV 0, uV, uV]) rfl <| aL C ((.ref a_798)) at_159 rfl rfl <| iL C 0 at_161 rfl <| iL C 4 at_163 rfl <| yiastore C f_807 (by decide) (i := 0) (by decide) (show 0 < 6 by decide) (w := (.int 4)) rfl ge_a_798 at_165 ?_
            intro h_1211 K_1212 A_1213
            have f_1214 : Ary Z h_1211 a_798 .int [(.int 4), (.int 0), (.int 0), (.int 0), (.int 0), (.int 0)] := A_1213
            refine iL C 0 at_166 rfl <| iC C 1 at_168 rfl <| yiadd C at_169 <| eS [(.int 1)] rfl <| iS C at_170 (#[iV p0, iV p1, iV p2, iV p3, iV p4, iV p5, iV 4, iV r0, iV r1, iV r2, iV r3, iV r4, aV a_759, aV a_798, iV 0, iV 1, uV]) rfl ?_
            have f_1215 := ((f_795.ext E_800).keep K_1212)
            have f_1216 := ((f_790.ext E_800).keep K_1212 (ninS ne_802 nin0))
            have f_1217 := ((f_791.ext E_800).keep K_1212 (ninS ne_802 nin0))
            have f_1218 := ((f_792.ext E_800).keep K_1212 (ninS ne_804 nin0))
            have f_1219 := (lT f_1017 K_1212.1)
            have f_1220 := (((f_777.keep K_787 (allS ge_a_759 all0)).ext E_800).keep K_1212 (allS ge_a_798 all0))
            exact own_up (rm_tail_1 hw p0 p1 p2 p3 p4 p5 4 r0 r1 r2 r3 r4 a_759 a_798 4 0 0 0 0 0 h_1211 f_1219 f_1220 f_1214 (rm_split_1 hw a_759 4 h_1211 f_1219 f_1220 f_1215  (fun h u v k => rm_sio1 hw a_759 (-1 : Int32) h u (f_1215.keep k) (rm_sioI_4_0_0 hw a_759 b_788 (bY r0) (bY r1) (bY r2) (bY r3) h u cm v (f_1215.keep k) (f_1216.keep k nin0) (f_1217.keep k nin0) (f_1218.keep k nin0) (own_by9 kr0 hb_808) (own_by9 kr1 hb_1022) (own_by9 kr2 hb_1128) (own_by9 kr3 hb_1181))) (fun h u v k => rm_length_4 hw a_759 b_788 (bY r0) (bY r1) (bY r2) (bY r3) h u cm v (f_1215.keep k) (f_1216.keep k nin0) (f_1217.keep k nin0) (f_1218.keep k nin0))) B C hW) (by decide) (by decide)
  · subst i_1e
    show Go _ _ _ _ 0 0 8 _ [(.int 5)]
    refine iS C at_8 (#[iV p0, iV p1, iV p2, iV p3, iV p4, iV p5, iV 5, uV, uV, uV, uV, uV, uV, uV, uV, uV, uV]) rfl <| iN C p0 at_10 rfl <| iL C p5 at_11 rfl <| iC C 0 at_13 rfl <| cS C hw 0 1 2 3 rfl rfl rfl rfl (rm_ch hw p0 p5 0 h0 Z0 ) [] [(.int p0), (.int p5), (.int 0)] pd_24 0 at_14 ⟨rfl, rfl, rfl, rfl, rfl⟩ (by decide) ?_
    intro v_1223 h_1221 q_1222
    obtain ⟨r0, rfl, kr0, rfl⟩ := q_1222
    show Go _ _ _ _ 0 0 17 _ [(.int r0)]
    refine iS C at_17 (#[iV p0, iV p1, iV p2, iV p3, iV p4, iV p5, iV 5, iV r0, uV, uV, uV, uV, uV, uV, uV, uV, uV]) rfl <| iN C p1 at_19 rfl <| iL C p5 at_20 rfl <| iC C 1 at_22 rfl <| cS C hw 0 1 2 3 rfl rfl rfl rfl (rm_ch hw p1 p5 1 h0 Z0 ) [] [(.int p1), (.int p5), (.int 1)] pd_24 0 at_23 ⟨rfl, rfl, rfl, rfl, rfl⟩ (by decide) ?_
    intro v_1227 h_1225 q_1226
    obtain ⟨r1, rfl, kr1, rfl⟩ := q_1226
    show Go _ _ _ _ 0 0 26 _ [(.int r1)]
    refine iS C at_26 (#[iV p0, iV p1, iV p2, iV p3, iV p4, iV p5, iV 5, iV r0, iV r1, uV, uV, uV, uV, uV, uV, uV, uV]) rfl <| iN C p2 at_28 rfl <| iL C p5 at_29 rfl <| iC C 2 at_31 rfl <| cS C hw 0 1 2 3 rfl rfl rfl rfl (rm_ch hw p2 p5 2 h0 Z0 ) [] [(.int p2), (.int p5), (.int 2)] pd_24 0 at_32 ⟨rfl, rfl, rfl, rfl, rfl⟩ (by decide) ?_
    intro v_1231 h_1229 q_1230
    obtain ⟨r2, rfl, kr2, rfl⟩ := q_1230
    show Go _ _ _ _ 0 0 35 _ [(.int r2)]
    refine iS C at_35 (#[iV p0, iV p1, iV p2, iV p3, iV p4, iV p5, iV 5, iV r0, iV r1, iV r2, uV, uV, uV, uV, uV, uV, uV]) rfl <| iN C p3 at_37 rfl <| iL C p5 at_38 rfl <| iC C 3 at_40 rfl <| cS C hw 0 1 2 3 rfl rfl rfl rfl (rm_ch hw p3 p5 3 h0 Z0 ) [] [(.int p3), (.int p5), (.int 3)] pd_24 0 at_41 ⟨rfl, rfl, rfl, rfl, rfl⟩ (by decide) ?_
    intro v_1235 h_1233 q_1234
    obtain ⟨r3, rfl, kr3, rfl⟩ := q_1234
    show Go _ _ _ _ 0 0 44 _ [(.int r3)]
    refine iS C at_44 (#[iV p0, iV p1, iV p2, iV p3, iV p4, iV p5, iV 5, iV r0, iV r1, iV r2, iV r3, uV, uV, uV, uV, uV, uV]) rfl <| iL C p4 at_46 rfl <| iL C p5 at_48 rfl <| iC C 4 at_50 rfl <| cS C hw 0 1 2 3 rfl rfl rfl rfl (rm_ch hw p4 p5 4 h0 Z0 ) [] [(.int p4), (.int p5), (.int 4)] pd_24 0 at_51 ⟨rfl, rfl, rfl, rfl, rfl⟩ (by decide) ?_
    intro v_1239 h_1237 q_1238
    obtain ⟨r4, rfl, kr4, rfl⟩ := q_1238
    show Go _ _ _ _ 0 0 54 _ [(.int r4)]
    refine iS C at_54 (#[iV p0, iV p1, iV p2, iV p3, iV p4, iV p5, iV 5, iV r0, iV r1, iV r2, iV r3, iV r4, uV, uV, uV, uV, uV]) rfl <| ynew C (oW hw 4 rfl) (oW hw 5 rfl) (oW hw 6 rfl) (by decide) (by decide) at_56 ?_
    intro h_1241 a_1242 g_1243 E_1244 A_1245 D_1246
    have ge_a_1242 : n0 ≤ a_1242 := lT Z0 (lE g_1243.symm)
    have gs_a_1242 : h0.size ≤ a_1242 := lT (Nat.le_refl h0.size) (lE g_1243.symm)
    have f_1247 : Fld Z h_1241 a_1242 "java/lang/String" "coder" "B" (.int 0) := D_1246 (Or.inr (oW hw 34 rfl)) (ty := .byte) (by decide)
    have f_1248 : Fld Z h_1241 a_1242 "java/lang/String" "value" "[B" .null := D_1246 (Or.inr (oW hw 36 rfl)) (ty := (.array .byte)) (by decide)
    show Go _ _ _ _ 1 4 59 _ [(.ref a_1242)]
    refine ydup C at_59 rfl <| iL C 5 at_60 rfl <| iL C r0 at_62 rfl <| iL C r1 at_64 rfl <| iL C r2 at_66 rfl <| iL C r3 at_68 rfl <| iL C r4 at_70 rfl ?_
    have f_1249 := (lT Z0 E_1244.1)
    have f_1250 := (lT (Nat.le_refl h0.size) E_1244.1)
    refine cS C hw 7 8 2 9 rfl rfl rfl rfl (rm_chars_5 hw r0 r1 r2 r3 r4 h_1241 f_1249 kr0 kr1 kr2 kr3 kr4) [(.ref a_1242), (.ref a_1242)] [(.int 5), (.int r0), (.int r1), (.int r2), (.int r3), (.int r4)] pd_20 2 at_72 ⟨rfl, rfl, rfl, rfl, rfl⟩ (by decide) ?_
    intro v_1253 h_1251 q_1252
    obtain ⟨b_1255, rfl, le_1256, K_1257, f_1258⟩ := q_1252
    have ne_1259 : a_1242 ≠ b_1255 := ne_ge A_1245.lt le_1256
    have ge_b_1255 : n0 ≤ b_1255 := lT f_1249 le_1256
    have gs_b_1255 : h0.size ≤ b_1255 := lT f_1250 le_1256
    show Go _ _ _ _ 2 9 75 _ [(.ref b_1255), (.ref a_1242), (.ref a_1242)]
    have f_1260 := ((O.ext E_1244).keep K_1257 all0)
    have f_1261 := (A_1245.keep K_1257)
    have f_1262 := (f_1248.keep K_1257 nin0)
    have f_1263 := (f_1247.keep K_1257 nin0)
    have f_1264 := (lT f_1249 K_1257.1)
    have f_1265 := (lT f_1250 K_1257.1)
    refine cP C hw 11 12 6 13 rfl rfl rfl rfl rfl (rm_init1_5 hw a_1242 b_1255 r0 r1 r2 r3 r4 h_1251 f_1264 cm f_1260 f_1261 f_1262 f_1263 ge_a_1242 f_1258 ne_1259 kr0 kr1 kr2 kr3 kr4) [(.ref a_1242)] [(.ref b_1255)] pd_16 1 at_75 ⟨rfl, rfl, rfl, rfl, rfl⟩ (by decide) ?_
    intro v_1268 h_1266 q_1267
    obtain ⟨rfl, K_1270, b_1271, le_1272, f_1273, f_1274, f_1275⟩ := q_1267
    have ne_1276 : a_1242 ≠ b_1271 := ne_ge f_1261.lt le_1272
    have ne_1277 : b_1255 ≠ b_1271 := ne_ge f_1258.lt le_1272
    have ge_b_1271 : n0 ≤ b_1271 := lT f_1264 le_1272
    have gs_b_1271 : h0.size ≤ b_1271 := lT f_1265 le_1272
    show Go _ _ _ _ 3 14 78 _ [(.ref a_1242)]
    refine aS C at_78 (#[iV p0, iV p1, iV p2, iV p3, iV p4, iV p5, iV 5, iV r0, iV r1, iV r2, iV r3, iV r4, aV a_1242, uV, uV, uV, uV]) rfl rfl <| iB C 6 at_80 rfl ?_
    have f_1278 := (f_1261.keep K_1270)
    have f_1279 := (f_1258.keep K_1270 (ninS (Ne.symm ne_1259) nin0))
    refine ynewarray C (oW hw 37 rfl) (ty := .int) rfl (by decide) (cap := 6) (by decide) (by decide) (by decide) (by decide) at_82 ?_
    intro h_1280 a_1281 g_1282 E_1283 A_1284
    have ne_1285 : a_1242 ≠ a_1281 := ne_new f_1278.lt g_1282
    have ne_1286 : b_1255 ≠ a_1281 := ne_new f_1279.lt g_1282
    have ne_1287 : b_1271 ≠ a_1281 := ne_new f_1275.lt g_1282
    have f_1288 := (lT f_1264 K_1270.1)
    have ge_a_1281 : n0 ≤ a_1281 := lT f_1288 (lE g_1282.symm)
    have f_1289 := (lT f_1265 K_1270.1)
    have gs_a_1281 : h0.size ≤ a_1281 := lT f_1289 (lE g_1282.symm)
    have f_1290 : Ary Z h_1280 a_1281 .int [(.int 0), (.int 0), (.int 0), (.int 0), (.int 0), (.int 0)] := A_1284
    show Go _ _ _ _ 4 20 84 _ [(.ref a_1281)]
    refine aS C at_84 (#[iV p0, iV p1, iV p2, iV p3, iV p4, iV p5, iV 5, iV r0, iV r1, iV r2, iV r3, iV r4, aV a_1242, aV a_1281, uV, uV, uV]) rfl rfl <| iC C 0 at_86 rfl <| iS C at_87 (#[iV p0, iV p1, iV p2, iV p3, iV p4, iV p5, iV 5, iV r0, iV r1, iV r2, iV r3, iV r4, aV a_1242, aV a_1281, iV 0, uV, uV]) rfl <| aL C ((.ref a_1281)) at_89 rfl rfl <| iL C 0 at_91 rfl <| iL C 5 at_93 rfl <| iC C 0 at_95 rfl <| iL C r0 at_96 rfl ?_
    by_cases hb_1291 : r0 = 9
    · have f_1292 := (lT f_1288 E_1283.1)
      refine cS C hw 38 39 2 40 rfl rfl rfl rfl (rm_noteY_0 hw a_1281 0 0 0 0 0 0 5 0 r0 h_1280 f_1292 f_1290 ge_a_1281 (by decide) hb_1291) [] [(.ref a_1281), (.int 0), (.int 5), (.int 0), (.int r0)] pd_19 0 at_98 ⟨rfl, rfl, rfl, rfl, rfl⟩ (by decide) ?_
      intro v_1295 h_1293 q_1294
      obtain ⟨rfl, K_1297, f_1298⟩ := q_1294
      show Go _ _ _ _ 4 20 101 _ [(.int 1)]
      refine iS C at_101 (#[iV p0, iV p1, iV p2, iV p3, iV p4, iV p5, iV 5, iV r0, iV r1, iV r2, iV r3, iV r4, aV a_1242, aV a_1281, iV 1, uV, uV]) rfl <| aL C ((.ref a_1281)) at_103 rfl rfl <| iL C 1 at_105 rfl <| iL C 5 at_107 rfl <| iC C 1 at_109 rfl <| iL C r1 at_110 rfl ?_
      by_cases hb_1299 : r1 = 9
      · have f_1300 := (lT f_1292 K_1297.1)
        refine cS C hw 38 39 2 40 rfl rfl rfl rfl (rm_noteY_1 hw a_1281 0 0 0 0 0 0 5 1 r1 h_1293 f_1300 f_1298 ge_a_1281 (by decide) hb_1299) [] [(.ref a_1281), (.int 1), (.int 5), (.int 1), (.int r1)] pd_19 0 at_112 ⟨rfl, rfl, rfl, rfl, rfl⟩ (by decide) ?_
        intro v_1303 h_1301 q_1302
        obtain ⟨rfl, K_1305, f_1306⟩ := q_1302
        show Go _ _ _ _ 4 20 115 _ [(.int 2)]
        refine iS C at_115 (#[iV p0, iV p1, iV p2, iV p3, iV p4, iV p5, iV 5, iV r0, iV r1, iV r2, iV r3, iV r4, aV a_1242, aV a_1281, iV 2, uV, uV]) rfl <| aL C ((.ref a_1281)) at_117 rfl rfl <| iL C 2 at_119 rfl <| iL C 5 at_121 rfl <| iC C 2 at_123 rfl <| iL C r2 at_124 rfl ?_
        by_cases hb_1307 : r2 = 9
        · have f_1308 := (lT f_1300 K_1305.1)
          refine cS C hw 38 39 2 40 rfl rfl rfl rfl (rm_noteY_2 hw a_1281 0 1 0 0 0 0 5 2 r2 h_1301 f_1308 f_1306 ge_a_1281 (by decide) hb_1307) [] [(.ref a_1281), (.int 2), (.int 5), (.int 2), (.int r2)] pd_19 0 at_126 ⟨rfl, rfl, rfl, rfl, rfl⟩ (by decide) ?_
          intro v_1311 h_1309 q_1310
          obtain ⟨rfl, K_1313, f_1314⟩ := q_1310
          show Go _ _ _ _ 4 20 129 _ [(.int 3)]
          refine iS C at_129 (#[iV p0, iV p1, iV p2, iV p3, iV p4, iV p5, iV 5, iV r0, iV r1, iV r2, iV r3, iV r4, aV a_1242, aV a_1281, iV 3, uV, uV]) rfl <| aL C ((.ref a_1281)) at_131 rfl rfl <| iL C 3 at_133 rfl <| iL C 5 at_135 rfl <| iC C 3 at_137 rfl <| iL C r3 at_138 rfl ?_
          by_cases hb_1315 : r3 = 9
          · have f_1316 := (lT f_1308 K_1313.1)
            refine cS C hw 38 39 2 40 rfl rfl rfl rfl (rm_noteY_3 hw a_1281 0 1 2 0 0 0 5 3 r3 h_1309 f_1316 f_1314 ge_a_1281 (by decide) hb_1315) [] [(.ref a_1281), (.int 3), (.int 5), (.int 3), (.int r3)] pd_19 0 at_140 ⟨rfl, rfl, rfl, rfl, rfl⟩ (by decide) ?_
            intro v_1319 h_1317 q_1318
            obtain ⟨rfl, K_1321, f_1322⟩ := q_1318
            show Go _ _ _ _ 4 20 143 _ [(.int 4)]
            refine iS C at_143 (#[iV p0, iV p1, iV p2, iV p3, iV p4, iV p5, iV 5, iV r0, iV r1, iV r2, iV r3, iV r4, aV a_1242, aV a_1281, iV 4, uV, uV]) rfl <| aL C ((.ref a_1281)) at_145 rfl rfl <| iL C 4 at_147 rfl <| iL C 5 at_149 rfl <| iC C 4 at_151 rfl <| iL C r4 at_152 rfl ?_
            by_cases hb_1323 : r4 = 9
            · have f_1324 := (lT f_1316 K_1321.1)
              refine cS C hw 38 39 2 40 rfl rfl rfl rfl (rm_noteY_4 hw a_1281 0 1 2 3 0 0 5 4 r4 h_1317 f_1324 f_1322 ge_a_1281 (by decide) hb_1323) [] [(.ref a_1281), (.int 4), (.int 5), (.int 4), (.int r4)] pd_19 0 at_154 ⟨rfl, rfl, rfl, rfl, rfl⟩ (by decide) ?_
              intro v_1327 h_1325 q_1326
              obtain ⟨rfl, K_1329, f_1330⟩ := q_1326
              show Go _ _ _ _ 4 20 157 _ [(.int 5)]
              refine iS C at_157 (#[iV p0, iV p1, iV p2, iV p3, iV p4, iV p5, iV 5, iV r0, iV r1, iV r2, iV r3, iV r4, aV a_1242, aV a_1281, iV 5, uV, uV]) rfl <| aL C ((.ref a_1281)) at_159 rfl rfl <| iL C 5 at_161 rfl <| iL C 5 at_163 rfl <| yiastore C f_1330 (by decide) (i := 5) (by decide) (show 5 < 6 by decide) (w := (.int 5)) rfl ge_a_1281 at_165 ?_
              intro h_1331 K_1332 A_1333
              have f_1334 : Ary Z h_1331 a_1281 .int [(.int 0), (.int 1), (.int 2), (.int 3), (.int 4), (.int 5)] := A_1333
              refine iL C 5 at_166 rfl <| iC C 1 at_168 rfl <| yiadd C at_169 <| eS [(.int 6)] rfl <| iS C at_170 (#[iV p0, iV p1, iV p2, iV p3, iV p4, iV p5, iV 5, iV r0, iV r1, iV r2, iV r3, iV r4, aV a_1242, aV a_1281, iV 5, iV 6, uV]) rfl ?_
              have f_1335 := (((((((f_1278.ext E_1283).keep K_1297).keep K_1305).keep K_1313).keep K_1321).keep K_1329).keep K_1332)
              have f_1336 := (((((((f_1273.ext E_1283).keep K_1297 (ninS ne_1285 nin0)).keep K_1305 (ninS ne_1285 nin0)).keep K_1313 (ninS ne_1285 nin0)).keep K_1321 (ninS ne_1285 nin0)).keep K_1329 (ninS ne_1285 nin0)).keep K_1332 (ninS ne_1285 nin0))
              have f_1337 := (((((((f_1274.ext E_1283).keep K_1297 (ninS ne_1285 nin0)).keep K_1305 (ninS ne_1285 nin0)).keep K_1313 (ninS ne_1285 nin0)).keep K_1321 (ninS ne_1285 nin0)).keep K_1329 (ninS ne_1285 nin0)).keep K_1332 (ninS ne_1285 nin0))
              have f_1338 := (((((((f_1275.ext E_1283).keep K_1297 (ninS ne_1287 nin0)).keep K_1305 (ninS ne_1287 nin0)).keep K_1313 (ninS ne_1287 nin0)).keep K_1321 (ninS ne_1287 nin0)).keep K_1329 (ninS ne_1287 nin0)).keep K_1332 (ninS ne_1287 nin0))
              have f_1339 := (lT (lT f_1324 K_1329.1) K_1332.1)
              have f_1340 := ((((((((f_1260.keep K_1270 (allS ge_a_1242 all0)).ext E_1283).keep K_1297 (allS ge_a_1281 all0)).keep K_1305 (allS ge_a_1281 all0)).keep K_1313 (allS ge_a_1281 all0)).keep K_1321 (allS ge_a_1281 all0)).keep K_1329 (allS ge_a_1281 all0)).keep K_1332 (allS ge_a_1281 all0))
              exact own_up (rm_tail_6 hw p0 p1 p2 p3 p4 p5 5 r0 r1 r2 r3 r4 a_1242 a_1281 0 1 2 3 4 5 h_1331 f_1339 f_1340 f_1334 (rm_split_6 hw a_1242 0 1 2 3 4 5 h_1331 f_1339 f_1340 f_1335 (by decide) (by decide) (by decide) (by decide) (by decide) (fun h u v k => rm_sio1 hw a_1242 0 h u (f_1335.keep k) (rm_sioI_5_0_1 hw a_1242 b_1271 (bY r0) (bY r1) (bY r2) (bY r3) (bY r4) h u cm v (f_1335.keep k) (f_1336.keep k nin0) (f_1337.keep k nin0) (f_1338.keep k nin0) (own_by9' hb_1291))) (fun h u v k => rm_sioI_5_1_2 hw a_1242 b_1271 (bY r0) (bY r1) (bY r2) (bY r3) (bY r4) h u cm v (f_1335.keep k) (f_1336.keep k nin0) (f_1337.keep k nin0) (f_1338.keep k nin0) (own_by9' hb_1299)) (fun h u v k => rm_sioI_5_2_3 hw a_1242 b_1271 (bY r0) (bY r1) (bY r2) (bY r3) (bY r4) h u cm v (f_1335.keep k) (f_1336.keep k nin0) (f_1337.keep k nin0) (f_1338.keep k nin0) (own_by9' hb_1307)) (fun h u v k => rm_sioI_5_3_4 hw a_1242 b_1271 (bY r0) (bY r1) (bY r2) (bY r3) (bY r4) h u cm v (f_1335.keep k) (f_1336.keep k nin0) (f_1337.keep k nin0) (f_1338.keep k nin0) (own_by9' hb_1315)) (fun h u v k => rm_sioI_5_4_5 hw a_1242 b_1271 (bY r0) (bY r1) (bY r2) (bY r3) (bY r4) h u cm v (f_1335.keep k) (f_1336.keep k nin0) (f_1337.keep k nin0) (f_1338.keep k nin0) (own_by9' hb_1323)) (fun h u v k => rm_sioI_5_5_0 hw a_1242 b_1271 (bY r0) (bY r1) (bY r2) (bY r3) (bY r4) h u cm v (f_1335.keep k) (f_1336.keep k nin0) (f_1337.keep k nin0) (f_1338.keep k nin0) ) (fun h u v k => rm_length_5 hw a_1242 b_1271 (bY r0) (bY r1) (bY r2) (bY r3) (bY r4) h u cm v (f_1335.keep k) (f_1336.keep k nin0) (f_1337.keep k nin0) (f_1338.keep k nin0))) B C hW) (by decide) (by decide)
            · have f_1341 := (lT f_1316 K_1321.1)
              refine cS C hw 38 39 2 40 rfl rfl rfl rfl (rm_noteN_1 hw a_1281 4 5 4 r4 h_1317 f_1341 (by decide) hb_1323) [] [(.ref a_1281), (.int 4), (.int 5), (.int 4), (.int r4)] pd_19 0 at_154 ⟨rfl, rfl, rfl, rfl, rfl⟩ (by decide) ?_
              intro v_1344 h_1342 q_1343
              obtain ⟨rfl, rfl⟩ := q_1343
              show Go _ _ _ _ 4 20 157 _ [(.int 4)]
              refine iS C at_157 (#[iV p0, iV p1, iV p2, iV p3, iV p4, iV p5, iV 5, iV r0, iV r1, iV r2, iV r3, iV r4, aV a_1242, aV a_1281, iV 4, uV, uV]) rfl <| aL C ((.ref a_1281)) at_159 rfl rfl <| iL C 4 at_161 rfl <| iL C 5 at_163 rfl <| yiastore C f_1322 (by decide) (i := 4) (by decide) (show 4 < 6 by decide) (w := (.int 5)) rfl ge_a_1281 at_165 ?_
              intro h_1346 K_1347 A_1348
              have f_1349 : Ary Z h_1346 a_1281 .int [(.int 0), (.int 1), (.int 2), (.int 3), (.int 5), (.int 0)] := A_1348
              refine iL C 4 at_166 rfl <| iC C 1 at_168 rfl <| yiadd C at_169 <| eS [(.int 5)] rfl <| iS C at_170 (#[iV p0, iV p1, iV p2, iV p3, iV p4, iV p5, iV 5, iV r0, iV r1, iV r2, iV r3, iV r4, aV a_1242, aV a_1281, iV 4, iV 5, uV]) rfl ?_
              have f_1350 := ((((((f_1278.ext E_1283).keep K_1297).keep K_1305).keep K_1313).keep K_1321).keep K_1347)
              have f_1351 := ((((((f_1273.ext E_1283).keep K_1297 (ninS ne_1285 nin0)).keep K_1305 (ninS ne_1285 nin0)).keep K_1313 (ninS ne_1285 nin0)).keep K_1321 (ninS ne_1285 nin0)).keep K_1347 (ninS ne_1285 nin0))
              have f_1352 := ((((((f_1274.ext E_1283).keep K_1297 (ninS ne_1285 nin0)).keep K_1305 (ninS ne_1285 nin0)).keep K_1313 (ninS ne_1285 nin0)).keep K_1321 (ninS ne_1285 nin0)).keep K_1347 (ninS ne_1285 nin0))
              have f_1353 := ((((((f_1275.ext E_1283).keep K_1297 (ninS ne_1287 nin0)).keep K_1305 (ninS ne_1287 nin0)).keep K_1313 (ninS ne_1287 nin0)).keep K_1321 (ninS ne_1287 nin0)).keep K_1347 (ninS ne_1287 nin0))
              have f_1354 := (lT f_1341 K_1347.1)
              have f_1355 := (((((((f_1260.keep K_1270 (allS ge_a_1242 all0)).ext E_1283).keep K_1297 (allS ge_a_1281 all0)).keep K_1305 (allS ge_a_1281 all0)).keep K_1313 (allS ge_a_1281 all0)).keep K_1321 (allS ge_a_1281 all0)).keep K_1347 (allS ge_a_1281 all0))
              exact own_up (rm_tail_5 hw p0 p1 p2 p3 p4 p5 5 r0 r1 r2 r3 r4 a_1242 a_1281 0 1 2 3 5 0 h_1346 f_1354 f_1355 f_1349 (rm_split_5 hw a_1242 0 1 2 3 5 h_1346 f_1354 f_1355 f_1350 (by decide) (by decide) (by decide) (by decide) (fun h u v k => rm_sio1 hw a_1242 0 h u (f_1350.keep k) (rm_sioI_5_0_1 hw a_1242 b_1271 (bY r0) (bY r1) (bY r2) (bY r3) (bY r4) h u cm v (f_1350.keep k) (f_1351.keep k nin0) (f_1352.keep k nin0) (f_1353.keep k nin0) (own_by9' hb_1291))) (fun h u v k => rm_sioI_5_1_2 hw a_1242 b_1271 (bY r0) (bY r1) (bY r2) (bY r3) (bY r4) h u cm v (f_1350.keep k) (f_1351.keep k nin0) (f_1352.keep k nin0) (f_1353.keep k nin0) (own_by9' hb_1299)) (fun h u v k => rm_sioI_5_2_3 hw a_1242 b_1271 (bY r0) (bY r1) (bY r2) (bY r3) (bY r4) h u cm v (f_1350.keep k) (f_1351.keep k nin0) (f_1352.keep k nin0) (f_1353.keep k nin0) (own_by9' hb_1307)) (fun h u v k => rm_sioI_5_3_4 hw a_1242 b_1271 (bY r0) (bY r1) (bY r2) (bY r3) (bY r4) h u cm v (f_1350.keep k) (f_1351.keep k nin0) (f_1352.keep k nin0) (f_1353.keep k nin0) (own_by9' hb_1315)) (fun h u v k => rm_sioI_5_4_0 hw a_1242 b_1271 (bY r0) (bY r1) (bY r2) (bY r3) (bY r4) h u cm v (f_1350.keep k) (f_1351.keep k nin0) (f_1352.keep k nin0) (f_1353.keep k nin0) (own_by9 kr4 hb_1323)) (fun h u v k => rm_length_5 hw a_1242 b_1271 (bY r0) (bY r1) (bY r2) (bY r3) (bY r4) h u cm v (f_1350.keep k) (f_1351.keep k nin0) (f_1352.keep k nin0) (f_1353.keep k nin0))) B C hW) (by decide) (by decide)
          · have f_1356 := (lT f_1308 K_1313.1)
            refine cS C hw 38 39 2 40 rfl rfl rfl rfl (rm_noteN_1 hw a_1281 3 5 3 r3 h_1309 f_1356 (by decide) hb_1315) [] [(.ref a_1281), (.int 3), (.int 5), (.int 3), (.int r3)] pd_19 0 at_140 ⟨rfl, rfl, rfl, rfl, rfl⟩ (by decide) ?_
            intro v_1359 h_1357 q_1358
            obtain ⟨rfl, rfl⟩ := q_1358
            show Go _ _ _ _ 4 20 143 _ [(.int 3)]
            refine iS C at_143 (#[iV p0, iV p1, iV p2, iV p3, iV p4, iV p5, iV 5, iV r0, iV r1, iV r2, iV r3, iV r4, aV a_1242, aV a_1281, iV 3, uV, uV]) rfl <| aL C ((.ref a_1281)) at_145 rfl rfl <| iL C 3 at_147 rfl <| iL C 5 at_149 rfl <| iC C 4 at_151 rfl <| iL C r4 at_152 rfl ?_
            by_cases hb_1361 : r4 = 9
            · refine cS C hw 38 39 2 40 rfl rfl rfl rfl (rm_noteY_3 hw a_1281 0 1 2 0 0 0 5 4 r4 h_1309 f_1356 f_1314 ge_a_1281 (by decide) hb_1361) [] [(.ref a_1281), (.int 3), (.int 5), (.int 4), (.int r4)] pd_19 0 at_154 ⟨rfl, rfl, rfl, rfl, rfl⟩ (by decide) ?_
              intro v_1364 h_1362 q_1363
              obtain ⟨rfl, K_1366, f_1367⟩ := q_1363
              show Go _ _ _ _ 4 20 157 _ [(.int 4)]
              refine iS C at_157 (#[iV p0, iV p1, iV p2, iV p3, iV p4, iV p5, iV 5, iV r0, iV r1, iV r2, iV r3, iV r4, aV a_1242, aV a_1281, iV 4, uV, uV]) rfl <| aL C ((.ref a_1281)) at_159 rfl rfl <| iL C 4 at_161 rfl <| iL C 5 at_163 rfl <| yiastore C f_1367 (by decide) (i := 4) (by decide) (show 4 < 6 by decide) (w := (.int 5)) rfl ge_a_1281 at_165 ?_
              intro h_1368 K_1369 A_1370
              have f_1371 : Ary Z h_1368 a_1281 .int [(.int 0), (.int 1), (.int 2), (.int 4), (.int 5), (.int 0)] := A_1370
              refine iL C 4 at_166 rfl <| iC C 1 at_168 rfl <| yiadd C at_169 <| eS [(.int 5)] rfl <| iS C at_170 (#[iV p0, iV p1, iV p2, iV p3, iV p4, iV p5, iV 5, iV r0, iV r1, iV r2, iV r3, iV r4, aV a_1242, aV a_1281, iV 4, iV 5, uV]) rfl ?_
              have f_1372 := ((((((f_1278.ext E_1283).keep K_1297).keep K_1305).keep K_1313).keep K_1366).keep K_1369)
              have f_1373 := ((((((f_1273.ext E_1283).keep K_1297 (ninS ne_1285 nin0)).keep K_1305 (ninS ne_1285 nin0)).keep K_1313 (ninS ne_1285 nin0)).keep K_1366 (ninS ne_1285 nin0)).keep K_1369 (ninS ne_1285 nin0))
              have f_1374 := ((((((f_1274.ext E_1283).keep K_1297 (ninS ne_1285 nin0)).keep K_1305 (ninS ne_1285 nin0)).keep K_1313 (ninS ne_1285 nin0)).keep K_1366 (ninS ne_1285 nin0)).keep K_1369 (ninS ne_1285 nin0))
              have f_1375 := ((((((f_1275.ext E_1283).keep K_1297 (ninS ne_1287 nin0)).keep K_1305 (ninS ne_1287 nin0)).keep K_1313 (ninS ne_1287 nin0)).keep K_1366 (ninS ne_1287 nin0)).keep K_1369 (ninS ne_1287 nin0))
              have f_1376 := (lT (lT f_1356 K_1366.1) K_1369.1)
              have f_1377 := (((((((f_1260.keep K_1270 (allS ge_a_1242 all0)).ext E_1283).keep K_1297 (allS ge_a_1281 all0)).keep K_1305 (allS ge_a_1281 all0)).keep K_1313 (allS ge_a_1281 all0)).keep K_1366 (allS ge_a_1281 all0)).keep K_1369 (allS ge_a_1281 all0))
              exact own_up (rm_tail_5 hw p0 p1 p2 p3 p4 p5 5 r0 r1 r2 r3 r4 a_1242 a_1281 0 1 2 4 5 0 h_1368 f_1376 f_1377 f_1371 (rm_split_5 hw a_1242 0 1 2 4 5 h_1368 f_1376 f_1377 f_1372 (by decide) (by decide) (by decide) (by decide) (fun h u v k => rm_sio1 hw a_1242 0 h u (f_1372.keep k) (rm_sioI_5_0_1 hw a_1242 b_1271 (bY r0) (bY r1) (bY r2) (bY r3) (bY r4) h u cm v (f_1372.keep k) (f_1373.keep k nin0) (f_1374.keep k nin0) (f_1375.keep k nin0) (own_by9' hb_1291))) (fun h u v k => rm_sioI_5_1_2 hw a_1242 b_1271 (bY r0) (bY r1) (bY r2) (bY r3) (bY r4) h u cm v (f_1372.keep k) (f_1373.keep k nin0) (f_1374.keep k nin0) (f_1375.keep k nin0) (own_by9' hb_1299)) (fun h u v k => rm_sioI_5_2_3 hw a_1242 b_1271 (bY r0) (bY r1) (bY r2) (bY r3) (bY r4) h u cm v (f_1372.keep k) (f_1373.keep k nin0) (f_1374.keep k nin0) (f_1375.keep k nin0) (own_by9' hb_1307)) (fun h u v k => rm_sioI_5_3_5 hw a_1242 b_1271 (bY r0) (bY r1) (bY r2) (bY r3) (bY r4) h u cm v (f_1372.keep k) (f_1373.keep k nin0) (f_1374.keep k nin0) (f_1375.keep k nin0) (own_by9 kr3 hb_1315) (own_by9' hb_1361)) (fun h u v k => rm_sioI_5_5_0 hw a_1242 b_1271 (bY r0) (bY r1) (bY r2) (bY r3) (bY r4) h u cm v (f_1372.keep k) (f_1373.keep k nin0) (f_1374.keep k nin0) (f_1375.keep k nin0) ) (fun h u v k => rm_length_5 hw a_1242 b_1271 (bY r0) (bY r1) (bY r2) (bY r3) (bY r4) h u cm v (f_1372.keep k) (f_1373.keep k nin0) (f_1374.keep k nin0) (f_1375.keep k nin0))) B C hW) (by decide) (by decide)
            · refine cS C hw 38 39 2 40 rfl rfl rfl rfl (rm_noteN_1 hw a_1281 3 5 4 r4 h_1309 f_1356 (by decide) hb_1361) [] [(.ref a_1281), (.int 3), (.int 5), (.int 4), (.int r4)] pd_19 0 at_154 ⟨rfl, rfl, rfl, rfl, rfl⟩ (by decide) ?_
              intro v_1380 h_1378 q_1379
              obtain ⟨rfl, rfl⟩ := q_1379
              show Go _ _ _ _ 4 20 157 _ [(.int 3)]
              refine iS C at_157 (#[iV p0, iV p1, iV p2, iV p3, iV p4, iV p5, iV 5, iV r0, iV r1, iV r2, iV r3, iV r4, aV a_1242, aV a_1281, iV 3, uV, uV]) rfl <| aL C ((.ref a_1281)) at_159 rfl rfl <| iL C 3 at_161 rfl <| iL C 5 at_163 rfl <| yiastore C f_1314 (by decide) (i := 3) (by decide) (show 3 < 6 by decide) (w := (.int 5)) rfl ge_a_1281 at_165 ?_
              intro h_1382 K_1383 A_1384
              have f_1385 : Ary Z h_1382 a_1281 .int [(.int 0), (.int 1), (.int 2), (.int 5), (.int 0), (.int 0)] := A_1384
              refine iL C 3 at_166 rfl <| iC C 1 at_168 rfl <| yiadd C at_169 <| eS [(.int 4)] rfl <| iS C at_170 (#[iV p0, iV p1, iV p2, iV p3, iV p4, iV p5, iV 5, iV r0, iV r1, iV r2, iV r3, iV r4, aV a_1242, aV a_1281, iV 3, iV 4, uV]) rfl ?_
              have f_1386 := (((((f_1278.ext E_1283).keep K_1297).keep K_1305).keep K_1313).keep K_1383)
              have f_1387 := (((((f_1273.ext E_1283).keep K_1297 (ninS ne_1285 nin0)).keep K_1305 (ninS ne_1285 nin0)).keep K_1313 (ninS ne_1285 nin0)).keep K_1383 (ninS ne_1285 nin0))
              have f_1388 := (((((f_1274.ext E_1283).keep K_1297 (ninS ne_1285 nin0)).keep K_1305 (ninS ne_1285 nin0)).keep K_1313 (ninS ne_1285 nin0)).keep K_1383 (ninS ne_1285 nin0))
              have f_1389 := (((((f_1275.ext E_1283).keep K_1297 (ninS ne_1287 nin0)).keep K_1305 (ninS ne_1287 nin0)).keep K_1313 (ninS ne_1287 nin0)).keep K_1383 (ninS ne_1287 nin0))
              have f_1390 := (lT f_1356 K_1383.1)
              have f_1391 := ((((((f_1260.keep K_1270 (allS ge_a_1242 all0)).ext E_1283).keep K_1297 (allS ge_a_1281 all0)).keep K_1305 (allS ge_a_1281 all0)).keep K_1313 (allS ge_a_1281 all0)).keep K_1383 (allS ge_a_1281 all0))
              exact own_up (rm_tail_4 hw p0 p1 p2 p3 p4 p5 5 r0 r1 r2 r3 r4 a_1242 a_1281 0 1 2 5 0 0 h_1382 f_1390 f_1391 f_1385 (rm_split_4 hw a_1242 0 1 2 5 h_1382 f_1390 f_1391 f_1386 (by decide) (by decide) (by decide) (fun h u v k => rm_sio1 hw a_1242 0 h u (f_1386.keep k) (rm_sioI_5_0_1 hw a_1242 b_1271 (bY r0) (bY r1) (bY r2) (bY r3) (bY r4) h u cm v (f_1386.keep k) (f_1387.keep k nin0) (f_1388.keep k nin0) (f_1389.keep k nin0) (own_by9' hb_1291))) (fun h u v k => rm_sioI_5_1_2 hw a_1242 b_1271 (bY r0) (bY r1) (bY r2) (bY r3) (bY r4) h u cm v (f_1386.keep k) (f_1387.keep k nin0) (f_1388.keep k nin0) (f_1389.keep k nin0) (own_by9' hb_1299)) (fun h u v k => rm_sioI_5_2_3 hw a_1242 b_1271 (bY r0) (bY r1) (bY r2) (bY r3) (bY r4) h u cm v (f_1386.keep k) (f_1387.keep k nin0) (f_1388.keep k nin0) (f_1389.keep k nin0) (own_by9' hb_1307)) (fun h u v k => rm_sioI_5_3_0 hw a_1242 b_1271 (bY r0) (bY r1) (bY r2) (bY r3) (bY r4) h u cm v (f_1386.keep k) (f_1387.keep k nin0) (f_1388.keep k nin0) (f_1389.keep k nin0) (own_by9 kr3 hb_1315) (own_by9 kr4 hb_1361)) (fun h u v k => rm_length_5 hw a_1242 b_1271 (bY r0) (bY r1) (bY r2) (bY r3) (bY r4) h u cm v (f_1386.keep k) (f_1387.keep k nin0) (f_1388.keep k nin0) (f_1389.keep k nin0))) B C hW) (by decide) (by decide)
        · have f_1392 := (lT f_1300 K_1305.1)
          refine cS C hw 38 39 2 40 rfl rfl rfl rfl (rm_noteN_1 hw a_1281 2 5 2 r2 h_1301 f_1392 (by decide) hb_1307) [] [(.ref a_1281), (.int 2), (.int 5), (.int 2), (.int r2)] pd_19 0 at_126 ⟨rfl, rfl, rfl, rfl, rfl⟩ (by decide) ?_
          intro v_1395 h_1393 q_1394
          obtain ⟨rfl, rfl⟩ := q_1394
          show Go _ _ _ _ 4 20 129 _ [(.int 2)]
          refine iS C at_129 (#[iV p0, iV p1, iV p2, iV p3, iV p4, iV p5, iV 5, iV r0, iV r1, iV r2, iV r3, iV r4, aV a_1242, aV a_1281, iV 2, uV, uV]) rfl <| aL C ((.ref a_1281)) at_131 rfl rfl <| iL C 2 at_133 rfl <| iL C 5 at_135 rfl <| iC C 3 at_137 rfl <| iL C r3 at_138 rfl ?_
          by_cases hb_1397 : r3 = 9
          · refine cS C hw 38 39 2 40 rfl rfl rfl rfl (rm_noteY_2 hw a_1281 0 1 0 0 0 0 5 3 r3 h_1301 f_1392 f_1306 ge_a_1281 (by decide) hb_1397) [] [(.ref a_1281), (.int 2), (.int 5), (.int 3), (.int r3)] pd_19 0 at_140 ⟨rfl, rfl, rfl, rfl, rfl⟩ (by decide) ?_
            intro v_1400 h_1398 q_1399
            obtain ⟨rfl, K_1402, f_1403⟩ := q_1399
            show Go _ _ _ _ 4 20 143 _ [(.int 3)]
            refine iS C at_143 (#[iV p0, iV p1, iV p2, iV p3, iV p4, iV p5, iV 5, iV r0, iV r1, iV r2, iV r3, iV r4, aV a_1242, aV a_1281, iV 3, uV, uV]) rfl <| aL C ((.ref a_1281)) at_145 rfl rfl <| iL C 3 at_147 rfl <| iL C 5 at_149 rfl <| iC C 4 at_151 rfl <| iL C r4 at_152 rfl ?_
            by_cases hb_1404 : r4 = 9
            · have f_1405 := (lT f_1392 K_1402.1)
              refine cS C hw 38 39 2 40 rfl rfl rfl rfl (rm_noteY_3 hw a_1281 0 1 3 0 0 0 5 4 r4 h_1398 f_1405 f_1403 ge_a_1281 (by decide) hb_1404) [] [(.ref a_1281), (.int 3), (.int 5), (.int 4), (.int r4)] pd_19 0 at_154 ⟨rfl, rfl, rfl, rfl, rfl⟩ (by decide) ?_
              intro v_1408 h_1406 q_1407
              obtain ⟨rfl, K_1410, f_1411⟩ := q_1407
              show Go _ _ _ _ 4 20 157 _ [(.int 4)]
              refine iS C at_157 (#[iV p0, iV p1, iV p2, iV p3, iV p4, iV p5, iV 5, iV r0, iV r1, iV r2, iV r3, iV r4, aV a_1242, aV a_1281, iV 4, uV, uV]) rfl <| aL C ((.ref a_1281)) at_159 rfl rfl <| iL C 4 at_161 rfl <| iL C 5 at_163 rfl <| yiastore C f_1411 (by decide) (i := 4) (by decide) (show 4 < 6 by decide) (w := (.int 5)) rfl ge_a_1281 at_165 ?_
              intro h_1412 K_1413 A_1414
              have f_1415 : Ary Z h_1412 a_1281 .int [(.int 0), (.int 1), (.int 3), (.int 4), (.int 5), (.int 0)] := A_1414
              refine iL C 4 at_166 rfl <| iC C 1 at_168 rfl <| yiadd C at_169 <| eS [(.int 5)] rfl <| iS C at_170 (#[iV p0, iV p1, iV p2, iV p3, iV p4, iV p5, iV 5, iV r0, iV r1, iV r2, iV r3, iV r4, aV a_1242, aV a_1281, iV 4, iV 5, uV]) rfl ?_
              have f_1416 := ((((((f_1278.ext E_1283).keep K_1297).keep K_1305).keep K_1402).keep K_1410).keep K_1413)
              have f_1417 := ((((((f_1273.ext E_1283).keep K_1297 (ninS ne_1285 nin0)).keep K_1305 (ninS ne_1285 nin0)).keep K_1402 (ninS ne_1285 nin0)).keep K_1410 (ninS ne_1285 nin0)).keep K_1413 (ninS ne_1285 nin0))
              have f_1418 := ((((((f_1274.ext E_1283).keep K_1297 (ninS ne_1285 nin0)).keep K_1305 (ninS ne_1285 nin0)).keep K_1402 (ninS ne_1285 nin0)).keep K_1410 (ninS ne_1285 nin0)).keep K_1413 (ninS ne_1285 nin0))
              have f_1419 := ((((((f_1275.ext E_1283).keep K_1297 (ninS ne_1287 nin0)).keep K_1305 (ninS ne_1287 nin0)).keep K_1402 (ninS ne_1287 nin0)).keep K_1410 (ninS ne_1287 nin0)).keep K_1413 (ninS ne_1287 nin0))
              have f_1420 := (lT (lT f_1405 K_1410.1) K_1413.1)
              have f_1421 := (((((((f_1260.keep K_1270 (allS ge_a_1242 all0)).ext E_1283).keep K_1297 (allS ge_a_1281 all0)).keep K_1305 (allS ge_a_1281 all0)).keep K_1402 (allS ge_a_1281 all0)).keep K_1410 (allS ge_a_1281 all0)).keep K_1413 (allS ge_a_1281 all0))
              exact own_up (rm_tail_5 hw p0 p1 p2 p3 p4 p5 5 r0 r1 r2 r3 r4 a_1242 a_1281 0 1 3 4 5 0 h_1412 f_1420 f_1421 f_1415 (rm_split_5 hw a_1242 0 1 3 4 5 h_1412 f_1420 f_1421 f_1416 (by decide) (by decide) (by decide) (by decide) (fun h u v k => rm_sio1 hw a_1242 0 h u (f_1416.keep k) (rm_sioI_5_0_1 hw a_1242 b_1271 (bY r0) (bY r1) (bY r2) (bY r3) (bY r4) h u cm v (f_1416.keep k) (f_1417.keep k nin0) (f_1418.keep k nin0) (f_1419.keep k nin0) (own_by9' hb_1291))) (fun h u v k => rm_sioI_5_1_2 hw a_1242 b_1271 (bY r0) (bY r1) (bY r2) (bY r3) (bY r4) h u cm v (f_1416.keep k) (f_1417.keep k nin0) (f_1418.keep k nin0) (f_1419.keep k nin0) (own_by9' hb_1299)) (fun h u v k => rm_sioI_5_2_4 hw a_1242 b_1271 (bY r0) (bY r1) (bY r2) (bY r3) (bY r4) h u cm v (f_1416.keep k) (f_1417.keep k nin0) (f_1418.keep k nin0) (f_1419.keep k nin0) (own_by9 kr2 hb_1307) (own_by9' hb_1397)) (fun h u v k => rm_sioI_5_4_5 hw a_1242 b_1271 (bY r0) (bY r1) (bY r2) (bY r3) (bY r4) h u cm v (f_1416.keep k) (f_1417.keep k nin0) (f_1418.keep k nin0) (f_1419.keep k nin0) (own_by9' hb_1404)) (fun h u v k => rm_sioI_5_5_0 hw a_1242 b_1271 (bY r0) (bY r1) (bY r2) (bY r3) (bY r4) h u cm v (f_1416.keep k) (f_1417.keep k nin0) (f_1418.keep k nin0) (f_1419.keep k nin0) ) (fun h u v k => rm_length_5 hw a_1242 b_1271 (bY r0) (bY r1) (bY r2) (bY r3) (bY r4) h u cm v (f_1416.keep k) (f_1417.keep k nin0) (f_1418.keep k nin0) (f_1419.keep k nin0))) B C hW) (by decide) (by decide)
            · have f_1422 := (lT f_1392 K_1402.1)
              refine cS C hw 38 39 2 40 rfl rfl rfl rfl (rm_noteN_1 hw a_1281 3 5 4 r4 h_1398 f_1422 (by decide) hb_1404) [] [(.ref a_1281), (.int 3), (.int 5), (.int 4), (.int r4)] pd_19 0 at_154 ⟨rfl, rfl, rfl, rfl, rfl⟩ (by decide) ?_
              intro v_1425 h_1423 q_1424
              obtain ⟨rfl, rfl⟩ := q_1424
              show Go _ _ _ _ 4 20 157 _ [(.int 3)]
              refine iS C at_157 (#[iV p0, iV p1, iV p2, iV p3, iV p4, iV p5, iV 5, iV r0, iV r1, iV r2, iV r3, iV r4, aV a_1242, aV a_1281, iV 3, uV, uV]) rfl <| aL C ((.ref a_1281)) at_159 rfl rfl <| iL C 3 at_161 rfl <| iL C 5 at_163 rfl <| yiastore C f_1403 (by decide) (i := 3) (by decide) (show 3 < 6 by decide) (w := (.int 5)) rfl ge_a_1281 at_165 ?_
              intro h_1427 K_1428 A_1429
              have f_1430 : Ary Z h_1427 a_1281 .int [(.int 0), (.int 1), (.int 3), (.int 5), (.int 0), (.int 0)] := A_1429
              refine iL C 3 at_166 rfl <| iC C 1 at_168 rfl <| yiadd C at_169 <| eS [(.int 4)] rfl <| iS C at_170 (#[iV p0, iV p1, iV p2, iV p3, iV p4, iV p5, iV 5, iV r0, iV r1, iV r2, iV r3, iV r4, aV a_1242, aV a_1281, iV 3, iV 4, uV]) rfl ?_
              have f_1431 := (((((f_1278.ext E_1283).keep K_1297).keep K_1305).keep K_1402).keep K_1428)
              have f_1432 := (((((f_1273.ext E_1283).keep K_1297 (ninS ne_1285 nin0)).keep K_1305 (ninS ne_1285 nin0)).keep K_1402 (ninS ne_1285 nin0)).keep K_1428 (ninS ne_1285 nin0))
              have f_1433 := (((((f_1274.ext E_1283).keep K_1297 (ninS ne_1285 nin0)).keep K_1305 (ninS ne_1285 nin0)).keep K_1402 (ninS ne_1285 nin0)).keep K_1428 (ninS ne_1285 nin0))
              have f_1434 := (((((f_1275.ext E_1283).keep K_1297 (ninS ne_1287 nin0)).keep K_1305 (ninS ne_1287 nin0)).keep K_1402 (ninS ne_1287 nin0)).keep K_1428 (ninS ne_1287 nin0))
              have f_1435 := (lT f_1422 K_1428.1)
              have f_1436 := ((((((f_1260.keep K_1270 (allS ge_a_1242 all0)).ext E_1283).keep K_1297 (allS ge_a_1281 all0)).keep K_1305 (allS ge_a_1281 all0)).keep K_1402 (allS ge_a_1281 all0)).keep K_1428 (allS ge_a_1281 all0))
              exact own_up (rm_tail_4 hw p0 p1 p2 p3 p4 p5 5 r0 r1 r2 r3 r4 a_1242 a_1281 0 1 3 5 0 0 h_1427 f_1435 f_1436 f_1430 (rm_split_4 hw a_1242 0 1 3 5 h_1427 f_1435 f_1436 f_1431 (by decide) (by decide) (by decide) (fun h u v k => rm_sio1 hw a_1242 0 h u (f_1431.keep k) (rm_sioI_5_0_1 hw a_1242 b_1271 (bY r0) (bY r1) (bY r2) (bY r3) (bY r4) h u cm v (f_1431.keep k) (f_1432.keep k nin0) (f_1433.keep k nin0) (f_1434.keep k nin0) (own_by9' hb_1291))) (fun h u v k => rm_sioI_5_1_2 hw a_1242 b_1271 (bY r0) (bY r1) (bY r2) (bY r3) (bY r4) h u cm v (f_1431.keep k) (f_1432.keep k nin0) (f_1433.keep k nin0) (f_1434.keep k nin0) (own_by9' hb_1299)) (fun h u v k => rm_sioI_5_2_4 hw a_1242 b_1271 (bY r0) (bY r1) (bY r2) (bY r3) (bY r4) h u cm v (f_1431.keep k) (f_1432.keep k nin0) (f_1433.keep k nin0) (f_1434.keep k nin0) (own_by9 kr2 hb_1307) (own_by9' hb_1397)) (fun h u v k => rm_sioI_5_4_0 hw a_1242 b_1271 (bY r0) (bY r1) (bY r2) (bY r3) (bY r4) h u cm v (f_1431.keep k) (f_1432.keep k nin0) (f_1433.keep k nin0) (f_1434.keep k nin0) (own_by9 kr4 hb_1404)) (fun h u v k => rm_length_5 hw a_1242 b_1271 (bY r0) (bY r1) (bY r2) (bY r3) (bY r4) h u cm v (f_1431.keep k) (f_1432.keep k nin0) (f_1433.keep k nin0) (f_1434.keep k nin0))) B C hW) (by decide) (by decide)
          · refine cS C hw 38 39 2 40 rfl rfl rfl rfl (rm_noteN_1 hw a_1281 2 5 3 r3 h_1301 f_1392 (by decide) hb_1397) [] [(.ref a_1281), (.int 2), (.int 5), (.int 3), (.int r3)] pd_19 0 at_140 ⟨rfl, rfl, rfl, rfl, rfl⟩ (by decide) ?_
            intro v_1439 h_1437 q_1438
            obtain ⟨rfl, rfl⟩ := q_1438
            show Go _ _ _ _ 4 20 143 _ [(.int 2)]
            refine iS C at_143 (#[iV p0, iV p1, iV p2, iV p3, iV p4, iV p5, iV 5, iV r0, iV r1, iV r2, iV r3, iV r4, aV a_1242, aV a_1281, iV 2, uV, uV]) rfl <| aL C ((.ref a_1281)) at_145 rfl rfl <| iL C 2 at_147 rfl <| iL C 5 at_149 rfl <| iC C 4 at_151 rfl <| iL C r4 at_152 rfl ?_
            by_cases hb_1441 : r4 = 9
            · refine cS C hw 38 39 2 40 rfl rfl rfl rfl (rm_noteY_2 hw a_1281 0 1 0 0 0 0 5 4 r4 h_1301 f_1392 f_1306 ge_a_1281 (by decide) hb_1441) [] [(.ref a_1281), (.int 2), (.int 5), (.int 4), (.int r4)] pd_19 0 at_154 ⟨rfl, rfl, rfl, rfl, rfl⟩ (by decide) ?_
              intro v_1444 h_1442 q_1443
              obtain ⟨rfl, K_1446, f_1447⟩ := q_1443
              show Go _ _ _ _ 4 20 157 _ [(.int 3)]
              refine iS C at_157 (#[iV p0, iV p1, iV p2, iV p3, iV p4, iV p5, iV 5, iV r0, iV r1, iV r2, iV r3, iV r4, aV a_1242, aV a_1281, iV 3, uV, uV]) rfl <| aL C ((.ref a_1281)) at_159 rfl rfl <| iL C 3 at_161 rfl <| iL C 5 at_163 rfl <| yiastore C f_1447 (by decide) (i := 3) (by decide) (show 3 < 6 by decide) (w := (.int 5)) rfl ge_a_1281 at_165 ?_
              intro h_1448 K_1449 A_1450
              have f_1451 : Ary Z h_1448 a_1281 .int [(.int 0), (.int 1), (.int 4), (.int 5), (.int 0), (.int 0)] := A_1450
              refine iL C 3 at_166 rfl <| iC C 1 at_168 rfl <| yiadd C at_169 <| eS [(.int 4)] rfl <| iS C at_170 (#[iV p0, iV p1, iV p2, iV p3, iV p4, iV p5, iV 5, iV r0, iV r1, iV r2, iV r3, iV r4, aV a_1242, aV a_1281, iV 3, iV 4, uV]) rfl ?_
              have f_1452 := (((((f_1278.ext E_1283).keep K_1297).keep K_1305).keep K_1446).keep K_1449)
              have f_1453 := (((((f_1273.ext E_1283).keep K_1297 (ninS ne_1285 nin0)).keep K_1305 (ninS ne_1285 nin0)).keep K_1446 (ninS ne_1285 nin0)).keep K_1449 (ninS ne_1285 nin0))
              have f_1454 := (((((f_1274.ext E_1283).keep K_1297 (ninS ne_1285 nin0)).keep K_1305 (ninS ne_1285 nin0)).keep K_1446 (ninS ne_1285 nin0)).keep K_1449 (ninS ne_1285 nin0))
              have f_1455 := (((((f_1275.ext E_1283).keep K_1297 (ninS ne_1287 nin0)).keep K_1305 (ninS ne_1287 nin0)).keep K_1446 (ninS ne_1287 nin0)).keep K_1449 (ninS ne_1287 nin0))
              have f_1456 := (lT (lT f_1392 K_1446.1) K_1449.1)
              have f_1457 := ((((((f_1260.keep K_1270 (allS ge_a_1242 all0)).ext E_1283).keep K_1297 (allS ge_a_1281 all0)).keep K_1305 (allS ge_a_1281 all0)).keep K_1446 (allS ge_a_1281 all0)).keep K_1449 (allS ge_a_1281 all0))
              exact own_up (rm_tail_4 hw p0 p1 p2 p3 p4 p5 5 r0 r1 r2 r3 r4 a_1242 a_1281 0 1 4 5 0 0 h_1448 f_1456 f_1457 f_1451 (rm_split_4 hw a_1242 0 1 4 5 h_1448 f_1456 f_1457 f_1452 (by decide) (by decide) (by decide) (fun h u v k => rm_sio1 hw a_1242 0 h u (f_1452.keep k) (rm_sioI_5_0_1 hw a_1242 b_1271 (bY r0) (bY r1) (bY r2) (bY r3) (bY r4) h u cm v (f_1452.keep k) (f_1453.keep k nin0) (f_1454.keep k nin0) (f_1455.keep k nin0) (own_by9' hb_1291))) (fun h u v k => rm_sioI_5_1_2 hw a_1242 b_1271 (bY r0) (bY r1) (bY r2) (bY r3) (bY r4) h u cm v (f_1452.keep k) (f_1453.keep k nin0) (f_1454.keep k nin0) (f_1455.keep k nin0) (own_by9' hb_1299)) (fun h u v k => rm_sioI_5_2_5 hw a_1242 b_1271 (bY r0) (bY r1) (bY r2) (bY r3) (bY r4) h u cm v (f_1452.keep k) (f_1453.keep k nin0) (f_1454.keep k nin0) (f_1455.keep k nin0) (own_by9 kr2 hb_1307) (own_by9 kr3 hb_1397) (own_by9' hb_1441)) (fun h u v k => rm_sioI_5_5_0 hw a_1242 b_1271 (bY r0) (bY r1) (bY r2) (bY r3) (bY r4) h u cm v (f_1452.keep k) (f_1453.keep k nin0) (f_1454.keep k nin0) (f_1455.keep k nin0) ) (fun h u v k => rm_length_5 hw a_1242 b_1271 (bY r0) (bY r1) (bY r2) (bY r3) (bY r4) h u cm v (f_1452.keep k) (f_1453.keep k nin0) (f_1454.keep k nin0) (f_1455.keep k nin0))) B C hW) (by decide) (by decide)
            · refine cS C hw 38 39 2 40 rfl rfl rfl rfl (rm_noteN_1 hw a_1281 2 5 4 r4 h_1301 f_1392 (by decide) hb_1441) [] [(.ref a_1281), (.int 2), (.int 5), (.int 4), (.int r4)] pd_19 0 at_154 ⟨rfl, rfl, rfl, rfl, rfl⟩ (by decide) ?_
              intro v_1460 h_1458 q_1459
              obtain ⟨rfl, rfl⟩ := q_1459
              show Go _ _ _ _ 4 20 157 _ [(.int 2)]
              refine iS C at_157 (#[iV p0, iV p1, iV p2, iV p3, iV p4, iV p5, iV 5, iV r0, iV r1, iV r2, iV r3, iV r4, aV a_1242, aV a_1281, iV 2, uV, uV]) rfl <| aL C ((.ref a_1281)) at_159 rfl rfl <| iL C 2 at_161 rfl <| iL C 5 at_163 rfl <| yiastore C f_1306 (by decide) (i := 2) (by decide) (show 2 < 6 by decide) (w := (.int 5)) rfl ge_a_1281 at_165 ?_
              intro h_1462 K_1463 A_1464
              have f_1465 : Ary Z h_1462 a_1281 .int [(.int 0), (.int 1), (.int 5), (.int 0), (.int 0), (.int 0)] := A_1464
              refine iL C 2 at_166 rfl <| iC C 1 at_168 rfl <| yiadd C at_169 <| eS [(.int 3)] rfl <| iS C at_170 (#[iV p0, iV p1, iV p2, iV p3, iV p4, iV p5, iV 5, iV r0, iV r1, iV r2, iV r3, iV r4, aV a_1242, aV a_1281, iV 2, iV 3, uV]) rfl ?_
              have f_1466 := ((((f_1278.ext E_1283).keep K_1297).keep K_1305).keep K_1463)
              have f_1467 := ((((f_1273.ext E_1283).keep K_1297 (ninS ne_1285 nin0)).keep K_1305 (ninS ne_1285 nin0)).keep K_1463 (ninS ne_1285 nin0))
              have f_1468 := ((((f_1274.ext E_1283).keep K_1297 (ninS ne_1285 nin0)).keep K_1305 (ninS ne_1285 nin0)).keep K_1463 (ninS ne_1285 nin0))
              have f_1469 := ((((f_1275.ext E_1283).keep K_1297 (ninS ne_1287 nin0)).keep K_1305 (ninS ne_1287 nin0)).keep K_1463 (ninS ne_1287 nin0))
              have f_1470 := (lT f_1392 K_1463.1)
              have f_1471 := (((((f_1260.keep K_1270 (allS ge_a_1242 all0)).ext E_1283).keep K_1297 (allS ge_a_1281 all0)).keep K_1305 (allS ge_a_1281 all0)).keep K_1463 (allS ge_a_1281 all0))
              exact own_up (rm_tail_3 hw p0 p1 p2 p3 p4 p5 5 r0 r1 r2 r3 r4 a_1242 a_1281 0 1 5 0 0 0 h_1462 f_1470 f_1471 f_1465 (rm_split_3 hw a_1242 0 1 5 h_1462 f_1470 f_1471 f_1466 (by decide) (by decide) (fun h u v k => rm_sio1 hw a_1242 0 h u (f_1466.keep k) (rm_sioI_5_0_1 hw a_1242 b_1271 (bY r0) (bY r1) (bY r2) (bY r3) (bY r4) h u cm v (f_1466.keep k) (f_1467.keep k nin0) (f_1468.keep k nin0) (f_1469.keep k nin0) (own_by9' hb_1291))) (fun h u v k => rm_sioI_5_1_2 hw a_1242 b_1271 (bY r0) (bY r1) (bY r2) (bY r3) (bY r4) h u cm v (f_1466.keep k) (f_1467.keep k nin0) (f_1468.keep k nin0) (f_1469.keep k nin0) (own_by9' hb_1299)) (fun h u v k => rm_sioI_5_2_0 hw a_1242 b_1271 (bY r0) (bY r1) (bY r2) (bY r3) (bY r4) h u cm v (f_1466.keep k) (f_1467.keep k nin0) (f_1468.keep k nin0) (f_1469.keep k nin0) (own_by9 kr2 hb_1307) (own_by9 kr3 hb_1397) (own_by9 kr4 hb_1441)) (fun h u v k => rm_length_5 hw a_1242 b_1271 (bY r0) (bY r1) (bY r2) (bY r3) (bY r4) h u cm v (f_1466.keep k) (f_1467.keep k nin0) (f_1468.keep k nin0) (f_1469.keep k nin0))) B C hW) (by decide) (by decide)
      · have f_1472 := (lT f_1292 K_1297.1)
        refine cS C hw 38 39 2 40 rfl rfl rfl rfl (rm_noteN_1 hw a_1281 1 5 1 r1 h_1293 f_1472 (by decide) hb_1299) [] [(.ref a_1281), (.int 1), (.int 5), (.int 1), (.int r1)] pd_19 0 at_112 ⟨rfl, rfl, rfl, rfl, rfl⟩ (by decide) ?_
        intro v_1475 h_1473 q_1474
        obtain ⟨rfl, rfl⟩ := q_1474
        show Go _ _ _ _ 4 20 115 _ [(.int 1)]
        refine iS C at_115 (#[iV p0, iV p1, iV p2, iV p3, iV p4, iV p5, iV 5, iV r0, iV r1, iV r2, iV r3, iV r4, aV a_1242, aV a_1281, iV 1, uV, uV]) rfl <| aL C ((.ref a_1281)) at_117 rfl rfl <| iL C 1 at_119 rfl <| iL C 5 at_121 rfl <| iC C 2 at_123 rfl <| iL C r2 at_124 rfl ?_
        by_cases hb_1477 : r2 = 9
        · refine cS C hw 38 39 2 40 rfl rfl rfl rfl (rm_noteY_1 hw a_1281 0 0 0 0 0 0 5 2 r2 h_1293 f_1472 f_1298 ge_a_1281 (by decide) hb_1477) [] [(.ref a_1281), (.int 1), (.int 5), (.int 2), (.int r2)] pd_19 0 at_126 ⟨rfl, rfl, rfl, rfl, rfl⟩ (by decide) ?_
          intro v_1480 h_1478 q_1479
          obtain ⟨rfl, K_1482, f_1483⟩ := q_1479
          show Go _ _ _ _ 4 20 129 _ [(.int 2)]
          refine iS C at_129 (#[iV p0, iV p1, iV p2, iV p3, iV p4, iV p5, iV 5, iV r0, iV r1, iV r2, iV r3, iV r4, aV a_1242, aV a_1281, iV 2, uV, uV]) rfl <| aL C ((.ref a_1281)) at_131 rfl rfl <| iL C 2 at_133 rfl <| iL C 5 at_135 rfl <| iC C 3 at_137 rfl <| iL C r3 at_138 rfl ?_
          by_cases hb_1484 : r3 = 9
          · have f_1485 := (lT f_1472 K_1482.1)
            refine cS C hw 38 39 2 40 rfl rfl rfl rfl (rm_noteY_2 hw a_1281 0 2 0 0 0 0 5 3 r3 h_1478 f_1485 f_1483 ge_a_1281 (by decide) hb_1484) [] [(.ref a_1281), (.int 2), (.int 5), (.int 3), (.int r3)] pd_19 0 at_140 ⟨rfl, rfl, rfl, rfl, rfl⟩ (by decide) ?_
            intro v_1488 h_1486 q_1487
            obtain ⟨rfl, K_1490, f_1491⟩ := q_1487
            show Go _ _ _ _ 4 20 143 _ [(.int 3)]
            refine iS C at_143 (#[iV p0, iV p1, iV p2, iV p3, iV p4, iV p5, iV 5, iV r0, iV r1, iV r2, iV r3, iV r4, aV a_1242, aV a_1281, iV 3, uV, uV]) rfl <| aL C ((.ref a_1281)) at_145 rfl rfl <| iL C 3 at_147 rfl <| iL C 5 at_149 rfl <| iC C 4 at_151 rfl <| iL C r4 at_152 rfl ?_
            by_cases hb_1492 : r4 = 9
            · have f_1493 := (lT f_1485 K_1490.1)
              refine cS C hw 38 39 2 40 rfl rfl rfl rfl (rm_noteY_3 hw a_1281 0 2 3 0 0 0 5 4 r4 h_1486 f_1493 f_1491 ge_a_1281 (by decide) hb_1492) [] [(.ref a_1281), (.int 3), (.int 5), (.int 4), (.int r4)] pd_19 0 at_154 ⟨rfl, rfl, rfl, rfl, rfl⟩ (by decide) ?_
              intro v_1496 h_1494 q_1495
              obtain ⟨rfl, K_1498, f_1499⟩ := q_1495
              show Go _ _ _ _ 4 20 157 _ [(.int 4)]
              refine iS C at_157 (#[iV p0, iV p1, iV p2, iV p3, iV p4, iV p5, iV 5, iV r0, iV r1, iV r2, iV r3, iV r4, aV a_1242, aV a_1281, iV 4, uV, uV]) rfl <| aL C ((.ref a_1281)) at_159 rfl rfl <| iL C 4 at_161 rfl <| iL C 5 at_163 rfl <| yiastore C f_1499 (by decide) (i := 4) (by decide) (show 4 < 6 by decide) (w := (.int 5)) rfl ge_a_1281 at_165 ?_
              intro h_1500 K_1501 A_1502
              have f_1503 : Ary Z h_1500 a_1281 .int [(.int 0), (.int 2), (.int 3), (.int 4), (.int 5), (.int 0)] := A_1502
              refine iL C 4 at_166 rfl <| iC C 1 at_168 rfl <| yiadd C at_169 <| eS [(.int 5)] rfl <| iS C at_170 (#[iV p0, iV p1, iV p2, iV p3, iV p4, iV p5, iV 5, iV r0, iV r1, iV r2, iV r3, iV r4, aV a_1242, aV a_1281, iV 4, iV 5, uV]) rfl ?_
              have f_1504 := ((((((f_1278.ext E_1283).keep K_1297).keep K_1482).keep K_1490).keep K_1498).keep K_1501)
              have f_1505 := ((((((f_1273.ext E_1283).keep K_1297 (ninS ne_1285 nin0)).keep K_1482 (ninS ne_1285 nin0)).keep K_1490 (ninS ne_1285 nin0)).keep K_1498 (ninS ne_1285 nin0)).keep K_1501 (ninS ne_1285 nin0))
              have f_1506 := ((((((f_1274.ext E_1283).keep K_1297 (ninS ne_1285 nin0)).keep K_1482 (ninS ne_1285 nin0)).keep K_1490 (ninS ne_1285 nin0)).keep K_1498 (ninS ne_1285 nin0)).keep K_1501 (ninS ne_1285 nin0))
              have f_1507 := ((((((f_1275.ext E_1283).keep K_1297 (ninS ne_1287 nin0)).keep K_1482 (ninS ne_1287 nin0)).keep K_1490 (ninS ne_1287 nin0)).keep K_1498 (ninS ne_1287 nin0)).keep K_1501 (ninS ne_1287 nin0))
              have f_1508 := (lT (lT f_1493 K_1498.1) K_1501.1)
              have f_1509 := (((((((f_1260.keep K_1270 (allS ge_a_1242 all0)).ext E_1283).keep K_1297 (allS ge_a_1281 all0)).keep K_1482 (allS ge_a_1281 all0)).keep K_1490 (allS ge_a_1281 all0)).keep K_1498 (allS ge_a_1281 all0)).keep K_1501 (allS ge_a_1281 all0))
              exact own_up (rm_tail_5 hw p0 p1 p2 p3 p4 p5 5 r0 r1 r2 r3 r4 a_1242 a_1281 0 2 3 4 5 0 h_1500 f_1508 f_1509 f_1503 (rm_split_5 hw a_1242 0 2 3 4 5 h_1500 f_1508 f_1509 f_1504 (by decide) (by decide) (by decide) (by decide) (fun h u v k => rm_sio1 hw a_1242 0 h u (f_1504.keep k) (rm_sioI_5_0_1 hw a_1242 b_1271 (bY r0) (bY r1) (bY r2) (bY r3) (bY r4) h u cm v (f_1504.keep k) (f_1505.keep k nin0) (f_1506.keep k nin0) (f_1507.keep k nin0) (own_by9' hb_1291))) (fun h u v k => rm_sioI_5_1_3 hw a_1242 b_1271 (bY r0) (bY r1) (bY r2) (bY r3) (bY r4) h u cm v (f_1504.keep k) (f_1505.keep k nin0) (f_1506.keep k nin0) (f_1507.keep k nin0) (own_by9 kr1 hb_1299) (own_by9' hb_1477)) (fun h u v k => rm_sioI_5_3_4 hw a_1242 b_1271 (bY r0) (bY r1) (bY r2) (bY r3) (bY r4) h u cm v (f_1504.keep k) (f_1505.keep k nin0) (f_1506.keep k nin0) (f_1507.keep k nin0) (own_by9' hb_1484)) (fun h u v k => rm_sioI_5_4_5 hw a_1242 b_1271 (bY r0) (bY r1) (bY r2) (bY r3) (bY r4) h u cm v (f_1504.keep k) (f_1505.keep k nin0) (f_1506.keep k nin0) (f_1507.keep k nin0) (own_by9' hb_1492)) (fun h u v k => rm_sioI_5_5_0 hw a_1242 b_1271 (bY r0) (bY r1) (bY r2) (bY r3) (bY r4) h u cm v (f_1504.keep k) (f_1505.keep k nin0) (f_1506.keep k nin0) (f_1507.keep k nin0) ) (fun h u v k => rm_length_5 hw a_1242 b_1271 (bY r0) (bY r1) (bY r2) (bY r3) (bY r4) h u cm v (f_1504.keep k) (f_1505.keep k nin0) (f_1506.keep k nin0) (f_1507.keep k nin0))) B C hW) (by decide) (by decide)
            · have f_1510 := (lT f_1485 K_1490.1)
              refine cS C hw 38 39 2 40 rfl rfl rfl rfl (rm_noteN_1 hw a_1281 3 5 4 r4 h_1486 f_1510 (by decide) hb_1492) [] [(.ref a_1281), (.int 3), (.int 5), (.int 4), (.int r4)] pd_19 0 at_154 ⟨rfl, rfl, rfl, rfl, rfl⟩ (by decide) ?_
              intro v_1513 h_1511 q_1512
              obtain ⟨rfl, rfl⟩ := q_1512
              show Go _ _ _ _ 4 20 157 _ [(.int 3)]
              refine iS C at_157 (#[iV p0, iV p1, iV p2, iV p3, iV p4, iV p5, iV 5, iV r0, iV r1, iV r2, iV r3, iV r4, aV a_1242, aV a_1281, iV 3, uV, uV]) rfl <| aL C ((.ref a_1281)) at_159 rfl rfl <| iL C 3 at_161 rfl <| iL C 5 at_163 rfl <| yiastore C f_1491 (by decide) (i := 3) (by decide) (show 3 < 6 by decide) (w := (.int 5)) rfl ge_a_1281 at_165 ?_
              intro h_1515 K_1516 A_1517
              have f_1518 : Ary Z h_1515 a_1281 .int [(.int 0), (.int 2), (.int 3), (.int 5), (.int 0), (.int 0)] := A_1517
              refine iL C 3 at_166 rfl <| iC C 1 at_168 rfl <| yiadd C at_169 <| eS [(.int 4)] rfl <| iS C at_170 (#[iV p0, iV p1, iV p2, iV p3, iV p4, iV p5, iV 5, iV r0, iV r1, iV r2, iV r3, iV r4, aV a_1242, aV a_1281, iV 3, iV 4, uV]) rfl ?_
              have f_1519 := (((((f_1278.ext E_1283).keep K_1297).keep K_1482).keep K_1490).keep K_1516)
              have f_1520 := (((((f_1273.ext E_1283).keep K_1297 (ninS ne_1285 nin0)).keep K_1482 (ninS ne_1285 nin0)).keep K_1490 (ninS ne_1285 nin0)).keep K_1516 (ninS ne_1285 nin0))
              have f_1521 := (((((f_1274.ext E_1283).keep K_1297 (ninS ne_1285 nin0)).keep K_1482 (ninS ne_1285 nin0)).keep K_1490 (ninS ne_1285 nin0)).keep K_1516 (ninS ne_1285 nin0))
              have f_1522 := (((((f_1275.ext E_1283).keep K_1297 (ninS ne_1287 nin0)).keep K_1482 (ninS ne_1287 nin0)).keep K_1490 (ninS ne_1287 nin0)).keep K_1516 (ninS ne_1287 nin0))
              have f_1523 := (lT f_1510 K_1516.1)
              have f_1524 := ((((((f_1260.keep K_1270 (allS ge_a_1242 all0)).ext E_1283).keep K_1297 (allS ge_a_1281 all0)).keep K_1482 (allS ge_a_1281 all0)).keep K_1490 (allS ge_a_1281 all0)).keep K_1516 (allS ge_a_1281 all0))
              exact own_up (rm_tail_4 hw p0 p1 p2 p3 p4 p5 5 r0 r1 r2 r3 r4 a_1242 a_1281 0 2 3 5 0 0 h_1515 f_1523 f_1524 f_1518 (rm_split_4 hw a_1242 0 2 3 5 h_1515 f_1523 f_1524 f_1519 (by decide) (by decide) (by decide) (fun h u v k => rm_sio1 hw a_1242 0 h u (f_1519.keep k) (rm_sioI_5_0_1 hw a_1242 b_1271 (bY r0) (bY r1) (bY r2) (bY r3) (bY r4) h u cm v (f_1519.keep k) (f_1520.keep k nin0) (f_1521.keep k nin0) (f_1522.keep k nin0) (own_by9' hb_1291))) (fun h u v k => rm_sioI_5_1_3 hw a_1242 b_1271 (bY r0) (bY r1) (bY r2) (bY r3) (bY r4) h u cm v (f_1519.keep k) (f_1520.keep k nin0) (f_1521.keep k nin0) (f_1522.keep k nin0) (own_by9 kr1 hb_1299) (own_by9' hb_1477)) (fun h u v k => rm_sioI_5_3_4 hw a_1242 b_1271 (bY r0) (bY r1) (bY r2) (bY r3) (bY r4) h u cm v (f_1519.keep k) (f_1520.keep k nin0) (f_1521.keep k nin0) (f_1522.keep k nin0) (own_by9' hb_1484)) (fun h u v k => rm_sioI_5_4_0 hw a_1242 b_1271 (bY r0) (bY r1) (bY r2) (bY r3) (bY r4) h u cm v (f_1519.keep k) (f_1520.keep k nin0) (f_1521.keep k nin0) (f_1522.keep k nin0) (own_by9 kr4 hb_1492)) (fun h u v k => rm_length_5 hw a_1242 b_1271 (bY r0) (bY r1) (bY r2) (bY r3) (bY r4) h u cm v (f_1519.keep k) (f_1520.keep k nin0) (f_1521.keep k nin0) (f_1522.keep k nin0))) B C hW) (by decide) (by decide)
          · have f_1525 := (lT f_1472 K_1482.1)
            refine cS C hw 38 39 2 40 rfl rfl rfl rfl (rm_noteN_1 hw a_1281 2 5 3 r3 h_1478 f_1525 (by decide) hb_1484) [] [(.ref a_1281), (.int 2), (.int 5), (.int 3), (.int r3)] pd_19 0 at_140 ⟨rfl, rfl, rfl, rfl, rfl⟩ (by decide) ?_
            intro v_1528 h_1526 q_1527
            obtain ⟨rfl, rfl⟩ := q_1527
            show Go _ _ _ _ 4 20 143 _ [(.int 2)]
            refine iS C at_143 (#[iV p0, iV p1, iV p2, iV p3, iV p4, iV p5, iV 5, iV r0, iV r1, iV r2, iV r3, iV r4, aV a_1242, aV a_1281, iV 2, uV, uV]) rfl <| aL C ((.ref a_1281)) at_145 rfl rfl <| iL C 2 at_147 rfl <| iL C 5 at_149 rfl <| iC C 4 at_151 rfl <| iL C r4 at_152 rfl ?_
            by_cases hb_1530 : r4 = 9
            · refine cS C hw 38 39 2 40 rfl rfl rfl rfl (rm_noteY_2 hw a_1281 0 2 0 0 0 0 5 4 r4 h_1478 f_1525 f_1483 ge_a_1281 (by decide) hb_1530) [] [(.ref a_1281), (.int 2), (.int 5), (.int 4), (.int r4)] pd_19 0 at_154 ⟨rfl, rfl, rfl, rfl, rfl⟩ (by decide) ?_
              intro v_1533 h_1531 q_1532
              obtain ⟨rfl, K_1535, f_1536⟩ := q_1532
              show Go _ _ _ _ 4 20 157 _ [(.int 3)]
              refine iS C at_157 (#[iV p0, iV p1, iV p2, iV p3, iV p4, iV p5, iV 5, iV r0, iV r1, iV r2, iV r3, iV r4, aV a_1242, aV a_1281, iV 3, uV, uV]) rfl <| aL C ((.ref a_1281)) at_159 rfl rfl <| iL C 3 at_161 rfl <| iL C 5 at_163 rfl <| yiastore C f_1536 (by decide) (i := 3) (by decide) (show 3 < 6 by decide) (w := (.int 5)) rfl ge_a_1281 at_165 ?_
              intro h_1537 K_1538 A_1539
              have f_1540 : Ary Z h_1537 a_1281 .int [(.int 0), (.int 2), (.int 4), (.int 5), (.int 0), (.int 0)] := A_1539
              refine iL C 3 at_166 rfl <| iC C 1 at_168 rfl <| yiadd C at_169 <| eS [(.int 4)] rfl <| iS C at_170 (#[iV p0, iV p1, iV p2, iV p3, iV p4, iV p5, iV 5, iV r0, iV r1, iV r2, iV r3, iV r4, aV a_1242, aV a_1281, iV 3, iV 4, uV]) rfl ?_
              have f_1541 := (((((f_1278.ext E_1283).keep K_1297).keep K_1482).keep K_1535).keep K_1538)
              have f_1542 := (((((f_1273.ext E_1283).keep K_1297 (ninS ne_1285 nin0)).keep K_1482 (ninS ne_1285 nin0)).keep K_1535 (ninS ne_1285 nin0)).keep K_1538 (ninS ne_1285 nin0))
              have f_1543 := (((((f_1274.ext E_1283).keep K_1297 (ninS ne_1285 nin0)).keep K_1482 (ninS ne_1285 nin0)).keep K_1535 (ninS ne_1285 nin0)).keep K_1538 (ninS ne_1285 nin0))
              have f_1544 := (((((f_1275.ext E_1283).keep K_1297 (ninS ne_1287 nin0)).keep K_1482 (ninS ne_1287 nin0)).keep K_1535 (ninS ne_1287 nin0)).keep K_1538 (ninS ne_1287 nin0))
              have f_1545 := (lT (lT f_1525 K_1535.1) K_1538.1)
              have f_1546 := ((((((f_1260.keep K_1270 (allS ge_a_1242 all0)).ext E_1283).keep K_1297 (allS ge_a_1281 all0)).keep K_1482 (allS ge_a_1281 all0)).keep K_1535 (allS ge_a_1281 all0)).keep K_1538 (allS ge_a_1281 all0))
              exact own_up (rm_tail_4 hw p0 p1 p2 p3 p4 p5 5 r0 r1 r2 r3 r4 a_1242 a_1281 0 2 4 5 0 0 h_1537 f_1545 f_1546 f_1540 (rm_split_4 hw a_1242 0 2 4 5 h_1537 f_1545 f_1546 f_1541 (by decide) (by decide) (by decide) (fun h u v k => rm_sio1 hw a_1242 0 h u (f_1541.keep k) (rm_sioI_5_0_1 hw a_1242 b_1271 (bY r0) (bY r1) (bY r2) (bY r3) (bY r4) h u cm v (f_1541.keep k) (f_1542.keep k nin0) (f_1543.keep k nin0) (f_1544.keep k nin0) (own_by9' hb_1291))) (fun h u v k => rm_sioI_5_1_3 hw a_1242 b_1271 (bY r0) (bY r1) (bY r2) (bY r3) (bY r4) h u cm v (f_1541.keep k) (f_1542.keep k nin0) (f_1543.keep k nin0) (f_1544.keep k nin0) (own_by9 kr1 hb_1299) (own_by9' hb_1477)) (fun h u v k => rm_sioI_5_3_5 hw a_1242 b_1271 (bY r0) (bY r1) (bY r2) (bY r3) (bY r4) h u cm v (f_1541.keep k) (f_1542.keep k nin0) (f_1543.keep k nin0) (f_1544.keep k nin0) (own_by9 kr3 hb_1484) (own_by9' hb_1530)) (fun h u v k => rm_sioI_5_5_0 hw a_1242 b_1271 (bY r0) (bY r1) (bY r2) (bY r3) (bY r4) h u cm v (f_1541.keep k) (f_1542.keep k nin0) (f_1543.keep k nin0) (f_1544.keep k nin0) ) (fun h u v k => rm_length_5 hw a_1242 b_1271 (bY r0) (bY r1) (bY r2) (bY r3) (bY r4) h u cm v (f_1541.keep k) (f_1542.keep k nin0) (f_1543.keep k nin0) (f_1544.keep k nin0))) B C hW) (by decide) (by decide)
            · refine cS C hw 38 39 2 40 rfl rfl rfl rfl (rm_noteN_1 hw a_1281 2 5 4 r4 h_1478 f_1525 (by decide) hb_1530) [] [(.ref a_1281), (.int 2), (.int 5), (.int 4), (.int r4)] pd_19 0 at_154 ⟨rfl, rfl, rfl, rfl, rfl⟩ (by decide) ?_
              intro v_1549 h_1547 q_1548
              obtain ⟨rfl, rfl⟩ := q_1548
              show Go _ _ _ _ 4 20 157 _ [(.int 2)]
              refine iS C at_157 (#[iV p0, iV p1, iV p2, iV p3, iV p4, iV p5, iV 5, iV r0, iV r1, iV r2, iV r3, iV r4, aV a_1242, aV a_1281, iV 2, uV, uV]) rfl <| aL C ((.ref a_1281)) at_159 rfl rfl <| iL C 2 at_161 rfl <| iL C 5 at_163 rfl <| yiastore C f_1483 (by decide) (i := 2) (by decide) (show 2 < 6 by decide) (w := (.int 5)) rfl ge_a_1281 at_165 ?_
              intro h_1551 K_1552 A_1553
              have f_1554 : Ary Z h_1551 a_1281 .int [(.int 0), (.int 2), (.int 5), (.int 0), (.int 0), (.int 0)] := A_1553
              refine iL C 2 at_166 rfl <| iC C 1 at_168 rfl <| yiadd C at_169 <| eS [(.int 3)] rfl <| iS C at_170 (#[iV p0, iV p1, iV p2, iV p3, iV p4, iV p5, iV 5, iV r0, iV r1, iV r2, iV r3, iV r4, aV a_1242, aV a_1281, iV 2, iV 3, uV]) rfl ?_
              have f_1555 := ((((f_1278.ext E_1283).keep K_1297).keep K_1482).keep K_1552)
              have f_1556 := ((((f_1273.ext E_1283).keep K_1297 (ninS ne_1285 nin0)).keep K_1482 (ninS ne_1285 nin0)).keep K_1552 (ninS ne_1285 nin0))
              have f_1557 := ((((f_1274.ext E_1283).keep K_1297 (ninS ne_1285 nin0)).keep K_1482 (ninS ne_1285 nin0)).keep K_1552 (ninS ne_1285 nin0))
              have f_1558 := ((((f_1275.ext E_1283).keep K_1297 (ninS ne_1287 nin0)).keep K_1482 (ninS ne_1287 nin0)).keep K_1552 (ninS ne_1287 nin0))
              have f_1559 := (lT f_1525 K_1552.1)
              have f_1560 := (((((f_1260.keep K_1270 (allS ge_a_1242 all0)).ext E_1283).keep K_1297 (allS ge_a_1281 all0)).keep K_1482 (allS ge_a_1281 all0)).keep K_1552 (allS ge_a_1281 all0))
              exact own_up (rm_tail_3 hw p0 p1 p2 p3 p4 p5 5 r0 r1 r2 r3 r4 a_1242 a_1281 0 2 5 0 0 0 h_1551 f_1559 f_1560 f_1554 (rm_split_3 hw a_1242 0 2 5 h_1551 f_1559 f_1560 f_1555 (by decide) (by decide) (fun h u v k => rm_sio1 hw a_1242 0 h u (f_1555.keep k) (rm_sioI_5_0_1 hw a_1242 b_1271 (bY r0) (bY r1) (bY r2) (bY r3) (bY r4) h u cm v (f_1555.keep k) (f_1556.keep k nin0) (f_1557.keep k nin0) (f_1558.keep k nin0) (own_by9' hb_1291))) (fun h u v k => rm_sioI_5_1_3 hw a_1242 b_1271 (bY r0) (bY r1) (bY r2) (bY r3) (bY r4) h u cm v (f_1555.keep k) (f_1556.keep k nin0) (f_1557.keep k nin0) (f_1558.keep k nin0) (own_by9 kr1 hb_1299) (own_by9' hb_1477)) (fun h u v k => rm_sioI_5_3_0 hw a_1242 b_1271 (bY r0) (bY r1) (bY r2) (bY r3) (bY r4) h u cm v (f_1555.keep k) (f_1556.keep k nin0) (f_1557.keep k nin0) (f_1558.keep k nin0) (own_by9 kr3 hb_1484) (own_by9 kr4 hb_1530)) (fun h u v k => rm_length_5 hw a_1242 b_1271 (bY r0) (bY r1) (bY r2) (bY r3) (bY r4) h u cm v (f_1555.keep k) (f_1556.keep k nin0) (f_1557.keep k nin0) (f_1558.keep k nin0))) B C hW) (by decide) (by decide)
        · refine cS C hw 38 39 2 40 rfl rfl rfl rfl (rm_noteN_1 hw a_1281 1 5 2 r2 h_1293 f_1472 (by decide) hb_1477) [] [(.ref a_1281), (.int 1), (.int 5), (.int 2), (.int r2)] pd_19 0 at_126 ⟨rfl, rfl, rfl, rfl, rfl⟩ (by decide) ?_
          intro v_1563 h_1561 q_1562
          obtain ⟨rfl, rfl⟩ := q_1562
          show Go _ _ _ _ 4 20 129 _ [(.int 1)]
          refine iS C at_129 (#[iV p0, iV p1, iV p2, iV p3, iV p4, iV p5, iV 5, iV r0, iV r1, iV r2, iV r3, iV r4, aV a_1242, aV a_1281, iV 1, uV, uV]) rfl <| aL C ((.ref a_1281)) at_131 rfl rfl <| iL C 1 at_133 rfl <| iL C 5 at_135 rfl <| iC C 3 at_137 rfl <| iL C r3 at_138 rfl ?_
          by_cases hb_1565 : r3 = 9
          · refine cS C hw 38 39 2 40 rfl rfl rfl rfl (rm_noteY_1 hw a_1281 0 0 0 0 0 0 5 3 r3 h_1293 f_1472 f_1298 ge_a_1281 (by decide) hb_1565) [] [(.ref a_1281), (.int 1), (.int 5), (.int 3), (.int r3)] pd_19 0 at_140 ⟨rfl, rfl, rfl, rfl, rfl⟩ (by decide) ?_
            intro v_1568 h_1566 q_1567
            obtain ⟨rfl, K_1570, f_1571⟩ := q_1567
            show Go _ _ _ _ 4 20 143 _ [(.int 2)]
            refine iS C at_143 (#[iV p0, iV p1, iV p2, iV p3, iV p4, iV p5, iV 5, iV r0, iV r1, iV r2, iV r3, iV r4, aV a_1242, aV a_1281, iV 2, uV, uV]) rfl <| aL C ((.ref a_1281)) at_145 rfl rfl <| iL C 2 at_147 rfl <| iL C 5 at_149 rfl <| iC C 4 at_151 rfl <| iL C r4 at_152 rfl ?_
            by_cases hb_1572 : r4 = 9
            · have f_1573 := (lT f_1472 K_1570.1)
              refine cS C hw 38 39 2 40 rfl rfl rfl rfl (rm_noteY_2 hw a_1281 0 3 0 0 0 0 5 4 r4 h_1566 f_1573 f_1571 ge_a_1281 (by decide) hb_1572) [] [(.ref a_1281), (.int 2), (.int 5), (.int 4), (.int r4)] pd_19 0 at_154 ⟨rfl, rfl, rfl, rfl, rfl⟩ (by decide) ?_
              intro v_1576 h_1574 q_1575
              obtain ⟨rfl, K_1578, f_1579⟩ := q_1575
              show Go _ _ _ _ 4 20 157 _ [(.int 3)]
              refine iS C at_157 (#[iV p0, iV p1, iV p2, iV p3, iV p4, iV p5, iV 5, iV r0, iV r1, iV r2, iV r3, iV r4, aV a_1242, aV a_1281, iV 3, uV, uV]) rfl <| aL C ((.ref a_1281)) at_159 rfl rfl <| iL C 3 at_161 rfl <| iL C 5 at_163 rfl <| yiastore C f_1579 (by decide) (i := 3) (by decide) (show 3 < 6 by decide) (w := (.int 5)) rfl ge_a_1281 at_165 ?_
              intro h_1580 K_1581 A_1582
              have f_1583 : Ary Z h_1580 a_1281 .int [(.int 0), (.int 3), (.int 4), (.int 5), (.int 0), (.int 0)] := A_1582
              refine iL C 3 at_166 rfl <| iC C 1 at_168 rfl <| yiadd C at_169 <| eS [(.int 4)] rfl <| iS C at_170 (#[iV p0, iV p1, iV p2, iV p3, iV p4, iV p5, iV 5, iV r0, iV r1, iV r2, iV r3, iV r4, aV a_1242, aV a_1281, iV 3, iV 4, uV]) rfl ?_
              have f_1584 := (((((f_1278.ext E_1283).keep K_1297).keep K_1570).keep K_1578).keep K_1581)
              have f_1585 := (((((f_1273.ext E_1283).keep K_1297 (ninS ne_1285 nin0)).keep K_1570 (ninS ne_1285 nin0)).keep K_1578 (ninS ne_1285 nin0)).keep K_1581 (ninS ne_1285 nin0))
              have f_1586 := (((((f_1274.ext E_1283).keep K_1297 (ninS ne_1285 nin0)).keep K_1570 (ninS ne_1285 nin0)).keep K_1578 (ninS ne_1285 nin0)).keep K_1581 (ninS ne_1285 nin0))
              have f_1587 := (((((f_1275.ext E_1283).keep K_1297 (ninS ne_1287 nin0)).keep K_1570 (ninS ne_1287 nin0)).keep K_1578 (ninS ne_1287 nin0)).keep K_1581 (ninS ne_1287 nin0))
              have f_1588 := (lT (lT f_1573 K_1578.1) K_1581.1)
              have f_1589 := ((((((f_1260.keep K_1270 (allS ge_a_1242 all0)).ext E_1283).keep K_1297 (allS ge_a_1281 all0)).keep K_1570 (allS ge_a_1281 all0)).keep K_1578 (allS ge_a_1281 all0)).keep K_1581 (allS ge_a_1281 all0))
              exact own_up (rm_tail_4 hw p0 p1 p2 p3 p4 p5 5 r0 r1 r2 r3 r4 a_1242 a_1281 0 3 4 5 0 0 h_1580 f_1588 f_1589 f_1583 (rm_split_4 hw a_1242 0 3 4 5 h_1580 f_1588 f_1589 f_1584 (by decide) (by decide) (by decide) (fun h u v k => rm_sio1 hw a_1242 0 h u (f_1584.keep k) (rm_sioI_5_0_1 hw a_1242 b_1271 (bY r0) (bY r1) (bY r2) (bY r3) (bY r4) h u cm v (f_1584.keep k) (f_1585.keep k nin0) (f_1586.keep k nin0) (f_1587.keep k nin0) (own_by9' hb_1291))) (fun h u v k => rm_sioI_5_1_4 hw a_1242 b_1271 (bY r0) (bY r1) (bY r2) (bY r3) (bY r4) h u cm v (f_1584.keep k) (f_1585.keep k nin0) (f_1586.keep k nin0) (f_1587.keep k nin0) (own_by9 kr1 hb_1299) (own_by9 kr2 hb_1477) (own_by9' hb_1565)) (fun h u v k => rm_sioI_5_4_5 hw a_1242 b_1271 (bY r0) (bY r1) (bY r2) (bY r3) (bY r4) h u cm v (f_1584.keep k) (f_1585.keep k nin0) (f_1586.keep k nin0) (f_1587.keep k nin0) (own_by9' hb_1572)) (fun h u v k => rm_sioI_5_5_0 hw a_1242 b_1271 (bY r0) (bY r1) (bY r2) (bY r3) (bY r4) h u cm v (f_1584.keep k) (f_1585.keep k nin0) (f_1586.keep k nin0) (f_1587.keep k nin0) ) (fun h u v k => rm_length_5 hw a_1242 b_1271 (bY r0) (bY r1) (bY r2) (bY r3) (bY r4) h u cm v (f_1584.keep k) (f_1585.keep k nin0) (f_1586.keep k nin0) (f_1587.keep k nin0))) B C hW) (by decide) (by decide)
            · have f_1590 := (lT f_1472 K_1570.1)
              refine cS C hw 38 39 2 40 rfl rfl rfl rfl (rm_noteN_1 hw a_1281 2 5 4 r4 h_1566 f_1590 (by decide) hb_1572) [] [(.ref a_1281), (.int 2), (.int 5), (.int 4), (.int r4)] pd_19 0 at_154 ⟨rfl, rfl, rfl, rfl, rfl⟩ (by decide) ?_
              intro v_1593 h_1591 q_1592
              obtain ⟨rfl, rfl⟩ := q_1592
              show Go _ _ _ _ 4 20 157 _ [(.int 2)]
              refine iS C at_157 (#[iV p0, iV p1, iV p2, iV p3, iV p4, iV p5, iV 5, iV r0, iV r1, iV r2, iV r3, iV r4, aV a_1242, aV a_1281, iV 2, uV, uV]) rfl <| aL C ((.ref a_1281)) at_159 rfl rfl <| iL C 2 at_161 rfl <| iL C 5 at_163 rfl <| yiastore C f_1571 (by decide) (i := 2) (by decide) (show 2 < 6 by decide) (w := (.int 5)) rfl ge_a_1281 at_165 ?_
              intro h_1595 K_1596 A_1597
              have f_1598 : Ary Z h_1595 a_1281 .int [(.int 0), (.int 3), (.int 5), (.int 0), (.int 0), (.int 0)] := A_1597
              refine iL C 2 at_166 rfl <| iC C 1 at_168 rfl <| yiadd C at_169 <| eS [(.int 3)] rfl <| iS C at_170 (#[iV p0, iV p1, iV p2, iV p3, iV p4, iV p5, iV 5, iV r0, iV r1, iV r2, iV r3, iV r4, aV a_1242, aV a_1281, iV 2, iV 3, uV]) rfl ?_
              have f_1599 := ((((f_1278.ext E_1283).keep K_1297).keep K_1570).keep K_1596)
              have f_1600 := ((((f_1273.ext E_1283).keep K_1297 (ninS ne_1285 nin0)).keep K_1570 (ninS ne_1285 nin0)).keep K_1596 (ninS ne_1285 nin0))
              have f_1601 := ((((f_1274.ext E_1283).keep K_1297 (ninS ne_1285 nin0)).keep K_1570 (ninS ne_1285 nin0)).keep K_1596 (ninS ne_1285 nin0))
              have f_1602 := ((((f_1275.ext E_1283).keep K_1297 (ninS ne_1287 nin0)).keep K_1570 (ninS ne_1287 nin0)).keep K_1596 (ninS ne_1287 nin0))
              have f_1603 := (lT f_1590 K_1596.1)
              have f_1604 := (((((f_1260.keep K_1270 (allS ge_a_1242 all0)).ext E_1283).keep K_1297 (allS ge_a_1281 all0)).keep K_1570 (allS ge_a_1281 all0)).keep K_1596 (allS ge_a_1281 all0))
              exact own_up (rm_tail_3 hw p0 p1 p2 p3 p4 p5 5 r0 r1 r2 r3 r4 a_1242 a_1281 0 3 5 0 0 0 h_1595 f_1603 f_1604 f_1598 (rm_split_3 hw a_1242 0 3 5 h_1595 f_1603 f_1604 f_1599 (by decide) (by decide) (fun h u v k => rm_sio1 hw a_1242 0 h u (f_1599.keep k) (rm_sioI_5_0_1 hw a_1242 b_1271 (bY r0) (bY r1) (bY r2) (bY r3) (bY r4) h u cm v (f_1599.keep k) (f_1600.keep k nin0) (f_1601.keep k nin0) (f_1602.keep k nin0) (own_by9' hb_1291))) (fun h u v k => rm_sioI_5_1_4 hw a_1242 b_1271 (bY r0) (bY r1) (bY r2) (bY r3) (bY r4) h u cm v (f_1599.keep k) (f_1600.keep k nin0) (f_1601.keep k nin0) (f_1602.keep k nin0) (own_by9 kr1 hb_1299) (own_by9 kr2 hb_1477) (own_by9' hb_1565)) (fun h u v k => rm_sioI_5_4_0 hw a_1242 b_1271 (bY r0) (bY r1) (bY r2) (bY r3) (bY r4) h u cm v (f_1599.keep k) (f_1600.keep k nin0) (f_1601.keep k nin0) (f_1602.keep k nin0) (own_by9 kr4 hb_1572)) (fun h u v k => rm_length_5 hw a_1242 b_1271 (bY r0) (bY r1) (bY r2) (bY r3) (bY r4) h u cm v (f_1599.keep k) (f_1600.keep k nin0) (f_1601.keep k nin0) (f_1602.keep k nin0))) B C hW) (by decide) (by decide)
          · refine cS C hw 38 39 2 40 rfl rfl rfl rfl (rm_noteN_1 hw a_1281 1 5 3 r3 h_1293 f_1472 (by decide) hb_1565) [] [(.ref a_1281), (.int 1), (.int 5), (.int 3), (.int r3)] pd_19 0 at_140 ⟨rfl, rfl, rfl, rfl, rfl⟩ (by decide) ?_
            intro v_1607 h_1605 q_1606
            obtain ⟨rfl, rfl⟩ := q_1606
            show Go _ _ _ _ 4 20 143 _ [(.int 1)]
            refine iS C at_143 (#[iV p0, iV p1, iV p2, iV p3, iV p4, iV p5, iV 5, iV r0, iV r1, iV r2, iV r3, iV r4, aV a_1242, aV a_1281, iV 1, uV, uV]) rfl <| aL C ((.ref a_1281)) at_145 rfl rfl <| iL C 1 at_147 rfl <| iL C 5 at_149 rfl <| iC C 4 at_151 rfl <| iL C r4 at_152 rfl ?_
            by_cases hb_1609 : r4 = 9
            · refine cS C hw 38 39 2 40 rfl rfl rfl rfl (rm_noteY_1 hw a_1281 0 0 0 0 0 0 5 4 r4 h_1293 f_1472 f_1298 ge_a_1281 (by decide) hb_1609) [] [(.ref a_1281), (.int 1), (.int 5), (.int 4), (.int r4)] pd_19 0 at_154 ⟨rfl, rfl, rfl, rfl, rfl⟩ (by decide) ?_
              intro v_1612 h_1610 q_1611
              obtain ⟨rfl, K_1614, f_1615⟩ := q_1611
              show Go _ _ _ _ 4 20 157 _ [(.int 2)]
              refine iS C at_157 (#[iV p0, iV p1, iV p2, iV p3, iV p4, iV p5, iV 5, iV r0, iV r1, iV r2, iV r3, iV r4, aV a_1242, aV a_1281, iV 2, uV, uV]) rfl <| aL C ((.ref a_1281)) at_159 rfl rfl <| iL C 2 at_161 rfl <| iL C 5 at_163 rfl <| yiastore C f_1615 (by decide) (i := 2) (by decide) (show 2 < 6 by decide) (w := (.int 5)) rfl ge_a_1281 at_165 ?_
              intro h_1616 K_1617 A_1618
              have f_1619 : Ary Z h_1616 a_1281 .int [(.int 0), (.int 4), (.int 5), (.int 0), (.int 0), (.int 0)] := A_1618
              refine iL C 2 at_166 rfl <| iC C 1 at_168 rfl <| yiadd C at_169 <| eS [(.int 3)] rfl <| iS C at_170 (#[iV p0, iV p1, iV p2, iV p3, iV p4, iV p5, iV 5, iV r0, iV r1, iV r2, iV r3, iV r4, aV a_1242, aV a_1281, iV 2, iV 3, uV]) rfl ?_
              have f_1620 := ((((f_1278.ext E_1283).keep K_1297).keep K_1614).keep K_1617)
              have f_1621 := ((((f_1273.ext E_1283).keep K_1297 (ninS ne_1285 nin0)).keep K_1614 (ninS ne_1285 nin0)).keep K_1617 (ninS ne_1285 nin0))
              have f_1622 := ((((f_1274.ext E_1283).keep K_1297 (ninS ne_1285 nin0)).keep K_1614 (ninS ne_1285 nin0)).keep K_1617 (ninS ne_1285 nin0))
              have f_1623 := ((((f_1275.ext E_1283).keep K_1297 (ninS ne_1287 nin0)).keep K_1614 (ninS ne_1287 nin0)).keep K_1617 (ninS ne_1287 nin0))
              have f_1624 := (lT (lT f_1472 K_1614.1) K_1617.1)
              have f_1625 := (((((f_1260.keep K_1270 (allS ge_a_1242 all0)).ext E_1283).keep K_1297 (allS ge_a_1281 all0)).keep K_1614 (allS ge_a_1281 all0)).keep K_1617 (allS ge_a_1281 all0))
              exact own_up (rm_tail_3 hw p0 p1 p2 p3 p4 p5 5 r0 r1 r2 r3 r4 a_1242 a_1281 0 4 5 0 0 0 h_1616 f_1624 f_1625 f_1619 (rm_split_3 hw a_1242 0 4 5 h_1616 f_1624 f_1625 f_1620 (by decide) (by decide) (fun h u v k => rm_sio1 hw a_1242 0 h u (f_1620.keep k) (rm_sioI_5_0_1 hw a_1242 b_1271 (bY r0) (bY r1) (bY r2) (bY r3) (bY r4) h u cm v (f_1620.keep k) (f_1621.keep k nin0) (f_1622.keep k nin0) (f_1623.keep k nin0) (own_by9' hb_1291))) (fun h u v k => rm_sioI_5_1_5 hw a_1242 b_1271 (bY r0) (bY r1) (bY r2) (bY r3) (bY r4) h u cm v (f_1620.keep k) (f_1621.keep k nin0) (f_1622.keep k nin0) (f_1623.keep k nin0) (own_by9 kr1 hb_1299) (own_by9 kr2 hb_1477) (own_by9 kr3 hb_1565) (own_by9' hb_1609)) (fun h u v k => rm_sioI_5_5_0 hw a_1242 b_1271 (bY r0) (bY r1) (bY r2) (bY r3) (bY r4) h u cm v (f_1620.keep k) (f_1621.keep k nin0) (f_1622.keep k nin0) (f_1623.keep k nin0) ) (fun h u v k => rm_length_5 hw a_1242 b_1271 (bY r0) (bY r1) (bY r2) (bY r3) (bY r4) h u cm v (f_1620.keep k) (f_1621.keep k nin0) (f_1622.keep k nin0) (f_1623.keep k nin0))) B C hW) (by decide) (by decide)
            · refine cS C hw 38 39 2 40 rfl rfl rfl rfl (rm_noteN_1 hw a_1281 1 5 4 r4 h_1293 f_1472 (by decide) hb_1609) [] [(.ref a_1281), (.int 1), (.int 5), (.int 4), (.int r4)] pd_19 0 at_154 ⟨rfl, rfl, rfl, rfl, rfl⟩ (by decide) ?_
              intro v_1628 h_1626 q_1627
              obtain ⟨rfl, rfl⟩ := q_1627
              show Go _ _ _ _ 4 20 157 _ [(.int 1)]
              refine iS C at_157 (#[iV p0, iV p1, iV p2, iV p3, iV p4, iV p5, iV 5, iV r0, iV r1, iV r2, iV r3, iV r4, aV a_1242, aV a_1281, iV 1, uV, uV]) rfl <| aL C ((.ref a_1281)) at_159 rfl rfl <| iL C 1 at_161 rfl <| iL C 5 at_163 rfl <| yiastore C f_1298 (by decide) (i := 1) (by decide) (show 1 < 6 by decide) (w := (.int 5)) rfl ge_a_1281 at_165 ?_
              intro h_1630 K_1631 A_1632
              have f_1633 : Ary Z h_1630 a_1281 .int [(.int 0), (.int 5), (.int 0), (.int 0), (.int 0), (.int 0)] := A_1632
              refine iL C 1 at_166 rfl <| iC C 1 at_168 rfl <| yiadd C at_169 <| eS [(.int 2)] rfl <| iS C at_170 (#[iV p0, iV p1, iV p2, iV p3, iV p4, iV p5, iV 5, iV r0, iV r1, iV r2, iV r3, iV r4, aV a_1242, aV a_1281, iV 1, iV 2, uV]) rfl ?_
              have f_1634 := (((f_1278.ext E_1283).keep K_1297).keep K_1631)
              have f_1635 := (((f_1273.ext E_1283).keep K_1297 (ninS ne_1285 nin0)).keep K_1631 (ninS ne_1285 nin0))
              have f_1636 := (((f_1274.ext E_1283).keep K_1297 (ninS ne_1285 nin0)).keep K_1631 (ninS ne_1285 nin0))
              have f_1637 := (((f_1275.ext E_1283).keep K_1297 (ninS ne_1287 nin0)).keep K_1631 (ninS ne_1287 nin0))
              have f_1638 := (lT f_1472 K_1631.1)
              have f_1639 := ((((f_1260.keep K_1270 (allS ge_a_1242 all0)).ext E_1283).keep K_1297 (allS ge_a_1281 all0)).keep K_1631 (allS ge_a_1281 all0))
              exact own_up (rm_tail_2 hw p0 p1 p2 p3 p4 p5 5 r0 r1 r2 r3 r4 a_1242 a_1281 0 5 0 0 0 0 h_1630 f_1638 f_1639 f_1633 (rm_split_2 hw a_1242 0 5 h_1630 f_1638 f_1639 f_1634 (by decide) (fun h u v k => rm_sio1 hw a_1242 0 h u (f_1634.keep k) (rm_sioI_5_0_1 hw a_1242 b_1271 (bY r0) (bY r1) (bY r2) (bY r3) (bY r4) h u cm v (f_1634.keep k) (f_1635.keep k nin0) (f_1636.keep k nin0) (f_1637.keep k nin0) (own_by9' hb_1291))) (fun h u v k => rm_sioI_5_1_0 hw a_1242 b_1271 (bY r0) (bY r1) (bY r2) (bY r3) (bY r4) h u cm v (f_1634.keep k) (f_1635.keep k nin0) (f_1636.keep k nin0) (f_1637.keep k nin0) (own_by9 kr1 hb_1299) (own_by9 kr2 hb_1477) (own_by9 kr3 hb_1565) (own_by9 kr4 hb_1609)) (fun h u v k => rm_length_5 hw a_1242 b_1271 (bY r0) (bY r1) (bY r2) (bY r3) (bY r4) h u cm v (f_1634.keep k) (f_1635.keep k nin0) (f_1636.keep k nin0) (f_1637.keep k nin0))) B C hW) (by decide) (by decide)
    · have f_1640 := (lT f_1288 E_1283.1)
      refine cS C hw 38 39 2 40 rfl rfl rfl rfl (rm_noteN_1 hw a_1281 0 5 0 r0 h_1280 f_1640 (by decide) hb_1291) [] [(.ref a_1281), (.int 0), (.int 5), (.int 0), (.int r0)] pd_19 0 at_98 ⟨rfl, rfl, rfl, rfl, rfl⟩ (by decide) ?_
      intro v_1643 h_1641 q_1642
      obtain ⟨rfl, rfl⟩ := q_1642
      show Go _ _ _ _ 4 20 101 _ [(.int 0)]
      refine iS C at_101 (#[iV p0, iV p1, iV p2, iV p3, iV p4, iV p5, iV 5, iV r0, iV r1, iV r2, iV r3, iV r4, aV a_1242, aV a_1281, iV 0, uV, uV]) rfl <| aL C ((.ref a_1281)) at_103 rfl rfl <| iL C 0 at_105 rfl <| iL C 5 at_107 rfl <| iC C 1 at_109 rfl <| iL C r1 at_110 rfl ?_
      by_cases hb_1645 : r1 = 9
      · refine cS C hw 38 39 2 40 rfl rfl rfl rfl (rm_noteY_0 hw a_1281 0 0 0 0 0 0 5 1 r1 h_1280 f_1640 f_1290 ge_a_1281 (by decide) hb_1645) [] [(.ref a_1281), (.int 0), (.int 5), (.int 1), (.int r1)] pd_19 0 at_112 ⟨rfl, rfl, rfl, rfl, rfl⟩ (by decide) ?_
        intro v_1648 h_1646 q_1647
        obtain ⟨rfl, K_1650, f_1651⟩ := q_1647
        show Go _ _ _ _ 4 20 115 _ [(.int 1)]
        refine iS C at_115 (#[iV p0, iV p1, iV p2, iV p3, iV p4, iV p5, iV 5, iV r0, iV r1, iV r2, iV r3, iV r4, aV a_1242, aV a_1281, iV 1, uV, uV]) rfl <| aL C ((.ref a_1281)) at_117 rfl rfl <| iL C 1 at_119 rfl <| iL C 5 at_121 rfl <| iC C 2 at_123 rfl <| iL C r2 at_124 rfl ?_
        by_cases hb_1652 : r2 = 9
        · have f_1653 := (lT f_1640 K_1650.1)
          refine cS C hw 38 39 2 40 rfl rfl rfl rfl (rm_noteY_1 hw a_1281 1 0 0 0 0 0 5 2 r2 h_1646 f_1653 f_1651 ge_a_1281 (by decide) hb_1652) [] [(.ref a_1281), (.int 1), (.int 5), (.int 2), (.int r2)] pd_19 0 at_126 ⟨rfl, rfl, rfl, rfl, rfl⟩ (by decide) ?_
          intro v_1656 h_1654 q_1655
          obtain ⟨rfl, K_1658, f_1659⟩ := q_1655
          show Go _ _ _ _ 4 20 129 _ [(.int 2)]
          refine iS C at_129 (#[iV p0, iV p1, iV p2, iV p3, iV p4, iV p5, iV 5, iV r0, iV r1, iV r2, iV r3, iV r4, aV a_1242, aV a_1281, iV 2, uV, uV]) rfl <| aL C ((.ref a_1281)) at_131 rfl rfl <| iL C 2 at_133 rfl <| iL C 5 at_135 rfl <| iC C 3 at_137 rfl <| iL C r3 at_138 rfl ?_
          by_cases hb_1660 : r3 = 9
          · have f_1661 := (lT f_1653 K_1658.1)
            refine cS C hw 38 39 2 40 rfl rfl rfl rfl (rm_noteY_2 hw a_1281 1 2 0 0 0 0 5 3 r3 h_1654 f_1661 f_1659 ge_a_1281 (by decide) hb_1660) [] [(.ref a_1281), (.int 2), (.int 5), (.int 3), (.int r3)] pd_19 0 at_140 ⟨rfl, rfl, rfl, rfl, rfl⟩ (by decide) ?_
            intro v_1664 h_1662 q_1663
            obtain ⟨rfl, K_1666, f_1667⟩ := q_1663
            show Go _ _ _ _ 4 20 143 _ [(.int 3)]
            refine iS C at_143 (#[iV p0, iV p1, iV p2, iV p3, iV p4, iV p5, iV 5, iV r0, iV r1, iV r2, iV r3, iV r4, aV a_1242, aV a_1281, iV 3, uV, uV]) rfl <| aL C ((.ref a_1281)) at_145 rfl rfl <| iL C 3 at_147 rfl <| iL C 5 at_149 rfl <| iC C 4 at_151 rfl <| iL C r4 at_152 rfl ?_
            by_cases hb_1668 : r4 = 9
            · have f_1669 := (lT f_1661 K_1666.1)
              refine cS C hw 38 39 2 40 rfl rfl rfl rfl (rm_noteY_3 hw a_1281 1 2 3 0 0 0 5 4 r4 h_1662 f_1669 f_1667 ge_a_1281 (by decide) hb_1668) [] [(.ref a_1281), (.int 3), (.int 5), (.int 4), (.int r4)] pd_19 0 at_154 ⟨rfl, rfl, rfl, rfl, rfl⟩ (by decide) ?_
              intro v_1672 h_1670 q_1671
              obtain ⟨rfl, K_1674, f_1675⟩ := q_1671
              show Go _ _ _ _ 4 20 157 _ [(.int 4)]
              refine iS C at_157 (#[iV p0, iV p1, iV p2, iV p3, iV p4, iV p5, iV 5, iV r0, iV r1, iV r2, iV r3, iV r4, aV a_1242, aV a_1281, iV 4, uV, uV]) rfl <| aL C ((.ref a_1281)) at_159 rfl rfl <| iL C 4 at_161 rfl <| iL C 5 at_163 rfl <| yiastore C f_1675 (by decide) (i := 4) (by decide) (show 4 < 6 by decide) (w := (.int 5)) rfl ge_a_1281 at_165 ?_
              intro h_1676 K_1677 A_1678
              have f_1679 : Ary Z h_1676 a_1281 .int [(.int 1), (.int 2), (.int 3), (.int 4), (.int 5), (.int 0)] := A_1678
              refine iL C 4 at_166 rfl <| iC C 1 at_168 rfl <| yiadd C at_169 <| eS [(.int 5)] rfl <| iS C at_170 (#[iV p0, iV p1, iV p2, iV p3, iV p4, iV p5, iV 5, iV r0, iV r1, iV r2, iV r3, iV r4, aV a_1242, aV a_1281, iV 4, iV 5, uV]) rfl ?_
              have f_1680 := ((((((f_1278.ext E_1283).keep K_1650).keep K_1658).keep K_1666).keep K_1674).keep K_1677)
              have f_1681 := ((((((f_1273.ext E_1283).keep K_1650 (ninS ne_1285 nin0)).keep K_1658 (ninS ne_1285 nin0)).keep K_1666 (ninS ne_1285 nin0)).keep K_1674 (ninS ne_1285 nin0)).keep K_1677 (ninS ne_1285 nin0))
              have f_1682 := ((((((f_1274.ext E_1283).keep K_1650 (ninS ne_1285 nin0)).keep K_1658 (ninS ne_1285 nin0)).keep K_1666 (ninS ne_1285 nin0)).keep K_1674 (ninS ne_1285 nin0)).keep K_1677 (ninS ne_1285 nin0))
              have f_1683 := ((((((f_1275.ext E_1283).keep K_1650 (ninS ne_1287 nin0)).keep K_1658 (ninS ne_1287 nin0)).keep K_1666 (ninS ne_1287 nin0)).keep K_1674 (ninS ne_1287 nin0)).keep K_1677 (ninS ne_1287 nin0))
              have f_1684 := (lT (lT f_1669 K_1674.1) K_1677.1)
              have f_1685 := (((((((f_1260.keep K_1270 (allS ge_a_1242 all0)).ext E_1283).keep K_1650 (allS ge_a_1281 all0)).keep K_1658 (allS ge_a_1281 all0)).keep K_1666 (allS ge_a_1281 all0)).keep K_1674 (allS ge_a_1281 all0)).keep K_1677 (allS ge_a_1281 all0))
              exact own_up (rm_tail_5 hw p0 p1 p2 p3 p4 p5 5 r0 r1 r2 r3 r4 a_1242 a_1281 1 2 3 4 5 0 h_1676 f_1684 f_1685 f_1679 (rm_split_5 hw a_1242 1 2 3 4 5 h_1676 f_1684 f_1685 f_1680 (by decide) (by decide) (by decide) (by decide) (fun h u v k => rm_sio1 hw a_1242 1 h u (f_1680.keep k) (rm_sioI_5_0_2 hw a_1242 b_1271 (bY r0) (bY r1) (bY r2) (bY r3) (bY r4) h u cm v (f_1680.keep k) (f_1681.keep k nin0) (f_1682.keep k nin0) (f_1683.keep k nin0) (own_by9 kr0 hb_1291) (own_by9' hb_1645))) (fun h u v k => rm_sioI_5_2_3 hw a_1242 b_1271 (bY r0) (bY r1) (bY r2) (bY r3) (bY r4) h u cm v (f_1680.keep k) (f_1681.keep k nin0) (f_1682.keep k nin0) (f_1683.keep k nin0) (own_by9' hb_1652)) (fun h u v k => rm_sioI_5_3_4 hw a_1242 b_1271 (bY r0) (bY r1) (bY r2) (bY r3) (bY r4) h u cm v (f_1680.keep k) (f_1681.keep k nin0) (f_1682.keep k nin0) (f_1683.keep k nin0) (own_by9' hb_1660)) (fun h u v k => rm_sioI_5_4_5 hw a_1242 b_1271 (bY r0) (bY r1) (bY r2) (bY r3) (bY r4) h u cm v (f_1680.keep k) (f_1681.keep k nin0) (f_1682.keep k nin0) (f_1683.keep k nin0) (own_by9' hb_1668)) (fun h u v k => rm_sioI_5_5_0 hw a_1242 b_1271 (bY r0) (bY r1) (bY r2) (bY r3) (bY r4) h u cm v (f_1680.keep k) (f_1681.keep k nin0) (f_1682.keep k nin0) (f_1683.keep k nin0) ) (fun h u v k => rm_length_5 hw a_1242 b_1271 (bY r0) (bY r1) (bY r2) (bY r3) (bY r4) h u cm v (f_1680.keep k) (f_1681.keep k nin0) (f_1682.keep k nin0) (f_1683.keep k nin0))) B C hW) (by decide) (by decide)
            · have f_1686 := (lT f_1661 K_1666.1)
              refine cS C hw 38 39 2 40 rfl rfl rfl rfl (rm_noteN_1 hw a_1281 3 5 4 r4 h_1662 f_1686 (by decide) hb_1668) [] [(.ref a_1281), (.int 3), (.int 5), (.int 4), (.int r4)] pd_19 0 at_154 ⟨rfl, rfl, rfl, rfl, rfl⟩ (by decide) ?_
              intro v_1689 h_1687 q_1688
              obtain ⟨rfl, rfl⟩ := q_1688
              show Go _ _ _ _ 4 20 157 _ [(.int 3)]
              refine iS C at_157 (#[iV p0, iV p1, iV p2, iV p3, iV p4, iV p5, iV 5, iV r0, iV r1, iV r2, iV r3, iV r4, aV a_1242, aV a_1281, iV 3, uV, uV]) rfl <| aL C ((.ref a_1281)) at_159 rfl rfl <| iL C 3 at_161 rfl <| iL C 5 at_163 rfl <| yiastore C f_1667 (by decide) (i := 3) (by decide) (show 3 < 6 by decide) (w := (.int 5)) rfl ge_a_1281 at_165 ?_
              intro h_1691 K_1692 A_1693
              have f_1694 : Ary Z h_1691 a_1281 .int [(.int 1), (.int 2), (.int 3), (.int 5), (.int 0), (.int 0)] := A_1693
              refine iL C 3 at_166 rfl <| iC C 1 at_168 rfl <| yiadd C at_169 <| eS [(.int 4)] rfl <| iS C at_170 (#[iV p0, iV p1, iV p2, iV p3, iV p4, iV p5, iV 5, iV r0, iV r1, iV r2, iV r3, iV r4, aV a_1242, aV a_1281, iV 3, iV 4, uV]) rfl ?_
              have f_1695 := (((((f_1278.ext E_1283).keep K_1650).keep K_1658).keep K_1666).keep K_1692)
              have f_1696 := (((((f_1273.ext E_1283).keep K_1650 (ninS ne_1285 nin0)).keep K_1658 (ninS ne_1285 nin0)).keep K_1666 (ninS ne_1285 nin0)).keep K_1692 (ninS ne_1285 nin0))
              have f_1697 := (((((f_1274.ext E_1283).keep K_1650 (ninS ne_1285 nin0)).keep K_1658 (ninS ne_1285 nin0)).keep K_1666 (ninS ne_1285 nin0)).keep K_1692 (ninS ne_1285 nin0))
              have f_1698 := (((((f_1275.ext E_1283).keep K_1650 (ninS ne_1287 nin0)).keep K_1658 (ninS ne_1287 nin0)).keep K_1666 (ninS ne_1287 nin0)).keep K_1692 (ninS ne_1287 nin0))
              have f_1699 := (lT f_1686 K_1692.1)
              have f_1700 := ((((((f_1260.keep K_1270 (allS ge_a_1242 all0)).ext E_1283).keep K_1650 (allS ge_a_1281 all0)).keep K_1658 (allS ge_a_1281 all0)).keep K_1666 (allS ge_a_1281 all0)).keep K_1692 (allS ge_a_1281 all0))
              exact own_up (rm_tail_4 hw p0 p1 p2 p3 p4 p5 5 r0 r1 r2 r3 r4 a_1242 a_1281 1 2 3 5 0 0 h_1691 f_1699 f_1700 f_1694 (rm_split_4 hw a_1242 1 2 3 5 h_1691 f_1699 f_1700 f_1695 (by decide) (by decide) (by decide) (fun h u v k => rm_sio1 hw a_1242 1 h u (f_1695.keep k) (rm_sioI_5_0_2 hw a_1242 b_1271 (bY r0) (bY r1) (bY r2) (bY r3) (bY r4) h u cm v (f_1695.keep k) (f_1696.keep k nin0) (f_1697.keep k nin0) (f_1698.keep k nin0) (own_by9 kr0 hb_1291) (own_by9' hb_1645))) (fun h u v k => rm_sioI_5_2_3 hw a_1242 b_1271 (bY r0) (bY r1) (bY r2) (bY r3) (bY r4) h u cm v (f_1695.keep k) (f_1696.keep k nin0) (f_1697.keep k nin0) (f_1698.keep k nin0) (own_by9' hb_1652)) (fun h u v k => rm_sioI_5_3_4 hw a_1242 b_1271 (bY r0) (bY r1) (bY r2) (bY r3) (bY r4) h u cm v (f_1695.keep k) (f_1696.keep k nin0) (f_1697.keep k nin0) (f_1698.keep k nin0) (own_by9' hb_1660)) (fun h u v k => rm_sioI_5_4_0 hw a_1242 b_1271 (bY r0) (bY r1) (bY r2) (bY r3) (bY r4) h u cm v (f_1695.keep k) (f_1696.keep k nin0) (f_1697.keep k nin0) (f_1698.keep k nin0) (own_by9 kr4 hb_1668)) (fun h u v k => rm_length_5 hw a_1242 b_1271 (bY r0) (bY r1) (bY r2) (bY r3) (bY r4) h u cm v (f_1695.keep k) (f_1696.keep k nin0) (f_1697.keep k nin0) (f_1698.keep k nin0))) B C hW) (by decide) (by decide)
          · have f_1701 := (lT f_1653 K_1658.1)
            refine cS C hw 38 39 2 40 rfl rfl rfl rfl (rm_noteN_1 hw a_1281 2 5 3 r3 h_1654 f_1701 (by decide) hb_1660) [] [(.ref a_1281), (.int 2), (.int 5), (.int 3), (.int r3)] pd_19 0 at_140 ⟨rfl, rfl, rfl, rfl, rfl⟩ (by decide) ?_
            intro v_1704 h_1702 q_1703
            obtain ⟨rfl, rfl⟩ := q_1703
            show Go _ _ _ _ 4 20 143 _ [(.int 2)]
            refine iS C at_143 (#[iV p0, iV p1, iV p2, iV p3, iV p4, iV p5, iV 5, iV r0, iV r1, iV r2, iV r3, iV r4, aV a_1242, aV a_1281, iV 2, uV, uV]) rfl <| aL C ((.ref a_1281)) at_145 rfl rfl <| iL C 2 at_147 rfl <| iL C 5 at_149 rfl <| iC C 4 at_151 rfl <| iL C r4 at_152 rfl ?_
            by_cases hb_1706 : r4 = 9
            · refine cS C hw 38 39 2 40 rfl rfl rfl rfl (rm_noteY_2 hw a_1281 1 2 0 0 0 0 5 4 r4 h_1654 f_1701 f_1659 ge_a_1281 (by decide) hb_1706) [] [(.ref a_1281), (.int 2), (.int 5), (.int 4), (.int r4)] pd_19 0 at_154 ⟨rfl, rfl, rfl, rfl, rfl⟩ (by decide) ?_
              intro v_1709 h_1707 q_1708
              obtain ⟨rfl, K_1711, f_1712⟩ := q_1708
              show Go _ _ _ _ 4 20 157 _ [(.int 3)]
              refine iS C at_157 (#[iV p0, iV p1, iV p2, iV p3, iV p4, iV p5, iV 5, iV r0, iV r1, iV r2, iV r3, iV r4, aV a_1242, aV a_1281, iV 3, uV, uV]) rfl <| aL C ((.ref a_1281)) at_159 rfl rfl <| iL C 3 at_161 rfl <| iL C 5 at_163 rfl <| yiastore C f_1712 (by decide) (i := 3) (by decide) (show 3 < 6 by decide) (w := (.int 5)) rfl ge_a_1281 at_165 ?_
              intro h_1713 K_1714 A_1715
              have f_1716 : Ary Z h_1713 a_1281 .int [(.int 1), (.int 2), (.int 4), (.int 5), (.int 0), (.int 0)] := A_1715
              refine iL C 3 at_166 rfl <| iC C 1 at_168 rfl <| yiadd C at_169 <| eS [(.int 4)] rfl <| iS C at_170 (#[iV p0, iV p1, iV p2, iV p3, iV p4, iV p5, iV 5, iV r0, iV r1, iV r2, iV r3, iV r4, aV a_1242, aV a_1281, iV 3, iV 4, uV]) rfl ?_
              have f_1717 := (((((f_1278.ext E_1283).keep K_1650).keep K_1658).keep K_1711).keep K_1714)
              have f_1718 := (((((f_1273.ext E_1283).keep K_1650 (ninS ne_1285 nin0)).keep K_1658 (ninS ne_1285 nin0)).keep K_1711 (ninS ne_1285 nin0)).keep K_1714 (ninS ne_1285 nin0))
              have f_1719 := (((((f_1274.ext E_1283).keep K_1650 (ninS ne_1285 nin0)).keep K_1658 (ninS ne_1285 nin0)).keep K_1711 (ninS ne_1285 nin0)).keep K_1714 (ninS ne_1285 nin0))
              have f_1720 := (((((f_1275.ext E_1283).keep K_1650 (ninS ne_1287 nin0)).keep K_1658 (ninS ne_1287 nin0)).keep K_1711 (ninS ne_1287 nin0)).keep K_1714 (ninS ne_1287 nin0))
              have f_1721 := (lT (lT f_1701 K_1711.1) K_1714.1)
              have f_1722 := ((((((f_1260.keep K_1270 (allS ge_a_1242 all0)).ext E_1283).keep K_1650 (allS ge_a_1281 all0)).keep K_1658 (allS ge_a_1281 all0)).keep K_1711 (allS ge_a_1281 all0)).keep K_1714 (allS ge_a_1281 all0))
              exact own_up (rm_tail_4 hw p0 p1 p2 p3 p4 p5 5 r0 r1 r2 r3 r4 a_1242 a_1281 1 2 4 5 0 0 h_1713 f_1721 f_1722 f_1716 (rm_split_4 hw a_1242 1 2 4 5 h_1713 f_1721 f_1722 f_1717 (by decide) (by decide) (by decide) (fun h u v k => rm_sio1 hw a_1242 1 h u (f_1717.keep k) (rm_sioI_5_0_2 hw a_1242 b_1271 (bY r0) (bY r1) (bY r2) (bY r3) (bY r4) h u cm v (f_1717.keep k) (f_1718.keep k nin0) (f_1719.keep k nin0) (f_1720.keep k nin0) (own_by9 kr0 hb_1291) (own_by9' hb_1645))) (fun h u v k => rm_sioI_5_2_3 hw a_1242 b_1271 (bY r0) (bY r1) (bY r2) (bY r3) (bY r4) h u cm v (f_1717.keep k) (f_1718.keep k nin0) (f_1719.keep k nin0) (f_1720.keep k nin0) (own_by9' hb_1652)) (fun h u v k => rm_sioI_5_3_5 hw a_1242 b_1271 (bY r0) (bY r1) (bY r2) (bY r3) (bY r4) h u cm v (f_1717.keep k) (f_1718.keep k nin0) (f_1719.keep k nin0) (f_1720.keep k nin0) (own_by9 kr3 hb_1660) (own_by9' hb_1706)) (fun h u v k => rm_sioI_5_5_0 hw a_1242 b_1271 (bY r0) (bY r1) (bY r2) (bY r3) (bY r4) h u cm v (f_1717.keep k) (f_1718.keep k nin0) (f_1719.keep k nin0) (f_1720.keep k nin0) ) (fun h u v k => rm_length_5 hw a_1242 b_1271 (bY r0) (bY r1) (bY r2) (bY r3) (bY r4) h u cm v (f_1717.keep k) (f_1718.keep k nin0) (f_1719.keep k nin0) (f_1720.keep k nin0))) B C hW) (by decide) (by decide)
            · refine cS C hw 38 39 2 40 rfl rfl rfl rfl (rm_noteN_1 hw a_1281 2 5 4 r4 h_1654 f_1701 (by decide) hb_1706) [] [(.ref a_1281), (.int 2), (.int 5), (.int 4), (.int r4)] pd_19 0 at_154 ⟨rfl, rfl, rfl, rfl, rfl⟩ (by decide) ?_
              intro v_1725 h_1723 q_1724
              obtain ⟨rfl, rfl⟩ := q_1724
              show Go _ _ _ _ 4 20 157 _ [(.int 2)]
              refine iS C at_157 (#[iV p0, iV p1, iV p2, iV p3, iV p4, iV p5, iV 5, iV r0, iV r1, iV r2, iV r3, iV r4, aV a_1242, aV a_1281, iV 2, uV, uV]) rfl <| aL C ((.ref a_1281)) at_159 rfl rfl <| iL C 2 at_161 rfl <| iL C 5 at_163 rfl <| yiastore C f_1659 (by decide) (i := 2) (by decide) (show 2 < 6 by decide) (w := (.int 5)) rfl ge_a_1281 at_165 ?_
              intro h_1727 K_1728 A_1729
              have f_1730 : Ary Z h_1727 a_1281 .int [(.int 1), (.int 2), (.int 5), (.int 0), (.int 0), (.int 0)] := A_1729
              refine iL C 2 at_166 rfl <| iC C 1 at_168 rfl <| yiadd C at_169 <| eS [(.int 3)] rfl <| iS C at_170 (#[iV p0, iV p1, iV p2, iV p3, iV p4, iV p5, iV 5, iV r0, iV r1, iV r2, iV r3, iV r4, aV a_1242, aV a_1281, iV 2, iV 3, uV]) rfl ?_
              have f_1731 := ((((f_1278.ext E_1283).keep K_1650).keep K_1658).keep K_1728)
              have f_1732 := ((((f_1273.ext E_1283).keep K_1650 (ninS ne_1285 nin0)).keep K_1658 (ninS ne_1285 nin0)).keep K_1728 (ninS ne_1285 nin0))
              have f_1733 := ((((f_1274.ext E_1283).keep K_1650 (ninS ne_1285 nin0)).keep K_1658 (ninS ne_1285 nin0)).keep K_1728 (ninS ne_1285 nin0))
              have f_1734 := ((((f_1275.ext E_1283).keep K_1650 (ninS ne_1287 nin0)).keep K_1658 (ninS ne_1287 nin0)).keep K_1728 (ninS ne_1287 nin0))
              have f_1735 := (lT f_1701 K_1728.1)
              have f_1736 := (((((f_1260.keep K_1270 (allS ge_a_1242 all0)).ext E_1283).keep K_1650 (allS ge_a_1281 all0)).keep K_1658 (allS ge_a_1281 all0)).keep K_1728 (allS ge_a_1281 all0))
              exact own_up (rm_tail_3 hw p0 p1 p2 p3 p4 p5 5 r0 r1 r2 r3 r4 a_1242 a_1281 1 2 5 0 0 0 h_1727 f_1735 f_1736 f_1730 (rm_split_3 hw a_1242 1 2 5 h_1727 f_1735 f_1736 f_1731 (by decide) (by decide) (fun h u v k => rm_sio1 hw a_1242 1 h u (f_1731.keep k) (rm_sioI_5_0_2 hw a_1242 b_1271 (bY r0) (bY r1) (bY r2) (bY r3) (bY r4) h u cm v (f_1731.keep k) (f_1732.keep k nin0) (f_1733.keep k nin0) (f_1734.keep k nin0) (own_by9 kr0 hb_1291) (own_by9' hb_1645))) (fun h u v k => rm_sioI_5_2_3 hw a_1242 b_1271 (bY r0) (bY r1) (bY r2) (bY r3) (bY r4) h u cm v (f_1731.keep k) (f_1732.keep k nin0) (f_1733.keep k nin0) (f_1734.keep k nin0) (own_by9' hb_1652)) (fun h u v k => rm_sioI_5_3_0 hw a_1242 b_1271 (bY r0) (bY r1) (bY r2) (bY r3) (bY r4) h u cm v (f_1731.keep k) (f_1732.keep k nin0) (f_1733.keep k nin0) (f_1734.keep k nin0) (own_by9 kr3 hb_1660) (own_by9 kr4 hb_1706)) (fun h u v k => rm_length_5 hw a_1242 b_1271 (bY r0) (bY r1) (bY r2) (bY r3) (bY r4) h u cm v (f_1731.keep k) (f_1732.keep k nin0) (f_1733.keep k nin0) (f_1734.keep k nin0))) B C hW) (by decide) (by decide)
        · have f_1737 := (lT f_1640 K_1650.1)
          refine cS C hw 38 39 2 40 rfl rfl rfl rfl (rm_noteN_1 hw a_1281 1 5 2 r2 h_1646 f_1737 (by decide) hb_1652) [] [(.ref a_1281), (.int 1), (.int 5), (.int 2), (.int r2)] pd_19 0 at_126 ⟨rfl, rfl, rfl, rfl, rfl⟩ (by decide) ?_
          intro v_1740 h_1738 q_1739
          obtain ⟨rfl, rfl⟩ := q_1739
          show Go _ _ _ _ 4 20 129 _ [(.int 1)]
          refine iS C at_129 (#[iV p0, iV p1, iV p2, iV p3, iV p4, iV p5, iV 5, iV r0, iV r1, iV r2, iV r3, iV r4, aV a_1242, aV a_1281, iV 1, uV, uV]) rfl <| aL C ((.ref a_1281)) at_131 rfl rfl <| iL C 1 at_133 rfl <| iL C 5 at_135 rfl <| iC C 3 at_137 rfl <| iL C r3 at_138 rfl ?_
          by_cases hb_1742 : r3 = 9
          · refine cS C hw 38 39 2 40 rfl rfl rfl rfl (rm_noteY_1 hw a_1281 1 0 0 0 0 0 5 3 r3 h_1646 f_1737 f_1651 ge_a_1281 (by decide) hb_1742) [] [(.ref a_1281), (.int 1), (.int 5), (.int 3), (.int r3)] pd_19 0 at_140 ⟨rfl, rfl, rfl, rfl, rfl⟩ (by decide) ?_
            intro v_1745 h_1743 q_1744
            obtain ⟨rfl, K_1747, f_1748⟩ := q_1744
            show Go _ _ _ _ 4 20 143 _ [(.int 2)]
            refine iS C at_143 (#[iV p0, iV p1, iV p2, iV p3, iV p4, iV p5, iV 5, iV r0, iV r1, iV r2, iV r3, iV r4, aV a_1242, aV a_1281, iV 2, uV, uV]) rfl <| aL C ((.ref a_1281)) at_145 rfl rfl <| iL C 2 at_147 rfl <| iL C 5 at_149 rfl <| iC C 4 at_151 rfl <| iL C r4 at_152 rfl ?_
            by_cases hb_1749 : r4 = 9
            · have f_1750 := (lT f_1737 K_1747.1)
              refine cS C hw 38 39 2 40 rfl rfl rfl rfl (rm_noteY_2 hw a_1281 1 3 0 0 0 0 5 4 r4 h_1743 f_1750 f_1748 ge_a_1281 (by decide) hb_1749) [] [(.ref a_1281), (.int 2), (.int 5), (.int 4), (.int r4)] pd_19 0 at_154 ⟨rfl, rfl, rfl, rfl, rfl⟩ (by decide) ?_
              intro v_1753 h_1751 q_1752
              obtain ⟨rfl, K_1755, f_1756⟩ := q_1752
              show Go _ _ _ _ 4 20 157 _ [(.int 3)]
              refine iS C at_157 (#[iV p0, iV p1, iV p2, iV p3, iV p4, iV p5, iV 5, iV r0, iV r1, iV r2, iV r3, iV r4, aV a_1242, aV a_1281, iV 3, uV, uV]) rfl <| aL C ((.ref a_1281)) at_159 rfl rfl <| iL C 3 at_161 rfl <| iL C 5 at_163 rfl <| yiastore C f_1756 (by decide) (i := 3) (by decide) (show 3 < 6 by decide) (w := (.int 5)) rfl ge_a_1281 at_165 ?_
              intro h_1757 K_1758 A_1759
              have f_1760 : Ary Z h_1757 a_1281 .int [(.int 1), (.int 3), (.int 4), (.int 5), (.int 0), (.int 0)] := A_1759
              refine iL C 3 at_166 rfl <| iC C 1 at_168 rfl <| yiadd C at_169 <| eS [(.int 4)] rfl <| iS C at_170 (#[iV p0, iV p1, iV p2, iV p3, iV p4, iV p5, iV 5, iV r0, iV r1, iV r2, iV r3, iV r4, aV a_1242, aV a_1281, iV 3, iV 4, uV]) rfl ?_
              have f_1761 := (((((f_1278.ext E_1283).keep K_1650).keep K_1747).keep K_1755).keep K_1758)
              have f_1762 := (((((f_1273.ext E_1283).keep K_1650 (ninS ne_1285 nin0)).keep K_1747 (ninS ne_1285 nin0)).keep K_1755 (ninS ne_1285 nin0)).keep K_1758 (ninS ne_1285 nin0))
              have f_1763 := (((((f_1274.ext E_1283).keep K_1650 (ninS ne_1285 nin0)).keep K_1747 (ninS ne_1285 nin0)).keep K_1755 (ninS ne_1285 nin0)).keep K_1758 (ninS ne_1285 nin0))
              have f_1764 := (((((f_1275.ext E_1283).keep K_1650 (ninS ne_1287 nin0)).keep K_1747 (ninS ne_1287 nin0)).keep K_1755 (ninS ne_1287 nin0)).keep K_1758 (ninS ne_1287 nin0))
              have f_1765 := (lT (lT f_1750 K_1755.1) K_1758.1)
              have f_1766 := ((((((f_1260.keep K_1270 (allS ge_a_1242 all0)).ext E_1283).keep K_1650 (allS ge_a_1281 all0)).keep K_1747 (allS ge_a_1281 all0)).keep K_1755 (allS ge_a_1281 all0)).keep K_1758 (allS ge_a_1281 all0))
              exact own_up (rm_tail_4 hw p0 p1 p2 p3 p4 p5 5 r0 r1 r2 r3 r4 a_1242 a_1281 1 3 4 5 0 0 h_1757 f_1765 f_1766 f_1760 (rm_split_4 hw a_1242 1 3 4 5 h_1757 f_1765 f_1766 f_1761 (by decide) (by decide) (by decide) (fun h u v k => rm_sio1 hw a_1242 1 h u (f_1761.keep k) (rm_sioI_5_0_2 hw a_1242 b_1271 (bY r0) (bY r1) (bY r2) (bY r3) (bY r4) h u cm v (f_1761.keep k) (f_1762.keep k nin0) (f_1763.keep k nin0) (f_1764.keep k nin0) (own_by9 kr0 hb_1291) (own_by9' hb_1645))) (fun h u v k => rm_sioI_5_2_4 hw a_1242 b_1271 (bY r0) (bY r1) (bY r2) (bY r3) (bY r4) h u cm v (f_1761.keep k) (f_1762.keep k nin0) (f_1763.keep k nin0) (f_1764.keep k nin0) (own_by9 kr2 hb_1652) (own_by9' hb_1742)) (fun h u v k => rm_sioI_5_4_5 hw a_1242 b_1271 (bY r0) (bY r1) (bY r2) (bY r3) (bY r4) h u cm v (f_1761.keep k) (f_1762.keep k nin0) (f_1763.keep k nin0) (f_1764.keep k nin0) (own_by9' hb_1749)) (fun h u v k => rm_sioI_5_5_0 hw a_1242 b_1271 (bY r0) (bY r1) (bY r2) (bY r3) (bY r4) h u cm v (f_1761.keep k) (f_1762.keep k nin0) (f_1763.keep k nin0) (f_1764.keep k nin0) ) (fun h u v k => rm_length_5 hw a_1242 b_1271 (bY r0) (bY r1) (bY r2) (bY r3) (bY r4) h u cm v (f_1761.keep k) (f_1762.keep k nin0) (f_1763.keep k nin0) (f_1764.keep k nin0))) B C hW) (by decide) (by decide)
            · have f_1767 := (lT f_1737 K_1747.1)
              refine cS C hw 38 39 2 40 rfl rfl rfl rfl (rm_noteN_1 hw a_1281 2 5 4 r4 h_1743 f_1767 (by decide) hb_1749) [] [(.ref a_1281), (.int 2), (.int 5), (.int 4), (.int r4)] pd_19 0 at_154 ⟨rfl, rfl, rfl, rfl, rfl⟩ (by decide) ?_
              intro v_1770 h_1768 q_1769
              obtain ⟨rfl, rfl⟩ := q_1769
              show Go _ _ _ _ 4 20 157 _ [(.int 2)]
              refine iS C at_157 (#[iV p0, iV p1, iV p2, iV p3, iV p4, iV p5, iV 5, iV r0, iV r1, iV r2, iV r3, iV r4, aV a_1242, aV a_1281, iV 2, uV, uV]) rfl <| aL C ((.ref a_1281)) at_159 rfl rfl <| iL C 2 at_161 rfl <| iL C 5 at_163 rfl <| yiastore C f_1748 (by decide) (i := 2) (by decide) (show 2 < 6 by decide) (w := (.int 5)) rfl ge_a_1281 at_165 ?_
              intro h_1772 K_1773 A_1774
              have f_1775 : Ary Z h_1772 a_1281 .int [(.int 1), (.int 3), (.int 5), (.int 0), (.int 0), (.int 0)] := A_1774
              refine iL C 2 at_166 rfl <| iC C 1 at_168 rfl <| yiadd C at_169 <| eS [(.int 3)] rfl <| iS C at_170 (#[iV p0, iV p1, iV p2, iV p3, iV p4, iV p5, iV 5, iV r0, iV r1, iV r2, iV r3, iV r4, aV a_1242, aV a_1281, iV 2, iV 3, uV]) rfl ?_
              have f_1776 := ((((f_1278.ext E_1283).keep K_1650).keep K_1747).keep K_1773)
              have f_1777 := ((((f_1273.ext E_1283).keep K_1650 (ninS ne_1285 nin0)).keep K_1747 (ninS ne_1285 nin0)).keep K_1773 (ninS ne_1285 nin0))
              have f_1778 := ((((f_1274.ext E_1283).keep K_1650 (ninS ne_1285 nin0)).keep K_1747 (ninS ne_1285 nin0)).keep K_1773 (ninS ne_1285 nin0))
              have f_1779 := ((((f_1275.ext E_1283).keep K_1650 (ninS ne_1287 nin0)).keep K_1747 (ninS ne_1287 nin0)).keep K_1773 (ninS ne_1287 nin0))
              have f_1780 := (lT f_1767 K_1773.1)
              have f_1781 := (((((f_1260.keep K_1270 (allS ge_a_1242 all0)).ext E_1283).keep K_1650 (allS ge_a_1281 all0)).keep K_1747 (allS ge_a_1281 all0)).keep K_1773 (allS ge_a_1281 all0))
              exact own_up (rm_tail_3 hw p0 p1 p2 p3 p4 p5 5 r0 r1 r2 r3 r4 a_1242 a_1281 1 3 5 0 0 0 h_1772 f_1780 f_1781 f_1775 (rm_split_3 hw a_1242 1 3 5 h_1772 f_1780 f_1781 f_1776 (by decide) (by decide) (fun h u v k => rm_sio1 hw a_1242 1 h u (f_1776.keep k) (rm_sioI_5_0_2 hw a_1242 b_1271 (bY r0) (bY r1) (bY r2) (bY r3) (bY r4) h u cm v (f_1776.keep k) (f_1777.keep k nin0) (f_1778.keep k nin0) (f_1779.keep k nin0) (own_by9 kr0 hb_1291) (own_by9' hb_1645))) (fun h u v k => rm_sioI_5_2_4 hw a_1242 b_1271 (bY r0) (bY r1) (bY r2) (bY r3) (bY r4) h u cm v (f_1776.keep k) (f_1777.keep k nin0) (f_1778.keep k nin0) (f_1779.keep k nin0) (own_by9 kr2 hb_1652) (own_by9' hb_1742)) (fun h u v k => rm_sioI_5_4_0 hw a_1242 b_1271 (bY r0) (bY r1) (bY r2) (bY r3) (bY r4) h u cm v (f_1776.keep k) (f_1777.keep k nin0) (f_1778.keep k nin0) (f_1779.keep k nin0) (own_by9 kr4 hb_1749)) (fun h u v k => rm_length_5 hw a_1242 b_1271 (bY r0) (bY r1) (bY r2) (bY r3) (bY r4) h u cm v (f_1776.keep k) (f_1777.keep k nin0) (f_1778.keep k nin0) (f_1779.keep k nin0))) B C hW) (by decide) (by decide)
          · refine cS C hw 38 39 2 40 rfl rfl rfl rfl (rm_noteN_1 hw a_1281 1 5 3 r3 h_1646 f_1737 (by decide) hb_1742) [] [(.ref a_1281), (.int 1), (.int 5), (.int 3), (.int r3)] pd_19 0 at_140 ⟨rfl, rfl, rfl, rfl, rfl⟩ (by decide) ?_
            intro v_1784 h_1782 q_1783
            obtain ⟨rfl, rfl⟩ := q_1783
            show Go _ _ _ _ 4 20 143 _ [(.int 1)]
            refine iS C at_143 (#[iV p0, iV p1, iV p2, iV p3, iV p4, iV p5, iV 5, iV r0, iV r1, iV r2, iV r3, iV r4, aV a_1242, aV a_1281, iV 1, uV, uV]) rfl <| aL C ((.ref a_1281)) at_145 rfl rfl <| iL C 1 at_147 rfl <| iL C 5 at_149 rfl <| iC C 4 at_151 rfl <| iL C r4 at_152 rfl ?_
            by_cases hb_1786 : r4 = 9
            · refine cS C hw 38 39 2 40 rfl rfl rfl rfl (rm_noteY_1 hw a_1281 1 0 0 0 0 0 5 4 r4 h_1646 f_1737 f_1651 ge_a_1281 (by decide) hb_1786) [] [(.ref a_1281), (.int 1), (.int 5), (.int 4), (.int r4)] pd_19 0 at_154 ⟨rfl, rfl, rfl, rfl, rfl⟩ (by decide) ?_
              intro v_1789 h_1787 q_1788
              obtain ⟨rfl, K_1791, f_1792⟩ := q_1788
              show Go _ _ _ _ 4 20 157 _ [(.int 2)]
              refine iS C at_157 (#[iV p0, iV p1, iV p2, iV p3, iV p4, iV p5, iV 5, iV r0, iV r1, iV r2, iV r3, iV r4, aV a_1242, aV a_1281, iV 2, uV, uV]) rfl <| aL C ((.ref a_1281)) at_159 rfl rfl <| iL C 2 at_161 rfl <| iL C 5 at_163 rfl <| yiastore C f_1792 (by decide) (i := 2) (by decide) (show 2 < 6 by decide) (w := (.int 5)) rfl ge_a_1281 at_165 ?_
              intro h_1793 K_1794 A_1795
              have f_1796 : Ary Z h_1793 a_1281 .int [(.int 1), (.int 4), (.int 5), (.int 0), (.int 0), (.int 0)] := A_1795
              refine iL C 2 at_166 rfl <| iC C 1 at_168 rfl <| yiadd C at_169 <| eS [(.int 3)] rfl <| iS C at_170 (#[iV p0, iV p1, iV p2, iV p3, iV p4, iV p5, iV 5, iV r0, iV r1, iV r2, iV r3, iV r4, aV a_1242, aV a_1281, iV 2, iV 3, uV]) rfl ?_
              have f_1797 := ((((f_1278.ext E_1283).keep K_1650).keep K_1791).keep K_1794)
              have f_1798 := ((((f_1273.ext E_1283).keep K_1650 (ninS ne_1285 nin0)).keep K_1791 (ninS ne_1285 nin0)).keep K_1794 (ninS ne_1285 nin0))
              have f_1799 := ((((f_1274.ext E_1283).keep K_1650 (ninS ne_1285 nin0)).keep K_1791 (ninS ne_1285 nin0)).keep K_1794 (ninS ne_1285 nin0))
              have f_1800 := ((((f_1275.ext E_1283).keep K_1650 (ninS ne_1287 nin0)).keep K_1791 (ninS ne_1287 nin0)).keep K_1794 (ninS ne_1287 nin0))
              have f_1801 := (lT (lT f_1737 K_1791.1) K_1794.1)
              have f_1802 := (((((f_1260.keep K_1270 (allS ge_a_1242 all0)).ext E_1283).keep K_1650 (allS ge_a_1281 all0)).keep K_1791 (allS ge_a_1281 all0)).keep K_1794 (allS ge_a_1281 all0))
              exact own_up (rm_tail_3 hw p0 p1 p2 p3 p4 p5 5 r0 r1 r2 r3 r4 a_1242 a_1281 1 4 5 0 0 0 h_1793 f_1801 f_1802 f_1796 (rm_split_3 hw a_1242 1 4 5 h_1793 f_1801 f_1802 f_1797 (by decide) (by decide) (fun h u v k => rm_sio1 hw a_1242 1 h u (f_1797.keep k) (rm_sioI_5_0_2 hw a_1242 b_1271 (bY r0) (bY r1) (bY r2) (bY r3) (bY r4) h u cm v (f_1797.keep k) (f_1798.keep k nin0) (f_1799.keep k nin0) (f_1800.keep k nin0) (own_by9 kr0 hb_1291) (own_by9' hb_1645))) (fun h u v k => rm_sioI_5_2_5 hw a_1242 b_1271 (bY r0) (bY r1) (bY r2) (bY r3) (bY r4) h u cm v (f_1797.keep k) (f_1798.keep k nin0) (f_1799.keep k nin0) (f_1800.keep k nin0) (own_by9 kr2 hb_1652) (own_by9 kr3 hb_1742) (own_by9' hb_1786)) (fun h u v k => rm_sioI_5_5_0 hw a_1242 b_1271 (bY r0) (bY r1) (bY r2) (bY r3) (bY r4) h u cm v (f_1797.keep k) (f_1798.keep k nin0) (f_1799.keep k nin0) (f_1800.keep k nin0) ) (fun h u v k => rm_length_5 hw a_1242 b_1271 (bY r0) (bY r1) (bY r2) (bY r3) (bY r4) h u cm v (f_1797.keep k) (f_1798.keep k nin0) (f_1799.keep k nin0) (f_1800.keep k nin0))) B C hW) (by decide) (by decide)
            · refine cS C hw 38 39 2 40 rfl rfl rfl rfl (rm_noteN_1 hw a_1281 1 5 4 r4 h_1646 f_1737 (by decide) hb_1786) [] [(.ref a_1281), (.int 1), (.int 5), (.int 4), (.int r4)] pd_19 0 at_154 ⟨rfl, rfl, rfl, rfl, rfl⟩ (by decide) ?_
              intro v_1805 h_1803 q_1804
              obtain ⟨rfl, rfl⟩ := q_1804
              show Go _ _ _ _ 4 20 157 _ [(.int 1)]
              refine iS C at_157 (#[iV p0, iV p1, iV p2, iV p3, iV p4, iV p5, iV 5, iV r0, iV r1, iV r2, iV r3, iV r4, aV a_1242, aV a_1281, iV 1, uV, uV]) rfl <| aL C ((.ref a_1281)) at_159 rfl rfl <| iL C 1 at_161 rfl <| iL C 5 at_163 rfl <| yiastore C f_1651 (by decide) (i := 1) (by decide) (show 1 < 6 by decide) (w := (.int 5)) rfl ge_a_1281 at_165 ?_
              intro h_1807 K_1808 A_1809
              have f_1810 : Ary Z h_1807 a_1281 .int [(.int 1), (.int 5), (.int 0), (.int 0), (.int 0), (.int 0)] := A_1809
              refine iL C 1 at_166 rfl <| iC C 1 at_168 rfl <| yiadd C at_169 <| eS [(.int 2)] rfl <| iS C at_170 (#[iV p0, iV p1, iV p2, iV p3, iV p4, iV p5, iV 5, iV r0, iV r1, iV r2, iV r3, iV r4, aV a_1242, aV a_1281, iV 1, iV 2, uV]) rfl ?_
              have f_1811 := (((f_1278.ext E_1283).keep K_1650).keep K_1808)
              have f_1812 := (((f_1273.ext E_1283).keep K_1650 (ninS ne_1285 nin0)).keep K_1808 (ninS ne_1285 nin0))
              have f_1813 := (((f_1274.ext E_1283).keep K_1650 (ninS ne_1285 nin0)).keep K_1808 (ninS ne_1285 nin0))
              have f_1814 := (((f_1275.ext E_1283).keep K_1650 (ninS ne_1287 nin0)).keep K_1808 (ninS ne_1287 nin0))
              have f_1815 := (lT f_1737 K_1808.1)
              have f_1816 := ((((f_1260.keep K_1270 (allS ge_a_1242 all0)).ext E_1283).keep K_1650 (allS ge_a_1281 all0)).keep K_1808 (allS ge_a_1281 all0))
              exact own_up (rm_tail_2 hw p0 p1 p2 p3 p4 p5 5 r0 r1 r2 r3 r4 a_1242 a_1281 1 5 0 0 0 0 h_1807 f_1815 f_1816 f_1810 (rm_split_2 hw a_1242 1 5 h_1807 f_1815 f_1816 f_1811 (by decide) (fun h u v k => rm_sio1 hw a_1242 1 h u (f_1811.keep k) (rm_sioI_5_0_2 hw a_1242 b_1271 (bY r0) (bY r1) (bY r2) (bY r3) (bY r4) h u cm v (f_1811.keep k) (f_1812.keep k nin0) (f_1813.keep k nin0) (f_1814.keep k nin0) (own_by9 kr0 hb_1291) (own_by9' hb_1645))) (fun h u v k => rm_sioI_5_2_0 hw a_1242 b_1271 (bY r0) (bY r1) (bY r2) (bY r3) (bY r4) h u cm v (f_1811.keep k) (f_1812.keep k nin0) (f_1813.keep k nin0) (f_1814.keep k nin0) (own_by9 kr2 hb_1652) (own_by9 kr3 hb_1742) (own_by9 kr4 hb_1786)) (fun h u v k => rm_length_5 hw a_1242 b_1271 (bY r0) (bY r1) (bY r2) (bY r3) (bY r4) h u cm v (f_1811.keep k) (f_1812.keep k nin0) (f_1813.keep k nin0) (f_1814.keep k nin0))) B C hW) (by decide) (by decide)
      · refine cS C hw 38 39 2 40 rfl rfl rfl rfl (rm_noteN_1 hw a_1281 0 5 1 r1 h_1280 f_1640 (by decide) hb_1645) [] [(.ref a_1281), (.int 0), (.int 5), (.int 1), (.int r1)] pd_19 0 at_112 ⟨rfl, rfl, rfl, rfl, rfl⟩ (by decide) ?_
        intro v_1819 h_1817 q_1818
        obtain ⟨rfl, rfl⟩ := q_1818
        show Go _ _ _ _ 4 20 115 _ [(.int 0)]
        refine iS C at_115 (#[iV p0, iV p1, iV p2, iV p3, iV p4, iV p5, iV 5, iV r0, iV r1, iV r2, iV r3, iV r4, aV a_1242, aV a_1281, iV 0, uV, uV]) rfl <| aL C ((.ref a_1281)) at_117 rfl rfl <| iL C 0 at_119 rfl <| iL C 5 at_121 rfl <| iC C 2 at_123 rfl <| iL C r2 at_124 rfl ?_
        by_cases hb_1821 : r2 = 9
        · refine cS C hw 38 39 2 40 rfl rfl rfl rfl (rm_noteY_0 hw a_1281 0 0 0 0 0 0 5 2 r2 h_1280 f_1640 f_1290 ge_a_1281 (by decide) hb_1821) [] [(.ref a_1281), (.int 0), (.int 5), (.int 2), (.int r2)] pd_19 0 at_126 ⟨rfl, rfl, rfl, rfl, rfl⟩ (by decide) ?_
          intro v_1824 h_1822 q_1823
          obtain ⟨rfl, K_1826, f_1827⟩ := q_1823
          show Go _ _ _ _ 4 20 129 _ [(.int 1)]
          refine iS C at_129 (#[iV p0, iV p1, iV p2, iV p3, iV p4, iV p5, iV 5, iV r0, iV r1, iV r2, iV r3, iV r4, aV a_1242, aV a_1281, iV 1, uV, uV]) rfl <| aL C ((.ref a_1281)) at_131 rfl rfl <| iL C 1 at_133 rfl <| iL C 5 at_135 rfl <| iC C 3 at_137 rfl <| iL C r3 at_138 rfl ?_
          by_cases hb_1828 : r3 = 9
          · have f_1829 := (lT f_1640 K_1826.1)
            refine cS C hw 38 39 2 40 rfl rfl rfl rfl (rm_noteY_1 hw a_1281 2 0 0 0 0 0 5 3 r3 h_1822 f_1829 f_1827 ge_a_1281 (by decide) hb_1828) [] [(.ref a_1281), (.int 1), (.int 5), (.int 3), (.int r3)] pd_19 0 at_140 ⟨rfl, rfl, rfl, rfl, rfl⟩ (by decide) ?_
            intro v_1832 h_1830 q_1831
            obtain ⟨rfl, K_1834, f_1835⟩ := q_1831
            show Go _ _ _ _ 4 20 143 _ [(.int 2)]
            refine iS C at_143 (#[iV p0, iV p1, iV p2, iV p3, iV p4, iV p5, iV 5, iV r0, iV r1, iV r2, iV r3, iV r4, aV a_1242, aV a_1281, iV 2, uV, uV]) rfl <| aL C ((.ref a_1281)) at_145 rfl rfl <| iL C 2 at_147 rfl <| iL C 5 at_149 rfl <| iC C 4 at_151 rfl <| iL C r4 at_152 rfl ?_
            by_cases hb_1836 : r4 = 9
            · have f_1837 := (lT f_1829 K_1834.1)
              refine cS C hw 38 39 2 40 rfl rfl rfl rfl (rm_noteY_2 hw a_1281 2 3 0 0 0 0 5 4 r4 h_1830 f_1837 f_1835 ge_a_1281 (by decide) hb_1836) [] [(.ref a_1281), (.int 2), (.int 5), (.int 4), (.int r4)] pd_19 0 at_154 ⟨rfl, rfl, rfl, rfl, rfl⟩ (by decide) ?_
              intro v_1840 h_1838 q_1839
              obtain ⟨rfl, K_1842, f_1843⟩ := q_1839
              show Go _ _ _ _ 4 20 157 _ [(.int 3)]
              refine iS C at_157 (#[iV p0, iV p1, iV p2, iV p3, iV p4, iV p5, iV 5, iV r0, iV r1, iV r2, iV r3, iV r4, aV a_1242, aV a_1281, iV 3, uV, uV]) rfl <| aL C ((.ref a_1281)) at_159 rfl rfl <| iL C 3 at_161 rfl <| iL C 5 at_163 rfl <| yiastore C f_1843 (by decide) (i := 3) (by decide) (show 3 < 6 by decide) (w := (.int 5)) rfl ge_a_1281 at_165 ?_
              intro h_1844 K_1845 A_1846
              have f_1847 : Ary Z h_1844 a_1281 .int [(.int 2), (.int 3), (.int 4), (.int 5), (.int 0), (.int 0)] := A_1846
              refine iL C 3 at_166 rfl <| iC C 1 at_168 rfl <| yiadd C at_169 <| eS [(.int 4)] rfl <| iS C at_170 (#[iV p0, iV p1, iV p2, iV p3, iV p4, iV p5, iV 5, iV r0, iV r1, iV r2, iV r3, iV r4, aV a_1242, aV a_1281, iV 3, iV 4, uV]) rfl ?_
              have f_1848 := (((((f_1278.ext E_1283).keep K_1826).keep K_1834).keep K_1842).keep K_1845)
              have f_1849 := (((((f_1273.ext E_1283).keep K_1826 (ninS ne_1285 nin0)).keep K_1834 (ninS ne_1285 nin0)).keep K_1842 (ninS ne_1285 nin0)).keep K_1845 (ninS ne_1285 nin0))
              have f_1850 := (((((f_1274.ext E_1283).keep K_1826 (ninS ne_1285 nin0)).keep K_1834 (ninS ne_1285 nin0)).keep K_1842 (ninS ne_1285 nin0)).keep K_1845 (ninS ne_1285 nin0))
              have f_1851 := (((((f_1275.ext E_1283).keep K_1826 (ninS ne_1287 nin0)).keep K_1834 (ninS ne_1287 nin0)).keep K_1842 (ninS ne_1287 nin0)).keep K_1845 (ninS ne_1287 nin0))
              have f_1852 := (lT (lT f_1837 K_1842.1) K_1845.1)
              have f_1853 := ((((((f_1260.keep K_1270 (allS ge_a_1242 all0)).ext E_1283).keep K_1826 (allS ge_a_1281 all0)).keep K_1834 (allS ge_a_1281 all0)).keep K_1842 (allS ge_a_1281 all0)).keep K_1845 (allS ge_a_1281 all0))
              exact own_up (rm_tail_4 hw p0 p1 p2 p3 p4 p5 5 r0 r1 r2 r3 r4 a_1242 a_1281 2 3 4 5 0 0 h_1844 f_1852 f_1853 f_1847 (rm_split_4 hw a_1242 2 3 4 5 h_1844 f_1852 f_1853 f_1848 (by decide) (by decide) (by decide) (fun h u v k => rm_sio1 hw a_1242 2 h u (f_1848.keep k) (rm_sioI_5_0_3 hw a_1242 b_1271 (bY r0) (bY r1) (bY r2) (bY r3) (bY r4) h u cm v (f_1848.keep k) (f_1849.keep k nin0) (f_1850.keep k nin0) (f_1851.keep k nin0) (own_by9 kr0 hb_1291) (own_by9 kr1 hb_1645) (own_by9' hb_1821))) (fun h u v k => rm_sioI_5_3_4 hw a_1242 b_1271 (bY r0) (bY r1) (bY r2) (bY r3) (bY r4) h u cm v (f_1848.keep k) (f_1849.keep k nin0) (f_1850.keep k nin0) (f_1851.keep k nin0) (own_by9' hb_1828)) (fun h u v k => rm_sioI_5_4_5 hw a_1242 b_1271 (bY r0) (bY r1) (bY r2) (bY r3) (bY r4) h u cm v (f_1848.keep k) (f_1849.keep k nin0) (f_1850.keep k nin0) (f_1851.keep k nin0) (own_by9' hb_1836)) (fun h u v k => rm_sioI_5_5_0 hw a_1242 b_1271 (bY r0) (bY r1) (bY r2) (bY r3) (bY r4) h u cm v (f_1848.keep k) (f_1849.keep k nin0) (f_1850.keep k nin0) (f_1851.keep k nin0) ) (fun h u v k => rm_length_5 hw a_1242 b_1271 (bY r0) (bY r1) (bY r2) (bY r3) (bY r4) h u cm v (f_1848.keep k) (f_1849.keep k nin0) (f_1850.keep k nin0) (f_1851.keep k nin0))) B C hW) (by decide) (by decide)
            · have f_1854 := (lT f_1829 K_1834.1)
              refine cS C hw 38 39 2 40 rfl rfl rfl rfl (rm_noteN_1 hw a_1281 2 5 4 r4 h_1830 f_1854 (by decide) hb_1836) [] [(.ref a_1281), (.int 2), (.int 5), (.int 4), (.int r4)] pd_19 0 at_154 ⟨rfl, rfl, rfl, rfl, rfl⟩ (by decide) ?_
              intro v_1857 h_1855 q_1856
              obtain ⟨rfl, rfl⟩ := q_1856
              show Go _ _ _ _ 4 20 157 _ [(.int 2)]
              refine iS C at_157 (#[iV p0, iV p1, iV p2, iV p3, iV p4, iV p5, iV 5, iV r0, iV r1, iV r2, iV r3, iV r4, aV a_1242, aV a_1281, iV 2, uV, uV]) rfl <| aL C ((.ref a_1281)) at_159 rfl rfl <| iL C 2 at_161 rfl <| iL C 5 at_163 rfl <| yiastore C f_1835 (by decide) (i := 2) (by decide) (show 2 < 6 by decide) (w := (.int 5)) rfl ge_a_1281 at_165 ?_
              intro h_1859 K_1860 A_1861
              have f_1862 : Ary Z h_1859 a_1281 .int [(.int 2), (.int 3), (.int 5), (.int 0), (.int 0), (.int 0)] := A_1861
              refine iL C 2 at_166 rfl <| iC C 1 at_168 rfl <| yiadd C at_169 <| eS [(.int 3)] rfl <| iS C at_170 (#[iV p0, iV p1, iV p2, iV p3, iV p4, iV p5, iV 5, iV r0, iV r1, iV r2, iV r3, iV r4, aV a_1242, aV a_1281, iV 2, iV 3, uV]) rfl ?_
              have f_1863 := ((((f_1278.ext E_1283).keep K_1826).keep K_1834).keep K_1860)
              have f_1864 := ((((f_1273.ext E_1283).keep K_1826 (ninS ne_1285 nin0)).keep K_1834 (ninS ne_1285 nin0)).keep K_1860 (ninS ne_1285 nin0))
              have f_1865 := ((((f_1274.ext E_1283).keep K_1826 (ninS ne_1285 nin0)).keep K_1834 (ninS ne_1285 nin0)).keep K_1860 (ninS ne_1285 nin0))
              have f_1866 := ((((f_1275.ext E_1283).keep K_1826 (ninS ne_1287 nin0)).keep K_1834 (ninS ne_1287 nin0)).keep K_1860 (ninS ne_1287 nin0))
              have f_1867 := (lT f_1854 K_1860.1)
              have f_1868 := (((((f_1260.keep K_1270 (allS ge_a_1242 all0)).ext E_1283).keep K_1826 (allS ge_a_1281 all0)).keep K_1834 (allS ge_a_1281 all0)).keep K_1860 (allS ge_a_1281 all0))
              exact own_up (rm_tail_3 hw p0 p1 p2 p3 p4 p5 5 r0 r1 r2 r3 r4 a_1242 a_1281 2 3 5 0 0 0 h_1859 f_1867 f_1868 f_1862 (rm_split_3 hw a_1242 2 3 5 h_1859 f_1867 f_1868 f_1863 (by decide) (by decide) (fun h u v k => rm_sio1 hw a_1242 2 h u (f_1863.keep k) (rm_sioI_5_0_3 hw a_1242 b_1271 (bY r0) (bY r1) (bY r2) (bY r3) (bY r4) h u cm v (f_1863.keep k) (f_1864.keep k nin0) (f_1865.keep k nin0) (f_1866.keep k nin0) (own_by9 kr0 hb_1291) (own_by9 kr1 hb_1645) (own_by9' hb_1821))) (fun h u v k => rm_sioI_5_3_4 hw a_1242 b_1271 (bY r0) (bY r1) (bY r2) (bY r3) (bY r4) h u cm v (f_1863.keep k) (f_1864.keep k nin0) (f_1865.keep k nin0) (f_1866.keep k nin0) (own_by9' hb_1828)) (fun h u v k => rm_sioI_5_4_0 hw a_1242 b_1271 (bY r0) (bY r1) (bY r2) (bY r3) (bY r4) h u cm v (f_1863.keep k) (f_1864.keep k nin0) (f_1865.keep k nin0) (f_1866.keep k nin0) (own_by9 kr4 hb_1836)) (fun h u v k => rm_length_5 hw a_1242 b_1271 (bY r0) (bY r1) (bY r2) (bY r3) (bY r4) h u cm v (f_1863.keep k) (f_1864.keep k nin0) (f_1865.keep k nin0) (f_1866.keep k nin0))) B C hW) (by decide) (by decide)
          · have f_1869 := (lT f_1640 K_1826.1)
            refine cS C hw 38 39 2 40 rfl rfl rfl rfl (rm_noteN_1 hw a_1281 1 5 3 r3 h_1822 f_1869 (by decide) hb_1828) [] [(.ref a_1281), (.int 1), (.int 5), (.int 3), (.int r3)] pd_19 0 at_140 ⟨rfl, rfl, rfl, rfl, rfl⟩ (by decide) ?_
            intro v_1872 h_1870 q_1871
            obtain ⟨rfl, rfl⟩ := q_1871
            show Go _ _ _ _ 4 20 143 _ [(.int 1)]
            refine iS C at_143 (#[iV p0, iV p1, iV p2, iV p3, iV p4, iV p5, iV 5, iV r0, iV r1, iV r2, iV r3, iV r4, aV a_1242, aV a_1281, iV 1, uV, uV]) rfl <| aL C ((.ref a_1281)) at_145 rfl rfl <| iL C 1 at_147 rfl <| iL C 5 at_149 rfl <| iC C 4 at_151 rfl <| iL C r4 at_152 rfl ?_
            by_cases hb_1874 : r4 = 9
            · refine cS C hw 38 39 2 40 rfl rfl rfl rfl (rm_noteY_1 hw a_1281 2 0 0 0 0 0 5 4 r4 h_1822 f_1869 f_1827 ge_a_1281 (by decide) hb_1874) [] [(.ref a_1281), (.int 1), (.int 5), (.int 4), (.int r4)] pd_19 0 at_154 ⟨rfl, rfl, rfl, rfl, rfl⟩ (by decide) ?_
              intro v_1877 h_1875 q_1876
              obtain ⟨rfl, K_1879, f_1880⟩ := q_1876
              show Go _ _ _ _ 4 20 157 _ [(.int 2)]
              refine iS C at_157 (#[iV p0, iV p1, iV p2, iV p3, iV p4, iV p5, iV 5, iV r0, iV r1, iV r2, iV r3, iV r4, aV a_1242, aV a_1281, iV 2, uV, uV]) rfl <| aL C ((.ref a_1281)) at_159 rfl rfl <| iL C 2 at_161 rfl <| iL C 5 at_163 rfl <| yiastore C f_1880 (by decide) (i := 2) (by decide) (show 2 < 6 by decide) (w := (.int 5)) rfl ge_a_1281 at_165 ?_
              intro h_1881 K_1882 A_1883
              have f_1884 : Ary Z h_1881 a_1281 .int [(.int 2), (.int 4), (.int 5), (.int 0), (.int 0), (.int 0)] := A_1883
              refine iL C 2 at_166 rfl <| iC C 1 at_168 rfl <| yiadd C at_169 <| eS [(.int 3)] rfl <| iS C at_170 (#[iV p0, iV p1, iV p2, iV p3, iV p4, iV p5, iV 5, iV r0, iV r1, iV r2, iV r3, iV r4, aV a_1242, aV a_1281, iV 2, iV 3, uV]) rfl ?_
              have f_1885 := ((((f_1278.ext E_1283).keep K_1826).keep K_1879).keep K_1882)
              have f_1886 := ((((f_1273.ext E_1283).keep K_1826 (ninS ne_1285 nin0)).keep K_1879 (ninS ne_1285 nin0)).keep K_1882 (ninS ne_1285 nin0))
              have f_1887 := ((((f_1274.ext E_1283).keep K_1826 (ninS ne_1285 nin0)).keep K_1879 (ninS ne_1285 nin0)).keep K_1882 (ninS ne_1285 nin0))
              have f_1888 := ((((f_1275.ext E_1283).keep K_1826 (ninS ne_1287 nin0)).keep K_1879 (ninS ne_1287 nin0)).keep K_1882 (ninS ne_1287 nin0))
              have f_1889 := (lT (lT f_1869 K_1879.1) K_1882.1)
              have f_1890 := (((((f_1260.keep K_1270 (allS ge_a_1242 all0)).ext E_1283).keep K_1826 (allS ge_a_1281 all0)).keep K_1879 (allS ge_a_1281 all0)).keep K_1882 (allS ge_a_1281 all0))
              exact own_up (rm_tail_3 hw p0 p1 p2 p3 p4 p5 5 r0 r1 r2 r3 r4 a_1242 a_1281 2 4 5 0 0 0 h_1881 f_1889 f_1890 f_1884 (rm_split_3 hw a_1242 2 4 5 h_1881 f_1889 f_1890 f_1885 (by decide) (by decide) (fun h u v k => rm_sio1 hw a_1242 2 h u (f_1885.keep k) (rm_sioI_5_0_3 hw a_1242 b_1271 (bY r0) (bY r1) (bY r2) (bY r3) (bY r4) h u cm v (f_1885.keep k) (f_1886.keep k nin0) (f_1887.keep k nin0) (f_1888.keep k nin0) (own_by9 kr0 hb_1291) (own_by9 kr1 hb_1645) (own_by9' hb_1821))) (fun h u v k => rm_sioI_5_3_5 hw a_1242 b_1271 (bY r0) (bY r1) (bY r2) (bY r3) (bY r4) h u cm v (f_1885.keep k) (f_1886.keep k nin0) (f_1887.keep k nin0) (f_1888.keep k nin0) (own_by9 kr3 hb_1828) (own_by9' hb_1874)) (fun h u v k => rm_sioI_5_5_0 hw a_1242 b_1271 (bY r0) (bY r1) (bY r2) (bY r3) (bY r4) h u cm v (f_1885.keep k) (f_1886.keep k nin0) (f_1887.keep k nin0) (f_1888.keep k nin0) ) (fun h u v k => rm_length_5 hw a_1242 b_1271 (bY r0) (bY r1) (bY r2) (bY r3) (bY r4) h u cm v (f_1885.keep k) (f_1886.keep k nin0) (f_1887.keep k nin0) (f_1888.keep k nin0))) B C hW) (by decide) (by decide)
            · refine cS C hw 38 39 2 40 rfl rfl rfl rfl (rm_noteN_1 hw a_1281 1 5 4 r4 h_1822 f_1869 (by decide) hb_1874) [] [(.ref a_1281), (.int 1), (.int 5), (.int 4), (.int r4)] pd_19 0 at_154 ⟨rfl, rfl, rfl, rfl, rfl⟩ (by decide) ?_
              intro v_1893 h_1891 q_1892
              obtain ⟨rfl, rfl⟩ := q_1892
              show Go _ _ _ _ 4 20 157 _ [(.int 1)]
              refine iS C at_157 (#[iV p0, iV p1, iV p2, iV p3, iV p4, iV p5, iV 5, iV r0, iV r1, iV r2, iV r3, iV r4, aV a_1242, aV a_1281, iV 1, uV, uV]) rfl <| aL C ((.ref a_1281)) at_159 rfl rfl <| iL C 1 at_161 rfl <| iL C 5 at_163 rfl <| yiastore C f_1827 (by decide) (i := 1) (by decide) (show 1 < 6 by decide) (w := (.int 5)) rfl ge_a_1281 at_165 ?_
              intro h_1895 K_1896 A_1897
              have f_1898 : Ary Z h_1895 a_1281 .int [(.int 2), (.int 5), (.int 0), (.int 0), (.int 0), (.int 0)] := A_1897
              refine iL C 1 at_166 rfl <| iC C 1 at_168 rfl <| yiadd C at_169 <| eS [(.int 2)] rfl <| iS C at_170 (#[iV p0, iV p1, iV p2, iV p3, iV p4, iV p5, iV 5, iV r0, iV r1, iV r2, iV r3, iV r4, aV a_1242, aV a_1281, iV 1, iV 2, uV]) rfl ?_
              have f_1899 := (((f_1278.ext E_1283).keep K_1826).keep K_1896)
              have f_1900 := (((f_1273.ext E_1283).keep K_1826 (ninS ne_1285 nin0)).keep K_1896 (ninS ne_1285 nin0))
              have f_1901 := (((f_1274.ext E_1283).keep K_1826 (ninS ne_1285 nin0)).keep K_1896 (ninS ne_1285 nin0))
              have f_1902 := (((f_1275.ext E_1283).keep K_1826 (ninS ne_1287 nin0)).keep K_1896 (ninS ne_1287 nin0))
              have f_1903 := (lT f_1869 K_1896.1)
              have f_1904 := ((((f_1260.keep K_1270 (allS ge_a_1242 all0)).ext E_1283).keep K_1826 (allS ge_a_1281 all0)).keep K_1896 (allS ge_a_1281 all0))
              exact own_up (rm_tail_2 hw p0 p1 p2 p3 p4 p5 5 r0 r1 r2 r3 r4 a_1242 a_1281 2 5 0 0 0 0 h_1895 f_1903 f_1904 f_1898 (rm_split_2 hw a_1242 2 5 h_1895 f_1903 f_1904 f_1899 (by decide) (fun h u v k => rm_sio1 hw a_1242 2 h u (f_1899.keep k) (rm_sioI_5_0_3 hw a_1242 b_1271 (bY r0) (bY r1) (bY r2) (bY r3) (bY r4) h u cm v (f_1899.keep k) (f_1900.keep k nin0) (f_1901.keep k nin0) (f_1902.keep k nin0) (own_by9 kr0 hb_1291) (own_by9 kr1 hb_1645) (own_by9' hb_1821))) (fun h u v k => rm_sioI_5_3_0 hw a_1242 b_1271 (bY r0) (bY r1) (bY r2) (bY r3) (bY r4) h u cm v (f_1899.keep k) (f_1900.keep k nin0) (f_1901.keep k nin0) (f_1902.keep k nin0) (own_by9 kr3 hb_1828) (own_by9 kr4 hb_1874)) (fun h u v k => rm_length_5 hw a_1242 b_1271 (bY r0) (bY r1) (bY r2) (bY r3) (bY r4) h u cm v (f_1899.keep k) (f_1900.keep k nin0) (f_1901.keep k nin0) (f_1902.keep k nin0))) B C hW) (by decide) (by decide)
        · refine cS C hw 38 39 2 40 rfl rfl rfl rfl (rm_noteN_1 hw a_1281 0 5 2 r2 h_1280 f_1640 (by decide) hb_1821) [] [(.ref a_1281), (.int 0), (.int 5), (.int 2), (.int r2)] pd_19 0 at_126 ⟨rfl, rfl, rfl, rfl, rfl⟩ (by decide) ?_
          intro v_1907 h_1905 q_1906
          obtain ⟨rfl, rfl⟩ := q_1906
          show Go _ _ _ _ 4 20 129 _ [(.int 0)]
          refine iS C at_129 (#[iV p0, iV p1, iV p2, iV p3, iV p4, iV p5, iV 5, iV r0, iV r1, iV r2, iV r3, iV r4, aV a_1242, aV a_1281, iV 0, uV, uV]) rfl <| aL C ((.ref a_1281)) at_131 rfl rfl <| iL C 0 at_133 rfl <| iL C 5 at_135 rfl <| iC C 3 at_137 rfl <| iL C r3 at_138 rfl ?_
          by_cases hb_1909 : r3 = 9
          · refine cS C hw 38 39 2 40 rfl rfl rfl rfl (rm_noteY_0 hw a_1281 0 0 0 0 0 0 5 3 r3 h_1280 f_1640 f_1290 ge_a_1281 (by decide) hb_1909) [] [(.ref a_1281), (.int 0), (.int 5), (.int 3), (.int r3)] pd_19 0 at_140 ⟨rfl, rfl, rfl, rfl, rfl⟩ (by decide) ?_
            intro v_1912 h_1910 q_1911
            obtain ⟨rfl, K_1914, f_1915⟩ := q_1911
            show Go _ _ _ _ 4 20 143 _ [(.int 1)]
            refine iS C at_143 (#[iV p0, iV p1, iV p2, iV p3, iV p4, iV p5, iV 5, iV r0, iV r1, iV r2, iV r3, iV r4, aV a_1242, aV a_1281, iV 1, uV, uV]) rfl <| aL C ((.ref a_1281)) at_145 rfl rfl <| iL C 1 at_147 rfl <| iL C 5 at_149 rfl <| iC C 4 at_151 rfl <| iL C r4 at_152 rfl ?_
            by_cases hb_1916 : r4 = 9
            · have f_1917 := (lT f_1640 K_1914.1)
              refine cS C hw 38 39 2 40 rfl rfl rfl rfl (rm_noteY_1 hw a_1281 3 0 0 0 0 0 5 4 r4 h_1910 f_1917 f_1915 ge_a_1281 (by decide) hb_1916) [] [(.ref a_1281), (.int 1), (.int 5), (.int 4), (.int r4)] pd_19 0 at_154 ⟨rfl, rfl, rfl, rfl, rfl⟩ (by decide) ?_
              intro v_1920 h_1918 q_1919
              obtain ⟨rfl, K_1922, f_1923⟩ := q_1919
              show Go _ _ _ _ 4 20 157 _ [(.int 2)]
              refine iS C at_157 (#[iV p0, iV p1, iV p2, iV p3, iV p4, iV p5, iV 5, iV r0, iV r1, iV r2, iV r3, iV r4, aV a_1242, aV a_1281, iV 2, uV, uV]) rfl <| aL C ((.ref a_1281)) at_159 rfl rfl <| iL C 2 at_161 rfl <| iL C 5 at_163 rfl <| yiastore C f_1923 (by decide) (i := 2) (by decide) (show 2 < 6 by decide) (w := (.int 5)) rfl ge_a_1281 at_165 ?_
              intro h_1924 K_1925 A_1926
              have f_1927 : Ary Z h_1924 a_1281 .int [(.int 3), (.int 4), (.int 5), (.int 0), (.int 0), (.int 0)] := A_1926
              refine iL C 2 at_166 rfl <| iC C 1 at_168 rfl <| yiadd C at_169 <| eS [(.int 3)] rfl <| iS C at_170 (#[iV p0, iV p1, iV p2, iV p3, iV p4, iV p5, iV 5, iV r0, iV r1, iV r2, iV r3, iV r4, aV a_1242, aV a_1281, iV 2, iV 3, uV]) rfl ?_
              have f_1928 := ((((f_1278.ext E_1283).keep K_1914).keep K_1922).keep K_1925)
              have f_1929 := ((((f_1273.ext E_1283).keep K_1914 (ninS ne_1285 nin0)).keep K_1922 (ninS ne_1285 nin0)).keep K_1925 (ninS ne_1285 nin0))
              have f_1930 := ((((f_1274.ext E_1283).keep K_1914 (ninS ne_1285 nin0)).keep K_1922 (ninS ne_1285 nin0)).keep K_1925 (ninS ne_1285 nin0))
              have f_1931 := ((((f_1275.ext E_1283).keep K_1914 (ninS ne_1287 nin0)).keep K_1922 (ninS ne_1287 nin0)).keep K_1925 (ninS ne_1287 nin0))
              have f_1932 := (lT (lT f_1917 K_1922.1) K_1925.1)
              have f_1933 := (((((f_1260.keep K_1270 (allS ge_a_1242 all0)).ext E_1283).keep K_1914 (allS ge_a_1281 all0)).keep K_1922 (allS ge_a_1281 all0)).keep K_1925 (allS ge_a_1281 all0))
              exact own_up (rm_tail_3 hw p0 p1 p2 p3 p4 p5 5 r0 r1 r2 r3 r4 a_1242 a_1281 3 4 5 0 0 0 h_1924 f_1932 f_1933 f_1927 (rm_split_3 hw a_1242 3 4 5 h_1924 f_1932 f_1933 f_1928 (by decide) (by decide) (fun h u v k => rm_sio1 hw a_1242 3 h u (f_1928.keep k) (rm_sioI_5_0_4 hw a_1242 b_1271 (bY r0) (bY r1) (bY r2) (bY r3) (bY r4) h u cm v (f_1928.keep k) (f_1929.keep k nin0) (f_1930.keep k nin0) (f_1931.keep k nin0) (own_by9 kr0 hb_1291) (own_by9 kr1 hb_1645) (own_by9 kr2 hb_1821) (own_by9' hb_1909))) (fun h u v k => rm_sioI_5_4_5 hw a_1242 b_1271 (bY r0) (bY r1) (bY r2) (bY r3) (bY r4) h u cm v (f_1928.keep k) (f_1929.keep k nin0) (f_1930.keep k nin0) (f_1931.keep k nin0) (own_by9' hb_1916)) (fun h u v k => rm_sioI_5_5_0 hw a_1242 b_1271 (bY r0) (bY r1) (bY r2) (bY r3) (bY r4) h u cm v (f_1928.keep k) (f_1929.keep k nin0) (f_1930.keep k nin0) (f_1931.keep k nin0) ) (fun h u v k => rm_length_5 hw a_1242 b_1271 (bY r0) (bY r1) (bY r2) (bY r3) (bY r4) h u cm v (f_1928.keep k) (f_1929.keep k nin0) (f_1930.keep k nin0) (f_1931.keep k nin0))) B C hW) (by decide) (by decide)
            · have f_1934 := (lT f_1640 K_1914.1)
              refine cS C hw 38 39 2 40 rfl rfl rfl rfl (rm_noteN_1 hw a_1281 1 5 4 r4 h_1910 f_1934 (by decide) hb_1916) [] [(.ref a_1281), (.int 1), (.int 5), (.int 4), (.int r4)] pd_19 0 at_154 ⟨rfl, rfl, rfl, rfl, rfl⟩ (by decide) ?_
              intro v_1937 h_1935 q_1936
              obtain ⟨rfl, rfl⟩ := q_1936
              show Go _ _ _ _ 4 20 157 _ [(.int 1)]
              refine iS C at_157 (#[iV p0, iV p1, iV p2, iV p3, iV p4, iV p5, iV 5, iV r0, iV r1, iV r2, iV r3, iV r4, aV a_1242, aV a_1281, iV 1, uV, uV]) rfl <| aL C ((.ref a_1281)) at_159 rfl rfl <| iL C 1 at_161 rfl <| iL C 5 at_163 rfl <| yiastore C f_1915 (by decide) (i := 1) (by decide) (show 1 < 6 by decide) (w := (.int 5)) rfl ge_a_1281 at_165 ?_
              intro h_1939 K_1940 A_1941
              have f_1942 : Ary Z h_1939 a_1281 .int [(.int 3), (.int 5), (.int 0), (.int 0), (.int 0), (.int 0)] := A_1941
              refine iL C 1 at_166 rfl <| iC C 1 at_168 rfl <| yiadd C at_169 <| eS [(.int 2)] rfl <| iS C at_170 (#[iV p0, iV p1, iV p2, iV p3, iV p4, iV p5, iV 5, iV r0, iV r1, iV r2, iV r3, iV r4, aV a_1242, aV a_1281, iV 1, iV 2, uV]) rfl ?_
              have f_1943 := (((f_1278.ext E_1283).keep K_1914).keep K_1940)
              have f_1944 := (((f_1273.ext E_1283).keep K_1914 (ninS ne_1285 nin0)).keep K_1940 (ninS ne_1285 nin0))
              have f_1945 := (((f_1274.ext E_1283).keep K_1914 (ninS ne_1285 nin0)).keep K_1940 (ninS ne_1285 nin0))
              have f_1946 := (((f_1275.ext E_1283).keep K_1914 (ninS ne_1287 nin0)).keep K_1940 (ninS ne_1287 nin0))
              have f_1947 := (lT f_1934 K_1940.1)
              have f_1948 := ((((f_1260.keep K_1270 (allS ge_a_1242 all0)).ext E_1283).keep K_1914 (allS ge_a_1281 all0)).keep K_1940 (allS ge_a_1281 all0))
              exact own_up (rm_tail_2 hw p0 p1 p2 p3 p4 p5 5 r0 r1 r2 r3 r4 a_1242 a_1281 3 5 0 0 0 0 h_1939 f_1947 f_1948 f_1942 (rm_split_2 hw a_1242 3 5 h_1939 f_1947 f_1948 f_1943 (by decide) (fun h u v k => rm_sio1 hw a_1242 3 h u (f_1943.keep k) (rm_sioI_5_0_4 hw a_1242 b_1271 (bY r0) (bY r1) (bY r2) (bY r3) (bY r4) h u cm v (f_1943.keep k) (f_1944.keep k nin0) (f_1945.keep k nin0) (f_1946.keep k nin0) (own_by9 kr0 hb_1291) (own_by9 kr1 hb_1645) (own_by9 kr2 hb_1821) (own_by9' hb_1909))) (fun h u v k => rm_sioI_5_4_0 hw a_1242 b_1271 (bY r0) (bY r1) (bY r2) (bY r3) (bY r4) h u cm v (f_1943.keep k) (f_1944.keep k nin0) (f_1945.keep k nin0) (f_1946.keep k nin0) (own_by9 kr4 hb_1916)) (fun h u v k => rm_length_5 hw a_1242 b_1271 (bY r0) (bY r1) (bY r2) (bY r3) (bY r4) h u cm v (f_1943.keep k) (f_1944.keep k nin0) (f_1945.keep k nin0) (f_1946.keep k nin0))) B C hW) (by decide) (by decide)
          · refine cS C hw 38 39 2 40 rfl rfl rfl rfl (rm_noteN_1 hw a_1281 0 5 3 r3 h_1280 f_1640 (by decide) hb_1909) [] [(.ref a_1281), (.int 0), (.int 5), (.int 3), (.int r3)] pd_19 0 at_140 ⟨rfl, rfl, rfl, rfl, rfl⟩ (by decide) ?_
            intro v_1951 h_1949 q_1950
            obtain ⟨rfl, rfl⟩ := q_1950
            show Go _ _ _ _ 4 20 143 _ [(.int 0)]
            refine iS C at_143 (#[iV p0, iV p1, iV p2, iV p3, iV p4, iV p5, iV 5, iV r0, iV r1, iV r2, iV r3, iV r4, aV a_1242, aV a_1281, iV 0, uV, uV]) rfl <| aL C ((.ref a_1281)) at_145 rfl rfl <| iL C 0 at_147 rfl <| iL C 5 at_149 rfl <| iC C 4 at_151 rfl <| iL C r4 at_152 rfl ?_
            by_cases hb_1953 : r4 = 9
            · refine cS C hw 38 39 2 40 rfl rfl rfl rfl (rm_noteY_0 hw a_1281 0 0 0 0 0 0 5 4 r4 h_1280 f_1640 f_1290 ge_a_1281 (by decide) hb_1953) [] [(.ref a_1281), (.int 0), (.int 5), (.int 4), (.int r4)] pd_19 0 at_154 ⟨rfl, rfl, rfl, rfl, rfl⟩ (by decide) ?_
              intro v_1956 h_1954 q_1955
              obtain ⟨rfl, K_1958, f_1959⟩ := q_1955
              show Go _ _ _ _ 4 20 157 _ [(.int 1)]
              refine iS C at_157 (#[iV p0, iV p1, iV p2, iV p3, iV p4, iV p5, iV 5, iV r0, iV r1, iV r2, iV r3, iV r4, aV a_1242, aV a_1281, iV 1, uV, uV]) rfl <| aL C ((.ref a_1281)) at_159 rfl rfl <| iL C 1 at_161 rfl <| iL C 5 at_163 rfl <| yiastore C f_1959 (by decide) (i := 1) (by decide) (show 1 < 6 by decide) (w := (.int 5)) rfl ge_a_1281 at_165 ?_
              intro h_1960 K_1961 A_1962
              have f_1963 : Ary Z h_1960 a_1281 .int [(.int 4), (.int 5), (.int 0), (.int 0), (.int 0), (.int 0)] := A_1962
              refine iL C 1 at_166 rfl <| iC C 1 at_168 rfl <| yiadd C at_169 <| eS [(.int 2)] rfl <| iS C at_170 (#[iV p0, iV p1, iV p2, iV p3, iV p4, iV p5, iV 5, iV r0, iV r1, iV r2, iV r3, iV r4, aV a_1242, aV a_1281, iV 1, iV 2, uV]) rfl ?_
              have f_1964 := (((f_1278.ext E_1283).keep K_1958).keep K_1961)
              have f_1965 := (((f_1273.ext E_1283).keep K_1958 (ninS ne_1285 nin0)).keep K_1961 (ninS ne_1285 nin0))
              have f_1966 := (((f_1274.ext E_1283).keep K_1958 (ninS ne_1285 nin0)).keep K_1961 (ninS ne_1285 nin0))
              have f_1967 := (((f_1275.ext E_1283).keep K_1958 (ninS ne_1287 nin0)).keep K_1961 (ninS ne_1287 nin0))
              have f_1968 := (lT (lT f_1640 K_1958.1) K_1961.1)
              have f_1969 := ((((f_1260.keep K_1270 (allS ge_a_1242 all0)).ext E_1283).keep K_1958 (allS ge_a_1281 all0)).keep K_1961 (allS ge_a_1281 all0))
              exact own_up (rm_tail_2 hw p0 p1 p2 p3 p4 p5 5 r0 r1 r2 r3 r4 a_1242 a_1281 4 5 0 0 0 0 h_1960 f_1968 f_1969 f_1963 (rm_split_2 hw a_1242 4 5 h_1960 f_1968 f_1969 f_1964 (by decide) (fun h u v k => rm_sio1 hw a_1242 4 h u (f_1964.keep k) (rm_sioI_5_0_5 hw a_1242 b_1271 (bY r0) (bY r1) (bY r2) (bY r3) (bY r4) h u cm v (f_1964.keep k) (f_1965.keep k nin0) (f_1966.keep k nin0) (f_1967.keep k nin0) (own_by9 kr0 hb_1291) (own_by9 kr1 hb_1645) (own_by9 kr2 hb_1821) (own_by9 kr3 hb_1909) (own_by9' hb_1953))) (fun h u v k => rm_sioI_5_5_0 hw a_1242 b_1271 (bY r0) (bY r1) (bY r2) (bY r3) (bY r4) h u cm v (f_1964.keep k) (f_1965.keep k nin0) (f_1966.keep k nin0) (f_1967.keep k nin0) ) (fun h u v k => rm_length_5 hw a_1242 b_1271 (bY r0) (bY r1) (bY r2) (bY r3) (bY r4) h u cm v (f_1964.keep k) (f_1965.keep k nin0) (f_1966.keep k nin0) (f_1967.keep k nin0))) B C hW) (by decide) (by decide)
            · refine cS C hw 38 39 2 40 rfl rfl rfl rfl (rm_noteN_1 hw a_1281 0 5 4 r4 h_1280 f_1640 (by decide) hb_1953) [] [(.ref a_1281), (.int 0), (.int 5), (.int 4), (.int r4)] pd_19 0 at_154 ⟨rfl, rfl, rfl, rfl, rfl⟩ (by decide) ?_
              intro v_1972 h_1970 q_1971
              obtain ⟨rfl, rfl⟩ := q_1971
              show Go _ _ _ _ 4 20 157 _ [(.int 0)]
              refine iS C at_157 (#[iV p0, iV p1, iV p2, iV p3, iV p4, iV p5, iV 5, iV r0, iV r1, iV r2, iV r3, iV r4, aV a_1242, aV a_1281, iV 0, uV, uV]) rfl <| aL C ((.ref a_1281)) at_159 rfl rfl <| iL C 0 at_161 rfl <| iL C 5 at_163 rfl <| yiastore C f_1290 (by decide) (i := 0) (by decide) (show 0 < 6 by decide) (w := (.int 5)) rfl ge_a_1281 at_165 ?_
              intro h_1974 K_1975 A_1976
              have f_1977 : Ary Z h_1974 a_1281 .int [(.int 5), (.int 0), (.int 0), (.int 0), (.int 0), (.int 0)] := A_1976
              refine iL C 0 at_166 rfl <| iC C 1 at_168 rfl <| yiadd C at_169 <| eS [(.int 1)] rfl <| iS C at_170 (#[iV p0, iV p1, iV p2, iV p3, iV p4, iV p5, iV 5, iV r0, iV r1, iV r2, iV r3, iV r4, aV a_1242, aV a_1281, iV 0, iV 1, uV]) rfl ?_
              have f_1978 := ((f_1278.ext E_1283).keep K_1975)
              have f_1979 := ((f_1273.ext E_1283).keep K_1975 (ninS ne_1285 nin0))
              have f_1980 := ((f_1274.ext E_1283).keep K_1975 (ninS ne_1285 nin0))
              have f_1981 := ((f_1275.ext E_1283).keep K_1975 (ninS ne_1287 nin0))
              have f_1982 := (lT f_1640 K_1975.1)
              have f_1983 := (((f_1260.keep K_1270 (allS ge_a_1242 all0)).ext E_1283).keep K_1975 (allS ge_a_1281 all0))
              exact own_up (rm_tail_1 hw p0 p1 p2 p3 p4 p5 5 r0 r1 r2 r3 r4 a_1242 a_1281 5 0 0 0 0 0 h_1974 f_1982 f_1983 f_1977 (rm_split_1 hw a_1242 5 h_1974 f_1982 f_1983 f_1978  (fun h u v k => rm_sio1 hw a_1242 (-1 : Int32) h u (f_1978.keep k) (rm_sioI_5_0_0 hw a_1242 b_1271 (bY r0) (bY r1) (bY r2) (bY r3) (bY r4) h u cm v (f_1978.keep k) (f_1979.keep k nin0) (f_1980.keep k nin0) (f_1981.keep k nin0) (own_by9 kr0 hb_1291) (own_by9 kr1 hb_1645) (own_by9 kr2 hb_1821) (own_by9 kr3 hb_1909) (own_by9 kr4 hb_1953))) (fun h u v k => rm_length_5 hw a_1242 b_1271 (bY r0) (bY r1) (bY r2) (bY r3) (bY r4) h u cm v (f_1978.keep k) (f_1979.keep k nin0) (f_1980.keep k nin0) (f_1981.keep k nin0))) B C hW) (by decide) (by decide)
end Rm
theorem comes_1 {Post : Tables → Env → Array Value → State → Outcome → State → Prop} (hpost : ∀ tb e args s v u, (limb_1_1.after args s (.returned v) u = true ∧ limb_1_2.after args s (.returned v) u = true ∧ True) → ReturnedEndW s (.returned v) u (Jvm.fieldLocs frame_1_writes args s ++ Jvm.arrayLocs frame_1_arrays args s ++ Jvm.staticLocs frame_1_statics s) 24 1152 → Post tb e args s (.returned v) u) :
    ArmFor flags0 classFile x code maxLocals ret World_1 tables_1 room_1 Calls_1 rest_1 Pre_1 Post := by
  intro l hfl _ _ p e ha hc hk s m args below hf hA hF happ hP
  obtain ⟨hcalls, hrest, hpre⟩ := hP
  obtain ⟨-, -, -, hnamed, -, -, -, hat⟩ := (Spec.applies_iff hf).mp happ
  obtain ⟨hg, hn⟩ := and_e (Cond.before_iff.mp (show (Jvm.Cond.and given_1 narrow_1).before args s = true from hpre))
  obtain ⟨gc, gr0⟩ := and_e hg
  obtain ⟨ga0, gr1⟩ := and_e gr0
  obtain ⟨ga1, gr2⟩ := and_e gr1
  obtain ⟨ga2, gr3⟩ := and_e gr2
  obtain ⟨ga3, gr4⟩ := and_e gr3
  obtain ⟨ga4, gr5⟩ := and_e gr4
  obtain ⟨w0, w1, w2, w3, w4, w5, rfl⟩ : ∃ w0 w1 w2 w3 w4 w5 : Value, args = #[w0, w1, w2, w3, w4, w5] := by
    have hs : args.size = 6 := by simpa [Cond.value, given_1] using gc
    obtain ⟨L⟩ := args
    match L, hs with
    | [w0, w1, w2, w3, w4, w5], _ => exact ⟨w0, w1, w2, w3, w4, w5, rfl⟩
  have hw := fun d (hd : d ∈ tables_1) => atoms_spec (ws := Jvm.Cond.code x code maxLocals ret :: tables_1) hat d (List.mem_cons_of_mem _ hd)
  have hfit : Fit s := fun {y c} hc i hi => by
    obtain ⟨ha, rfl⟩ := Array.getElem?_eq_some_iff.mp hc
    have q := List.all_eq_true.mp ((Array.all_eq_true_iff_forall_mem.mp hF) _ (Array.getElem_mem ha)) i (List.mem_range.mpr hi)
    simpa [Array.getElem?_eq_getElem hi] using q
  obtain ⟨i0, ei0⟩ := is_v ga0
  obtain rfl : w0 = (.int i0) := Option.some.inj ei0
  obtain ⟨i1, ei1⟩ := is_v ga1
  obtain rfl : w1 = (.int i1) := Option.some.inj ei1
  obtain ⟨i2, ei2⟩ := is_v ga2
  obtain rfl : w2 = (.int i2) := Option.some.inj ei2
  obtain ⟨i3, ei3⟩ := is_v ga3
  obtain rfl : w3 = (.int i3) := Option.some.inj ei3
  obtain ⟨i4, ei4⟩ := is_v ga4
  obtain rfl : w4 = (.int i4) := Option.some.inj ei4
  obtain ⟨i5, ei5⟩ := is_v gr5
  obtain rfl : w5 = (.int i5) := Option.some.inj ei5
  have hr0 : rest_1_c.before _ s = true := hrest
  rw [rest_1_c_eq] at hr0
  obtain ⟨hjs, -⟩ := atoms_of jdkStatics_1 hr0
  have hj := fun (k : Nat) {d : Jvm.Cond} (e : jdkStatics_1[k]? = some d) => hjs d (List.mem_of_getElem? e)
  have cm : Cmp s := own_cmp (hj 0 rfl) (hj 1 rfl) (hj 2 rfl)
  have ch0 : Jvm.Lit.constHeld s "java/lang/String" 7 := hcalls.1 ("java/lang/String", 7) (by simp [consts_1])
  have cw := hj 2 rfl
  obtain ⟨n, o, h1, h2, h3, _, L, rfl, ⟨N, rfl, -⟩, hq⟩ := rm_law (l := l) (n0 := s.heap.size) hw i0 i1 i2 i3 i4 i5  s.heap (Nat.le_refl _) cm (Old.start s) ch0 cw tables_1 p e ha hc hk s m _ below hf ((Spec.applies_iff_loose hf).mp happ).1 ⟨rfl, State.Warmed39.refl s, rfl, InvK.start⟩ trivial
  refine ⟨n, _, h1, h2, h3, hpost _ _ _ _ _ _ ⟨Cond.after_iff.mpr rfl, Cond.after_iff.mpr (eq_i res_at (Term.int_eval (1)) rfl), trivial⟩ ⟨hq.1, hq.2.1, hq.2.2.1, (hq.2.2.2.sift fun y hy => Or.inr (N y hy)).mono (by decide) (by decide)⟩⟩
theorem main_1_1 : Claimed_1_1 := comes_1 fun _ _ _ _ _ _ h hF => ⟨h.1, hF⟩
theorem main_1_2 : Claimed_1_2 := comes_1 fun _ _ _ _ _ _ h hF => ⟨h.2.1, hF⟩
end Jvm.Pilot.@@N@@
namespace Jvm.Pilot.@@N@@
open Jvm Jvm.ClassFile Sem Op Lib Jvm.Free Jvm.Stand Jvm.Pilot.@@N@@.Jvm.D
/-! MADE BY PROGRAM (witnessworld.py) out of the Statement's table words and the real class files: 21 classes; the members and pool entries that the words name. The judged class is class 1, her method 5. -/
namespace start1
open Jvm.ClassFile
def u (s : String) : CpInfo := .utf8 (stringToUtf16 s)
/-- a pool by its gaps: so many unusable entries, then the entry; so many at the end -/
def gap : Nat → List CpInfo → List CpInfo
  | 0, r => r
  | n + 1, r => .unusable :: gap n r
def poolList (es : List (Nat × CpInfo)) (last : Nat) : List CpInfo := es.foldr (fun e r => gap e.1 (e.2 :: r)) (gap last [])
def pool (es : List (Nat × CpInfo)) (last : Nat) : Array CpInfo := ⟨poolList es last⟩
def fileOf (pool : Array CpInfo) (this : Nat) (attrs : Array Attribute := #[]) (ms : Array MethodInfo := #[]) (fl : Nat := 33) (sup : Nat := 0) (ifs : Array Nat := #[]) (fds : Array FieldInfo := #[]) : ClassFile where
  minorVersion := 0
  majorVersion := 65
  constantPool := pool
  accessFlags := fl
  thisClass := this
  superClass := sup
  interfaces := ifs
  fields := fds
  methods := ms
  attributes := attrs
def plain (name : String) (sup : Option ClassId) : Class where
  name := name
  kind := .ordinary
  loader := none
  accessFlags := 33
  super := sup
  interfaces := #[]
  cf := none
  fields := #[]
  methods := #[]
  instanceTypes := #[]
  staticTypes := #[]
  resolved := #[]
  callSites := []
  init := .initialized
  statics := none
  mirror := none

def pool0 : Array CpInfo := pool [(5, u "<init>"), (0, u "()V"), (1, .class_ 10), (1, u "java/lang/Object")] 113

def k0c0 : Code := { maxStack := 0, maxLocals := 1, code := object_method_1_code, exceptionTable := #[], attributes := #[] }
def k0m0 : Method := { name := "<init>", desc := "()V", sig := { parameters := [], returnType := none }, accessFlags := 1, code := some k0c0 }
/-- java/lang/Object -/
def k0 : Class := { plain "java/lang/Object" none with
  accessFlags := 33
  interfaces := #[]
  cf := some (fileOf pool0 8 #[] #[{ accessFlags := 1, nameIndex := 5, descriptorIndex := 6, attributes := #[] }] 33 0 #[] #[])
  fields := #[]
  methods := #[k0m0]
  instanceTypes := #[]
  staticTypes := #[]
  resolved := Array.replicate 124 none
  statics := none }

def pool1 : Array CpInfo := pool [(2, .class_ 4), (1, u "java/lang/Object"), (0, u "<init>"), (0, u "()V"), (0, .methodref 8 9), (0, .class_ 10), (0, .nameAndType 11 12), (0, u "org/linkloom/io/FieldsSplitPinLaw"), (0, u "ch"), (0, u "(III)C"), (0, .class_ 14), (0, u "java/lang/String"), (0, .methodref 8 16), (0, .nameAndType 17 18), (0, u "chars"), (0, u "(ICCCCC)[C"), (0, .methodref 13 20), (0, .nameAndType 5 21), (0, u "([C)V"), (0, .methodref 8 23), (0, .nameAndType 24 25), (0, u "note"), (0, u "([IIIIC)I"), (0, .methodref 27 28), (0, .class_ 29), (0, .nameAndType 30 31), (0, u "org/linkloom/io/Fields"), (0, u "split"), (0, u "(Ljava/lang/String;I)[I"), (0, .methodref 8 33), (0, .nameAndType 34 35), (0, u "at"), (0, u "([I[III)Z"), (3, u "law"), (0, u "(IIIIII)Z")] 7

def k1m0 : Method := { name := "<init>", desc := "()V", sig := { parameters := [], returnType := none }, accessFlags := 2, code := none }
def k1c1 : Code := { maxStack := 3, maxLocals := 3, code := method_2_code, exceptionTable := #[], attributes := #[] }
def k1m1 : Method := { name := "ch", desc := "(III)C", sig := { parameters := [.int, .int, .int], returnType := some .char }, accessFlags := 10, code := some k1c1 }
def k1c2 : Code := { maxStack := 4, maxLocals := 6, code := method_3_code, exceptionTable := #[], attributes := #[] }
def k1m2 : Method := { name := "chars", desc := "(ICCCCC)[C", sig := { parameters := [.int, .char, .char, .char, .char, .char], returnType := some (.array .char) }, accessFlags := 10, code := some k1c2 }
def k1c3 : Code := { maxStack := 3, maxLocals := 5, code := method_4_code, exceptionTable := #[], attributes := #[] }
def k1m3 : Method := { name := "note", desc := "([IIIIC)I", sig := { parameters := [(.array .int), .int, .int, .int, .char], returnType := some .int }, accessFlags := 10, code := some k1c3 }
def k1c4 : Code := { maxStack := 3, maxLocals := 4, code := method_5_code, exceptionTable := #[], attributes := #[] }
def k1m4 : Method := { name := "at", desc := "([I[III)Z", sig := { parameters := [(.array .int), (.array .int), .int, .int], returnType := some .boolean }, accessFlags := 10, code := some k1c4 }
def k1c5 : Code := { maxStack := 8, maxLocals := 17, code := code, exceptionTable := #[], attributes := #[] }
def k1m5 : Method := { name := "law", desc := "(IIIIII)Z", sig := { parameters := [.int, .int, .int, .int, .int, .int], returnType := some .boolean }, accessFlags := 9, code := some k1c5 }
/-- org/linkloom/io/FieldsSplitPinLaw -/
def k1 : Class := { plain "org/linkloom/io/FieldsSplitPinLaw" (some 0) with
  accessFlags := 49
  interfaces := #[]
  cf := some (fileOf pool1 8 #[] #[{ accessFlags := 2, nameIndex := 5, descriptorIndex := 6, attributes := #[] }, { accessFlags := 10, nameIndex := 11, descriptorIndex := 12, attributes := #[] }, { accessFlags := 10, nameIndex := 17, descriptorIndex := 18, attributes := #[] }, { accessFlags := 10, nameIndex := 24, descriptorIndex := 25, attributes := #[] }, { accessFlags := 10, nameIndex := 34, descriptorIndex := 35, attributes := #[] }, { accessFlags := 9, nameIndex := 39, descriptorIndex := 40, attributes := #[] }] 49 2 #[] #[])
  fields := #[]
  methods := #[k1m0, k1m1, k1m2, k1m3, k1m4, k1m5]
  instanceTypes := #[]
  staticTypes := #[]
  resolved := Array.replicate 48 none
  statics := none }

def pool2 : Array CpInfo := pool [(1, .class_ 2), (0, u "java/io/Serializable"), (0, .class_ 4), (0, u "java/lang/Object")] 2

/-- java/io/Serializable -/
def k2 : Class := { plain "java/io/Serializable" (some 0) with
  accessFlags := 1537
  interfaces := #[]
  cf := some (fileOf pool2 1 #[] #[] 1537 3 #[] #[])
  fields := #[]
  methods := #[]
  instanceTypes := #[]
  staticTypes := #[]
  resolved := Array.replicate 7 none
  statics := none }

def pool3 : Array CpInfo := pool [(1, .class_ 2), (0, u "java/lang/Comparable"), (0, .class_ 4), (0, u "java/lang/Object")] 7

/-- java/lang/Comparable -/
def k3 : Class := { plain "java/lang/Comparable" (some 0) with
  accessFlags := 1537
  interfaces := #[]
  cf := some (fileOf pool3 1 #[] #[] 1537 3 #[] #[])
  fields := #[]
  methods := #[]
  instanceTypes := #[]
  staticTypes := #[]
  resolved := Array.replicate 12 none
  statics := none }

def pool4 : Array CpInfo := pool [(2, .class_ 4), (1, u "java/lang/CharSequence"), (42, .class_ 48), (0, u "java/lang/CharSequence$1CodePointIterator"), (10, .class_ 60), (0, u "java/lang/CharSequence$1CharIterator"), (5, .class_ 67), (0, u "java/lang/Object")] 63

/-- java/lang/CharSequence -/
def k4 : Class := { plain "java/lang/CharSequence" (some 0) with
  accessFlags := 1537
  interfaces := #[]
  cf := some (fileOf pool4 2 #[.nestMembers #[47, 59]] #[] 1537 66 #[] #[])
  fields := #[]
  methods := #[]
  instanceTypes := #[]
  staticTypes := #[]
  resolved := Array.replicate 131 none
  statics := none }

def pool5 : Array CpInfo := pool [(1, .class_ 2), (0, u "java/lang/constant/Constable"), (0, .class_ 4), (0, u "java/lang/Object")] 6

/-- java/lang/constant/Constable -/
def k5 : Class := { plain "java/lang/constant/Constable" (some 0) with
  accessFlags := 1537
  interfaces := #[]
  cf := some (fileOf pool5 1 #[] #[] 1537 3 #[] #[])
  fields := #[]
  methods := #[]
  instanceTypes := #[]
  staticTypes := #[]
  resolved := Array.replicate 11 none
  statics := none }

def pool6 : Array CpInfo := pool [(1, .class_ 2), (0, u "java/lang/constant/ConstantDesc"), (0, .class_ 4), (0, u "java/lang/Object")] 32

/-- java/lang/constant/ConstantDesc -/
def k6 : Class := { plain "java/lang/constant/ConstantDesc" (some 0) with
  accessFlags := 1537
  interfaces := #[]
  cf := some (fileOf pool6 1 #[] #[] 1537 3 #[] #[])
  fields := #[]
  methods := #[]
  instanceTypes := #[]
  staticTypes := #[]
  resolved := Array.replicate 37 none
  statics := none }

def pool7 : Array CpInfo := pool [(1, .methodref 2 3), (0, .class_ 4), (0, .nameAndType 5 6), (0, u "java/lang/Object"), (0, u "<init>"), (0, u "()V"), (0, .string 8), (0, u ""), (0, .fieldref 10 11), (0, .class_ 12), (0, .nameAndType 13 14), (0, u "java/lang/String"), (0, u "value"), (0, u "[B"), (0, .fieldref 10 16), (0, .nameAndType 17 18), (0, u "coder"), (0, u "B"), (2, u "hash"), (0, u "I"), (2, u "hashIsZero"), (0, u "Z"), (0, .methodref 10 28), (0, .nameAndType 5 29), (0, u "([CIILjava/lang/Void;)V"), (8, .fieldref 10 39), (0, .nameAndType 40 26), (0, u "COMPACT_STRINGS"), (1, .class_ 44), (1, u "java/lang/StringUTF16"), (0, u "compress"), (1, .methodref 42 48), (0, .nameAndType 49 50), (0, u "coderFromArrayLen"), (0, u "([BI)B"), (56, .class_ 109), (1, u "java/lang/StringLatin1"), (32, u "()Z"), (34, .methodref 42 178), (0, .nameAndType 45 179), (0, u "([CII)[B"), (154, u "()I"), (0, .methodref 10 336), (0, .nameAndType 17 337), (0, u "()B"), (154, .methodref 10 493), (0, .nameAndType 494 142), (0, u "isLatin1"), (10, .methodref 10 506), (0, .nameAndType 507 334), (0, u "length"), (67, .class_ 576), (0, u "java/lang/CharSequence"), (22, u "CASE_INSENSITIVE_ORDER"), (0, u "Ljava/util/Comparator;"), (32, .methodref 10 634), (0, .nameAndType 635 636), (0, u "indexOf"), (0, u "(II)I"), (0, .methodref 107 638), (0, .nameAndType 635 639), (0, u "([BIII)I"), (125, u "(I)I"), (244, u "([C)V"), (90, u "serialPersistentFields"), (0, u "[Ljava/io/ObjectStreamField;"), (0, .class_ 1104), (0, u "java/lang/String$CaseInsensitiveComparator"), (1, .class_ 1107), (0, u "java/io/Serializable"), (0, .class_ 1109), (0, u "java/lang/Comparable"), (0, .class_ 1111), (0, u "java/lang/constant/Constable"), (0, .class_ 1113), (0, u "java/lang/constant/ConstantDesc"), (2, u "serialVersionUID"), (0, u "J"), (3, u "REPL"), (0, u "C"), (2, u "LATIN1"), (1, u "UTF16")] 323

def k7m0 : Method := { name := "<init>", desc := "()V", sig := { parameters := [], returnType := none }, accessFlags := 1, code := none }
def k7c1 : Code := { maxStack := 5, maxLocals := 2, code := jdk_42_method_3_code, exceptionTable := #[], attributes := #[] }
def k7m1 : Method := { name := "<init>", desc := "([C)V", sig := { parameters := [(.array .char)], returnType := none }, accessFlags := 1, code := some k7c1 }
def k7c2 : Code := { maxStack := 2, maxLocals := 1, code := jdk_42_method_54_code, exceptionTable := #[], attributes := #[] }
def k7m2 : Method := { name := "length", desc := "()I", sig := { parameters := [], returnType := some .int }, accessFlags := 1, code := some k7c2 }
def k7c3 : Code := { maxStack := 3, maxLocals := 2, code := jdk_42_method_79_code, exceptionTable := #[], attributes := #[] }
def k7m3 : Method := { name := "indexOf", desc := "(I)I", sig := { parameters := [.int], returnType := some .int }, accessFlags := 1, code := some k7c3 }
def k7c4 : Code := { maxStack := 4, maxLocals := 3, code := jdk_42_method_80_code, exceptionTable := #[], attributes := #[] }
def k7m4 : Method := { name := "indexOf", desc := "(II)I", sig := { parameters := [.int, .int], returnType := some .int }, accessFlags := 1, code := some k7c4 }
def k7c5 : Code := { maxStack := 4, maxLocals := 6, code := jdk_42_method_149_code, exceptionTable := #[], attributes := #[] }
def k7m5 : Method := { name := "<init>", desc := "([CIILjava/lang/Void;)V", sig := { parameters := [(.array .char), .int, .int, (.object "java/lang/Void")], returnType := none }, accessFlags := 2, code := some k7c5 }
def k7c6 : Code := { maxStack := 1, maxLocals := 1, code := jdk_42_method_152_code, exceptionTable := #[], attributes := #[] }
def k7m6 : Method := { name := "coder", desc := "()B", sig := { parameters := [], returnType := some .byte }, accessFlags := 0, code := some k7c6 }
def k7c7 : Code := { maxStack := 1, maxLocals := 1, code := jdk_42_method_154_code, exceptionTable := #[], attributes := #[] }
def k7m7 : Method := { name := "isLatin1", desc := "()Z", sig := { parameters := [], returnType := some .boolean }, accessFlags := 0, code := some k7c7 }
/-- java/lang/String -/
def k7 : Class := { plain "java/lang/String" (some 0) with
  accessFlags := 49
  interfaces := #[2, 3, 4, 5, 6]
  cf := some (fileOf pool7 10 #[.nestMembers #[1103]] #[{ accessFlags := 1, nameIndex := 5, descriptorIndex := 6, attributes := #[] }, { accessFlags := 1, nameIndex := 5, descriptorIndex := 1010, attributes := #[] }, { accessFlags := 1, nameIndex := 507, descriptorIndex := 334, attributes := #[] }, { accessFlags := 1, nameIndex := 635, descriptorIndex := 765, attributes := #[] }, { accessFlags := 1, nameIndex := 635, descriptorIndex := 636, attributes := #[] }, { accessFlags := 2, nameIndex := 5, descriptorIndex := 29, attributes := #[] }, { accessFlags := 0, nameIndex := 17, descriptorIndex := 337, attributes := #[] }, { accessFlags := 0, nameIndex := 494, descriptorIndex := 142, attributes := #[] }] 49 2 #[1106, 1108, 575, 1110, 1112] #[{ accessFlags := 18, nameIndex := 13, descriptorIndex := 14, attributes := #[] }, { accessFlags := 18, nameIndex := 17, descriptorIndex := 18, attributes := #[] }, { accessFlags := 2, nameIndex := 21, descriptorIndex := 22, attributes := #[] }, { accessFlags := 2, nameIndex := 25, descriptorIndex := 26, attributes := #[] }, { accessFlags := 26, nameIndex := 1116, descriptorIndex := 1117, attributes := #[] }, { accessFlags := 24, nameIndex := 40, descriptorIndex := 26, attributes := #[] }, { accessFlags := 26, nameIndex := 1101, descriptorIndex := 1102, attributes := #[] }, { accessFlags := 26, nameIndex := 1121, descriptorIndex := 1122, attributes := #[] }, { accessFlags := 25, nameIndex := 599, descriptorIndex := 600, attributes := #[] }, { accessFlags := 24, nameIndex := 1125, descriptorIndex := 18, attributes := #[] }, { accessFlags := 24, nameIndex := 1127, descriptorIndex := 18, attributes := #[] }])
  fields := #[{ name := "value", type := (.array .byte), accessFlags := 18, slot := 0, constantValue := 0 }, { name := "coder", type := .byte, accessFlags := 18, slot := 1, constantValue := 0 }, { name := "hash", type := .int, accessFlags := 2, slot := 2, constantValue := 0 }, { name := "hashIsZero", type := .boolean, accessFlags := 2, slot := 3, constantValue := 0 }, { name := "serialVersionUID", type := .long, accessFlags := 26, slot := 0, constantValue := 0 }, { name := "COMPACT_STRINGS", type := .boolean, accessFlags := 24, slot := 1, constantValue := 0 }, { name := "serialPersistentFields", type := (.array (.object "java/io/ObjectStreamField")), accessFlags := 26, slot := 2, constantValue := 0 }, { name := "REPL", type := .char, accessFlags := 26, slot := 3, constantValue := 0 }, { name := "CASE_INSENSITIVE_ORDER", type := (.object "java/util/Comparator"), accessFlags := 25, slot := 4, constantValue := 0 }, { name := "LATIN1", type := .byte, accessFlags := 24, slot := 5, constantValue := 0 }, { name := "UTF16", type := .byte, accessFlags := 24, slot := 6, constantValue := 0 }]
  methods := #[k7m0, k7m1, k7m2, k7m3, k7m4, k7m5, k7m6, k7m7]
  instanceTypes := #[(.array .byte), .byte, .int, .boolean]
  staticTypes := #[.long, .boolean, (.array (.object "java/io/ObjectStreamField")), .char, (.object "java/util/Comparator"), .byte, .byte]
  resolved := Array.replicate 1451 none
  statics := some 0 }

def pool8 : Array CpInfo := pool [(6, .class_ 8), (1, u "java/lang/Object"), (0, u "<init>"), (0, u "()V"), (1, .class_ 14), (1, u "java/lang/StringUTF16"), (31, u "$assertionsDisabled"), (0, u "Z"), (13, u "HI_BYTE_SHIFT"), (0, u "I"), (2, u "LO_BYTE_SHIFT"), (49, .methodref 12 116), (0, .nameAndType 117 118), (0, u "compress"), (0, u "([CI[BII)I"), (3, u "([CII)[B"), (138, u "coderFromArrayLen"), (0, u "([BI)B"), (106, .class_ 371), (1, u "java/lang/StringUTF16$LinesSpliterator"), (58, u "MAX_LENGTH"), (196, .class_ 628), (0, u "java/lang/StringUTF16$CodePointsSpliterator"), (0, .class_ 630), (0, u "java/lang/StringUTF16$CharsSpliterator")] 4

def k8m0 : Method := { name := "<init>", desc := "()V", sig := { parameters := [], returnType := none }, accessFlags := 0, code := none }
def k8c1 : Code := { maxStack := 2, maxLocals := 2, code := jdk_52_method_15_code, exceptionTable := #[], attributes := #[] }
def k8m1 : Method := { name := "coderFromArrayLen", desc := "([BI)B", sig := { parameters := [(.array .byte), .int], returnType := some .byte }, accessFlags := 8, code := some k8c1 }
def k8c2 : Code := { maxStack := 5, maxLocals := 6, code := jdk_52_method_16_code, exceptionTable := #[], attributes := #[] }
def k8m2 : Method := { name := "compress", desc := "([CII)[B", sig := { parameters := [(.array .char), .int, .int], returnType := some (.array .byte) }, accessFlags := 9, code := some k8c2 }
def k8c3 : Code := { maxStack := 3, maxLocals := 7, code := jdk_52_method_21_code, exceptionTable := #[], attributes := #[] }
def k8m3 : Method := { name := "compress", desc := "([CI[BII)I", sig := { parameters := [(.array .char), .int, (.array .byte), .int, .int], returnType := some .int }, accessFlags := 9, code := some k8c3 }
/-- java/lang/StringUTF16 -/
def k8 : Class := { plain "java/lang/StringUTF16" (some 0) with
  accessFlags := 48
  interfaces := #[]
  cf := some (fileOf pool8 12 #[.nestMembers #[627, 629, 369]] #[{ accessFlags := 0, nameIndex := 9, descriptorIndex := 10, attributes := #[] }, { accessFlags := 8, nameIndex := 261, descriptorIndex := 262, attributes := #[] }, { accessFlags := 9, nameIndex := 117, descriptorIndex := 122, attributes := #[] }, { accessFlags := 9, nameIndex := 117, descriptorIndex := 118, attributes := #[] }] 48 6 #[] #[{ accessFlags := 26, nameIndex := 61, descriptorIndex := 62, attributes := #[] }, { accessFlags := 26, nameIndex := 65, descriptorIndex := 62, attributes := #[] }, { accessFlags := 24, nameIndex := 430, descriptorIndex := 62, attributes := #[] }, { accessFlags := 4120, nameIndex := 46, descriptorIndex := 47, attributes := #[] }])
  fields := #[{ name := "HI_BYTE_SHIFT", type := .int, accessFlags := 26, slot := 0, constantValue := 0 }, { name := "LO_BYTE_SHIFT", type := .int, accessFlags := 26, slot := 1, constantValue := 0 }, { name := "MAX_LENGTH", type := .int, accessFlags := 24, slot := 2, constantValue := 0 }, { name := "$assertionsDisabled", type := .boolean, accessFlags := 4120, slot := 3, constantValue := 0 }]
  methods := #[k8m0, k8m1, k8m2, k8m3]
  instanceTypes := #[]
  staticTypes := #[.int, .int, .int, .boolean]
  resolved := Array.replicate 635 none
  statics := none }

def pool9 : Array CpInfo := pool [(2, .class_ 4), (1, u "java/lang/Object"), (0, u "<init>"), (0, u "()V"), (0, .methodref 8 9), (0, .class_ 10), (0, .nameAndType 11 12), (0, u "java/lang/String"), (0, u "indexOf"), (0, u "(I)I"), (0, .methodref 8 14), (0, .nameAndType 11 15), (0, u "(II)I"), (9, .methodref 8 26), (0, .nameAndType 27 28), (0, u "length"), (0, u "()I"), (1, .class_ 32), (1, u "org/linkloom/io/Fields"), (40, u "QUOTED_CHARS"), (0, u "I"), (4, u "split"), (0, u "(Ljava/lang/String;I)[I")] 29

def k9m0 : Method := { name := "<init>", desc := "()V", sig := { parameters := [], returnType := none }, accessFlags := 2, code := none }
def k9c1 : Code := { maxStack := 5, maxLocals := 5, code := prog_23_method_2_code, exceptionTable := #[], attributes := #[] }
def k9m1 : Method := { name := "split", desc := "(Ljava/lang/String;I)[I", sig := { parameters := [(.object "java/lang/String"), .int], returnType := some (.array .int) }, accessFlags := 8, code := some k9c1 }
/-- org/linkloom/io/Fields -/
def k9 : Class := { plain "org/linkloom/io/Fields" (some 0) with
  accessFlags := 48
  interfaces := #[]
  cf := some (fileOf pool9 30 #[] #[{ accessFlags := 2, nameIndex := 5, descriptorIndex := 6, attributes := #[] }, { accessFlags := 8, nameIndex := 79, descriptorIndex := 80, attributes := #[] }] 48 2 #[] #[{ accessFlags := 26, nameIndex := 73, descriptorIndex := 74, attributes := #[] }])
  fields := #[{ name := "QUOTED_CHARS", type := .int, accessFlags := 26, slot := 0, constantValue := 0 }]
  methods := #[k9m0, k9m1]
  instanceTypes := #[]
  staticTypes := #[.int]
  resolved := Array.replicate 110 none
  statics := none }

def pool10 : Array CpInfo := pool [(4, .class_ 6), (1, u "java/lang/Object"), (0, u "<init>"), (0, u "()V"), (5, .class_ 16), (1, u "java/lang/StringLatin1"), (21, .methodref 39 40), (0, .class_ 41), (0, .nameAndType 42 43), (0, u "java/lang/Math"), (0, u "min"), (0, u "(II)I"), (44, .methodref 14 89), (0, .nameAndType 90 91), (0, u "canEncode"), (0, u "(I)Z"), (0, .methodref 39 93), (0, .nameAndType 94 43), (0, u "max"), (0, .methodref 14 96), (0, .nameAndType 97 98), (0, u "indexOfChar"), (0, u "([BIII)I"), (2, u "indexOf"), (19, u "$assertionsDisabled"), (0, u "Z"), (98, .class_ 223), (1, u "java/lang/StringLatin1$LinesSpliterator"), (166, .class_ 391), (0, u "java/lang/StringLatin1$CharsSpliterator")] 3

def k10m0 : Method := { name := "<init>", desc := "()V", sig := { parameters := [], returnType := none }, accessFlags := 0, code := none }
def k10c1 : Code := { maxStack := 2, maxLocals := 1, code := jdk_43_method_4_code, exceptionTable := #[], attributes := #[] }
def k10m1 : Method := { name := "canEncode", desc := "(I)Z", sig := { parameters := [.int], returnType := some .boolean }, accessFlags := 9, code := some k10c1 }
def k10c2 : Code := { maxStack := 4, maxLocals := 4, code := jdk_43_method_22_code, exceptionTable := #[], attributes := #[] }
def k10m2 : Method := { name := "indexOf", desc := "([BIII)I", sig := { parameters := [(.array .byte), .int, .int, .int], returnType := some .int }, accessFlags := 9, code := some k10c2 }
def k10c3 : Code := { maxStack := 2, maxLocals := 6, code := jdk_43_method_23_code, exceptionTable := #[], attributes := #[] }
def k10m3 : Method := { name := "indexOfChar", desc := "([BIII)I", sig := { parameters := [(.array .byte), .int, .int, .int], returnType := some .int }, accessFlags := 10, code := some k10c3 }
/-- java/lang/StringLatin1 -/
def k10 : Class := { plain "java/lang/StringLatin1" (some 0) with
  accessFlags := 48
  interfaces := #[]
  cf := some (fileOf pool10 14 #[.nestMembers #[390, 221]] #[{ accessFlags := 0, nameIndex := 7, descriptorIndex := 8, attributes := #[] }, { accessFlags := 9, nameIndex := 90, descriptorIndex := 91, attributes := #[] }, { accessFlags := 9, nameIndex := 101, descriptorIndex := 98, attributes := #[] }, { accessFlags := 10, nameIndex := 97, descriptorIndex := 98, attributes := #[] }] 48 4 #[] #[{ accessFlags := 4120, nameIndex := 121, descriptorIndex := 122, attributes := #[] }])
  fields := #[{ name := "$assertionsDisabled", type := .boolean, accessFlags := 4120, slot := 0, constantValue := 0 }]
  methods := #[k10m0, k10m1, k10m2, k10m3]
  instanceTypes := #[]
  staticTypes := #[.boolean]
  resolved := Array.replicate 395 none
  statics := none }

def pool11 : Array CpInfo := pool [(1, .class_ 2), (0, u "java/lang/Math"), (1, .class_ 6), (1, u "java/lang/Object"), (0, u "<init>"), (0, u "()V"), (89, .class_ 100), (1, u "java/lang/Math$RandomNumberGeneratorHolder"), (71, u "negativeZeroFloatBits"), (0, u "J"), (2, u "negativeZeroDoubleBits"), (21, u "max"), (2, u "min"), (43, u "$assertionsDisabled"), (0, u "Z"), (88, u "(II)I"), (2, u "twoToTheDoubleScaleDown"), (0, u "D"), (4, u "twoToTheDoubleScaleUp"), (9, u "E"), (3, u "PI"), (2, u "TAU"), (2, u "DEGREES_TO_RADIANS"), (0, u "RADIANS_TO_DEGREES")] 94

def k11m0 : Method := { name := "<init>", desc := "()V", sig := { parameters := [], returnType := none }, accessFlags := 2, code := none }
def k11c1 : Code := { maxStack := 2, maxLocals := 2, code := jdk_29_method_65_code, exceptionTable := #[], attributes := #[] }
def k11m1 : Method := { name := "max", desc := "(II)I", sig := { parameters := [.int, .int], returnType := some .int }, accessFlags := 9, code := some k11c1 }
def k11c2 : Code := { maxStack := 2, maxLocals := 2, code := jdk_29_method_69_code, exceptionTable := #[], attributes := #[] }
def k11m2 : Method := { name := "min", desc := "(II)I", sig := { parameters := [.int, .int], returnType := some .int }, accessFlags := 9, code := some k11c2 }
/-- java/lang/Math -/
def k11 : Class := { plain "java/lang/Math" (some 0) with
  accessFlags := 49
  interfaces := #[]
  cf := some (fileOf pool11 1 #[.nestMembers #[98]] #[{ accessFlags := 2, nameIndex := 7, descriptorIndex := 8, attributes := #[] }, { accessFlags := 9, nameIndex := 198, descriptorIndex := 335, attributes := #[] }, { accessFlags := 9, nameIndex := 201, descriptorIndex := 335, attributes := #[] }] 49 4 #[] #[{ accessFlags := 25, nameIndex := 354, descriptorIndex := 339, attributes := #[] }, { accessFlags := 25, nameIndex := 358, descriptorIndex := 339, attributes := #[] }, { accessFlags := 25, nameIndex := 361, descriptorIndex := 339, attributes := #[] }, { accessFlags := 26, nameIndex := 364, descriptorIndex := 339, attributes := #[] }, { accessFlags := 26, nameIndex := 365, descriptorIndex := 339, attributes := #[] }, { accessFlags := 26, nameIndex := 172, descriptorIndex := 173, attributes := #[] }, { accessFlags := 26, nameIndex := 176, descriptorIndex := 173, attributes := #[] }, { accessFlags := 8, nameIndex := 344, descriptorIndex := 339, attributes := #[] }, { accessFlags := 8, nameIndex := 338, descriptorIndex := 339, attributes := #[] }, { accessFlags := 4120, nameIndex := 245, descriptorIndex := 246, attributes := #[] }])
  fields := #[{ name := "E", type := .double, accessFlags := 25, slot := 0, constantValue := 0 }, { name := "PI", type := .double, accessFlags := 25, slot := 1, constantValue := 0 }, { name := "TAU", type := .double, accessFlags := 25, slot := 2, constantValue := 0 }, { name := "DEGREES_TO_RADIANS", type := .double, accessFlags := 26, slot := 3, constantValue := 0 }, { name := "RADIANS_TO_DEGREES", type := .double, accessFlags := 26, slot := 4, constantValue := 0 }, { name := "negativeZeroFloatBits", type := .long, accessFlags := 26, slot := 5, constantValue := 0 }, { name := "negativeZeroDoubleBits", type := .long, accessFlags := 26, slot := 6, constantValue := 0 }, { name := "twoToTheDoubleScaleUp", type := .double, accessFlags := 8, slot := 7, constantValue := 0 }, { name := "twoToTheDoubleScaleDown", type := .double, accessFlags := 8, slot := 8, constantValue := 0 }, { name := "$assertionsDisabled", type := .boolean, accessFlags := 4120, slot := 9, constantValue := 0 }]
  methods := #[k11m0, k11m1, k11m2]
  instanceTypes := #[]
  staticTypes := #[.double, .double, .double, .double, .double, .long, .long, .double, .double, .boolean]
  resolved := Array.replicate 460 none
  statics := none }

def pool12 : Array CpInfo := pool [(2, .class_ 4), (1, u "java/lang/Object"), (0, u "<init>"), (0, u "()V"), (17, .class_ 26), (1, u "jdk/internal/util/Preconditions"), (28, .class_ 56), (0, u "jdk/internal/util/Preconditions$4"), (57, .class_ 115), (0, u "jdk/internal/util/Preconditions$1"), (7, u "SIOOBE_FORMATTER"), (0, u "Ljava/util/function/BiFunction;"), (0, .class_ 126), (0, u "jdk/internal/util/Preconditions$2"), (3, u "AIOOBE_FORMATTER"), (0, .class_ 132), (0, u "jdk/internal/util/Preconditions$3"), (3, u "IOOBE_FORMATTER")] 57

def k12m0 : Method := { name := "<init>", desc := "()V", sig := { parameters := [], returnType := none }, accessFlags := 1, code := none }
/-- jdk/internal/util/Preconditions -/
def k12 : Class := { plain "jdk/internal/util/Preconditions" (some 0) with
  accessFlags := 33
  interfaces := #[]
  cf := some (fileOf pool12 24 #[.nestMembers #[55, 131, 125, 114]] #[{ accessFlags := 1, nameIndex := 5, descriptorIndex := 6, attributes := #[] }] 33 2 #[] #[{ accessFlags := 25, nameIndex := 123, descriptorIndex := 124, attributes := #[] }, { accessFlags := 25, nameIndex := 130, descriptorIndex := 124, attributes := #[] }, { accessFlags := 25, nameIndex := 136, descriptorIndex := 124, attributes := #[] }])
  fields := #[{ name := "SIOOBE_FORMATTER", type := (.object "java/util/function/BiFunction"), accessFlags := 25, slot := 0, constantValue := 0 }, { name := "AIOOBE_FORMATTER", type := (.object "java/util/function/BiFunction"), accessFlags := 25, slot := 1, constantValue := 0 }, { name := "IOOBE_FORMATTER", type := (.object "java/util/function/BiFunction"), accessFlags := 25, slot := 2, constantValue := 0 }]
  methods := #[k12m0]
  instanceTypes := #[]
  staticTypes := #[(.object "java/util/function/BiFunction"), (.object "java/util/function/BiFunction"), (.object "java/util/function/BiFunction")]
  resolved := Array.replicate 194 none
  statics := some 1 }

def pool13 : Array CpInfo := pool [(9, u "<init>"), (6, .class_ 18), (1, u "java/lang/Object"), (0, u "()V"), (1, .class_ 23), (1, u "jdk/internal/util/ArraysSupport"), (0, u "LOG2_ARRAY_LONG_INDEX_SCALE"), (0, u "I"), (2, u "U"), (0, u "Ljdk/internal/misc/Unsafe;"), (8, u "BIG_ENDIAN"), (0, u "Z"), (8, u "LOG2_BYTE_BIT_SIZE"), (4, u "LOG2_ARRAY_INT_INDEX_SCALE"), (54, u "JLA"), (0, u "Ljdk/internal/access/JavaLangAccess;"), (11, u "LOG2_ARRAY_BOOLEAN_INDEX_SCALE"), (9, u "LOG2_ARRAY_BYTE_INDEX_SCALE"), (5, u "LOG2_ARRAY_CHAR_INDEX_SCALE"), (5, u "LOG2_ARRAY_SHORT_INDEX_SCALE"), (18, u "LOG2_ARRAY_FLOAT_INDEX_SCALE"), (24, u "LOG2_ARRAY_DOUBLE_INDEX_SCALE"), (89, u "T_BOOLEAN"), (2, u "T_CHAR"), (1, u "T_FLOAT"), (1, u "T_DOUBLE"), (1, u "T_BYTE"), (1, u "T_SHORT"), (1, u "T_INT"), (1, u "T_LONG"), (1, u "SOFT_MAX_ARRAY_LENGTH")] 83

def k13m0 : Method := { name := "<init>", desc := "()V", sig := { parameters := [], returnType := none }, accessFlags := 2, code := none }
/-- jdk/internal/util/ArraysSupport -/
def k13 : Class := { plain "jdk/internal/util/ArraysSupport" (some 0) with
  accessFlags := 33
  interfaces := #[]
  cf := some (fileOf pool13 21 #[] #[{ accessFlags := 2, nameIndex := 9, descriptorIndex := 19, attributes := #[] }] 33 16 #[] #[{ accessFlags := 24, nameIndex := 28, descriptorIndex := 29, attributes := #[] }, { accessFlags := 26, nameIndex := 38, descriptorIndex := 39, attributes := #[] }, { accessFlags := 25, nameIndex := 121, descriptorIndex := 25, attributes := #[] }, { accessFlags := 25, nameIndex := 131, descriptorIndex := 25, attributes := #[] }, { accessFlags := 25, nameIndex := 137, descriptorIndex := 25, attributes := #[] }, { accessFlags := 25, nameIndex := 143, descriptorIndex := 25, attributes := #[] }, { accessFlags := 25, nameIndex := 53, descriptorIndex := 25, attributes := #[] }, { accessFlags := 25, nameIndex := 24, descriptorIndex := 25, attributes := #[] }, { accessFlags := 25, nameIndex := 162, descriptorIndex := 25, attributes := #[] }, { accessFlags := 25, nameIndex := 187, descriptorIndex := 25, attributes := #[] }, { accessFlags := 26, nameIndex := 48, descriptorIndex := 25, attributes := #[] }, { accessFlags := 25, nameIndex := 277, descriptorIndex := 25, attributes := #[] }, { accessFlags := 25, nameIndex := 280, descriptorIndex := 25, attributes := #[] }, { accessFlags := 25, nameIndex := 282, descriptorIndex := 25, attributes := #[] }, { accessFlags := 25, nameIndex := 284, descriptorIndex := 25, attributes := #[] }, { accessFlags := 25, nameIndex := 286, descriptorIndex := 25, attributes := #[] }, { accessFlags := 25, nameIndex := 288, descriptorIndex := 25, attributes := #[] }, { accessFlags := 25, nameIndex := 290, descriptorIndex := 25, attributes := #[] }, { accessFlags := 25, nameIndex := 292, descriptorIndex := 25, attributes := #[] }, { accessFlags := 26, nameIndex := 108, descriptorIndex := 109, attributes := #[] }, { accessFlags := 25, nameIndex := 294, descriptorIndex := 25, attributes := #[] }])
  fields := #[{ name := "U", type := (.object "jdk/internal/misc/Unsafe"), accessFlags := 24, slot := 0, constantValue := 0 }, { name := "BIG_ENDIAN", type := .boolean, accessFlags := 26, slot := 1, constantValue := 0 }, { name := "LOG2_ARRAY_BOOLEAN_INDEX_SCALE", type := .int, accessFlags := 25, slot := 2, constantValue := 0 }, { name := "LOG2_ARRAY_BYTE_INDEX_SCALE", type := .int, accessFlags := 25, slot := 3, constantValue := 0 }, { name := "LOG2_ARRAY_CHAR_INDEX_SCALE", type := .int, accessFlags := 25, slot := 4, constantValue := 0 }, { name := "LOG2_ARRAY_SHORT_INDEX_SCALE", type := .int, accessFlags := 25, slot := 5, constantValue := 0 }, { name := "LOG2_ARRAY_INT_INDEX_SCALE", type := .int, accessFlags := 25, slot := 6, constantValue := 0 }, { name := "LOG2_ARRAY_LONG_INDEX_SCALE", type := .int, accessFlags := 25, slot := 7, constantValue := 0 }, { name := "LOG2_ARRAY_FLOAT_INDEX_SCALE", type := .int, accessFlags := 25, slot := 8, constantValue := 0 }, { name := "LOG2_ARRAY_DOUBLE_INDEX_SCALE", type := .int, accessFlags := 25, slot := 9, constantValue := 0 }, { name := "LOG2_BYTE_BIT_SIZE", type := .int, accessFlags := 26, slot := 10, constantValue := 0 }, { name := "T_BOOLEAN", type := .int, accessFlags := 25, slot := 11, constantValue := 0 }, { name := "T_CHAR", type := .int, accessFlags := 25, slot := 12, constantValue := 0 }, { name := "T_FLOAT", type := .int, accessFlags := 25, slot := 13, constantValue := 0 }, { name := "T_DOUBLE", type := .int, accessFlags := 25, slot := 14, constantValue := 0 }, { name := "T_BYTE", type := .int, accessFlags := 25, slot := 15, constantValue := 0 }, { name := "T_SHORT", type := .int, accessFlags := 25, slot := 16, constantValue := 0 }, { name := "T_INT", type := .int, accessFlags := 25, slot := 17, constantValue := 0 }, { name := "T_LONG", type := .int, accessFlags := 25, slot := 18, constantValue := 0 }, { name := "JLA", type := (.object "jdk/internal/access/JavaLangAccess"), accessFlags := 26, slot := 19, constantValue := 0 }, { name := "SOFT_MAX_ARRAY_LENGTH", type := .int, accessFlags := 25, slot := 20, constantValue := 0 }]
  methods := #[k13m0]
  instanceTypes := #[]
  staticTypes := #[(.object "jdk/internal/misc/Unsafe"), .boolean, .int, .int, .int, .int, .int, .int, .int, .int, .int, .int, .int, .int, .int, .int, .int, .int, .int, (.object "jdk/internal/access/JavaLangAccess"), .int]
  resolved := Array.replicate 378 none
  statics := none }

def pool14 : Array CpInfo := pool [(1, u "java/lang/Cloneable"), (0, .class_ 1), (0, u "java/lang/Object"), (0, .class_ 3)] 3

/-- java/lang/Cloneable -/
def k14 : Class := { plain "java/lang/Cloneable" (some 0) with
  accessFlags := 1537
  interfaces := #[]
  cf := some (fileOf pool14 2 #[] #[] 1537 4 #[] #[])
  fields := #[]
  methods := #[]
  instanceTypes := #[]
  staticTypes := #[]
  resolved := Array.replicate 8 none
  statics := none }

/-- the primitive byte -/
def k15 : Class := { plain "byte" none with kind := .primitive 'B', accessFlags := 0x411 }
/-- [B -/
def k16 : Class := { plain "[B" (some 0) with kind := .array 15 .byte, interfaces := #[14, 2], accessFlags := 1041 }

/-- the primitive char -/
def k17 : Class := { plain "char" none with kind := .primitive 'C', accessFlags := 0x411 }
/-- [C -/
def k18 : Class := { plain "[C" (some 0) with kind := .array 17 .char, interfaces := #[14, 2], accessFlags := 1041 }

/-- the primitive int -/
def k19 : Class := { plain "int" none with kind := .primitive 'I', accessFlags := 0x411 }
/-- [I -/
def k20 : Class := { plain "[I" (some 0) with kind := .array 19 .int, interfaces := #[14, 2], accessFlags := 1041 }

def heap : Heap := #[{ cls := 7, slots := #[.long 0, .int 1, .null, .int 0, .null, .int 0, .int 0], vm := .statics 7 },
  { cls := 12, slots := #[.null, .null, .null], vm := .statics 12 }]
def classes : Array Class := #[k0, k1, k2, k3, k4, k5, k6, k7, k8, k9, k10, k11, k12, k13, k14, k15, k16, k17, k18, k19, k20]
def interned : List (Array UInt16 × Addr) := []
def slotsUsed : Nat := 10
def theMethod : MethodId := ⟨1, 5⟩
def args0 : Array Value := #[.int 1, .int 2, .int 3, .int 4, .int 5, .int 6]
def aboutOver (below : List Frame) : State where
  vm := { classes := classes, interned := interned.toArray }
  heap := heap
  slotsUsed := slotsUsed
  threads := #[{ frames := .invoking theMethod args0 :: below }]
def below0 : List Frame := [.native { method := ⟨0, 0⟩, args := #[] }]
def about1 : State := aboutOver below0
def p0 : Program := .bare "" "" ""
def e0 : Env := launch0.env 0 0 0
theorem w_frames : about1.frames = Frame.invoking theMethod args0 :: below0 := rfl
theorem w_args : argsFit about1.vm theMethod args0 = true := by decide +kernel
theorem w_heap : heapFits about1 = true := by decide +kernel
theorem w_runnable : about1.curStatus? = some .runnable := by decide +kernel
theorem w_alone : about1.alone = true := by decide +kernel
theorem w_named : about1.methodNamed? x = some theMethod := by decide +kernel
theorem w_hears : about1.hears theMethod below0 = true := by decide +kernel
theorem w_ripe : about1.ripe theMethod args0 below0 = true := by decide +kernel
theorem w_running : about1.status = .running := rfl
theorem w_room : about1.hasRoom e0.platform room_1 = true :=
  launch0.hasRoom_least _ room_1 (by decide +kernel) (by decide +kernel) (by decide +kernel) (by decide +kernel) (by decide +kernel) (by decide +kernel)
theorem allAtoms_all (ts : List Jvm.Cond) (a : Array Jvm.Value) (st : Jvm.State) : (allAtoms ts).before a st = ts.all (fun c => c.before a st) := by
  induction ts with
  | nil => rfl
  | cons c t ih =>
    show (Jvm.Cond.and c (allAtoms t)).before a st = _
    rw [Jvm.Cond.before_and, ih, List.all_cons]
def words1 : List Jvm.Cond := Jvm.Cond.code x code maxLocals ret :: tables_1
/-- a 'code' word, met by the world's own term for the bytes: nothing is compared byte by byte -/
theorem code_word {y : MethodName} {bytes : ByteArray} {mx : Nat} {rt : Option FieldType} {a : Array Value} {s : State} {m : MethodId} {meth : Method} {c : Code} (h1 : s.methodNamed? y = some m) (h2 : s.vm.method? m = some meth) (h3 : meth.code = some c) (h4 : c.code = bytes)
    (h5 : (c.maxLocals == mx && c.exceptionTable.isEmpty && decide (c.maxStack ≤ mostOperands) && decide (meth.sig.returnType = rt) && !meth.locks && decide (parseMethodDescriptor y.desc = some meth.sig)) = true) : (Jvm.Cond.code y bytes mx rt).before a s = true := by
  simp only [Bool.and_eq_true, beq_iff_eq, Bool.not_eq_true', decide_eq_true_eq] at h5
  obtain ⟨⟨⟨⟨⟨g1, g2⟩, g3⟩, g4⟩, g5⟩, g6⟩ := h5
  simp [Cond.before, Cond.holds, Cond.value, h1, h2, h3, h4, g1, g2, g3, g4, g5, g6]
def isCode : Jvm.Cond → Bool
  | .code _ _ _ _ => true
  | _ => false
theorem all_split {L : List Jvm.Cond} {P : Jvm.Cond → Bool} (h1 : L.all (fun c => isCode c || P c) = true) (h2 : ∀ c ∈ L.filter isCode, P c = true) : L.all P = true := by
  refine List.all_eq_true.mpr fun c hc => ?_
  have h := List.all_eq_true.mp h1 c hc
  rcases Bool.eq_false_or_eq_true (isCode c) with hi | hi
  · exact h2 c (List.mem_filter.mpr ⟨hc, hi⟩)
  · simpa [hi] using h
theorem w_c0 : (Jvm.Cond.code x code maxLocals ret).before args0 about1 = true := code_word (m := ⟨1, 5⟩) (meth := k1m5) (c := k1c5) (by decide +kernel) rfl rfl rfl (by decide +kernel)
theorem w_c1 : (Jvm.Cond.code ({ cls := "org/linkloom/io/FieldsSplitPinLaw", name := "ch", desc := "(III)C" } : Jvm.MethodName) method_2_code (3 : Nat) (Option.some Jvm.ClassFile.FieldType.char)).before args0 about1 = true := code_word (m := ⟨1, 1⟩) (meth := k1m1) (c := k1c1) (by decide +kernel) rfl rfl rfl (by decide +kernel)
theorem w_c2 : (Jvm.Cond.code ({ cls := "org/linkloom/io/FieldsSplitPinLaw", name := "chars", desc := "(ICCCCC)[C" } : Jvm.MethodName) method_3_code (6 : Nat) (Option.some (Jvm.ClassFile.FieldType.array Jvm.ClassFile.FieldType.char))).before args0 about1 = true := code_word (m := ⟨1, 2⟩) (meth := k1m2) (c := k1c2) (by decide +kernel) rfl rfl rfl (by decide +kernel)
theorem w_c3 : (Jvm.Cond.code ({ cls := "java/lang/String", name := "<init>", desc := "([C)V" } : Jvm.MethodName) jdk_42_method_3_code (2 : Nat) (Option.none : Option Jvm.ClassFile.FieldType)).before args0 about1 = true := code_word (m := ⟨7, 1⟩) (meth := k7m1) (c := k7c1) (by decide +kernel) rfl rfl rfl (by decide +kernel)
theorem w_c4 : (Jvm.Cond.code ({ cls := "java/lang/String", name := "<init>", desc := "([CIILjava/lang/Void;)V" } : Jvm.MethodName) jdk_42_method_149_code (6 : Nat) (Option.none : Option Jvm.ClassFile.FieldType)).before args0 about1 = true := code_word (m := ⟨7, 5⟩) (meth := k7m5) (c := k7c5) (by decide +kernel) rfl rfl rfl (by decide +kernel)
theorem w_c5 : (Jvm.Cond.code ({ cls := "java/lang/Object", name := "<init>", desc := "()V" } : Jvm.MethodName) object_method_1_code (1 : Nat) (Option.none : Option Jvm.ClassFile.FieldType)).before args0 about1 = true := code_word (m := ⟨0, 0⟩) (meth := k0m0) (c := k0c0) (by decide +kernel) rfl rfl rfl (by decide +kernel)
theorem w_c6 : (Jvm.Cond.code ({ cls := "java/lang/StringUTF16", name := "compress", desc := "([CII)[B" } : Jvm.MethodName) jdk_52_method_16_code (6 : Nat) (Option.some (Jvm.ClassFile.FieldType.array Jvm.ClassFile.FieldType.byte))).before args0 about1 = true := code_word (m := ⟨8, 2⟩) (meth := k8m2) (c := k8c2) (by decide +kernel) rfl rfl rfl (by decide +kernel)
theorem w_c7 : (Jvm.Cond.code ({ cls := "java/lang/StringUTF16", name := "compress", desc := "([CI[BII)I" } : Jvm.MethodName) jdk_52_method_21_code (7 : Nat) (Option.some Jvm.ClassFile.FieldType.int)).before args0 about1 = true := code_word (m := ⟨8, 3⟩) (meth := k8m3) (c := k8c3) (by decide +kernel) rfl rfl rfl (by decide +kernel)
theorem w_c8 : (Jvm.Cond.code ({ cls := "java/lang/StringUTF16", name := "coderFromArrayLen", desc := "([BI)B" } : Jvm.MethodName) jdk_52_method_15_code (2 : Nat) (Option.some Jvm.ClassFile.FieldType.byte)).before args0 about1 = true := code_word (m := ⟨8, 1⟩) (meth := k8m1) (c := k8c1) (by decide +kernel) rfl rfl rfl (by decide +kernel)
theorem w_c9 : (Jvm.Cond.code ({ cls := "org/linkloom/io/FieldsSplitPinLaw", name := "note", desc := "([IIIIC)I" } : Jvm.MethodName) method_4_code (5 : Nat) (Option.some Jvm.ClassFile.FieldType.int)).before args0 about1 = true := code_word (m := ⟨1, 3⟩) (meth := k1m3) (c := k1c3) (by decide +kernel) rfl rfl rfl (by decide +kernel)
theorem w_c10 : (Jvm.Cond.code ({ cls := "org/linkloom/io/Fields", name := "split", desc := "(Ljava/lang/String;I)[I" } : Jvm.MethodName) prog_23_method_2_code (5 : Nat) (Option.some (Jvm.ClassFile.FieldType.array Jvm.ClassFile.FieldType.int))).before args0 about1 = true := code_word (m := ⟨9, 1⟩) (meth := k9m1) (c := k9c1) (by decide +kernel) rfl rfl rfl (by decide +kernel)
theorem w_c11 : (Jvm.Cond.code ({ cls := "java/lang/String", name := "indexOf", desc := "(I)I" } : Jvm.MethodName) jdk_42_method_79_code (2 : Nat) (Option.some Jvm.ClassFile.FieldType.int)).before args0 about1 = true := code_word (m := ⟨7, 3⟩) (meth := k7m3) (c := k7c3) (by decide +kernel) rfl rfl rfl (by decide +kernel)
theorem w_c12 : (Jvm.Cond.code ({ cls := "java/lang/String", name := "indexOf", desc := "(II)I" } : Jvm.MethodName) jdk_42_method_80_code (3 : Nat) (Option.some Jvm.ClassFile.FieldType.int)).before args0 about1 = true := code_word (m := ⟨7, 4⟩) (meth := k7m4) (c := k7c4) (by decide +kernel) rfl rfl rfl (by decide +kernel)
theorem w_c13 : (Jvm.Cond.code ({ cls := "java/lang/String", name := "isLatin1", desc := "()Z" } : Jvm.MethodName) jdk_42_method_154_code (1 : Nat) (Option.some Jvm.ClassFile.FieldType.boolean)).before args0 about1 = true := code_word (m := ⟨7, 7⟩) (meth := k7m7) (c := k7c7) (by decide +kernel) rfl rfl rfl (by decide +kernel)
theorem w_c14 : (Jvm.Cond.code ({ cls := "java/lang/String", name := "length", desc := "()I" } : Jvm.MethodName) jdk_42_method_54_code (1 : Nat) (Option.some Jvm.ClassFile.FieldType.int)).before args0 about1 = true := code_word (m := ⟨7, 2⟩) (meth := k7m2) (c := k7c2) (by decide +kernel) rfl rfl rfl (by decide +kernel)
theorem w_c15 : (Jvm.Cond.code ({ cls := "java/lang/String", name := "coder", desc := "()B" } : Jvm.MethodName) jdk_42_method_152_code (1 : Nat) (Option.some Jvm.ClassFile.FieldType.byte)).before args0 about1 = true := code_word (m := ⟨7, 6⟩) (meth := k7m6) (c := k7c6) (by decide +kernel) rfl rfl rfl (by decide +kernel)
theorem w_c16 : (Jvm.Cond.code ({ cls := "java/lang/StringLatin1", name := "indexOf", desc := "([BIII)I" } : Jvm.MethodName) jdk_43_method_22_code (4 : Nat) (Option.some Jvm.ClassFile.FieldType.int)).before args0 about1 = true := code_word (m := ⟨10, 2⟩) (meth := k10m2) (c := k10c2) (by decide +kernel) rfl rfl rfl (by decide +kernel)
theorem w_c17 : (Jvm.Cond.code ({ cls := "java/lang/StringLatin1", name := "canEncode", desc := "(I)Z" } : Jvm.MethodName) jdk_43_method_4_code (1 : Nat) (Option.some Jvm.ClassFile.FieldType.boolean)).before args0 about1 = true := code_word (m := ⟨10, 1⟩) (meth := k10m1) (c := k10c1) (by decide +kernel) rfl rfl rfl (by decide +kernel)
theorem w_c18 : (Jvm.Cond.code ({ cls := "java/lang/Math", name := "max", desc := "(II)I" } : Jvm.MethodName) jdk_29_method_65_code (2 : Nat) (Option.some Jvm.ClassFile.FieldType.int)).before args0 about1 = true := code_word (m := ⟨11, 1⟩) (meth := k11m1) (c := k11c1) (by decide +kernel) rfl rfl rfl (by decide +kernel)
theorem w_c19 : (Jvm.Cond.code ({ cls := "java/lang/Math", name := "min", desc := "(II)I" } : Jvm.MethodName) jdk_29_method_69_code (2 : Nat) (Option.some Jvm.ClassFile.FieldType.int)).before args0 about1 = true := code_word (m := ⟨11, 2⟩) (meth := k11m2) (c := k11c2) (by decide +kernel) rfl rfl rfl (by decide +kernel)
theorem w_c20 : (Jvm.Cond.code ({ cls := "java/lang/StringLatin1", name := "indexOfChar", desc := "([BIII)I" } : Jvm.MethodName) jdk_43_method_23_code (6 : Nat) (Option.some Jvm.ClassFile.FieldType.int)).before args0 about1 = true := code_word (m := ⟨10, 3⟩) (meth := k10m3) (c := k10c3) (by decide +kernel) rfl rfl rfl (by decide +kernel)
theorem w_c21 : (Jvm.Cond.code ({ cls := "org/linkloom/io/FieldsSplitPinLaw", name := "at", desc := "([I[III)Z" } : Jvm.MethodName) method_5_code (4 : Nat) (Option.some Jvm.ClassFile.FieldType.boolean)).before args0 about1 = true := code_word (m := ⟨1, 4⟩) (meth := k1m4) (c := k1c4) (by decide +kernel) rfl rfl rfl (by decide +kernel)
def codes1 : List Jvm.Cond := [Jvm.Cond.code x code maxLocals ret, Jvm.Cond.code ({ cls := "org/linkloom/io/FieldsSplitPinLaw", name := "ch", desc := "(III)C" } : Jvm.MethodName) method_2_code (3 : Nat) (Option.some Jvm.ClassFile.FieldType.char), Jvm.Cond.code ({ cls := "org/linkloom/io/FieldsSplitPinLaw", name := "chars", desc := "(ICCCCC)[C" } : Jvm.MethodName) method_3_code (6 : Nat) (Option.some (Jvm.ClassFile.FieldType.array Jvm.ClassFile.FieldType.char)), Jvm.Cond.code ({ cls := "java/lang/String", name := "<init>", desc := "([C)V" } : Jvm.MethodName) jdk_42_method_3_code (2 : Nat) (Option.none : Option Jvm.ClassFile.FieldType), Jvm.Cond.code ({ cls := "java/lang/String", name := "<init>", desc := "([CIILjava/lang/Void;)V" } : Jvm.MethodName) jdk_42_method_149_code (6 : Nat) (Option.none : Option Jvm.ClassFile.FieldType), Jvm.Cond.code ({ cls := "java/lang/Object", name := "<init>", desc := "()V" } : Jvm.MethodName) object_method_1_code (1 : Nat) (Option.none : Option Jvm.ClassFile.FieldType), Jvm.Cond.code ({ cls := "java/lang/StringUTF16", name := "compress", desc := "([CII)[B" } : Jvm.MethodName) jdk_52_method_16_code (6 : Nat) (Option.some (Jvm.ClassFile.FieldType.array Jvm.ClassFile.FieldType.byte)), Jvm.Cond.code ({ cls := "java/lang/StringUTF16", name := "compress", desc := "([CI[BII)I" } : Jvm.MethodName) jdk_52_method_21_code (7 : Nat) (Option.some Jvm.ClassFile.FieldType.int), Jvm.Cond.code ({ cls := "java/lang/StringUTF16", name := "coderFromArrayLen", desc := "([BI)B" } : Jvm.MethodName) jdk_52_method_15_code (2 : Nat) (Option.some Jvm.ClassFile.FieldType.byte), Jvm.Cond.code ({ cls := "org/linkloom/io/FieldsSplitPinLaw", name := "note", desc := "([IIIIC)I" } : Jvm.MethodName) method_4_code (5 : Nat) (Option.some Jvm.ClassFile.FieldType.int), Jvm.Cond.code ({ cls := "org/linkloom/io/Fields", name := "split", desc := "(Ljava/lang/String;I)[I" } : Jvm.MethodName) prog_23_method_2_code (5 : Nat) (Option.some (Jvm.ClassFile.FieldType.array Jvm.ClassFile.FieldType.int)), Jvm.Cond.code ({ cls := "java/lang/String", name := "indexOf", desc := "(I)I" } : Jvm.MethodName) jdk_42_method_79_code (2 : Nat) (Option.some Jvm.ClassFile.FieldType.int), Jvm.Cond.code ({ cls := "java/lang/String", name := "indexOf", desc := "(II)I" } : Jvm.MethodName) jdk_42_method_80_code (3 : Nat) (Option.some Jvm.ClassFile.FieldType.int), Jvm.Cond.code ({ cls := "java/lang/String", name := "isLatin1", desc := "()Z" } : Jvm.MethodName) jdk_42_method_154_code (1 : Nat) (Option.some Jvm.ClassFile.FieldType.boolean), Jvm.Cond.code ({ cls := "java/lang/String", name := "length", desc := "()I" } : Jvm.MethodName) jdk_42_method_54_code (1 : Nat) (Option.some Jvm.ClassFile.FieldType.int), Jvm.Cond.code ({ cls := "java/lang/String", name := "coder", desc := "()B" } : Jvm.MethodName) jdk_42_method_152_code (1 : Nat) (Option.some Jvm.ClassFile.FieldType.byte), Jvm.Cond.code ({ cls := "java/lang/StringLatin1", name := "indexOf", desc := "([BIII)I" } : Jvm.MethodName) jdk_43_method_22_code (4 : Nat) (Option.some Jvm.ClassFile.FieldType.int), Jvm.Cond.code ({ cls := "java/lang/StringLatin1", name := "canEncode", desc := "(I)Z" } : Jvm.MethodName) jdk_43_method_4_code (1 : Nat) (Option.some Jvm.ClassFile.FieldType.boolean), Jvm.Cond.code ({ cls := "java/lang/Math", name := "max", desc := "(II)I" } : Jvm.MethodName) jdk_29_method_65_code (2 : Nat) (Option.some Jvm.ClassFile.FieldType.int), Jvm.Cond.code ({ cls := "java/lang/Math", name := "min", desc := "(II)I" } : Jvm.MethodName) jdk_29_method_69_code (2 : Nat) (Option.some Jvm.ClassFile.FieldType.int), Jvm.Cond.code ({ cls := "java/lang/StringLatin1", name := "indexOfChar", desc := "([BIII)I" } : Jvm.MethodName) jdk_43_method_23_code (6 : Nat) (Option.some Jvm.ClassFile.FieldType.int), Jvm.Cond.code ({ cls := "org/linkloom/io/FieldsSplitPinLaw", name := "at", desc := "([I[III)Z" } : Jvm.MethodName) method_5_code (4 : Nat) (Option.some Jvm.ClassFile.FieldType.boolean)]
theorem codes_eq : words1.filter isCode = codes1 := rfl
theorem w_codes : ∀ c ∈ words1.filter isCode, c.before args0 about1 = true := by
  rw [codes_eq]
  intro c hc
  simp only [codes1, List.mem_cons, List.not_mem_nil, or_false] at hc
  rcases hc with rfl | rfl | rfl | rfl | rfl | rfl | rfl | rfl | rfl | rfl | rfl | rfl | rfl | rfl | rfl | rfl | rfl | rfl | rfl | rfl | rfl | rfl
  · exact w_c0
  · exact w_c1
  · exact w_c2
  · exact w_c3
  · exact w_c4
  · exact w_c5
  · exact w_c6
  · exact w_c7
  · exact w_c8
  · exact w_c9
  · exact w_c10
  · exact w_c11
  · exact w_c12
  · exact w_c13
  · exact w_c14
  · exact w_c15
  · exact w_c16
  · exact w_c17
  · exact w_c18
  · exact w_c19
  · exact w_c20
  · exact w_c21
theorem w_t1 : (words1.take 24).all (fun c => isCode c || c.before args0 about1) = true := by decide +kernel
theorem w_t2 : ((words1.drop 24).take 24).all (fun c => isCode c || c.before args0 about1) = true := by decide +kernel
theorem w_t3 : (((words1.drop 24).drop 24).take 24).all (fun c => isCode c || c.before args0 about1) = true := by decide +kernel
theorem w_t4 : (((words1.drop 24).drop 24).drop 24).all (fun c => isCode c || c.before args0 about1) = true := by decide +kernel
theorem w_tables : (allAtoms (Jvm.Cond.code x code maxLocals ret :: tables_1)).before args0 about1 = true := by
  rw [allAtoms_all]
  show words1.all (fun c => c.before args0 about1) = true
  refine all_split ?_ w_codes
  rw [← List.take_append_drop 24 words1, List.all_append, w_t1, ← List.take_append_drop 24 (words1.drop 24), List.all_append, w_t2, ← List.take_append_drop 24 ((words1.drop 24).drop 24), List.all_append, w_t3, w_t4]
  rfl
theorem w_rest : rest_1_c.before args0 about1 = true := by decide +kernel
theorem w_case : (Jvm.Cond.and given_1 narrow_1).before args0 about1 = true := by decide +kernel
theorem w_consts : constsHeld consts_1 about1 := Jvm.Lit.constsHeldB_iff.mp (by decide +kernel)
theorem w_applies : (headSpec (Jvm.Cond.code x code maxLocals ret :: tables_1) room_1).applies x e0.platform about1 = true :=
  (Spec.applies_iff w_frames).mpr ⟨w_running, w_runnable, w_alone, w_named, w_hears, w_ripe, w_room, w_tables⟩
theorem atStart : AtStart classFile x code maxLocals ret World_1 tables_1 room_1 Calls_1 rest_1 Pre_1 launch0 p0 e0 about1 theMethod args0 below0 :=
  ⟨lists_1, trivial, launch0.admits_env _ _ _, launch0.least_env, fairChoices_fair.cas, fairChoices_fair.clock, w_frames, w_args, w_heap, w_applies, ⟨w_consts, trivial⟩, w_rest, w_case⟩
end start1
theorem witness_1 : WitnessClaimed_1 := ⟨start1.p0, start1.e0, start1.about1, start1.theMethod, start1.args0, start1.below0, start1.atStart⟩
end Jvm.Pilot.@@N@@
