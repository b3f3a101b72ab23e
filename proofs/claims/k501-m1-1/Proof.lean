import JvmDerived
import JvmDerived.Pilot.@@N@@Statement
import JvmDerived.Pilot.@@N@@Code
set_option linter.unusedVariables false
set_option linter.unusedSimpArgs false
namespace Jvm.OwnKit
open Jvm Jvm.ClassFile Sem Op Lib Jvm.Stand Jvm.Free Jvm.LawKit Jvm.RoadKit
/-! A small calculus of my own over the library's laws: Go says 'from here the body comes to its end, and what it leaves satisfies Q'. -/
abbrev Bod : Type := Program × Launch × Env × Room × State × MethodId × Array Value × List Frame × Method × Code
abbrev Bod.p (B : Bod) : Program := B.1
abbrev Bod.l (B : Bod) : Launch := B.2.1
abbrev Bod.e (B : Bod) : Env := B.2.2.1
abbrev Bod.R (B : Bod) : Room := B.2.2.2.1
abbrev Bod.s (B : Bod) : State := B.2.2.2.2.1
abbrev Bod.m (B : Bod) : MethodId := B.2.2.2.2.2.1
abbrev Bod.args (B : Bod) : Array Value := B.2.2.2.2.2.2.1
abbrev Bod.below (B : Bod) : List Frame := B.2.2.2.2.2.2.2.1
abbrev Bod.meth (B : Bod) : Method := B.2.2.2.2.2.2.2.2.1
abbrev Bod.c (B : Bod) : Code := B.2.2.2.2.2.2.2.2.2
abbrev St (B : Bod) (T : State) (locs : List Loc) (k n : Nat) : Prop := Stand B.p B.l B.e B.R B.s B.m B.args B.below B.meth B.c T locs k n
def Fin0 (B : Bod) (n0 : Nat) (Q : Option Value → Heap → Prop) (g : JFrame) (T : State) : Prop :=
  ∃ t o, Steps B.p.tables B.e B.below (T.setTop g) t ∧ t.status = .running ∧ Ended t B.below o ∧ ∃ v L, o = .returned v ∧ (Fr n0 L ∧ Q v t.heap) ∧ FrameEnd B.s o t L B.R.cells B.R.slots
def Go (B : Bod) (n0 : Nat) (Q : Option Value → Heap → Prop) (h : Heap) (k n pc : Nat) (L : Array Slot) (st : List Value) : Prop :=
  ∀ T locs, St B T locs k n → Fr n0 locs → T.heap = h → Fin0 B n0 Q (mkF B.m pc L st) T
def Ctx (B : Bod) (l : Launch) (rm : Room) (bytes : ByteArray) (own nm : String) (maxL : Nat) (ret : Option FieldType) (Z : State) : Prop :=
  B.l = l ∧ B.R = rm ∧ B.p.tables.exec = Jvm.exec ∧ B.c.code = bytes ∧ Z.Warmed39 B.s.vm ∧ B.s.vm.findClass own = some B.m.cls ∧ B.meth.name = nm ∧ B.c.maxLocals = maxL ∧ B.meth.sig.returnType = ret ∧ B.meth.locks = false
/-- a method's contract: called with these arguments over this heap it returns, and Q holds of what it returns and of the heap it leaves -/
def Met1 (l : Launch) (Z : State) (y : MethodName) (bytes : ByteArray) (maxL : Nat) (ret : Option FieldType) (rm : Room) (n0 : Nat) (as' : Array Value) (h0 : Heap) (Q : Option Value → Heap → Prop) : Prop :=
  ∀ ws : List Jvm.Cond, MetFree l y (head1 (Jvm.Cond.code y bytes maxL ret :: ws) rm) (fun a U => a = as' ∧ Z.Warmed39 U.vm ∧ U.heap = h0) (fun _ _ _ _ _ => True) (fun _ U o U' => ∃ v L, o = .returned v ∧ (Fr n0 L ∧ Q v U'.heap) ∧ FrameEnd U o U' L rm.cells rm.slots)
section Base
variable {B : Bod} {l : Launch} {rm : Room} {bytes : ByteArray} {own nm : String} {maxL : Nat} {ret : Option FieldType} {Z : State} {n0 : Nat} {Q : Option Value → Heap → Prop} {h : Heap} {k n pc pc' : Nat} {L L' : Array Slot} {st st' : List Value} {a0 : Array Value}
theorem met_of {y : MethodName} {as' : Array Value} (hp : plainFor y = true) {L0 : Array Slot} (hL : argsToLocals as' maxL = L0) (go : ∀ B : Bod, Ctx B l rm bytes y.cls y.name maxL ret Z → Go B n0 Q h 0 0 0 L0 []) : Met1 l Z y bytes maxL ret rm n0 as' h Q := by
  intro ws
  refine MetFree.of_bodySF hp hisR ?_
  intro p e s m args below meth c s₁ Bd hml0 hP hK
  obtain ⟨rfl, hZ, hh⟩ := hP
  subst hL
  obtain ⟨t, o, h1, h2, h3, v, L, h4, h5, h6⟩ := go (p, l, e, rm, s, m, args, below, meth, c) ⟨rfl, rfl, Bd.exec, Bd.bytes, hZ, findClass_of_methodNamed Bd.named, (name_of_methodNamed Bd.named Bd.method).1, hml0, Bd.returns, BodyLoose.notSynchronized Bd⟩ s₁ [] (Stand.of_body Bd) (Fr.nil n0) (by rw [← hh, Bd.state]; rfl)
  exact ⟨t, o, h1, h2, h3, v, L, h4, h5, h6⟩
/-- a step that moves the frame alone -/
theorem Go.step (f : ∀ T locs, St B T locs k n → T.heap = h → ∀ t, Steps B.p.tables B.e B.below (T.setTop (mkF B.m pc' L' st')) t → Steps B.p.tables B.e B.below (T.setTop (mkF B.m pc L st)) t) (go : Go B n0 Q h k n pc' L' st') : Go B n0 Q h k n pc L st := fun T locs X N eT => by
  obtain ⟨t, o, a, r⟩ := go T locs X N eT
  exact ⟨t, o, f T locs X eT t a, r⟩
/-- a step that moves the tables too -/
theorem Go.move (f : ∀ T locs, St B T locs k n → T.heap = h → ∃ T', St B T' locs k n ∧ T'.heap = h ∧ ∀ t, Steps B.p.tables B.e B.below (T'.setTop (mkF B.m pc' L' st')) t → Steps B.p.tables B.e B.below (T.setTop (mkF B.m pc L st)) t) (go : Go B n0 Q h k n pc' L' st') : Go B n0 Q h k n pc L st := fun T locs X N eT => by
  obtain ⟨T', X', e', f'⟩ := f T locs X eT
  obtain ⟨t, o, a, r⟩ := go T' locs X' N e'
  exact ⟨t, o, f' t a, r⟩
theorem Go.eqs {st2 : List Value} (go : Go B n0 Q h k n pc L st2) (e : st = st2) : Go B n0 Q h k n pc L st := e ▸ go
theorem Go.eqh {h2 : Heap} (go : Go B n0 Q h2 k n pc L st) (e : h = h2) : Go B n0 Q h k n pc L st := e ▸ go
theorem g_iload_n (C : Ctx B l rm bytes own nm maxL ret Z) {i : Fin 4} {v : Int32} (hd : decode bytes pc = .ok (.iload_n i, 1)) (hl : L[i.val]? = some (.val (.int v))) (hpc : pc + 1 = pc') (go : Go B n0 Q h k n pc' L (.int v :: st)) : Go B n0 Q h k n pc L st := go.step fun T locs X eT t q => Jvm.Free.XS.iloadN X.here C.2.2.1 rfl (hb C.2.2.2.1 hd) hl (by subst hpc; exact q)
theorem g_iload (C : Ctx B l rm bytes own nm maxL ret Z) {i : Nat} {v : Int32} (hd : decode bytes pc = .ok (.iload i, 2)) (hl : L[i]? = some (.val (.int v))) (hpc : pc + 2 = pc') (go : Go B n0 Q h k n pc' L (.int v :: st)) : Go B n0 Q h k n pc L st := go.step fun T locs X eT t q => Jvm.Free.XS.iload X.here C.2.2.1 rfl (hb C.2.2.2.1 hd) hl (by subst hpc; exact q)
theorem g_lload_n (C : Ctx B l rm bytes own nm maxL ret Z) {i : Fin 4} {v : Int64} (hd : decode bytes pc = .ok (.lload_n i, 1)) (hl : L[i.val]? = some (.val (.long v))) (hpc : pc + 1 = pc') (go : Go B n0 Q h k n pc' L (.long v :: st)) : Go B n0 Q h k n pc L st := go.step fun T locs X eT t q => Jvm.Free.XT.lloadN X.here C.2.2.1 rfl (hb C.2.2.2.1 hd) hl (by subst hpc; exact q)
theorem g_lload (C : Ctx B l rm bytes own nm maxL ret Z) {i : Nat} {v : Int64} (hd : decode bytes pc = .ok (.lload i, 2)) (hl : L[i]? = some (.val (.long v))) (hpc : pc + 2 = pc') (go : Go B n0 Q h k n pc' L (.long v :: st)) : Go B n0 Q h k n pc L st := go.step fun T locs X eT t q => Jvm.Free.XT.lload X.here C.2.2.1 rfl (hb C.2.2.2.1 hd) hl (by subst hpc; exact q)
theorem g_aload_n (C : Ctx B l rm bytes own nm maxL ret Z) {i : Fin 4} {v : Value} (hd : decode bytes pc = .ok (.aload_n i, 1)) (hl : L[i.val]? = some (.val v)) (hv : v.isRef = true) (hpc : pc + 1 = pc') (go : Go B n0 Q h k n pc' L (v :: st)) : Go B n0 Q h k n pc L st := go.step fun T locs X eT t q => Jvm.Free.XS.aloadN X.here C.2.2.1 rfl (hb C.2.2.2.1 hd) hl hv (by subst hpc; exact q)
theorem g_aload (C : Ctx B l rm bytes own nm maxL ret Z) {i : Nat} {v : Value} (hd : decode bytes pc = .ok (.aload i, 2)) (hl : L[i]? = some (.val v)) (hv : v.isRef = true) (hpc : pc + 2 = pc') (go : Go B n0 Q h k n pc' L (v :: st)) : Go B n0 Q h k n pc L st := go.step fun T locs X eT t q => Jvm.Free.XS.aload X.here C.2.2.1 rfl (hb C.2.2.2.1 hd) hl hv (by subst hpc; exact q)
theorem g_istore_n (C : Ctx B l rm bytes own nm maxL ret Z) {i : Fin 4} {v : Int32} (hd : decode bytes pc = .ok (.istore_n i, 1)) (hl : storeLocals L i.val (.int v) = some L') (hpc : pc + 1 = pc') (go : Go B n0 Q h k n pc' L' st) : Go B n0 Q h k n pc L (.int v :: st) := go.step fun T locs X eT t q => Jvm.Free.XS.istoreN X.here C.2.2.1 rfl (hb C.2.2.2.1 hd) rfl hl (by subst hpc; exact q)
theorem g_istore (C : Ctx B l rm bytes own nm maxL ret Z) {i : Nat} {v : Int32} (hd : decode bytes pc = .ok (.istore i, 2)) (hl : storeLocals L i (.int v) = some L') (hpc : pc + 2 = pc') (go : Go B n0 Q h k n pc' L' st) : Go B n0 Q h k n pc L (.int v :: st) := go.step fun T locs X eT t q => Jvm.Free.XS.istore X.here C.2.2.1 rfl (hb C.2.2.2.1 hd) rfl hl (by subst hpc; exact q)
theorem g_lstore_n (C : Ctx B l rm bytes own nm maxL ret Z) {i : Fin 4} {v : Int64} (hd : decode bytes pc = .ok (.lstore_n i, 1)) (hl : storeLocals L i.val (.long v) = some L') (hpc : pc + 1 = pc') (go : Go B n0 Q h k n pc' L' st) : Go B n0 Q h k n pc L (.long v :: st) := go.step fun T locs X eT t q => Jvm.Free.XT.lstoreN X.here C.2.2.1 rfl (hb C.2.2.2.1 hd) rfl hl (by subst hpc; exact q)
theorem g_lstore (C : Ctx B l rm bytes own nm maxL ret Z) {i : Nat} {v : Int64} (hd : decode bytes pc = .ok (.lstore i, 2)) (hl : storeLocals L i (.long v) = some L') (hpc : pc + 2 = pc') (go : Go B n0 Q h k n pc' L' st) : Go B n0 Q h k n pc L (.long v :: st) := go.step fun T locs X eT t q => Jvm.Free.XT.lstore X.here C.2.2.1 rfl (hb C.2.2.2.1 hd) rfl hl (by subst hpc; exact q)
theorem g_astore_n (C : Ctx B l rm bytes own nm maxL ret Z) {i : Fin 4} {v : Value} (hd : decode bytes pc = .ok (.astore_n i, 1)) (hl : storeLocals L i.val v = some L') (hv : v.isRef = true) (hpc : pc + 1 = pc') (go : Go B n0 Q h k n pc' L' st) : Go B n0 Q h k n pc L (v :: st) := go.step fun T locs X eT t q => Jvm.Free.XS.astoreN X.here C.2.2.1 rfl (hb C.2.2.2.1 hd) rfl hv hl (by subst hpc; exact q)
theorem g_astore (C : Ctx B l rm bytes own nm maxL ret Z) {i : Nat} {v : Value} (hd : decode bytes pc = .ok (.astore i, 2)) (hl : storeLocals L i v = some L') (hv : v.isRef = true) (hpc : pc + 2 = pc') (go : Go B n0 Q h k n pc' L' st) : Go B n0 Q h k n pc L (v :: st) := go.step fun T locs X eT t q => Jvm.Free.XS.astore X.here C.2.2.1 rfl (hb C.2.2.2.1 hd) rfl hv hl (by subst hpc; exact q)
theorem g_iinc (C : Ctx B l rm bytes own nm maxL ret Z) {i : Nat} {z : Int} {v w : Int32} (hd : decode bytes pc = .ok (.iinc i z, 3)) (hl : L[i]? = some (.val (.int v))) (hw : v + Int32.ofInt z = w) (hl' : storeLocals L i (.int w) = some L') (hpc : pc + 3 = pc') (go : Go B n0 Q h k n pc' L' st) : Go B n0 Q h k n pc L st := go.step fun T locs X eT t q => Jvm.Free.XS.iinc X.here C.2.2.1 rfl (hb C.2.2.2.1 hd) hl (by rw [hw]; exact hl') (by subst hpc; exact q)
theorem g_iconst (C : Ctx B l rm bytes own nm maxL ret Z) {z : Int} {v : Int32} (hd : decode bytes pc = .ok (.iconst z, 1)) (hv : Int32.ofInt z = v) (hpc : pc + 1 = pc') (go : Go B n0 Q h k n pc' L (.int v :: st)) : Go B n0 Q h k n pc L st := go.step fun T locs X eT t q => Jvm.Free.XS.iconst X.here C.2.2.1 rfl (hb C.2.2.2.1 hd) (by subst hpc hv; exact q)
theorem g_bipush (C : Ctx B l rm bytes own nm maxL ret Z) {z : Int} {v : Int32} (hd : decode bytes pc = .ok (.bipush z, 2)) (hv : (Int8.ofInt z).toInt32 = v) (hpc : pc + 2 = pc') (go : Go B n0 Q h k n pc' L (.int v :: st)) : Go B n0 Q h k n pc L st := go.step fun T locs X eT t q => Jvm.Free.XS.bipush X.here C.2.2.1 rfl (hb C.2.2.2.1 hd) (by subst hpc hv; exact q)
theorem g_lconst (C : Ctx B l rm bytes own nm maxL ret Z) {i : Fin 2} {v : Int64} (hd : decode bytes pc = .ok (.lconst i, 1)) (hv : Int64.ofNat i = v) (hpc : pc + 1 = pc') (go : Go B n0 Q h k n pc' L (.long v :: st)) : Go B n0 Q h k n pc L st := go.step fun T locs X eT t q => Jvm.Free.XT.lconst X.here C.2.2.1 rfl (hb C.2.2.2.1 hd) (by subst hpc hv; exact q)
theorem g_aconst_null (C : Ctx B l rm bytes own nm maxL ret Z)  (hd : decode bytes pc = .ok (.aconst_null, 1))  (hpc : pc + 1 = pc') (go : Go B n0 Q h k n pc' L (.null :: st)) : Go B n0 Q h k n pc L st := go.step fun T locs X eT t q => Jvm.Free.XS.aconstNull X.here C.2.2.1 rfl (hb C.2.2.2.1 hd)  (by subst hpc; exact q)
theorem g_iadd (C : Ctx B l rm bytes own nm maxL ret Z) {x y : Int32} (hd : decode bytes pc = .ok (.iadd, 1))  (hpc : pc + 1 = pc') (go : Go B n0 Q h k n pc' L (.int (x + y) :: st)) : Go B n0 Q h k n pc L (.int y :: .int x :: st) := go.step fun T locs X eT t q => Jvm.Free.XS.iadd X.here C.2.2.1 rfl (hb C.2.2.2.1 hd) rfl (by subst hpc; exact q)
theorem g_isub (C : Ctx B l rm bytes own nm maxL ret Z) {x y : Int32} (hd : decode bytes pc = .ok (.isub, 1))  (hpc : pc + 1 = pc') (go : Go B n0 Q h k n pc' L (.int (x - y) :: st)) : Go B n0 Q h k n pc L (.int y :: .int x :: st) := go.step fun T locs X eT t q => Jvm.Free.XS.isub X.here C.2.2.1 rfl (hb C.2.2.2.1 hd) rfl (by subst hpc; exact q)
theorem g_iand (C : Ctx B l rm bytes own nm maxL ret Z) {x y : Int32} (hd : decode bytes pc = .ok (.iand, 1))  (hpc : pc + 1 = pc') (go : Go B n0 Q h k n pc' L (.int (x &&& y) :: st)) : Go B n0 Q h k n pc L (.int y :: .int x :: st) := go.step fun T locs X eT t q => Jvm.Free.XS.iand X.here C.2.2.1 rfl (hb C.2.2.2.1 hd) rfl (by subst hpc; exact q)
theorem g_imul (C : Ctx B l rm bytes own nm maxL ret Z) {x y : Int32} (hd : decode bytes pc = .ok (.imul, 1))  (hpc : pc + 1 = pc') (go : Go B n0 Q h k n pc' L (.int (x * y) :: st)) : Go B n0 Q h k n pc L (.int y :: .int x :: st) := go.step fun T locs X eT t q => Jvm.Free.XS.imul X.here C.2.2.1 rfl (hb C.2.2.2.1 hd) rfl (by subst hpc; exact q)
theorem g_ixor (C : Ctx B l rm bytes own nm maxL ret Z) {x y : Int32} (hd : decode bytes pc = .ok (.ixor, 1))  (hpc : pc + 1 = pc') (go : Go B n0 Q h k n pc' L (.int (x ^^^ y) :: st)) : Go B n0 Q h k n pc L (.int y :: .int x :: st) := go.step fun T locs X eT t q => Jvm.Free.XT.ixor X.here C.2.2.1 rfl (hb C.2.2.2.1 hd) rfl (by subst hpc; exact q)
theorem g_ior (C : Ctx B l rm bytes own nm maxL ret Z) {x y : Int32} (hd : decode bytes pc = .ok (.ior, 1))  (hpc : pc + 1 = pc') (go : Go B n0 Q h k n pc' L (.int (x ||| y) :: st)) : Go B n0 Q h k n pc L (.int y :: .int x :: st) := go.step fun T locs X eT t q => Jvm.Free.XT.ior X.here C.2.2.1 rfl (hb C.2.2.2.1 hd) rfl (by subst hpc; exact q)
theorem g_ishl (C : Ctx B l rm bytes own nm maxL ret Z) {x y : Int32} (hd : decode bytes pc = .ok (.ishl, 1))  (hpc : pc + 1 = pc') (go : Go B n0 Q h k n pc' L (.int (x <<< (y &&& 31)) :: st)) : Go B n0 Q h k n pc L (.int y :: .int x :: st) := go.step fun T locs X eT t q => Jvm.Free.XT.ishl X.here C.2.2.1 rfl (hb C.2.2.2.1 hd) rfl (by subst hpc; exact q)
theorem g_ishr (C : Ctx B l rm bytes own nm maxL ret Z) {x y : Int32} (hd : decode bytes pc = .ok (.ishr, 1))  (hpc : pc + 1 = pc') (go : Go B n0 Q h k n pc' L (.int (x >>> (y &&& 31)) :: st)) : Go B n0 Q h k n pc L (.int y :: .int x :: st) := go.step fun T locs X eT t q => Jvm.Free.XT.ishr X.here C.2.2.1 rfl (hb C.2.2.2.1 hd) rfl (by subst hpc; exact q)
theorem g_iushr (C : Ctx B l rm bytes own nm maxL ret Z) {x y : Int32} (hd : decode bytes pc = .ok (.iushr, 1))  (hpc : pc + 1 = pc') (go : Go B n0 Q h k n pc' L (.int (Jvm.Free.XT.ushr x y) :: st)) : Go B n0 Q h k n pc L (.int y :: .int x :: st) := go.step fun T locs X eT t q => Jvm.Free.XT.iushr X.here C.2.2.1 rfl (hb C.2.2.2.1 hd) rfl (by subst hpc; exact q)
theorem g_idiv (C : Ctx B l rm bytes own nm maxL ret Z) {x y : Int32} (hd : decode bytes pc = .ok (.idiv, 1)) (hy : y ≠ 0) (hpc : pc + 1 = pc') (go : Go B n0 Q h k n pc' L (.int (x / y) :: st)) : Go B n0 Q h k n pc L (.int y :: .int x :: st) := go.step fun T locs X eT t q => Jvm.Free.XS.idiv X.here C.2.2.1 rfl (hb C.2.2.2.1 hd) rfl hy (by subst hpc; exact q)
theorem g_irem (C : Ctx B l rm bytes own nm maxL ret Z) {x y : Int32} (hd : decode bytes pc = .ok (.irem, 1)) (hy : y ≠ 0) (hpc : pc + 1 = pc') (go : Go B n0 Q h k n pc' L (.int (x - (x / y) * y) :: st)) : Go B n0 Q h k n pc L (.int y :: .int x :: st) := go.step fun T locs X eT t q => Jvm.Free.XS.irem X.here C.2.2.1 rfl (hb C.2.2.2.1 hd) rfl hy (by subst hpc; exact q)
theorem g_ineg (C : Ctx B l rm bytes own nm maxL ret Z) {x : Int32} (hd : decode bytes pc = .ok (.ineg, 1))  (hpc : pc + 1 = pc') (go : Go B n0 Q h k n pc' L (.int (-x) :: st)) : Go B n0 Q h k n pc L (.int x :: st) := go.step fun T locs X eT t q => Jvm.Free.XS.ineg X.here C.2.2.1 rfl (hb C.2.2.2.1 hd) rfl (by subst hpc; exact q)
theorem g_ladd (C : Ctx B l rm bytes own nm maxL ret Z) {x y : Int64} (hd : decode bytes pc = .ok (.ladd, 1))  (hpc : pc + 1 = pc') (go : Go B n0 Q h k n pc' L (.long (x + y) :: st)) : Go B n0 Q h k n pc L (.long y :: .long x :: st) := go.step fun T locs X eT t q => Jvm.Free.XT.ladd X.here C.2.2.1 rfl (hb C.2.2.2.1 hd) rfl (by subst hpc; exact q)
theorem g_lsub (C : Ctx B l rm bytes own nm maxL ret Z) {x y : Int64} (hd : decode bytes pc = .ok (.lsub, 1))  (hpc : pc + 1 = pc') (go : Go B n0 Q h k n pc' L (.long (x - y) :: st)) : Go B n0 Q h k n pc L (.long y :: .long x :: st) := go.step fun T locs X eT t q => Jvm.Free.XT.lsub X.here C.2.2.1 rfl (hb C.2.2.2.1 hd) rfl (by subst hpc; exact q)
theorem g_lmul (C : Ctx B l rm bytes own nm maxL ret Z) {x y : Int64} (hd : decode bytes pc = .ok (.lmul, 1))  (hpc : pc + 1 = pc') (go : Go B n0 Q h k n pc' L (.long (x * y) :: st)) : Go B n0 Q h k n pc L (.long y :: .long x :: st) := go.step fun T locs X eT t q => Jvm.Free.XT.lmul X.here C.2.2.1 rfl (hb C.2.2.2.1 hd) rfl (by subst hpc; exact q)
theorem g_land (C : Ctx B l rm bytes own nm maxL ret Z) {x y : Int64} (hd : decode bytes pc = .ok (.land, 1))  (hpc : pc + 1 = pc') (go : Go B n0 Q h k n pc' L (.long (x &&& y) :: st)) : Go B n0 Q h k n pc L (.long y :: .long x :: st) := go.step fun T locs X eT t q => Jvm.Free.XT.land X.here C.2.2.1 rfl (hb C.2.2.2.1 hd) rfl (by subst hpc; exact q)
theorem g_lor (C : Ctx B l rm bytes own nm maxL ret Z) {x y : Int64} (hd : decode bytes pc = .ok (.lor, 1))  (hpc : pc + 1 = pc') (go : Go B n0 Q h k n pc' L (.long (x ||| y) :: st)) : Go B n0 Q h k n pc L (.long y :: .long x :: st) := go.step fun T locs X eT t q => Jvm.Free.XT.lor X.here C.2.2.1 rfl (hb C.2.2.2.1 hd) rfl (by subst hpc; exact q)
theorem g_lxor (C : Ctx B l rm bytes own nm maxL ret Z) {x y : Int64} (hd : decode bytes pc = .ok (.lxor, 1))  (hpc : pc + 1 = pc') (go : Go B n0 Q h k n pc' L (.long (x ^^^ y) :: st)) : Go B n0 Q h k n pc L (.long y :: .long x :: st) := go.step fun T locs X eT t q => Jvm.Free.XT.lxor X.here C.2.2.1 rfl (hb C.2.2.2.1 hd) rfl (by subst hpc; exact q)
theorem g_ldiv (C : Ctx B l rm bytes own nm maxL ret Z) {x y : Int64} (hd : decode bytes pc = .ok (.ldiv, 1)) (hy : y ≠ 0) (hpc : pc + 1 = pc') (go : Go B n0 Q h k n pc' L (.long (x / y) :: st)) : Go B n0 Q h k n pc L (.long y :: .long x :: st) := go.step fun T locs X eT t q => Jvm.Free.XT.ldiv X.here C.2.2.1 rfl (hb C.2.2.2.1 hd) rfl hy (by subst hpc; exact q)
theorem g_lrem (C : Ctx B l rm bytes own nm maxL ret Z) {x y : Int64} (hd : decode bytes pc = .ok (.lrem, 1)) (hy : y ≠ 0) (hpc : pc + 1 = pc') (go : Go B n0 Q h k n pc' L (.long (x - (x / y) * y) :: st)) : Go B n0 Q h k n pc L (.long y :: .long x :: st) := go.step fun T locs X eT t q => Jvm.Free.XT.lrem X.here C.2.2.1 rfl (hb C.2.2.2.1 hd) rfl hy (by subst hpc; exact q)
theorem g_lneg (C : Ctx B l rm bytes own nm maxL ret Z) {x : Int64} (hd : decode bytes pc = .ok (.lneg, 1))  (hpc : pc + 1 = pc') (go : Go B n0 Q h k n pc' L (.long (-x) :: st)) : Go B n0 Q h k n pc L (.long x :: st) := go.step fun T locs X eT t q => Jvm.Free.XT.lneg X.here C.2.2.1 rfl (hb C.2.2.2.1 hd) rfl (by subst hpc; exact q)
theorem g_lshl (C : Ctx B l rm bytes own nm maxL ret Z) {x : Int64} {y : Int32} (hd : decode bytes pc = .ok (.lshl, 1))  (hpc : pc + 1 = pc') (go : Go B n0 Q h k n pc' L (.long (x <<< (y.toInt64 &&& 63)) :: st)) : Go B n0 Q h k n pc L (.int y :: .long x :: st) := go.step fun T locs X eT t q => Jvm.Free.XT.lshl X.here C.2.2.1 rfl (hb C.2.2.2.1 hd) rfl (by subst hpc; exact q)
theorem g_lshr (C : Ctx B l rm bytes own nm maxL ret Z) {x : Int64} {y : Int32} (hd : decode bytes pc = .ok (.lshr, 1))  (hpc : pc + 1 = pc') (go : Go B n0 Q h k n pc' L (.long (x >>> (y.toInt64 &&& 63)) :: st)) : Go B n0 Q h k n pc L (.int y :: .long x :: st) := go.step fun T locs X eT t q => Jvm.Free.XT.lshr X.here C.2.2.1 rfl (hb C.2.2.2.1 hd) rfl (by subst hpc; exact q)
theorem g_lushr (C : Ctx B l rm bytes own nm maxL ret Z) {x : Int64} {y : Int32} (hd : decode bytes pc = .ok (.lushr, 1))  (hpc : pc + 1 = pc') (go : Go B n0 Q h k n pc' L (.long (Jvm.Free.XT.ushrL x y) :: st)) : Go B n0 Q h k n pc L (.int y :: .long x :: st) := go.step fun T locs X eT t q => Jvm.Free.XT.lushr X.here C.2.2.1 rfl (hb C.2.2.2.1 hd) rfl (by subst hpc; exact q)
theorem g_lcmp (C : Ctx B l rm bytes own nm maxL ret Z) {x y : Int64} (hd : decode bytes pc = .ok (.lcmp, 1))  (hpc : pc + 1 = pc') (go : Go B n0 Q h k n pc' L (.int (Jvm.Free.XT.cmpL x y) :: st)) : Go B n0 Q h k n pc L (.long y :: .long x :: st) := go.step fun T locs X eT t q => Jvm.Free.XT.lcmp X.here C.2.2.1 rfl (hb C.2.2.2.1 hd) rfl (by subst hpc; exact q)
theorem g_i2l (C : Ctx B l rm bytes own nm maxL ret Z) {x : Int32} (hd : decode bytes pc = .ok (.i2l, 1))  (hpc : pc + 1 = pc') (go : Go B n0 Q h k n pc' L (.long (x.toInt64) :: st)) : Go B n0 Q h k n pc L (.int x :: st) := go.step fun T locs X eT t q => Jvm.Free.XT.i2l X.here C.2.2.1 rfl (hb C.2.2.2.1 hd) rfl (by subst hpc; exact q)
theorem g_l2i (C : Ctx B l rm bytes own nm maxL ret Z) {x : Int64} (hd : decode bytes pc = .ok (.l2i, 1))  (hpc : pc + 1 = pc') (go : Go B n0 Q h k n pc' L (.int (x.toInt32) :: st)) : Go B n0 Q h k n pc L (.long x :: st) := go.step fun T locs X eT t q => Jvm.Free.XT.l2i X.here C.2.2.1 rfl (hb C.2.2.2.1 hd) rfl (by subst hpc; exact q)
theorem g_i2b (C : Ctx B l rm bytes own nm maxL ret Z) {x : Int32} (hd : decode bytes pc = .ok (.i2b, 1))  (hpc : pc + 1 = pc') (go : Go B n0 Q h k n pc' L (.int (x.toInt8.toInt32) :: st)) : Go B n0 Q h k n pc L (.int x :: st) := go.step fun T locs X eT t q => Jvm.Free.XT.i2b X.here C.2.2.1 rfl (hb C.2.2.2.1 hd) rfl (by subst hpc; exact q)
theorem g_i2c (C : Ctx B l rm bytes own nm maxL ret Z) {x : Int32} (hd : decode bytes pc = .ok (.i2c, 1))  (hpc : pc + 1 = pc') (go : Go B n0 Q h k n pc' L (.int (x.toUInt32.toUInt16.toUInt32.toInt32) :: st)) : Go B n0 Q h k n pc L (.int x :: st) := go.step fun T locs X eT t q => Jvm.Free.XT.i2c X.here C.2.2.1 rfl (hb C.2.2.2.1 hd) rfl (by subst hpc; exact q)
theorem g_i2s (C : Ctx B l rm bytes own nm maxL ret Z) {x : Int32} (hd : decode bytes pc = .ok (.i2s, 1))  (hpc : pc + 1 = pc') (go : Go B n0 Q h k n pc' L (.int (x.toInt16.toInt32) :: st)) : Go B n0 Q h k n pc L (.int x :: st) := go.step fun T locs X eT t q => Jvm.Free.XT.i2s X.here C.2.2.1 rfl (hb C.2.2.2.1 hd) rfl (by subst hpc; exact q)
theorem g_dup (C : Ctx B l rm bytes own nm maxL ret Z) {x : Value} (hd : decode bytes pc = .ok (.dup, 1)) (hc : x.category = 1) (hpc : pc + 1 = pc') (go : Go B n0 Q h k n pc' L (x :: x :: st)) : Go B n0 Q h k n pc L (x :: st) := go.step fun T locs X eT t q => Jvm.Free.XS.dup X.here C.2.2.1 rfl (hb C.2.2.2.1 hd) rfl hc (by subst hpc; exact q)
theorem g_pop (C : Ctx B l rm bytes own nm maxL ret Z) {x : Value} (hd : decode bytes pc = .ok (.pop, 1)) (hc : x.category = 1) (hpc : pc + 1 = pc') (go : Go B n0 Q h k n pc' L st) : Go B n0 Q h k n pc L (x :: st) := go.step fun T locs X eT t q => Jvm.Free.XT.pop X.here C.2.2.1 rfl (hb C.2.2.2.1 hd) rfl hc (by subst hpc; exact q)
theorem g_dup_x1 (C : Ctx B l rm bytes own nm maxL ret Z) {x y : Value} (hd : decode bytes pc = .ok (.dup_x1, 1)) (hc : x.category = 1) (hc' : y.category = 1) (hpc : pc + 1 = pc') (go : Go B n0 Q h k n pc' L (x :: y :: x :: st)) : Go B n0 Q h k n pc L (x :: y :: st) := go.step fun T locs X eT t q => Jvm.Free.XT.dupX1 X.here C.2.2.1 rfl (hb C.2.2.2.1 hd) rfl hc hc' (by subst hpc; exact q)
theorem g_dup2 (C : Ctx B l rm bytes own nm maxL ret Z) {x y : Value} (hd : decode bytes pc = .ok (.dup2, 1)) (hc : x.category = 1) (hc' : y.category = 1) (hpc : pc + 1 = pc') (go : Go B n0 Q h k n pc' L (x :: y :: x :: y :: st)) : Go B n0 Q h k n pc L (x :: y :: st) := go.step fun T locs X eT t q => Jvm.Free.XT.dup2 X.here C.2.2.1 rfl (hb C.2.2.2.1 hd) rfl hc hc' (by subst hpc; exact q)
theorem g_dup2L (C : Ctx B l rm bytes own nm maxL ret Z) {x : Int64} (hd : decode bytes pc = .ok (.dup2, 1))  (hpc : pc + 1 = pc') (go : Go B n0 Q h k n pc' L (.long x :: .long x :: st)) : Go B n0 Q h k n pc L (.long x :: st) := go.step fun T locs X eT t q => Jvm.Free.XT.dup2L X.here C.2.2.1 rfl (hb C.2.2.2.1 hd) rfl (by subst hpc; exact q)
theorem g_goto (C : Ctx B l rm bytes own nm maxL ret Z) {o : Int} (hd : decode bytes pc = .ok (.goto o, 3)) (ho : 0 ≤ (pc : Int) + o) (hp : ((pc : Int) + o).toNat = pc') (go : Go B n0 Q h k n pc' L st) : Go B n0 Q h k n pc L st := go.step fun T locs X eT t q => Jvm.Free.XS.goto X.here C.2.2.1 rfl rfl (hb C.2.2.2.1 hd) ho hp q
theorem g_if_y (C : Ctx B l rm bytes own nm maxL ret Z) {cd : ClassFile.Cond} {x : Int32} {o : Int} (hd : decode bytes pc = .ok (.ifCond cd o, 3)) (hc : ifCond.holds cd x = true) (ho : 0 ≤ (pc : Int) + o) (hp : ((pc : Int) + o).toNat = pc') (go : Go B n0 Q h k n pc' L st) : Go B n0 Q h k n pc L (.int x :: st) := go.step fun T locs X eT t q => Jvm.Free.XS.ifYes X.here C.2.2.1 rfl rfl (hb C.2.2.2.1 hd) rfl hc ho hp q
theorem g_if_n (C : Ctx B l rm bytes own nm maxL ret Z) {cd : ClassFile.Cond} {x : Int32} {o : Int} (hd : decode bytes pc = .ok (.ifCond cd o, 3)) (hc : ifCond.holds cd x = false) (hpc : pc + 3 = pc') (go : Go B n0 Q h k n pc' L st) : Go B n0 Q h k n pc L (.int x :: st) := go.step fun T locs X eT t q => Jvm.Free.XS.ifNo X.here C.2.2.1 rfl (hb C.2.2.2.1 hd) rfl hc (by subst hpc; exact q)
theorem g_icmp_y (C : Ctx B l rm bytes own nm maxL ret Z) {cd : ClassFile.Cond} {x y : Int32} {o : Int} (hd : decode bytes pc = .ok (.if_icmp cd o, 3)) (hc : if_icmp.holds cd x y = true) (ho : 0 ≤ (pc : Int) + o) (hp : ((pc : Int) + o).toNat = pc') (go : Go B n0 Q h k n pc' L st) : Go B n0 Q h k n pc L (.int y :: .int x :: st) := go.step fun T locs X eT t q => Jvm.Free.XS.icmpYes X.here C.2.2.1 rfl rfl (hb C.2.2.2.1 hd) rfl hc ho hp q
theorem g_icmp_n (C : Ctx B l rm bytes own nm maxL ret Z) {cd : ClassFile.Cond} {x y : Int32} {o : Int} (hd : decode bytes pc = .ok (.if_icmp cd o, 3)) (hc : if_icmp.holds cd x y = false) (hpc : pc + 3 = pc') (go : Go B n0 Q h k n pc' L st) : Go B n0 Q h k n pc L (.int y :: .int x :: st) := go.step fun T locs X eT t q => Jvm.Free.XS.icmpNo X.here C.2.2.1 rfl (hb C.2.2.2.1 hd) rfl hc (by subst hpc; exact q)
theorem g_acmp_y (C : Ctx B l rm bytes own nm maxL ret Z) {cd : ClassFile.ACond} {x y : Value} {o : Int} (hd : decode bytes pc = .ok (.if_acmp cd o, 3)) (hc1 : x.isRef = true) (hc2 : y.isRef = true) (hc : Jvm.Free.XT.acmp cd x y = true) (ho : 0 ≤ (pc : Int) + o) (hp : ((pc : Int) + o).toNat = pc') (go : Go B n0 Q h k n pc' L st) : Go B n0 Q h k n pc L (y :: x :: st) := go.step fun T locs X eT t q => Jvm.Free.XT.acmpYes X.here C.2.2.1 rfl rfl (hb C.2.2.2.1 hd) rfl hc1 hc2 hc ho hp q
theorem g_acmp_n (C : Ctx B l rm bytes own nm maxL ret Z) {cd : ClassFile.ACond} {x y : Value} {o : Int} (hd : decode bytes pc = .ok (.if_acmp cd o, 3)) (hc1 : x.isRef = true) (hc2 : y.isRef = true) (hc : Jvm.Free.XT.acmp cd x y = false) (hpc : pc + 3 = pc') (go : Go B n0 Q h k n pc' L st) : Go B n0 Q h k n pc L (y :: x :: st) := go.step fun T locs X eT t q => Jvm.Free.XT.acmpNo X.here C.2.2.1 rfl (hb C.2.2.2.1 hd) rfl hc1 hc2 hc (by subst hpc; exact q)
theorem g_ifnull_y (C : Ctx B l rm bytes own nm maxL ret Z) {o : Int} (hd : decode bytes pc = .ok (.ifnull o, 3)) (ho : 0 ≤ (pc : Int) + o) (hp : ((pc : Int) + o).toNat = pc') (go : Go B n0 Q h k n pc' L st) : Go B n0 Q h k n pc L (.null :: st) := go.step fun T locs X eT t q => Jvm.Free.XS.ifnullYes X.here C.2.2.1 rfl rfl (hb C.2.2.2.1 hd) rfl ho hp q
theorem g_ifnull_n (C : Ctx B l rm bytes own nm maxL ret Z) {o : Int} {b : Addr} (hd : decode bytes pc = .ok (.ifnull o, 3)) (hpc : pc + 3 = pc') (go : Go B n0 Q h k n pc' L st) : Go B n0 Q h k n pc L (.ref b :: st) := go.step fun T locs X eT t q => Jvm.Free.XS.ifnullNo X.here C.2.2.1 rfl (hb C.2.2.2.1 hd) rfl (by subst hpc; exact q)
theorem g_ifnonnull_y (C : Ctx B l rm bytes own nm maxL ret Z) {o : Int} {b : Addr} (hd : decode bytes pc = .ok (.ifnonnull o, 3)) (ho : 0 ≤ (pc : Int) + o) (hp : ((pc : Int) + o).toNat = pc') (go : Go B n0 Q h k n pc' L st) : Go B n0 Q h k n pc L (.ref b :: st) := go.step fun T locs X eT t q => Jvm.Free.XT.ifnonnullYes X.here C.2.2.1 rfl rfl (hb C.2.2.2.1 hd) rfl ho hp q
theorem g_ifnonnull_n (C : Ctx B l rm bytes own nm maxL ret Z) {o : Int} (hd : decode bytes pc = .ok (.ifnonnull o, 3)) (hpc : pc + 3 = pc') (go : Go B n0 Q h k n pc' L st) : Go B n0 Q h k n pc L (.null :: st) := go.step fun T locs X eT t q => Jvm.Free.XT.ifnonnullNo X.here C.2.2.1 rfl (hb C.2.2.2.1 hd) rfl (by subst hpc; exact q)
theorem g_ldc (C : Ctx B l rm bytes own nm maxL ret Z) {i : Nat} {v : Int32} (w : (Jvm.Cond.constant own i v).before a0 Z = true) (hd : decode bytes pc = .ok (.ldc i, 2)) (hpc : pc + 2 = pc') (go : Go B n0 Q h k n pc' L (.int v :: st)) : Go B n0 Q h k n pc L st := go.step fun T locs X eT t q => X.ldcInt C.2.2.1 C.2.2.2.2.2.1 (mvT C.2.2.2.2.1 w) (g := mkF B.m pc L st) rfl (hb C.2.2.2.1 hd) t (by subst hpc; exact q)
theorem g_ldc_w (C : Ctx B l rm bytes own nm maxL ret Z) {i : Nat} {v : Int32} (w : (Jvm.Cond.constant own i v).before a0 Z = true) (hd : decode bytes pc = .ok (.ldc_w i, 3)) (hpc : pc + 3 = pc') (go : Go B n0 Q h k n pc' L (.int v :: st)) : Go B n0 Q h k n pc L st := go.step fun T locs X eT t q => X.ldcwInt C.2.2.1 C.2.2.2.2.2.1 (mvT C.2.2.2.2.1 w) (g := mkF B.m pc L st) rfl (hb C.2.2.2.1 hd) t (by subst hpc; exact q)
theorem g_ldc2_w (C : Ctx B l rm bytes own nm maxL ret Z) {i : Nat} {v : Int64} (w : (Jvm.Cond.constantLong own i v).before a0 Z = true) (hd : decode bytes pc = .ok (.ldc2_w i, 3)) (hpc : pc + 3 = pc') (go : Go B n0 Q h k n pc' L (.long v :: st)) : Go B n0 Q h k n pc L st := go.step fun T locs X eT t q => X.ldc2Long C.2.2.1 C.2.2.2.2.2.1 (mvT C.2.2.2.2.1 w) (g := mkF B.m pc L st) rfl (hb C.2.2.2.1 hd) t (by subst hpc; exact q)
theorem g_getfield (C : Ctx B l rm bytes own nm maxL ret Z) {i : Nat} {R0 O fn d host : String} {a : Addr} {v : Value} (w : (Jvm.Cond.fieldLink own i R0 fn d).before a0 Z = true ∨ (Jvm.Cond.fieldLinkNest own i R0 fn d host).before a0 Z = true) (via : Via Z R0 O fn d) (F : Fld Z h a O fn d v) (hd : decode bytes pc = .ok (.getfield i, 3)) (hpc : pc + 3 = pc') (go : Go B n0 Q h k n pc' L (v :: st)) : Go B n0 Q h k n pc L (.ref a :: st) := go.move fun T locs X eT => by
  obtain ⟨T', X', e', f⟩ := getF X C.2.2.1 C.2.2.2.2.1 C.2.2.2.2.2.1 w via eT F (g := mkF B.m pc L (.ref a :: st)) rfl rfl (hb C.2.2.2.1 hd)
  subst hpc; exact ⟨T', X', e', f⟩
theorem g_getstatic (C : Ctx B l rm bytes own nm maxL ret Z) {i : Nat} {R0 O fn d host : String} {v : Value} (w : (Jvm.Cond.fieldLink own i R0 fn d).before a0 Z = true ∨ (Jvm.Cond.fieldLinkNest own i R0 fn d host).before a0 Z = true) (via : Via Z R0 O fn d) (F : Sta Z h O fn d v) (hd : decode bytes pc = .ok (.getstatic i, 3)) (hpc : pc + 3 = pc') (go : Go B n0 Q h k n pc' L (v :: st)) : Go B n0 Q h k n pc L st := go.move fun T locs X eT => by
  obtain ⟨T', X', e', f⟩ := getS2 X C.2.2.1 C.2.2.2.2.1 C.2.2.2.2.2.1 w via eT F (g := mkF B.m pc L st) rfl (hb C.2.2.2.1 hd)
  subst hpc; exact ⟨T', X', e', f⟩
theorem g_checkcast (C : Ctx B l rm bytes own nm maxL ret Z) {i : Nat} {K : String} {a : Addr} (w : (Jvm.Cond.classLink own i K).before a0 Z = true) (F : Ins Z h a K true) (hd : decode bytes pc = .ok (.checkcast i, 3)) (hpc : pc + 3 = pc') (go : Go B n0 Q h k n pc' L (.ref a :: st)) : Go B n0 Q h k n pc L (.ref a :: st) := go.move fun T locs X eT => by
  obtain ⟨T', X', e', f⟩ := castY X C.2.2.1 C.2.2.2.2.1 C.2.2.2.2.2.1 w eT F (g := mkF B.m pc L (.ref a :: st)) rfl rfl (hb C.2.2.2.1 hd)
  subst hpc; exact ⟨T', X', e', f⟩
theorem g_instanceof_y (C : Ctx B l rm bytes own nm maxL ret Z) {i : Nat} {K : String} {a : Addr} (w : (Jvm.Cond.classLink own i K).before a0 Z = true) (F : Ins Z h a K true) (hd : decode bytes pc = .ok (.instanceof i, 3)) (hpc : pc + 3 = pc') (go : Go B n0 Q h k n pc' L (.int 1 :: st)) : Go B n0 Q h k n pc L (.ref a :: st) := go.move fun T locs X eT => by
  obtain ⟨T', X', e', f⟩ := instY X C.2.2.1 C.2.2.2.2.1 C.2.2.2.2.2.1 w eT F (g := mkF B.m pc L (.ref a :: st)) rfl rfl (hb C.2.2.2.1 hd)
  subst hpc; exact ⟨T', X', e', f⟩
theorem g_instanceof_n (C : Ctx B l rm bytes own nm maxL ret Z) {i : Nat} {K K' : String} {a : Addr} (w : (Jvm.Cond.classLink own i K).before a0 Z = true) (E : Exa Z h a K') (F : ∃ c t, Z.vm.findClass K' = some c ∧ Z.vm.findClass K = some t ∧ Z.vm.assignable c t = false) (hd : decode bytes pc = .ok (.instanceof i, 3)) (hpc : pc + 3 = pc') (go : Go B n0 Q h k n pc' L (.int 0 :: st)) : Go B n0 Q h k n pc L (.ref a :: st) := go.move fun T locs X eT => by
  obtain ⟨T', X', e', f⟩ := instNo X C.2.2.1 C.2.2.2.2.1 C.2.2.2.2.2.1 w eT E F (g := mkF B.m pc L (.ref a :: st)) rfl rfl (hb C.2.2.2.1 hd)
  subst hpc; exact ⟨T', X', e', f⟩
theorem g_putfield (C : Ctx B l rm bytes own nm maxL ret Z) {i kk : Nat} {R0 O fn d host K : String} {ty : FieldType} {a : Addr} {v old : Value} (w : (Jvm.Cond.fieldLink own i R0 fn d).before a0 Z = true ∨ (Jvm.Cond.fieldLinkNest own i R0 fn d host).before a0 Z = true) (via : Via Z R0 O fn d) (F : Fld Z h a O fn d old) (E : Exa Z h a K) (Ly : (Jvm.Cond.lays K O fn d).before a0 Z = true ∨ ((Jvm.Cond.laysFinal K O fn d).before a0 Z = true ∧ own = O ∧ nm = "<init>")) (wi : (Jvm.Cond.instantiable K kk).before a0 Z = true) (hty : parseFieldDescriptor d = some ty) (hn : narrow ty v = v) (hf : fits ty v = true) (ge : n0 ≤ a) (hd : decode bytes pc = .ok (.putfield i, 3)) (hpc : pc + 3 = pc') (go : ∀ h', Wr h h' a (Jvm.RoadKit.slotOf Z O fn d) v → Go B n0 Q h' k n pc' L st) : Go B n0 Q h k n pc L (v :: .ref a :: st) := fun T locs X N eT => by
  obtain ⟨T', h', X', e', W, f⟩ := putF X C.2.2.1 C.2.2.2.2.1 C.2.2.2.2.2.1 w via eT F E (Ly.imp id fun q => ⟨q.1, q.2.1, by rw [C.2.2.2.2.2.2.1]; exact q.2.2⟩) wi hty hn hf (g := mkF B.m pc L (v :: .ref a :: st)) rfl rfl (hb C.2.2.2.1 hd)
  obtain ⟨t, o, q, r⟩ := go h' W T' _ X' (Fr.snoc X' N ge) e'
  subst hpc
  exact ⟨t, o, f t q, r⟩
theorem g_new (C : Ctx B l rm bytes own nm maxL ret Z) {i nn : Nat} {K : String} (w : (Jvm.Cond.classLink own i K).before a0 Z = true) (wi : (Jvm.Cond.instantiable K nn).before a0 Z = true) (wz : (Jvm.Cond.initialized K).before a0 Z = true) (hc : k + 1 ≤ rm.cells) (hl : n + nn ≤ rm.slots) (hd : decode bytes pc = .ok (.new i, 3)) (hpc : pc + 3 = pc') (go : ∀ h' a, a = h.size → Ext h h' → Exa Z h' a K → (∀ {O fn d : String} {ty : FieldType}, Laid Z a0 K O fn d → parseFieldDescriptor d = some ty → Fld Z h' a O fn d (defaultValue ty)) → Go B n0 Q h' (k + 1) (n + nn) pc' L (.ref a :: st)) : Go B n0 Q h k n pc L st := fun T locs X N eT => by
  obtain ⟨T', h', X', e', E, A, D, -, f⟩ := newO X C.2.2.1 C.2.2.2.2.1 C.2.2.2.2.2.1 w wi wz eT (g := mkF B.m pc L st) rfl (hb C.2.2.2.1 hd) (by rw [C.2.1]; exact hc) (by rw [C.2.1]; exact hl)
  obtain ⟨t, o, q, r⟩ := go h' _ rfl E A D T' _ X' N e'
  subst hpc
  exact ⟨t, o, f t q, r⟩
theorem g_initObj (C : Ctx B l rm bytes own nm maxL ret Z) {i : Nat} {a : Addr} (w1 : (Jvm.Cond.methodLink own i Lib.objectInit).before a0 Z = true) (w2 : (Jvm.Cond.instanceMethod Lib.objectInit).before a0 Z = true) (w3 : (Jvm.Cond.code Lib.objectInit ⟨#[0xb1]⟩ 1 none).before a0 Z = true) (hsz : L.size = maxL) (hf : 1 ≤ rm.frames) {W : Nat} (hW : (st.map fun v => v.category).sum ≤ W) (hl : W + 12 ≤ rm.locals) (hd : decode bytes pc = .ok (.invokespecial i, 3)) (hpc : pc + 3 = pc') (go : Go B n0 Q h k n pc' L st) : Go B n0 Q h k n pc L (.ref a :: st) := fun T locs X N eT => by
  obtain ⟨T', X', e', f⟩ := initO X C.2.2.1 C.2.2.2.2.1 C.2.2.2.2.2.1 w1 w2 w3 eT (g := mkF B.m pc L (.ref a :: st)) rfl (by rw [C.2.2.2.2.2.2.2.1]; exact hsz) rfl (hb C.2.2.2.1 hd) (by rw [C.2.1]; exact hf) (W := W) (by show 2 * 0 + _ ≤ _; omega) (by rw [C.2.1]; exact hl)
  obtain ⟨t, o, q, r⟩ := go T' _ X' N e'
  subst hpc
  exact ⟨t, o, f t q, r⟩
theorem g_static (C : Ctx B l rm bytes own nm maxL ret Z) {i : Nat} {y : MethodName} {b' : ByteArray} {mx : Nat} {rt : Option FieldType} {rm' : Room} {as' : Array Value} {Q' : Option Value → Heap → Prop} (w1 : (Jvm.Cond.methodLink own i y).before a0 Z = true) (w2 : (Jvm.Cond.static y).before a0 Z = true) (wz : (Jvm.Cond.initialized y.cls).before a0 Z = true) (wc : (Jvm.Cond.code y b' mx rt).before a0 Z = true) (hy : y.cls ≠ "java/lang/invoke/MethodHandle" ∧ y.cls ≠ "java/lang/invoke/VarHandle") (K : Met1 l Z y b' mx rt rm' n0 as' h Q') (argsL : List Value) {stk : List Value} (hst : stk = argsL.reverse ++ st) (has : as' = argsL.toArray) {ps : List FieldType} {r' : Option FieldType} (pd : parseMethodDescriptor y.desc = some ⟨ps, r'⟩) (hlen : argsL.length = ps.length) (hsz : L.size = maxL) (hf : rm'.frames + 1 ≤ rm.frames) {W : Nat} (hW : (st.map fun v => v.category).sum ≤ W) (hlo : W + (mx + 11) + rm'.locals ≤ rm.locals) (hc : k + rm'.cells ≤ rm.cells) (hs : n + rm'.slots ≤ rm.slots) (hd : decode bytes pc = .ok (.invokestatic i, 3)) (hpc : pc + 3 = pc') (go : ∀ v h', Q' v h' → Go B n0 Q h' (k + rm'.cells) (n + rm'.slots) pc' L (v.toList ++ st)) : Go B n0 Q h k n pc L stk := fun T locs X N eT => by
  subst hst has
  obtain ⟨v, _, ⟨T', L1, k1, n1⟩, -, X', ⟨L2, ⟨N', hq⟩, l1, l2, l3⟩, f⟩ := Jvm.LawKit.callS X C.2.2.1 (y := y) C.2.2.2.2.2.1 (mvT C.2.2.2.2.1 w1) (mvT C.2.2.2.2.1 w2) (mvT C.2.2.2.2.1 wz) (mvT C.2.2.2.2.1 wc) hy (backOf (W := W) (Q := fun v h L => Fr n0 L ∧ Q' v h) (C.1 ▸ K []) C.2.2.2.2.1 wc wz (by rw [C.2.1]; exact hf) (by rw [C.2.1]; exact hlo)) (g := mkF B.m pc L (argsL.reverse ++ st)) rfl (by rw [C.2.2.2.2.2.2.2.1]; exact hsz) (argsL := argsL) (rest := st) (lenOf pd hlen) rfl (by show 2 * 0 + _ ≤ _; omega) (hb C.2.2.2.1 hd) (fun _ _ => ⟨rfl, eT, by rw [C.2.1]; exact hc, by rw [C.2.1]; exact hs⟩)
  dsimp only [Pt.U, Pt.locs, Pt.cells, Pt.slots] at X' l1 l2 l3 f hq
  subst l1 l2 l3
  obtain ⟨t, o, q, r⟩ := go v _ hq T' _ X' (Fr.app N N') rfl
  subst hpc
  exact ⟨t, o, f t q, r⟩
theorem g_special (C : Ctx B l rm bytes own nm maxL ret Z) {i : Nat} {y : MethodName} {b' : ByteArray} {mx : Nat} {rm' : Room} {as' : Array Value} {Q' : Option Value → Heap → Prop} {a : Addr} (hy1 : y.name = "<init>") (w1 : (Jvm.Cond.methodLink own i y).before a0 Z = true) (w2 : (Jvm.Cond.instanceMethod y).before a0 Z = true) (wz : (Jvm.Cond.initialized y.cls).before a0 Z = true) (wc : (Jvm.Cond.code y b' mx none).before a0 Z = true) (hy : y.cls ≠ "java/lang/invoke/MethodHandle" ∧ y.cls ≠ "java/lang/invoke/VarHandle") (K : Met1 l Z y b' mx none rm' n0 as' h Q') (argsL : List Value) {stk : List Value} (hst : stk = argsL.reverse ++ .ref a :: st) (has : as' = (Value.ref a :: argsL).toArray) {ps : List FieldType} {r' : Option FieldType} (pd : parseMethodDescriptor y.desc = some ⟨ps, r'⟩) (hlen : argsL.length = ps.length) (hsz : L.size = maxL) (hf : rm'.frames + 1 ≤ rm.frames) {W : Nat} (hW : (st.map fun v => v.category).sum ≤ W) (hlo : W + (mx + 11) + rm'.locals ≤ rm.locals) (hc : k + rm'.cells ≤ rm.cells) (hs : n + rm'.slots ≤ rm.slots) (hd : decode bytes pc = .ok (.invokespecial i, 3)) (hpc : pc + 3 = pc') (go : ∀ v h', Q' v h' → Go B n0 Q h' (k + rm'.cells) (n + rm'.slots) pc' L (v.toList ++ st)) : Go B n0 Q h k n pc L stk := fun T locs X N eT => by
  subst hst has
  obtain ⟨v, _, ⟨T', L1, k1, n1⟩, -, X', ⟨L2, ⟨N', hq⟩, l1, l2, l3⟩, f⟩ := X.specialBack C.2.2.1 (y := y) hy1 C.2.2.2.2.2.1 (mvT C.2.2.2.2.1 w1) (mvT C.2.2.2.2.1 w2) (mvT C.2.2.2.2.1 wc) hy (backOf (W := W) (Q := fun v h L => Fr n0 L ∧ Q' v h) (C.1 ▸ K []) C.2.2.2.2.1 wc wz (by rw [C.2.1]; exact hf) (by rw [C.2.1]; exact hlo)) (g := mkF B.m pc L (argsL.reverse ++ .ref a :: st)) rfl (by rw [C.2.2.2.2.2.2.2.1]; exact hsz) (Steps.refl _) (a := a) (argsL := argsL) (rest := st) (lenOf pd hlen) rfl (by show 2 * 0 + _ ≤ _; omega) (hb C.2.2.2.1 hd) (fun _ _ => ⟨rfl, eT, by rw [C.2.1]; exact hc, by rw [C.2.1]; exact hs⟩)
  dsimp only [Pt.U, Pt.locs, Pt.cells, Pt.slots] at X' l1 l2 l3 f hq
  subst l1 l2 l3
  obtain ⟨t, o, q, r⟩ := go v _ hq T' _ X' (Fr.app N N') rfl
  subst hpc
  exact ⟨t, o, f.trans q, r⟩
theorem g_virtual (C : Ctx B l rm bytes own nm maxL ret Z) {i : Nat} {y : MethodName} {b' : ByteArray} {mx : Nat} {rt : Option FieldType} {rm' : Room} {as' : Array Value} {Q' : Option Value → Heap → Prop} {a : Addr} {K' : String} {y0 : MethodName} (w1 : (Jvm.Cond.methodLink own i y0).before a0 Z = true) (w2 : (Jvm.Cond.declares y0).before a0 Z = true) (w3 : (Jvm.Cond.selects K' y0 y).before a0 Z = true) (w4 : (Jvm.Cond.instanceMethod y).before a0 Z = true) (wz : (Jvm.Cond.initialized y.cls).before a0 Z = true) (wc : (Jvm.Cond.code y b' mx rt).before a0 Z = true) (nf : NotFace B.s y0) (hy : y0.cls ≠ "java/lang/invoke/MethodHandle" ∧ y0.cls ≠ "java/lang/invoke/VarHandle") (E : Exa Z h a K') (K : Met1 l Z y b' mx rt rm' n0 as' h Q') (argsL : List Value) {stk : List Value} (hst : stk = argsL.reverse ++ .ref a :: st) (has : as' = (Value.ref a :: argsL).toArray) {ps : List FieldType} {r' : Option FieldType} (pd : parseMethodDescriptor y0.desc = some ⟨ps, r'⟩) (hlen : argsL.length = ps.length) (hsz : L.size = maxL) (hf : rm'.frames + 1 ≤ rm.frames) {W : Nat} (hW : (st.map fun v => v.category).sum ≤ W) (hlo : W + (mx + 11) + rm'.locals ≤ rm.locals) (hc : k + rm'.cells ≤ rm.cells) (hs : n + rm'.slots ≤ rm.slots) (hd : decode bytes pc = .ok (.invokevirtual i, 3)) (hpc : pc + 3 = pc') (go : ∀ v h', Q' v h' → Go B n0 Q h' (k + rm'.cells) (n + rm'.slots) pc' L (v.toList ++ st)) : Go B n0 Q h k n pc L stk := fun T locs X N eT => by
  subst hst has
  obtain ⟨cq, kq, qa, qb, qc⟩ := isOf C.2.2.2.2.1 eT E
  obtain ⟨v, _, ⟨T', L1, k1, n1⟩, -, X', ⟨L2, ⟨N', hq⟩, l1, l2, l3⟩, f⟩ := X.virtualBack C.2.2.1 (y := y0) (z := y) C.2.2.2.2.2.1 (mvT C.2.2.2.2.1 w1) (mvT C.2.2.2.2.1 w2) nf (mvT C.2.2.2.2.1 w3) (mvT C.2.2.2.2.1 w4) hy (backOf (W := W) (Q := fun v h L => Fr n0 L ∧ Q' v h) (C.1 ▸ K []) C.2.2.2.2.1 wc wz (by rw [C.2.1]; exact hf) (by rw [C.2.1]; exact hlo)) qa qc (g := mkF B.m pc L (argsL.reverse ++ .ref a :: st)) rfl (by rw [C.2.2.2.2.2.2.2.1]; exact hsz) (Steps.refl _) (argsL := argsL) (rest := st) (lenOf pd hlen) rfl (by show 2 * 0 + _ ≤ _; omega) (hb C.2.2.2.1 hd) (fun _ _ => ⟨rfl, eT, by rw [C.2.1]; exact hc, by rw [C.2.1]; exact hs⟩)
  dsimp only [Pt.U, Pt.locs, Pt.cells, Pt.slots] at X' l1 l2 l3 f hq
  subst l1 l2 l3
  obtain ⟨t, o, q, r⟩ := go v _ hq T' _ X' (Fr.app N N') rfl
  subst hpc
  exact ⟨t, o, f.trans q, r⟩
theorem g_ret (C : Ctx B l rm bytes own nm maxL ret Z) {v : Value} {ty : FieldType} {i : Instr} (hret : ret = some ty) (hn : narrow ty v = v)
    (hi : (i = .ireturn ∧ (ty = .int ∨ ty = .boolean ∨ ty = .byte ∨ ty = .char ∨ ty = .short) ∧ ∃ z, v = .int z) ∨ (i = .lreturn ∧ ty = .long ∧ ∃ z, v = .long z) ∨ (i = .dreturn ∧ ty = .double ∧ ∃ z, v = .double z) ∨ (i = .freturn ∧ ty = .float ∧ ∃ z, v = .float z) ∨ (i = .areturn ∧ ty.isReference = true ∧ v.isRef = true))
    (hd : decode bytes pc = .ok (i, 1)) (hk : k ≤ rm.cells) (hs : n ≤ rm.slots) (go : Q (some v) h) : Go B n0 Q h k n pc L (v :: st) := fun T locs X N eT => by
  have hr0 : B.meth.sig.returnType = some ty := C.2.2.2.2.2.2.2.2.1.trans hret
  obtain ⟨fs, hr, hrun, hended, hW, hsame⟩ := X.leave (v := some v) (fun q => by rw [hr0] at q; cases q) C.2.2.2.2.2.2.2.2.2
  exact ⟨_, _, retOut X C.2.2.1 hr0 hn hi (hb C.2.2.2.1 hd) hr, hrun, hended, _, _, rfl, ⟨N, by show Q _ T.heap; rw [eT]; exact go⟩, ⟨_, rfl⟩, hW, hsame.mono (by rw [C.2.1]; exact hk) (by rw [C.2.1]; exact hs)⟩
theorem g_return (C : Ctx B l rm bytes own nm maxL ret Z) (hret : ret = none) (hd : decode bytes pc = .ok (.return_, 1)) (hk : k ≤ rm.cells) (hs : n ≤ rm.slots) (go : Q none h) : Go B n0 Q h k n pc L [] := fun T locs X N eT => by
  have hr0 : B.meth.sig.returnType = none := C.2.2.2.2.2.2.2.2.1.trans hret
  obtain ⟨fs, hr, hrun, hended, hW, hsame⟩ := X.leave (v := none) (fun _ => rfl) C.2.2.2.2.2.2.2.2.2
  exact ⟨_, _, X.returnOut C.2.2.1 hr0 (hb C.2.2.2.1 hd) hr, hrun, hended, _, _, rfl, ⟨N, by show Q _ T.heap; rw [eT]; exact go⟩, ⟨_, rfl⟩, hW, hsame.mono (by rw [C.2.1]; exact hk) (by rw [C.2.1]; exact hs)⟩
end Base
/-! arrays made on the road -/
section Arrays
variable {Z : State} {h h' : Heap} {a b : Addr} {ty : FieldType} {vs : List Value} {ws : List Addr} {sl : Nat} {v : Value} {K : String}
def Ary (Z : State) (h : Heap) (a : Addr) (ty : FieldType) (vs : List Value) : Prop := ∃ c : Cell, Arr Z h a c ty ∧ c.slots.toList = vs ∧ vs.length < 2 ^ 31
def AryR (Z : State) (h : Heap) (a : Addr) (K : String) (vs : List Value) : Prop := ∃ c : Cell, Arr Z h a c (.object K) ∧ Ovr Z c.cls K ∧ c.slots.toList = vs ∧ vs.length < 2 ^ 31
theorem AryR.ary (F : AryR Z h a K vs) : Ary Z h a (.object K) vs := by obtain ⟨c, A, -, r⟩ := F; exact ⟨c, A, r⟩
theorem Ary.lt (F : Ary Z h a ty vs) : a < h.size := by obtain ⟨c, A, -⟩ := F; exact A.lt
theorem AryR.lt (F : AryR Z h a K vs) : a < h.size := F.ary.lt
theorem Ary.ext (F : Ary Z h a ty vs) (E : Ext h h') : Ary Z h' a ty vs := by obtain ⟨c, A, r⟩ := F; exact ⟨c, A.ext E, r⟩
theorem AryR.ext (F : AryR Z h a K vs) (E : Ext h h') : AryR Z h' a K vs := by obtain ⟨c, A, r⟩ := F; exact ⟨c, A.ext E, r⟩
theorem Ary.keep (F : Ary Z h a ty vs) (K : Keep h h' ws) (q : a ∉ ws) : Ary Z h' a ty vs := by obtain ⟨c, A, r⟩ := F; exact ⟨c, ⟨K.2.1 a c A.1 q, A.2⟩, r⟩
theorem AryR.keep (F : AryR Z h a K vs) (Kp : Keep h h' ws) (q : a ∉ ws) : AryR Z h' a K vs := by obtain ⟨c, A, r⟩ := F; exact ⟨c, ⟨Kp.2.1 a c A.1 q, A.2⟩, r⟩
theorem set_list (c : Cell) (i : Nat) (v : Value) : (c.setSlot i v).slots.toList = c.slots.toList.set i v := by simp [Cell.setSlot]
theorem keep_ext (E : Ext h h') : Keep h h' [] := (Keep.refl h []).ext E
theorem ne_new {c : Nat} (q : a < c) (e : b = c) : a ≠ b := fun z => absurd q (by rw [z, e]; exact Nat.lt_irrefl _)
theorem ne_newL {c : Nat} (q : a < c) (e : b = c) : b ≠ a := fun z => absurd q (by rw [← z, e]; exact Nat.lt_irrefl _)
theorem ne_ge {c : Nat} (q : a < c) (e : c ≤ b) : a ≠ b := fun z => absurd q (Nat.not_lt.mpr (z ▸ e))
theorem nin1 (q : a ≠ b) : a ∉ [b] := ninS q nin0
theorem in_b {j : Int32} {c : Cell} {i : Nat} (h0 : ¬ j < 0) (hj : j.toNatClampNeg = i) (hi : i < c.slots.size) : ¬ (j < 0 ∨ c.slots.size ≤ j.toNatClampNeg) := fun q => q.elim h0 fun q => by omega
end Arrays
section ArraySteps
variable {B : Bod} {l : Launch} {rm : Room} {bytes : ByteArray} {own nm : String} {maxL : Nat} {ret : Option FieldType} {Z : State} {n0 : Nat} {Q : Option Value → Heap → Prop} {h : Heap} {k n pc pc' : Nat} {L L' : Array Slot} {st st' : List Value} {a0 : Array Value}
theorem g_iaload (C : Ctx B l rm bytes own nm maxL ret Z) {a : Addr} {vs : List Value} {j : Int32} {i : Nat} {v : Int32} (F : Ary Z h a .int vs) (h0 : ¬ j < 0) (hj : j.toNatClampNeg = i) (hv : vs[i]? = some (.int v)) (hd : decode bytes pc = .ok (.iaload, 1)) (hpc : pc + 1 = pc') (go : Go B n0 Q h k n pc' L (.int v :: st)) : Go B n0 Q h k n pc L (.int j :: .ref a :: st) := go.step fun T locs X eT t q => by
  obtain ⟨c, A, rfl, hl⟩ := F
  have hi := (List.getElem?_eq_some_iff.mp hv).1
  rw [Array.length_toList] at hi
  rw [Array.getElem?_toList, ← hj] at hv
  exact X.iaload C.2.2.1 (by rw [eT]; exact A.1) (State.isArrayOf_alike C.2.2.2.2.1.alike A.2.1)  A.2.2 (in_b h0 hj hi) hv (g := mkF B.m pc L (.int j :: .ref a :: st)) rfl rfl (hb C.2.2.2.1 hd) t (by subst hpc; exact q)
theorem g_laload (C : Ctx B l rm bytes own nm maxL ret Z) {a : Addr} {vs : List Value} {j : Int32} {i : Nat} {v : Int64} (F : Ary Z h a .long vs) (h0 : ¬ j < 0) (hj : j.toNatClampNeg = i) (hv : vs[i]? = some (.long v)) (hd : decode bytes pc = .ok (.laload, 1)) (hpc : pc + 1 = pc') (go : Go B n0 Q h k n pc' L (.long v :: st)) : Go B n0 Q h k n pc L (.int j :: .ref a :: st) := go.step fun T locs X eT t q => by
  obtain ⟨c, A, rfl, hl⟩ := F
  have hi := (List.getElem?_eq_some_iff.mp hv).1
  rw [Array.length_toList] at hi
  rw [Array.getElem?_toList, ← hj] at hv
  exact X.laload C.2.2.1 (by rw [eT]; exact A.1) (State.isArrayOf_alike C.2.2.2.2.1.alike A.2.1)  A.2.2 (in_b h0 hj hi) hv (g := mkF B.m pc L (.int j :: .ref a :: st)) rfl rfl (hb C.2.2.2.1 hd) t (by subst hpc; exact q)
theorem g_caload (C : Ctx B l rm bytes own nm maxL ret Z) {a : Addr} {vs : List Value} {j : Int32} {i : Nat} {v : Int32} (F : Ary Z h a .char vs) (h0 : ¬ j < 0) (hj : j.toNatClampNeg = i) (hv : vs[i]? = some (.int v)) (hd : decode bytes pc = .ok (.caload, 1)) (hpc : pc + 1 = pc') (go : Go B n0 Q h k n pc' L (.int v :: st)) : Go B n0 Q h k n pc L (.int j :: .ref a :: st) := go.step fun T locs X eT t q => by
  obtain ⟨c, A, rfl, hl⟩ := F
  have hi := (List.getElem?_eq_some_iff.mp hv).1
  rw [Array.length_toList] at hi
  rw [Array.getElem?_toList, ← hj] at hv
  exact X.caload C.2.2.1 (by rw [eT]; exact A.1) (State.isArrayOf_alike C.2.2.2.2.1.alike A.2.1)  A.2.2 (in_b h0 hj hi) hv (g := mkF B.m pc L (.int j :: .ref a :: st)) rfl rfl (hb C.2.2.2.1 hd) t (by subst hpc; exact q)
theorem g_baloadB (C : Ctx B l rm bytes own nm maxL ret Z) {a : Addr} {vs : List Value} {j : Int32} {i : Nat} {v : Int32} (F : Ary Z h a .byte vs) (h0 : ¬ j < 0) (hj : j.toNatClampNeg = i) (hv : vs[i]? = some (.int v)) (hd : decode bytes pc = .ok (.baload, 1)) (hpc : pc + 1 = pc') (go : Go B n0 Q h k n pc' L (.int v :: st)) : Go B n0 Q h k n pc L (.int j :: .ref a :: st) := go.step fun T locs X eT t q => by
  obtain ⟨c, A, rfl, hl⟩ := F
  have hi := (List.getElem?_eq_some_iff.mp hv).1
  rw [Array.length_toList] at hi
  rw [Array.getElem?_toList, ← hj] at hv
  exact X.baloadBytes C.2.2.1 (by rw [eT]; exact A.1) (State.isArrayOf_alike C.2.2.2.2.1.alike A.2.1)  A.2.2 (in_b h0 hj hi) hv (g := mkF B.m pc L (.int j :: .ref a :: st)) rfl rfl (hb C.2.2.2.1 hd) t (by subst hpc; exact q)
theorem g_baloadZ (C : Ctx B l rm bytes own nm maxL ret Z) {a : Addr} {vs : List Value} {j : Int32} {i : Nat} {v : Int32} (F : Ary Z h a .boolean vs) (h0 : ¬ j < 0) (hj : j.toNatClampNeg = i) (hv : vs[i]? = some (.int v)) (hd : decode bytes pc = .ok (.baload, 1)) (hpc : pc + 1 = pc') (go : Go B n0 Q h k n pc' L (.int v :: st)) : Go B n0 Q h k n pc L (.int j :: .ref a :: st) := go.step fun T locs X eT t q => by
  obtain ⟨c, A, rfl, hl⟩ := F
  have hi := (List.getElem?_eq_some_iff.mp hv).1
  rw [Array.length_toList] at hi
  rw [Array.getElem?_toList, ← hj] at hv
  exact X.baloadBooleans C.2.2.1 (by rw [eT]; exact A.1) (State.isArrayOf_alike C.2.2.2.2.1.alike A.2.1)  A.2.2 (in_b h0 hj hi) hv (g := mkF B.m pc L (.int j :: .ref a :: st)) rfl rfl (hb C.2.2.2.1 hd) t (by subst hpc; exact q)
theorem g_aaload (C : Ctx B l rm bytes own nm maxL ret Z) {a : Addr} {vs : List Value} {j : Int32} {i : Nat} {v : Value} {ty : FieldType} (F : Ary Z h a ty vs) (hty : ty.isReference = true) (h0 : ¬ j < 0) (hj : j.toNatClampNeg = i) (hv : vs[i]? = some v) (hd : decode bytes pc = .ok (.aaload, 1)) (hpc : pc + 1 = pc') (go : Go B n0 Q h k n pc' L (v :: st)) : Go B n0 Q h k n pc L (.int j :: .ref a :: st) := go.step fun T locs X eT t q => by
  obtain ⟨c, A, rfl, hl⟩ := F
  have hi := (List.getElem?_eq_some_iff.mp hv).1
  rw [Array.length_toList] at hi
  rw [Array.getElem?_toList, ← hj] at hv
  exact X.aaload C.2.2.1 (by rw [eT]; exact A.1) (State.isArrayOf_alike C.2.2.2.2.1.alike A.2.1) hty A.2.2 (in_b h0 hj hi) hv (g := mkF B.m pc L (.int j :: .ref a :: st)) rfl rfl (hb C.2.2.2.1 hd) t (by subst hpc; exact q)
theorem g_arraylength (C : Ctx B l rm bytes own nm maxL ret Z) {a : Addr} {vs : List Value} {ty : FieldType} {z : Int32} (F : Ary Z h a ty vs) (hz : vs.length.toInt32 = z) (hd : decode bytes pc = .ok (.arraylength, 1)) (hpc : pc + 1 = pc') (go : Go B n0 Q h k n pc' L (.int z :: st)) : Go B n0 Q h k n pc L (.ref a :: st) := go.step fun T locs X eT t q => by
  obtain ⟨c, A, rfl, hl⟩ := F
  rw [Array.length_toList] at hz
  exact X.arraylength C.2.2.1 (by rw [eT]; exact A.1) (State.isArrayOf_alike C.2.2.2.2.1.alike A.2.1) (g := mkF B.m pc L (.ref a :: st)) rfl rfl (hb C.2.2.2.1 hd) t (by subst hpc hz; exact q)
theorem g_iastore (C : Ctx B l rm bytes own nm maxL ret Z) {a : Addr} {vs : List Value} {j : Int32} {i : Nat} {v : Int32} {w : Value} (F : Ary Z h a .int vs) (h0 : ¬ j < 0) (hj : j.toNatClampNeg = i) (hi : i < vs.length) (hw : Value.int v = w) (ge : n0 ≤ a) (hd : decode bytes pc = .ok (.iastore, 1)) (hpc : pc + 1 = pc') (go : ∀ h', Keep h h' [a] → Ary Z h' a .int (vs.set i w) → Go B n0 Q h' k n pc' L st) : Go B n0 Q h k n pc L (.int v :: .int j :: .ref a :: st) := fun T locs X N eT => by
  obtain ⟨c, A, rfl, hl⟩ := F
  have hi' := hi
  rw [Array.length_toList] at hi'
  obtain ⟨T', h', X', e', W, f⟩ := stI X C.2.2.1 C.2.2.2.2.1 eT A (in_b h0 hj hi') (g := mkF B.m pc L (.int v :: .int j :: .ref a :: st)) rfl rfl (hb C.2.2.2.1 hd)
  rw [hj, hw] at W
  obtain ⟨t, o, q, r⟩ := go h' (Keep.of_wr W) ⟨_, A.same W, set_list c i w, by rw [List.length_set]; exact hl⟩ T' _ X' (Fr.snoc X' N ge) e'
  subst hpc
  exact ⟨t, o, f t q, r⟩
theorem g_lastore (C : Ctx B l rm bytes own nm maxL ret Z) {a : Addr} {vs : List Value} {j : Int32} {i : Nat} {v : Int64} {w : Value} (F : Ary Z h a .long vs) (h0 : ¬ j < 0) (hj : j.toNatClampNeg = i) (hi : i < vs.length) (hw : Value.long v = w) (ge : n0 ≤ a) (hd : decode bytes pc = .ok (.lastore, 1)) (hpc : pc + 1 = pc') (go : ∀ h', Keep h h' [a] → Ary Z h' a .long (vs.set i w) → Go B n0 Q h' k n pc' L st) : Go B n0 Q h k n pc L (.long v :: .int j :: .ref a :: st) := fun T locs X N eT => by
  obtain ⟨c, A, rfl, hl⟩ := F
  have hi' := hi
  rw [Array.length_toList] at hi'
  obtain ⟨T', h', X', e', W, f⟩ := stJ X C.2.2.1 C.2.2.2.2.1 eT A (in_b h0 hj hi') (g := mkF B.m pc L (.long v :: .int j :: .ref a :: st)) rfl rfl (hb C.2.2.2.1 hd)
  rw [hj, hw] at W
  obtain ⟨t, o, q, r⟩ := go h' (Keep.of_wr W) ⟨_, A.same W, set_list c i w, by rw [List.length_set]; exact hl⟩ T' _ X' (Fr.snoc X' N ge) e'
  subst hpc
  exact ⟨t, o, f t q, r⟩
theorem g_castore (C : Ctx B l rm bytes own nm maxL ret Z) {a : Addr} {vs : List Value} {j : Int32} {i : Nat} {v : Int32} {w : Value} (F : Ary Z h a .char vs) (h0 : ¬ j < 0) (hj : j.toNatClampNeg = i) (hi : i < vs.length) (hw : Value.int (nar .char v) = w) (ge : n0 ≤ a) (hd : decode bytes pc = .ok (.castore, 1)) (hpc : pc + 1 = pc') (go : ∀ h', Keep h h' [a] → Ary Z h' a .char (vs.set i w) → Go B n0 Q h' k n pc' L st) : Go B n0 Q h k n pc L (.int v :: .int j :: .ref a :: st) := fun T locs X N eT => by
  obtain ⟨c, A, rfl, hl⟩ := F
  have hi' := hi
  rw [Array.length_toList] at hi'
  obtain ⟨T', h', X', e', W, f⟩ := stC X C.2.2.1 C.2.2.2.2.1 eT A (in_b h0 hj hi') (g := mkF B.m pc L (.int v :: .int j :: .ref a :: st)) rfl rfl (hb C.2.2.2.1 hd)
  rw [hj, hw] at W
  obtain ⟨t, o, q, r⟩ := go h' (Keep.of_wr W) ⟨_, A.same W, set_list c i w, by rw [List.length_set]; exact hl⟩ T' _ X' (Fr.snoc X' N ge) e'
  subst hpc
  exact ⟨t, o, f t q, r⟩
theorem g_bastoreB (C : Ctx B l rm bytes own nm maxL ret Z) {a : Addr} {vs : List Value} {j : Int32} {i : Nat} {v : Int32} {w : Value} (F : Ary Z h a .byte vs) (h0 : ¬ j < 0) (hj : j.toNatClampNeg = i) (hi : i < vs.length) (hw : Value.int (nar .byte v) = w) (ge : n0 ≤ a) (hd : decode bytes pc = .ok (.bastore, 1)) (hpc : pc + 1 = pc') (go : ∀ h', Keep h h' [a] → Ary Z h' a .byte (vs.set i w) → Go B n0 Q h' k n pc' L st) : Go B n0 Q h k n pc L (.int v :: .int j :: .ref a :: st) := fun T locs X N eT => by
  obtain ⟨c, A, rfl, hl⟩ := F
  have hi' := hi
  rw [Array.length_toList] at hi'
  obtain ⟨T', h', X', e', W, f⟩ := stB X C.2.2.1 C.2.2.2.2.1 eT A (in_b h0 hj hi') (g := mkF B.m pc L (.int v :: .int j :: .ref a :: st)) rfl rfl (hb C.2.2.2.1 hd)
  rw [hj, hw] at W
  obtain ⟨t, o, q, r⟩ := go h' (Keep.of_wr W) ⟨_, A.same W, set_list c i w, by rw [List.length_set]; exact hl⟩ T' _ X' (Fr.snoc X' N ge) e'
  subst hpc
  exact ⟨t, o, f t q, r⟩
theorem g_bastoreZ (C : Ctx B l rm bytes own nm maxL ret Z) {a : Addr} {vs : List Value} {j : Int32} {i : Nat} {v : Int32} {w : Value} (F : Ary Z h a .boolean vs) (h0 : ¬ j < 0) (hj : j.toNatClampNeg = i) (hi : i < vs.length) (hw : Value.int (nar .boolean v) = w) (ge : n0 ≤ a) (hd : decode bytes pc = .ok (.bastore, 1)) (hpc : pc + 1 = pc') (go : ∀ h', Keep h h' [a] → Ary Z h' a .boolean (vs.set i w) → Go B n0 Q h' k n pc' L st) : Go B n0 Q h k n pc L (.int v :: .int j :: .ref a :: st) := fun T locs X N eT => by
  obtain ⟨c, A, rfl, hl⟩ := F
  have hi' := hi
  rw [Array.length_toList] at hi'
  obtain ⟨T', h', X', e', W, f⟩ := stZ X C.2.2.1 C.2.2.2.2.1 eT A (in_b h0 hj hi') (g := mkF B.m pc L (.int v :: .int j :: .ref a :: st)) rfl rfl (hb C.2.2.2.1 hd)
  rw [hj, hw] at W
  obtain ⟨t, o, q, r⟩ := go h' (Keep.of_wr W) ⟨_, A.same W, set_list c i w, by rw [List.length_set]; exact hl⟩ T' _ X' (Fr.snoc X' N ge) e'
  subst hpc
  exact ⟨t, o, f t q, r⟩
theorem g_aastore (C : Ctx B l rm bytes own nm maxL ret Z) {a y : Addr} {K : String} {vs : List Value} {j : Int32} {i : Nat} (F : AryR Z h a K vs) (I : Ins Z h y K true) (h0 : ¬ j < 0) (hj : j.toNatClampNeg = i) (hi : i < vs.length) (ge : n0 ≤ a) (hd : decode bytes pc = .ok (.aastore, 1)) (hpc : pc + 1 = pc') (go : ∀ h', Keep h h' [a] → AryR Z h' a K (vs.set i (.ref y)) → Go B n0 Q h' k n pc' L st) : Go B n0 Q h k n pc L (.ref y :: .int j :: .ref a :: st) := fun T locs X N eT => by
  obtain ⟨c, A, O, rfl, hl⟩ := F
  have hi' := hi
  rw [Array.length_toList] at hi'
  obtain ⟨T', h', X', e', W, f⟩ := stR X C.2.2.1 C.2.2.2.2.1 eT A (in_b h0 hj hi') rfl (Sto.of A O I) (g := mkF B.m pc L (.ref y :: .int j :: .ref a :: st)) rfl rfl (hb C.2.2.2.1 hd)
  rw [hj] at W
  obtain ⟨t, o, q, r⟩ := go h' (Keep.of_wr W) ⟨_, A.same W, O, set_list c i _, by rw [List.length_set]; exact hl⟩ T' _ X' (Fr.snoc X' N ge) e'
  subst hpc
  exact ⟨t, o, f t q, r⟩
theorem g_newarray (C : Ctx B l rm bytes own nm maxL ret Z) {aty : ArrayType} {z : Int32} {cap : Nat} {ty : FieldType} (w : (Jvm.Cond.arrayClass (newarray.typeOf aty)).before a0 Z = true) (hty : newarray.typeOf aty = ty) (hz : ¬ z < 0) (hcap : z.toNatClampNeg = cap) (hcb : cap * 8 ≤ 536870912) (hc : k + 1 ≤ rm.cells) (hl : n + cap ≤ rm.slots) (hd : decode bytes pc = .ok (.newarray aty, 2)) (hpc : pc + 2 = pc') (go : ∀ h' a, a = h.size → Ext h h' → Ary Z h' a ty (List.replicate cap (defaultValue ty)) → Go B n0 Q h' (k + 1) (n + cap) pc' L (.ref a :: st)) : Go B n0 Q h k n pc L (.int z :: st) := fun T locs X N eT => by
  subst hty
  obtain ⟨T', h', cA, X', e', E, A, f⟩ := newP X C.2.2.1 C.2.2.2.2.1 w eT (g := mkF B.m pc L (.int z :: st)) rfl (hb C.2.2.2.1 hd) rfl hz (cap := cap) (Nat.le_of_eq hcap) hcb (by rw [C.2.1]; exact hc) (by rw [C.2.1]; exact hl)
  obtain ⟨t, o, q, r⟩ := go h' _ rfl E ⟨_, A, by rw [← hcap]; simp [newA], by rw [List.length_replicate]; omega⟩ T' _ X' N e'
  subst hpc
  exact ⟨t, o, f t q, r⟩
theorem g_newarrayUpTo (C : Ctx B l rm bytes own nm maxL ret Z) {aty : ArrayType} {z : Int32} {len cap : Nat} {ty : FieldType} (w : (Jvm.Cond.arrayClass (newarray.typeOf aty)).before a0 Z = true) (hty : newarray.typeOf aty = ty) (hz : ¬ z < 0) (hlen : z.toNatClampNeg = len) (hcap : len ≤ cap) (hcb : cap * 8 ≤ 536870912) (hc : k + 1 ≤ rm.cells) (hl : n + cap ≤ rm.slots) (hd : decode bytes pc = .ok (.newarray aty, 2)) (hpc : pc + 2 = pc') (go : ∀ h' a, a = h.size → Ext h h' → Ary Z h' a ty (List.replicate len (defaultValue ty)) → Go B n0 Q h' (k + 1) (n + cap) pc' L (.ref a :: st)) : Go B n0 Q h k n pc L (.int z :: st) := fun T locs X N eT => by
  subst hty
  obtain ⟨T', h', cA, X', e', E, A, f⟩ := newP X C.2.2.1 C.2.2.2.2.1 w eT (g := mkF B.m pc L (.int z :: st)) rfl (hb C.2.2.2.1 hd) rfl hz (cap := cap) (by rw [hlen]; exact hcap) hcb (by rw [C.2.1]; exact hc) (by rw [C.2.1]; exact hl)
  obtain ⟨t, o, q, r⟩ := go h' _ rfl E ⟨_, A, by rw [← hlen]; simp [newA], by rw [List.length_replicate]; omega⟩ T' _ X' N e'
  subst hpc
  exact ⟨t, o, f t q, r⟩
theorem g_anewarray (C : Ctx B l rm bytes own nm maxL ret Z) {i : Nat} {K : String} {z : Int32} {cap : Nat} (w : (Jvm.Cond.classLink own i K).before a0 Z = true) (w2 : (Jvm.Cond.arrayOver (.object K)).before a0 Z = true) (hz : ¬ z < 0) (hcap : z.toNatClampNeg = cap) (hcb : cap * 8 ≤ 536870912) (hc : k + 1 ≤ rm.cells) (hl : n + cap ≤ rm.slots) (hd : decode bytes pc = .ok (.anewarray i, 3)) (hpc : pc + 3 = pc') (go : ∀ h' a, a = h.size → Ext h h' → AryR Z h' a K (List.replicate cap .null) → Go B n0 Q h' (k + 1) (n + cap) pc' L (.ref a :: st)) : Go B n0 Q h k n pc L (.int z :: st) := fun T locs X N eT => by
  obtain ⟨T', h', cA, X', e', E, A, O, f⟩ := newR X C.2.2.1 C.2.2.2.2.1 C.2.2.2.2.2.1 w w2 eT (g := mkF B.m pc L (.int z :: st)) rfl (hb C.2.2.2.1 hd) rfl hz (cap := cap) (Nat.le_of_eq hcap) hcb (by rw [C.2.1]; exact hc) (by rw [C.2.1]; exact hl)
  obtain ⟨t, o, q, r⟩ := go h' _ rfl E ⟨_, A, O, by rw [← hcap]; simp [newA, defaultValue], by rw [List.length_replicate]; omega⟩ T' _ X' N e'
  subst hpc
  exact ⟨t, o, f t q, r⟩
end ArraySteps
end Jvm.OwnKit
namespace Jvm.OwnKit
open Jvm Jvm.ClassFile Sem Op Lib Jvm.Stand Jvm.Free Jvm.LawKit Jvm.RoadKit
section More
variable {B : Bod} {l : Launch} {rm : Room} {bytes : ByteArray} {own nm : String} {maxL : Nat} {ret : Option FieldType} {Z : State} {n0 : Nat} {Q : Option Value → Heap → Prop} {h h' : Heap} {k n pc pc' : Nat} {L L' : Array Slot} {st st' : List Value} {a0 : Array Value} {a b : Addr} {ty : FieldType} {vs vd : List Value}
theorem g_sipush (C : Ctx B l rm bytes own nm maxL ret Z) {z : Int} {v : Int32} (hd : decode bytes pc = .ok (.sipush z, 3)) (hv : (Int16.ofInt z).toInt32 = v) (hpc : pc + 3 = pc') (go : Go B n0 Q h k n pc' L (.int v :: st)) : Go B n0 Q h k n pc L st := go.step fun T locs X eT t q => Jvm.Free.XS.sipush X.here C.2.2.1 rfl (hb C.2.2.2.1 hd) (by subst hpc hv; exact q)
theorem g_instanceof_null (C : Ctx B l rm bytes own nm maxL ret Z) {i : Nat} (hd : decode bytes pc = .ok (.instanceof i, 3)) (hpc : pc + 3 = pc') (go : Go B n0 Q h k n pc' L (.int 0 :: st)) : Go B n0 Q h k n pc L (.null :: st) := go.step fun T locs X eT t q => X.instanceofNull C.2.2.1 (g := mkF B.m pc L (.null :: st)) rfl rfl (hb C.2.2.2.1 hd) t (by subst hpc; exact q)
theorem g_checkcast_null (C : Ctx B l rm bytes own nm maxL ret Z) {i : Nat} (hd : decode bytes pc = .ok (.checkcast i, 3)) (hpc : pc + 3 = pc') (go : Go B n0 Q h k n pc' L (.null :: st)) : Go B n0 Q h k n pc L (.null :: st) := go.step fun T locs X eT t q => X.checkcastNull C.2.2.1 (g := mkF B.m pc L (.null :: st)) rfl rfl (hb C.2.2.2.1 hd) t (by subst hpc; exact q)
theorem g_private (C : Ctx B l rm bytes own nm maxL ret Z) {i nn : Nat} {y : MethodName} {b' : ByteArray} {mx : Nat} {rt : Option FieldType} {rm' : Room} {as' : Array Value} {Q' : Option Value → Heap → Prop} {K' : String} (w1 : (Jvm.Cond.methodLink own i y).before a0 Z = true) (w4 : (Jvm.Cond.instanceMethod y).before a0 Z = true) (wp : (Jvm.Cond.privateMethod y).before a0 Z = true) (wi : (Jvm.Cond.instantiable y.cls nn).before a0 Z = true) (wz : (Jvm.Cond.initialized y.cls).before a0 Z = true) (wc : (Jvm.Cond.code y b' mx rt).before a0 Z = true) (hy : y.cls ≠ "java/lang/invoke/MethodHandle" ∧ y.cls ≠ "java/lang/invoke/VarHandle") (E : Exa Z h a K') (K : Met1 l Z y b' mx rt rm' n0 as' h Q') (argsL : List Value) {stk : List Value} (hst : stk = argsL.reverse ++ .ref a :: st) (has : as' = (Value.ref a :: argsL).toArray) {ps : List FieldType} {r' : Option FieldType} (pd : parseMethodDescriptor y.desc = some ⟨ps, r'⟩) (hlen : argsL.length = ps.length) (hsz : L.size = maxL) (hf : rm'.frames + 1 ≤ rm.frames) {W : Nat} (hW : (st.map fun v => v.category).sum ≤ W) (hlo : W + (mx + 11) + rm'.locals ≤ rm.locals) (hc : k + rm'.cells ≤ rm.cells) (hs : n + rm'.slots ≤ rm.slots) (hd : decode bytes pc = .ok (.invokevirtual i, 3)) (hpc : pc + 3 = pc') (go : ∀ v h', Q' v h' → Go B n0 Q h' (k + rm'.cells) (n + rm'.slots) pc' L (v.toList ++ st)) : Go B n0 Q h k n pc L stk := fun T locs X N eT => by
  subst hst has
  obtain ⟨cq, kq, qa, qb, cellq, qc, qd, qe⟩ := isOf C.2.2.2.2.1 eT E
  obtain ⟨c9, k9, u1, u2, u3, u4, -⟩ := Cond.instantiable_spec (mvT (args := B.args) C.2.2.2.2.1 wi)
  have hni : k9.isInterface = false := by simp only [Bool.or_eq_false_iff] at u4; exact u4.1
  have hpr := Cond.privateMethod_at (mvP C.2.2.2.2.1 wp (args := B.args))
  have hsel := selects_self_of_private (args := B.args) u1 u2 hni hpr (mvT C.2.2.2.2.1 w4) hy
  obtain ⟨v, _, ⟨T', L1, k1, n1⟩, -, X', ⟨L2, ⟨N', hq⟩, l1, l2, l3⟩, f⟩ := X.privateBack C.2.2.1 (y := y) C.2.2.2.2.2.1 (mvT C.2.2.2.2.1 w1) (mvT C.2.2.2.2.1 w4) hsel hpr (mvT C.2.2.2.2.1 wc) hy (backOf (W := W) (Q := fun v h L => Fr n0 L ∧ Q' v h) (C.1 ▸ K []) C.2.2.2.2.1 wc wz (by rw [C.2.1]; exact hf) (by rw [C.2.1]; exact hlo)) (g := mkF B.m pc L (argsL.reverse ++ .ref a :: st)) rfl (by rw [C.2.2.2.2.2.2.2.1]; exact hsz) (Steps.refl _) (a := a) qc (fun z e => by rw [e] at qe; cases qe) (argsL := argsL) (rest := st) (lenOf pd hlen) rfl (by show 2 * 0 + _ ≤ _; omega) (hb C.2.2.2.1 hd) (fun _ _ => ⟨rfl, eT, by rw [C.2.1]; exact hc, by rw [C.2.1]; exact hs⟩)
  dsimp only [Pt.U, Pt.locs, Pt.cells, Pt.slots] at X' l1 l2 l3 f hq
  subst l1 l2 l3
  obtain ⟨t, o, q, r⟩ := go v _ hq T' _ X' (Fr.app N N') rfl
  subst hpc
  exact ⟨t, o, f.trans q, r⟩
theorem nat32 {m : Nat} (q : m < 2 ^ 31) : m.toInt32.toNatClampNeg = m := Int32.toNatClampNeg_ofNat_of_lt q
theorem nneg32 {m : Nat} (q : m < 2 ^ 31) : ¬ m.toInt32 < 0 := by
  have e := len_toInt q
  rw [Int32.lt_iff_toInt_lt, e]
  show ¬ (m : Int) < 0
  omega
theorem Ary.arv (F : Ary Z h a ty vs) (hf : ∀ v ∈ vs, fits ty v = true) (dv : Value) : ∃ kk, Arv Z h a kk ty vs.length.toInt32 vs dv := by
  obtain ⟨c, A, rfl, hl⟩ := F
  have hs : c.slots.toList.length = c.slots.size := Array.length_toList
  refine ⟨c.cls, c, A, rfl, ?_, nneg32 hl, fun i hi => ?_, fun i hi => ?_⟩
  · rw [nat32 hl, hs]
  · rw [List.getD_eq_getElem?_getD, Array.getElem?_toList, Array.getElem?_eq_getElem hi]; rfl
  · apply hf
    rw [List.getD_eq_getElem?_getD, Array.getElem?_toList, Array.getElem?_eq_getElem hi]
    exact Array.mem_toList_iff.mpr (Array.getElem_mem hi)
theorem Arv.ary {kk : ClassId} {z : Int32} {dv : Value} (F : Arv Z h a kk ty z vs dv) (hz : z.toNatClampNeg = vs.length) (hl : vs.length < 2 ^ 31) : Ary Z h a ty vs := by
  obtain ⟨c, A, -, S, -, H, -⟩ := F
  refine ⟨c, A, ?_, hl⟩
  apply List.ext_getElem?
  intro i
  by_cases hi : i < c.slots.size
  · rw [Array.getElem?_toList, H i hi, List.getD_eq_getElem?_getD, List.getElem?_eq_getElem (by omega)]; rfl
  · rw [List.getElem?_eq_none (by rw [Array.length_toList]; omega), List.getElem?_eq_none (by omega)]
theorem g_arraycopy (C : Ctx B l rm bytes own nm maxL ret Z) {i : Nat} {sp dp nn : Int32} {spN dpN nnN : Nat} (w1 : (Jvm.Cond.methodLink own i Jvm.Stand.acN).before a0 Z = true) (w2 : (Jvm.Cond.native Jvm.Stand.acN).before a0 Z = true) (w3 : (Jvm.Cond.static Jvm.Stand.acN).before a0 Z = true) (w4 : (Jvm.Cond.initialized "java/lang/System").before a0 Z = true) (F : Ary Z h a ty vs) (G : Ary Z h b ty vd) (hp : refKind ty = false) (hfa : ∀ v ∈ vs, fits ty v = true) (hfb : ∀ v ∈ vd, fits ty v = true) (h1 : ¬ sp < 0) (h2 : ¬ dp < 0) (h3 : ¬ nn < 0) (e1 : sp.toNatClampNeg = spN) (e2 : dp.toNatClampNeg = dpN) (e3 : nn.toNatClampNeg = nnN) (h4 : spN + nnN ≤ vs.length) (h5 : dpN + nnN ≤ vd.length) {out : List Value} (ho : vd.take dpN ++ (List.range nnN).map (fun j => vs.getD (spN + j) .null) ++ vd.drop (dpN + nnN) = out) (ge : n0 ≤ b) (hsz : L.size = maxL) (hf : 1 ≤ rm.frames) {W : Nat} (hW : (st.map fun v => v.category).sum ≤ W) (hlo : W + (nativeFrameWords "java/lang/System" "arraycopy" 5 + 11) ≤ rm.locals) (hd : decode bytes pc = .ok (.invokestatic i, 3)) (hpc : pc + 3 = pc') (go : ∀ h', Keep h h' [b] → Ary Z h' b ty out → Go B n0 Q h' k n pc' L st) : Go B n0 Q h k n pc L (.int nn :: .int dp :: .ref b :: .int sp :: .ref a :: st) := fun T locs X N eT => by
  obtain ⟨ka, A⟩ := F.arv hfa .null
  obtain ⟨kb, A'⟩ := G.arv hfb .null
  obtain ⟨-, -, -, hla⟩ := F
  have hlb : vd.length < 2 ^ 31 := by obtain ⟨-, -, -, q⟩ := G; exact q
  subst e1 e2 e3
  obtain ⟨T', h', L', X', e', N', Kp, R', f⟩ := cpA X C.2.2.1 C.2.2.2.2.1 C.2.2.2.2.2.1 w1 w2 w3 w4 eT A A' (us := (List.range nn.toNatClampNeg).map fun j => vs.getD (sp.toNatClampNeg + j) .null) (Or.inl ⟨rfl, hp⟩) h1 h2 h3 (by rw [nat32 hla]; exact h4) (by rw [nat32 hlb]; exact h5) rfl h5 N ge (g := mkF B.m pc L (.int nn :: .int dp :: .ref b :: .int sp :: .ref a :: st)) rfl (by rw [C.2.2.2.2.2.2.2.1]; exact hsz) rfl (hb C.2.2.2.1 hd) (by rw [C.2.1]; exact hf) (W := W) (by show 2 * 0 + _ ≤ _; omega) (by rw [C.2.1]; exact hlo)
  have ol : (vd.take dp.toNatClampNeg ++ (List.range nn.toNatClampNeg).map (fun j => vs.getD (sp.toNatClampNeg + j) .null) ++ vd.drop (dp.toNatClampNeg + nn.toNatClampNeg)).length = vd.length := by simp; omega
  obtain ⟨t, o, q, r⟩ := go h' Kp (ho ▸ Arv.ary R' (by rw [nat32 hlb, ol]) (by rw [ol]; exact hlb)) T' _ X' N' e'
  subst hpc
  exact ⟨t, o, f t q, r⟩
theorem g_newarrayE (C : Ctx B l rm bytes own nm maxL ret Z) {aty : ArrayType} {z : Int32} {cap : Nat} {ty : FieldType} {ad : String} (w : (Jvm.Cond.arrayClass (newarray.typeOf aty)).before a0 Z = true) (hty : newarray.typeOf aty = ty) (had : "[" ++ (newarray.typeOf aty).toString = ad) (hz : ¬ z < 0) (hcap : z.toNatClampNeg = cap) (hcb : cap * 8 ≤ 536870912) (hc : k + 1 ≤ rm.cells) (hl : n + cap ≤ rm.slots) (hd : decode bytes pc = .ok (.newarray aty, 2)) (hpc : pc + 2 = pc') (go : ∀ h' a, a = h.size → Ext h h' → Ary Z h' a ty (List.replicate cap (defaultValue ty)) → Exa Z h' a ad → Go B n0 Q h' (k + 1) (n + cap) pc' L (.ref a :: st)) : Go B n0 Q h k n pc L (.int z :: st) := fun T locs X N eT => by
  subst hty
  obtain ⟨T', h', cA, X', e', E, A, Ex, f⟩ := newPE X C.2.2.1 C.2.2.2.2.1 w eT (g := mkF B.m pc L (.int z :: st)) rfl (hb C.2.2.2.1 hd) rfl hz (cap := cap) (Nat.le_of_eq hcap) hcb (by rw [C.2.1]; exact hc) (by rw [C.2.1]; exact hl) had
  obtain ⟨t, o, q, r⟩ := go h' _ rfl E ⟨_, A, by rw [← hcap]; simp [newA], by rw [List.length_replicate]; omega⟩ Ex T' _ X' N e'
  subst hpc
  exact ⟨t, o, f t q, r⟩
theorem g_clone (C : Ctx B l rm bytes own nm maxL ret Z) {i cap : Nat} {ad : String} (w1 : (Jvm.Cond.methodLink own i ⟨ad, "clone", "()Ljava/lang/Object;"⟩).before a0 Z = true) (w2 : (Jvm.Cond.sameMethod ad "java/lang/Object" "clone" "()Ljava/lang/Object;").before a0 Z = true) (w3 : (Jvm.Cond.native ⟨"java/lang/Object", "clone", "()Ljava/lang/Object;"⟩).before a0 Z = true)
    (w4 : (Jvm.Cond.instanceMethod ⟨"java/lang/Object", "clone", "()Ljava/lang/Object;"⟩).before a0 Z = true) (w5 : (Jvm.Cond.selects ad ⟨ad, "clone", "()Ljava/lang/Object;"⟩ ⟨"java/lang/Object", "clone", "()Ljava/lang/Object;"⟩).before a0 Z = true) (w6 : (Jvm.Cond.castable ad "java/lang/Cloneable").before a0 Z = true)
    (F : Ary Z h a ty vs) (E : Exa Z h a ad) (hfa : ∀ v ∈ vs, fits ty v = true) (hsz : L.size = maxL) (hf : 1 ≤ rm.frames) {W : Nat} (hW : (st.map fun v => v.category).sum ≤ W) (hlo : W + 14 ≤ rm.locals) (hcap : vs.length ≤ cap) (hc : k + 1 ≤ rm.cells) (hl : n + cap ≤ rm.slots) (hd : decode bytes pc = .ok (.invokevirtual i, 3)) (hpc : pc + 3 = pc') (go : ∀ h' b, b = h.size → Ext h h' → Ary Z h' b ty vs → Exa Z h' b ad → Go B n0 Q h' (k + 1) (n + cap) pc' L (.ref b :: st)) : Go B n0 Q h k n pc L (.ref a :: st) := fun T locs X N eT => by
  obtain ⟨c, A, rfl, hlv⟩ := F
  have FC : FitC Z c := fitC_of A fun j hj v hv => hfa v (by rw [Array.mem_toList_iff]; exact Array.mem_of_getElem? hv)
  obtain ⟨T', h', X', e', Ex, A', E', f⟩ := cloneA X C.2.2.1 C.2.2.2.2.1 C.2.2.2.2.2.1 w1 w2 w3 w4 w5 w6 eT A E FC (g := mkF B.m pc L (.ref a :: st)) rfl (by rw [C.2.2.2.2.2.2.2.1]; exact hsz) rfl (hb C.2.2.2.1 hd) (by rw [C.2.1]; exact hf) (W := W) (cap := cap) (by show 2 * 0 + _ ≤ _; omega) (by rw [C.2.1]; exact hlo) (by rw [← Array.length_toList]; exact hcap) (by rw [C.2.1]; exact hc) (by rw [C.2.1]; exact hl)
  obtain ⟨t, o, q, r⟩ := go h' _ rfl Ex ⟨_, A', rfl, hlv⟩ E' T' _ X' N e'
  subst hpc
  exact ⟨t, o, f t q, r⟩
end More
end Jvm.OwnKit
namespace Jvm.Pilot.@@N@@
open Jvm Jvm.ClassFile Sem Op Lib Jvm.Free Jvm.Stand Jvm.LawKit Jvm.RoadKit Jvm.OwnKit Bundle Jvm.Pilot.@@N@@.Jvm.D
theorem own_w {a0 : Array Value} {Z : State} (hw : ∀ d ∈ tables_1, d.before a0 Z = true) (k : Nat) {d : Jvm.Cond} (e : tables_1[k]? = some d) : d.before a0 Z = true := hw _ (List.mem_of_getElem? e)
/-! what the code computes, with no program in sight -/
def nlzD (x n : Int32) : Int32 := n - (Jvm.Free.XT.ushr x (1 : Int32))
def nlzC (x n : Int32) : Int32 := if x < (4 : Int32) then nlzD x n else nlzD (Jvm.Free.XT.ushr x (2 : Int32)) (n + (-2 : Int32))
def nlzB (x n : Int32) : Int32 := if x < (16 : Int32) then nlzC x n else nlzC (Jvm.Free.XT.ushr x (4 : Int32)) (n + (-4 : Int32))
def nlzA (x n : Int32) : Int32 := if x < (256 : Int32) then nlzB x n else nlzB (Jvm.Free.XT.ushr x (8 : Int32)) (n + (-8 : Int32))
def nlzI (x : Int32) : Int32 := if (0 : Int32) < x then (if x < (65536 : Int32) then nlzA x (31 : Int32) else nlzA (Jvm.Free.XT.ushr x (16 : Int32)) (15 : Int32)) else if x = (0 : Int32) then (32 : Int32) else (0 : Int32)
def nlzL (x : Int64) : Int32 := if (Int64.toInt32 (Jvm.Free.XT.ushrL x (32 : Int32))) = (0 : Int32) then (32 : Int32) + (nlzI (Int64.toInt32 x)) else nlzI (Int64.toInt32 (Jvm.Free.XT.ushrL x (32 : Int32)))
def mk (k : Int32) : Int64 := if k = (64 : Int32) then (-1 : Int64) else (((1 : Int64) <<< (Int32.toInt64 k &&& 63)) - (1 : Int64))
def wF (k0 k1 : Int32) : Int32 := if (64 : Int32) < (k0 + k1) then (1 : Int32) else (0 : Int32)
def sF (k0 k1 : Int32) : Int32 := if (64 : Int32) < (k0 + k1) then (0 : Int32) else k0
theorem own_all : ∀ i : Fin 65, (64 : Int32) - nlzL (mk (Int32.ofNat i.val)) = Int32.ofNat i.val := by decide +kernel
theorem own_nlz {k : Int32} (h0 : 0 ≤ k.toInt) (h1 : k.toInt ≤ 64) (l : Int64) : (64 : Int32) - nlzL ((l + mk k) - l) = k := by
  have e : (l + mk k) - l = mk k := by rw [Int64.add_comm, Int64.add_sub_cancel]
  have hk : Int32.ofNat k.toInt.toNat = k := by
    apply Int32.toInt_inj.mp
    rw [Int32.toInt_ofNat_small (by omega)]; omega
  have := own_all ⟨k.toInt.toNat, by omega⟩
  rw [e]; simp only [hk] at this; exact this
theorem own_le64 {k : Int32} (h1 : k.toInt ≤ 64) : ¬ (64 : Int32) < k := by rw [Int32.lt_iff_toInt_lt]; have : (64 : Int32).toInt = 64 := rfl; omega
theorem own_bvN (x : Int64) {y : Int32} {ky : Nat} (hy : ((y.toInt64.toUInt64 &&& Int64.toUInt64 63).toBitVec % 64).toNat = ky) : (Jvm.Free.XT.ushrL x y).toBitVec = x.toBitVec >>> ky := by
  show (x.toUInt64 >>> (y.toInt64.toUInt64 &&& Int64.toUInt64 63)).toBitVec = _
  rw [UInt64.toBitVec_shiftRight]
  show x.toBitVec >>> ((y.toInt64.toUInt64 &&& Int64.toUInt64 63).toBitVec % 64) = _
  rw [BitVec.ushiftRight_eq', hy]
theorem own_u0 (x : Int64) : (Jvm.Free.XT.ushrL x (0 : Int32)) = x := by
  apply Int64.toBitVec_inj.mp
  rw [own_bvN _ (ky := 0) (by decide)]; simp
theorem own_last {k0 k1 : Int32} (x l : Int64) (b1 : 0 ≤ k1.toInt) (c1 : k1.toInt ≤ 64) (h : k0 = (64 : Int32)) (hs : ¬ (64 : Int32) < (k0 + k1)) : (l + (x &&& (mk k1))) = l := by
  have e : k1 = 0 := by
    subst h
    rw [Int32.lt_iff_toInt_lt] at hs
    have a := Jvm.Free.XT.add32 (x := 64) (y := k1) ⟨by have : (64 : Int32).toInt = 64 := rfl; omega, by have : (64 : Int32).toInt = 64 := rfl; omega⟩
    have : (64 : Int32).toInt = 64 := rfl
    apply Int32.toInt_inj.mp
    show k1.toInt = 0
    omega
  subst e
  have m : mk 0 = 0 := by decide
  rw [m, Int64.and_zero, Int64.add_zero]
theorem own_rem65 {x : Int32} (hx : 0 ≤ x.toInt) : 0 ≤ (x - (x / (65 : Int32)) * (65 : Int32)).toInt ∧ (x - (x / (65 : Int32)) * (65 : Int32)).toInt ≤ 64 := by
  have e : (65 : Int32).toInt = 65 := rfl
  have h1 := (c_idiv x (65 : Int32) 65 rfl (by decide)).1 hx
  have h2 := c_imul (x / (65 : Int32)) (65 : Int32)
  have h3 := c_isub x (x / (65 : Int32) * (65 : Int32))
  have r1 := rng32 x
  have r2 := rng32 (x - x / (65 : Int32) * (65 : Int32))
  rw [h1, e] at h2
  omega
theorem own_ff (x : Int32) : 0 ≤ (x &&& (255 : Int32)).toInt := by
  have h := c_mask x (255 : Int32) 8 (by decide) (by decide)
  rw [h]; exact Int.emod_nonneg _ (by decide)
theorem own_bit (x : Int32) : (x &&& (1 : Int32)) = 0 ∨ (x &&& (1 : Int32)) = 1 := and_one x
theorem d5_0 : decode jdk_33_method_47_code 0 = .ok (.iload_n 0, 1) := by decide +kernel
theorem d5_1 : decode jdk_33_method_47_code 1 = .ok (.ifCond .gt 14, 3) := by decide +kernel
theorem d5_4 : decode jdk_33_method_47_code 4 = .ok (.iload_n 0, 1) := by decide +kernel
theorem d5_5 : decode jdk_33_method_47_code 5 = .ok (.ifCond .ne 8, 3) := by decide +kernel
theorem d5_8 : decode jdk_33_method_47_code 8 = .ok (.bipush 32, 2) := by decide +kernel
theorem d5_10 : decode jdk_33_method_47_code 10 = .ok (.goto 4, 3) := by decide +kernel
theorem d5_13 : decode jdk_33_method_47_code 13 = .ok (.iconst 0, 1) := by decide +kernel
theorem d5_14 : decode jdk_33_method_47_code 14 = .ok (.ireturn, 1) := by decide +kernel
theorem d5_15 : decode jdk_33_method_47_code 15 = .ok (.bipush 31, 2) := by decide +kernel
theorem d5_17 : decode jdk_33_method_47_code 17 = .ok (.istore_n 1, 1) := by decide +kernel
theorem d5_18 : decode jdk_33_method_47_code 18 = .ok (.iload_n 0, 1) := by decide +kernel
theorem d5_19 : decode jdk_33_method_47_code 19 = .ok (.ldc_w 264, 3) := by decide +kernel
theorem d5_22 : decode jdk_33_method_47_code 22 = .ok (.if_icmp .lt 11, 3) := by decide +kernel
theorem d5_25 : decode jdk_33_method_47_code 25 = .ok (.iinc 1 (-16), 3) := by decide +kernel
theorem d5_28 : decode jdk_33_method_47_code 28 = .ok (.iload_n 0, 1) := by decide +kernel
theorem d5_29 : decode jdk_33_method_47_code 29 = .ok (.bipush 16, 2) := by decide +kernel
theorem d5_31 : decode jdk_33_method_47_code 31 = .ok (.iushr, 1) := by decide +kernel
theorem d5_32 : decode jdk_33_method_47_code 32 = .ok (.istore_n 0, 1) := by decide +kernel
theorem d5_33 : decode jdk_33_method_47_code 33 = .ok (.iload_n 0, 1) := by decide +kernel
theorem d5_34 : decode jdk_33_method_47_code 34 = .ok (.sipush 256, 3) := by decide +kernel
theorem d5_37 : decode jdk_33_method_47_code 37 = .ok (.if_icmp .lt 11, 3) := by decide +kernel
theorem d5_40 : decode jdk_33_method_47_code 40 = .ok (.iinc 1 (-8), 3) := by decide +kernel
theorem d5_43 : decode jdk_33_method_47_code 43 = .ok (.iload_n 0, 1) := by decide +kernel
theorem d5_44 : decode jdk_33_method_47_code 44 = .ok (.bipush 8, 2) := by decide +kernel
theorem d5_46 : decode jdk_33_method_47_code 46 = .ok (.iushr, 1) := by decide +kernel
theorem d5_47 : decode jdk_33_method_47_code 47 = .ok (.istore_n 0, 1) := by decide +kernel
theorem d5_48 : decode jdk_33_method_47_code 48 = .ok (.iload_n 0, 1) := by decide +kernel
theorem d5_49 : decode jdk_33_method_47_code 49 = .ok (.bipush 16, 2) := by decide +kernel
theorem d5_51 : decode jdk_33_method_47_code 51 = .ok (.if_icmp .lt 10, 3) := by decide +kernel
theorem d5_54 : decode jdk_33_method_47_code 54 = .ok (.iinc 1 (-4), 3) := by decide +kernel
theorem d5_57 : decode jdk_33_method_47_code 57 = .ok (.iload_n 0, 1) := by decide +kernel
theorem d5_58 : decode jdk_33_method_47_code 58 = .ok (.iconst 4, 1) := by decide +kernel
theorem d5_59 : decode jdk_33_method_47_code 59 = .ok (.iushr, 1) := by decide +kernel
theorem d5_60 : decode jdk_33_method_47_code 60 = .ok (.istore_n 0, 1) := by decide +kernel
theorem d5_61 : decode jdk_33_method_47_code 61 = .ok (.iload_n 0, 1) := by decide +kernel
theorem d5_62 : decode jdk_33_method_47_code 62 = .ok (.iconst 4, 1) := by decide +kernel
theorem d5_63 : decode jdk_33_method_47_code 63 = .ok (.if_icmp .lt 10, 3) := by decide +kernel
theorem d5_66 : decode jdk_33_method_47_code 66 = .ok (.iinc 1 (-2), 3) := by decide +kernel
theorem d5_69 : decode jdk_33_method_47_code 69 = .ok (.iload_n 0, 1) := by decide +kernel
theorem d5_70 : decode jdk_33_method_47_code 70 = .ok (.iconst 2, 1) := by decide +kernel
theorem d5_71 : decode jdk_33_method_47_code 71 = .ok (.iushr, 1) := by decide +kernel
theorem d5_72 : decode jdk_33_method_47_code 72 = .ok (.istore_n 0, 1) := by decide +kernel
theorem d5_73 : decode jdk_33_method_47_code 73 = .ok (.iload_n 1, 1) := by decide +kernel
theorem d5_74 : decode jdk_33_method_47_code 74 = .ok (.iload_n 0, 1) := by decide +kernel
theorem d5_75 : decode jdk_33_method_47_code 75 = .ok (.iconst 1, 1) := by decide +kernel
theorem d5_76 : decode jdk_33_method_47_code 76 = .ok (.iushr, 1) := by decide +kernel
theorem d5_77 : decode jdk_33_method_47_code 77 = .ok (.isub, 1) := by decide +kernel
theorem d5_78 : decode jdk_33_method_47_code 78 = .ok (.ireturn, 1) := by decide +kernel
theorem own_pn_java_lang_Integer : plainName "java/lang/Integer" = true := by first | (simp [plainName, overriddenIn]; done) | decide +kernel
set_option maxRecDepth 65536 in
set_option maxHeartbeats 40000000 in
theorem rm_nlzI (l : Launch) (Z : State) (a0 : Array Value) (hw : ∀ d ∈ tables_1, d.before a0 Z = true) (n0 : Nat) (x : Int32) (h0 : Heap) (Z0 : n0 ≤ h0.size)  :
    Met1 l Z (⟨"java/lang/Integer", "numberOfLeadingZeros", "(I)I"⟩ : MethodName) jdk_33_method_47_code 2 (some .int) ({ frames := 0, cells := 0, slots := 0, locals := 0 } : Room) n0 #[(.int x)] h0 (fun v h => v = some (.int (nlzI x)) ∧ h0 = h) := by
  refine met_of (plainFor_of_name own_pn_java_lang_Integer) (L0 := #[.val (.int x), .unset]) (by first | (simp [argsToLocals, Value.category]; done) | rfl) ?_
  intro B C
  change Ctx B l _ _ "java/lang/Integer" "numberOfLeadingZeros" _ _ Z at C
  refine g_iload_n C d5_0 (v := x) rfl (pc' := 1) rfl ?_
  by_cases hb_1 : (0 : Int32) < x
  · refine g_if_y C d5_1 (Jvm.Free.XT.i0_gt_t hb_1) (pc' := 15) (by decide) (by decide) ?_
    refine g_bipush C d5_15 (v := (31 : Int32)) rfl (pc' := 17) rfl ?_
    refine g_istore_n C d5_17 (v := (31 : Int32)) (L' := #[.val (.int x), .val (.int (31 : Int32))]) rfl (pc' := 18) rfl ?_
    refine g_iload_n C d5_18 (v := x) rfl (pc' := 19) rfl ?_
    refine g_ldc_w C (v := (65536 : Int32)) (own_w hw 47 rfl) d5_19 (pc' := 22) rfl ?_
    by_cases hb_2 : x < (65536 : Int32)
    · refine g_icmp_y C d5_22 (Jvm.Free.XT.ii_lt_t hb_2) (pc' := 33) (by decide) (by decide) ?_
      refine g_iload_n C d5_33 (v := x) rfl (pc' := 34) rfl ?_
      refine g_sipush C d5_34 (v := (256 : Int32)) rfl (pc' := 37) rfl ?_
      by_cases hb_3 : x < (256 : Int32)
      · refine g_icmp_y C d5_37 (Jvm.Free.XT.ii_lt_t hb_3) (pc' := 48) (by decide) (by decide) ?_
        refine g_iload_n C d5_48 (v := x) rfl (pc' := 49) rfl ?_
        refine g_bipush C d5_49 (v := (16 : Int32)) rfl (pc' := 51) rfl ?_
        by_cases hb_4 : x < (16 : Int32)
        · refine g_icmp_y C d5_51 (Jvm.Free.XT.ii_lt_t hb_4) (pc' := 61) (by decide) (by decide) ?_
          refine g_iload_n C d5_61 (v := x) rfl (pc' := 62) rfl ?_
          refine g_iconst C d5_62 (v := (4 : Int32)) rfl (pc' := 63) rfl ?_
          by_cases hb_5 : x < (4 : Int32)
          · refine g_icmp_y C d5_63 (Jvm.Free.XT.ii_lt_t hb_5) (pc' := 73) (by decide) (by decide) ?_
            refine g_iload_n C d5_73 (v := (31 : Int32)) rfl (pc' := 74) rfl ?_
            refine g_iload_n C d5_74 (v := x) rfl (pc' := 75) rfl ?_
            refine g_iconst C d5_75 (v := (1 : Int32)) rfl (pc' := 76) rfl ?_
            refine g_iushr C (x := x) (y := (1 : Int32)) d5_76  (pc' := 77) rfl ?_
            refine g_isub C (x := (31 : Int32)) (y := (Jvm.Free.XT.ushr x (1 : Int32))) d5_77  (pc' := 78) rfl ?_
            refine g_ret C (v := (.int ((31 : Int32) - (Jvm.Free.XT.ushr x (1 : Int32))))) (ty := .int) rfl rfl (Or.inl ⟨rfl, Or.inl rfl, _, rfl⟩) d5_78 (by decide) (by decide) ?_
            exact ⟨by rw [nlzI, if_pos hb_1, if_pos hb_2, nlzA, if_pos hb_3, nlzB, if_pos hb_4, nlzC, if_pos hb_5, nlzD] <;> rfl, rfl⟩
          · refine g_icmp_n C d5_63 (Jvm.Free.XT.ii_lt_f hb_5) (pc' := 66) rfl ?_
            refine g_iinc C d5_66 (v := (31 : Int32)) (w := (29 : Int32)) rfl rfl (L' := #[.val (.int x), .val (.int (29 : Int32))]) rfl (pc' := 69) rfl ?_
            refine g_iload_n C d5_69 (v := x) rfl (pc' := 70) rfl ?_
            refine g_iconst C d5_70 (v := (2 : Int32)) rfl (pc' := 71) rfl ?_
            refine g_iushr C (x := x) (y := (2 : Int32)) d5_71  (pc' := 72) rfl ?_
            refine g_istore_n C d5_72 (v := (Jvm.Free.XT.ushr x (2 : Int32))) (L' := #[.val (.int (Jvm.Free.XT.ushr x (2 : Int32))), .val (.int (29 : Int32))]) rfl (pc' := 73) rfl ?_
            refine g_iload_n C d5_73 (v := (29 : Int32)) rfl (pc' := 74) rfl ?_
            refine g_iload_n C d5_74 (v := (Jvm.Free.XT.ushr x (2 : Int32))) rfl (pc' := 75) rfl ?_
            refine g_iconst C d5_75 (v := (1 : Int32)) rfl (pc' := 76) rfl ?_
            refine g_iushr C (x := (Jvm.Free.XT.ushr x (2 : Int32))) (y := (1 : Int32)) d5_76  (pc' := 77) rfl ?_
            refine g_isub C (x := (29 : Int32)) (y := (Jvm.Free.XT.ushr (Jvm.Free.XT.ushr x (2 : Int32)) (1 : Int32))) d5_77  (pc' := 78) rfl ?_
            refine g_ret C (v := (.int ((29 : Int32) - (Jvm.Free.XT.ushr (Jvm.Free.XT.ushr x (2 : Int32)) (1 : Int32))))) (ty := .int) rfl rfl (Or.inl ⟨rfl, Or.inl rfl, _, rfl⟩) d5_78 (by decide) (by decide) ?_
            exact ⟨by rw [nlzI, if_pos hb_1, if_pos hb_2, nlzA, if_pos hb_3, nlzB, if_pos hb_4, nlzC, if_neg hb_5, nlzD] <;> rfl, rfl⟩
        · refine g_icmp_n C d5_51 (Jvm.Free.XT.ii_lt_f hb_4) (pc' := 54) rfl ?_
          refine g_iinc C d5_54 (v := (31 : Int32)) (w := (27 : Int32)) rfl rfl (L' := #[.val (.int x), .val (.int (27 : Int32))]) rfl (pc' := 57) rfl ?_
          refine g_iload_n C d5_57 (v := x) rfl (pc' := 58) rfl ?_
          refine g_iconst C d5_58 (v := (4 : Int32)) rfl (pc' := 59) rfl ?_
          refine g_iushr C (x := x) (y := (4 : Int32)) d5_59  (pc' := 60) rfl ?_
          refine g_istore_n C d5_60 (v := (Jvm.Free.XT.ushr x (4 : Int32))) (L' := #[.val (.int (Jvm.Free.XT.ushr x (4 : Int32))), .val (.int (27 : Int32))]) rfl (pc' := 61) rfl ?_
          refine g_iload_n C d5_61 (v := (Jvm.Free.XT.ushr x (4 : Int32))) rfl (pc' := 62) rfl ?_
          refine g_iconst C d5_62 (v := (4 : Int32)) rfl (pc' := 63) rfl ?_
          by_cases hb_6 : (Jvm.Free.XT.ushr x (4 : Int32)) < (4 : Int32)
          · refine g_icmp_y C d5_63 (Jvm.Free.XT.ii_lt_t hb_6) (pc' := 73) (by decide) (by decide) ?_
            refine g_iload_n C d5_73 (v := (27 : Int32)) rfl (pc' := 74) rfl ?_
            refine g_iload_n C d5_74 (v := (Jvm.Free.XT.ushr x (4 : Int32))) rfl (pc' := 75) rfl ?_
            refine g_iconst C d5_75 (v := (1 : Int32)) rfl (pc' := 76) rfl ?_
            refine g_iushr C (x := (Jvm.Free.XT.ushr x (4 : Int32))) (y := (1 : Int32)) d5_76  (pc' := 77) rfl ?_
            refine g_isub C (x := (27 : Int32)) (y := (Jvm.Free.XT.ushr (Jvm.Free.XT.ushr x (4 : Int32)) (1 : Int32))) d5_77  (pc' := 78) rfl ?_
            refine g_ret C (v := (.int ((27 : Int32) - (Jvm.Free.XT.ushr (Jvm.Free.XT.ushr x (4 : Int32)) (1 : Int32))))) (ty := .int) rfl rfl (Or.inl ⟨rfl, Or.inl rfl, _, rfl⟩) d5_78 (by decide) (by decide) ?_
            exact ⟨by rw [nlzI, if_pos hb_1, if_pos hb_2, nlzA, if_pos hb_3, nlzB, if_neg hb_4, nlzC, if_pos hb_6, nlzD] <;> rfl, rfl⟩
          · refine g_icmp_n C d5_63 (Jvm.Free.XT.ii_lt_f hb_6) (pc' := 66) rfl ?_
            refine g_iinc C d5_66 (v := (27 : Int32)) (w := (25 : Int32)) rfl rfl (L' := #[.val (.int (Jvm.Free.XT.ushr x (4 : Int32))), .val (.int (25 : Int32))]) rfl (pc' := 69) rfl ?_
            refine g_iload_n C d5_69 (v := (Jvm.Free.XT.ushr x (4 : Int32))) rfl (pc' := 70) rfl ?_
            refine g_iconst C d5_70 (v := (2 : Int32)) rfl (pc' := 71) rfl ?_
            refine g_iushr C (x := (Jvm.Free.XT.ushr x (4 : Int32))) (y := (2 : Int32)) d5_71  (pc' := 72) rfl ?_
            refine g_istore_n C d5_72 (v := (Jvm.Free.XT.ushr (Jvm.Free.XT.ushr x (4 : Int32)) (2 : Int32))) (L' := #[.val (.int (Jvm.Free.XT.ushr (Jvm.Free.XT.ushr x (4 : Int32)) (2 : Int32))), .val (.int (25 : Int32))]) rfl (pc' := 73) rfl ?_
            refine g_iload_n C d5_73 (v := (25 : Int32)) rfl (pc' := 74) rfl ?_
            refine g_iload_n C d5_74 (v := (Jvm.Free.XT.ushr (Jvm.Free.XT.ushr x (4 : Int32)) (2 : Int32))) rfl (pc' := 75) rfl ?_
            refine g_iconst C d5_75 (v := (1 : Int32)) rfl (pc' := 76) rfl ?_
            refine g_iushr C (x := (Jvm.Free.XT.ushr (Jvm.Free.XT.ushr x (4 : Int32)) (2 : Int32))) (y := (1 : Int32)) d5_76  (pc' := 77) rfl ?_
            refine g_isub C (x := (25 : Int32)) (y := (Jvm.Free.XT.ushr (Jvm.Free.XT.ushr (Jvm.Free.XT.ushr x (4 : Int32)) (2 : Int32)) (1 : Int32))) d5_77  (pc' := 78) rfl ?_
            refine g_ret C (v := (.int ((25 : Int32) - (Jvm.Free.XT.ushr (Jvm.Free.XT.ushr (Jvm.Free.XT.ushr x (4 : Int32)) (2 : Int32)) (1 : Int32))))) (ty := .int) rfl rfl (Or.inl ⟨rfl, Or.inl rfl, _, rfl⟩) d5_78 (by decide) (by decide) ?_
            exact ⟨by rw [nlzI, if_pos hb_1, if_pos hb_2, nlzA, if_pos hb_3, nlzB, if_neg hb_4, nlzC, if_neg hb_6, nlzD] <;> rfl, rfl⟩
      · refine g_icmp_n C d5_37 (Jvm.Free.XT.ii_lt_f hb_3) (pc' := 40) rfl ?_
        refine g_iinc C d5_40 (v := (31 : Int32)) (w := (23 : Int32)) rfl rfl (L' := #[.val (.int x), .val (.int (23 : Int32))]) rfl (pc' := 43) rfl ?_
        refine g_iload_n C d5_43 (v := x) rfl (pc' := 44) rfl ?_
        refine g_bipush C d5_44 (v := (8 : Int32)) rfl (pc' := 46) rfl ?_
        refine g_iushr C (x := x) (y := (8 : Int32)) d5_46  (pc' := 47) rfl ?_
        refine g_istore_n C d5_47 (v := (Jvm.Free.XT.ushr x (8 : Int32))) (L' := #[.val (.int (Jvm.Free.XT.ushr x (8 : Int32))), .val (.int (23 : Int32))]) rfl (pc' := 48) rfl ?_
        refine g_iload_n C d5_48 (v := (Jvm.Free.XT.ushr x (8 : Int32))) rfl (pc' := 49) rfl ?_
        refine g_bipush C d5_49 (v := (16 : Int32)) rfl (pc' := 51) rfl ?_
        by_cases hb_7 : (Jvm.Free.XT.ushr x (8 : Int32)) < (16 : Int32)
        · refine g_icmp_y C d5_51 (Jvm.Free.XT.ii_lt_t hb_7) (pc' := 61) (by decide) (by decide) ?_
          refine g_iload_n C d5_61 (v := (Jvm.Free.XT.ushr x (8 : Int32))) rfl (pc' := 62) rfl ?_
          refine g_iconst C d5_62 (v := (4 : Int32)) rfl (pc' := 63) rfl ?_
          by_cases hb_8 : (Jvm.Free.XT.ushr x (8 : Int32)) < (4 : Int32)
          · refine g_icmp_y C d5_63 (Jvm.Free.XT.ii_lt_t hb_8) (pc' := 73) (by decide) (by decide) ?_
            refine g_iload_n C d5_73 (v := (23 : Int32)) rfl (pc' := 74) rfl ?_
            refine g_iload_n C d5_74 (v := (Jvm.Free.XT.ushr x (8 : Int32))) rfl (pc' := 75) rfl ?_
            refine g_iconst C d5_75 (v := (1 : Int32)) rfl (pc' := 76) rfl ?_
            refine g_iushr C (x := (Jvm.Free.XT.ushr x (8 : Int32))) (y := (1 : Int32)) d5_76  (pc' := 77) rfl ?_
            refine g_isub C (x := (23 : Int32)) (y := (Jvm.Free.XT.ushr (Jvm.Free.XT.ushr x (8 : Int32)) (1 : Int32))) d5_77  (pc' := 78) rfl ?_
            refine g_ret C (v := (.int ((23 : Int32) - (Jvm.Free.XT.ushr (Jvm.Free.XT.ushr x (8 : Int32)) (1 : Int32))))) (ty := .int) rfl rfl (Or.inl ⟨rfl, Or.inl rfl, _, rfl⟩) d5_78 (by decide) (by decide) ?_
            exact ⟨by rw [nlzI, if_pos hb_1, if_pos hb_2, nlzA, if_neg hb_3, nlzB, if_pos hb_7, nlzC, if_pos hb_8, nlzD] <;> rfl, rfl⟩
          · refine g_icmp_n C d5_63 (Jvm.Free.XT.ii_lt_f hb_8) (pc' := 66) rfl ?_
            refine g_iinc C d5_66 (v := (23 : Int32)) (w := (21 : Int32)) rfl rfl (L' := #[.val (.int (Jvm.Free.XT.ushr x (8 : Int32))), .val (.int (21 : Int32))]) rfl (pc' := 69) rfl ?_
            refine g_iload_n C d5_69 (v := (Jvm.Free.XT.ushr x (8 : Int32))) rfl (pc' := 70) rfl ?_
            refine g_iconst C d5_70 (v := (2 : Int32)) rfl (pc' := 71) rfl ?_
            refine g_iushr C (x := (Jvm.Free.XT.ushr x (8 : Int32))) (y := (2 : Int32)) d5_71  (pc' := 72) rfl ?_
            refine g_istore_n C d5_72 (v := (Jvm.Free.XT.ushr (Jvm.Free.XT.ushr x (8 : Int32)) (2 : Int32))) (L' := #[.val (.int (Jvm.Free.XT.ushr (Jvm.Free.XT.ushr x (8 : Int32)) (2 : Int32))), .val (.int (21 : Int32))]) rfl (pc' := 73) rfl ?_
            refine g_iload_n C d5_73 (v := (21 : Int32)) rfl (pc' := 74) rfl ?_
            refine g_iload_n C d5_74 (v := (Jvm.Free.XT.ushr (Jvm.Free.XT.ushr x (8 : Int32)) (2 : Int32))) rfl (pc' := 75) rfl ?_
            refine g_iconst C d5_75 (v := (1 : Int32)) rfl (pc' := 76) rfl ?_
            refine g_iushr C (x := (Jvm.Free.XT.ushr (Jvm.Free.XT.ushr x (8 : Int32)) (2 : Int32))) (y := (1 : Int32)) d5_76  (pc' := 77) rfl ?_
            refine g_isub C (x := (21 : Int32)) (y := (Jvm.Free.XT.ushr (Jvm.Free.XT.ushr (Jvm.Free.XT.ushr x (8 : Int32)) (2 : Int32)) (1 : Int32))) d5_77  (pc' := 78) rfl ?_
            refine g_ret C (v := (.int ((21 : Int32) - (Jvm.Free.XT.ushr (Jvm.Free.XT.ushr (Jvm.Free.XT.ushr x (8 : Int32)) (2 : Int32)) (1 : Int32))))) (ty := .int) rfl rfl (Or.inl ⟨rfl, Or.inl rfl, _, rfl⟩) d5_78 (by decide) (by decide) ?_
            exact ⟨by rw [nlzI, if_pos hb_1, if_pos hb_2, nlzA, if_neg hb_3, nlzB, if_pos hb_7, nlzC, if_neg hb_8, nlzD] <;> rfl, rfl⟩
        · refine g_icmp_n C d5_51 (Jvm.Free.XT.ii_lt_f hb_7) (pc' := 54) rfl ?_
          refine g_iinc C d5_54 (v := (23 : Int32)) (w := (19 : Int32)) rfl rfl (L' := #[.val (.int (Jvm.Free.XT.ushr x (8 : Int32))), .val (.int (19 : Int32))]) rfl (pc' := 57) rfl ?_
          refine g_iload_n C d5_57 (v := (Jvm.Free.XT.ushr x (8 : Int32))) rfl (pc' := 58) rfl ?_
          refine g_iconst C d5_58 (v := (4 : Int32)) rfl (pc' := 59) rfl ?_
          refine g_iushr C (x := (Jvm.Free.XT.ushr x (8 : Int32))) (y := (4 : Int32)) d5_59  (pc' := 60) rfl ?_
          refine g_istore_n C d5_60 (v := (Jvm.Free.XT.ushr (Jvm.Free.XT.ushr x (8 : Int32)) (4 : Int32))) (L' := #[.val (.int (Jvm.Free.XT.ushr (Jvm.Free.XT.ushr x (8 : Int32)) (4 : Int32))), .val (.int (19 : Int32))]) rfl (pc' := 61) rfl ?_
          refine g_iload_n C d5_61 (v := (Jvm.Free.XT.ushr (Jvm.Free.XT.ushr x (8 : Int32)) (4 : Int32))) rfl (pc' := 62) rfl ?_
          refine g_iconst C d5_62 (v := (4 : Int32)) rfl (pc' := 63) rfl ?_
          by_cases hb_9 : (Jvm.Free.XT.ushr (Jvm.Free.XT.ushr x (8 : Int32)) (4 : Int32)) < (4 : Int32)
          · refine g_icmp_y C d5_63 (Jvm.Free.XT.ii_lt_t hb_9) (pc' := 73) (by decide) (by decide) ?_
            refine g_iload_n C d5_73 (v := (19 : Int32)) rfl (pc' := 74) rfl ?_
            refine g_iload_n C d5_74 (v := (Jvm.Free.XT.ushr (Jvm.Free.XT.ushr x (8 : Int32)) (4 : Int32))) rfl (pc' := 75) rfl ?_
            refine g_iconst C d5_75 (v := (1 : Int32)) rfl (pc' := 76) rfl ?_
            refine g_iushr C (x := (Jvm.Free.XT.ushr (Jvm.Free.XT.ushr x (8 : Int32)) (4 : Int32))) (y := (1 : Int32)) d5_76  (pc' := 77) rfl ?_
            refine g_isub C (x := (19 : Int32)) (y := (Jvm.Free.XT.ushr (Jvm.Free.XT.ushr (Jvm.Free.XT.ushr x (8 : Int32)) (4 : Int32)) (1 : Int32))) d5_77  (pc' := 78) rfl ?_
            refine g_ret C (v := (.int ((19 : Int32) - (Jvm.Free.XT.ushr (Jvm.Free.XT.ushr (Jvm.Free.XT.ushr x (8 : Int32)) (4 : Int32)) (1 : Int32))))) (ty := .int) rfl rfl (Or.inl ⟨rfl, Or.inl rfl, _, rfl⟩) d5_78 (by decide) (by decide) ?_
            exact ⟨by rw [nlzI, if_pos hb_1, if_pos hb_2, nlzA, if_neg hb_3, nlzB, if_neg hb_7, nlzC, if_pos hb_9, nlzD] <;> rfl, rfl⟩
          · refine g_icmp_n C d5_63 (Jvm.Free.XT.ii_lt_f hb_9) (pc' := 66) rfl ?_
            refine g_iinc C d5_66 (v := (19 : Int32)) (w := (17 : Int32)) rfl rfl (L' := #[.val (.int (Jvm.Free.XT.ushr (Jvm.Free.XT.ushr x (8 : Int32)) (4 : Int32))), .val (.int (17 : Int32))]) rfl (pc' := 69) rfl ?_
            refine g_iload_n C d5_69 (v := (Jvm.Free.XT.ushr (Jvm.Free.XT.ushr x (8 : Int32)) (4 : Int32))) rfl (pc' := 70) rfl ?_
            refine g_iconst C d5_70 (v := (2 : Int32)) rfl (pc' := 71) rfl ?_
            refine g_iushr C (x := (Jvm.Free.XT.ushr (Jvm.Free.XT.ushr x (8 : Int32)) (4 : Int32))) (y := (2 : Int32)) d5_71  (pc' := 72) rfl ?_
            refine g_istore_n C d5_72 (v := (Jvm.Free.XT.ushr (Jvm.Free.XT.ushr (Jvm.Free.XT.ushr x (8 : Int32)) (4 : Int32)) (2 : Int32))) (L' := #[.val (.int (Jvm.Free.XT.ushr (Jvm.Free.XT.ushr (Jvm.Free.XT.ushr x (8 : Int32)) (4 : Int32)) (2 : Int32))), .val (.int (17 : Int32))]) rfl (pc' := 73) rfl ?_
            refine g_iload_n C d5_73 (v := (17 : Int32)) rfl (pc' := 74) rfl ?_
            refine g_iload_n C d5_74 (v := (Jvm.Free.XT.ushr (Jvm.Free.XT.ushr (Jvm.Free.XT.ushr x (8 : Int32)) (4 : Int32)) (2 : Int32))) rfl (pc' := 75) rfl ?_
            refine g_iconst C d5_75 (v := (1 : Int32)) rfl (pc' := 76) rfl ?_
            refine g_iushr C (x := (Jvm.Free.XT.ushr (Jvm.Free.XT.ushr (Jvm.Free.XT.ushr x (8 : Int32)) (4 : Int32)) (2 : Int32))) (y := (1 : Int32)) d5_76  (pc' := 77) rfl ?_
            refine g_isub C (x := (17 : Int32)) (y := (Jvm.Free.XT.ushr (Jvm.Free.XT.ushr (Jvm.Free.XT.ushr (Jvm.Free.XT.ushr x (8 : Int32)) (4 : Int32)) (2 : Int32)) (1 : Int32))) d5_77  (pc' := 78) rfl ?_
            refine g_ret C (v := (.int ((17 : Int32) - (Jvm.Free.XT.ushr (Jvm.Free.XT.ushr (Jvm.Free.XT.ushr (Jvm.Free.XT.ushr x (8 : Int32)) (4 : Int32)) (2 : Int32)) (1 : Int32))))) (ty := .int) rfl rfl (Or.inl ⟨rfl, Or.inl rfl, _, rfl⟩) d5_78 (by decide) (by decide) ?_
            exact ⟨by rw [nlzI, if_pos hb_1, if_pos hb_2, nlzA, if_neg hb_3, nlzB, if_neg hb_7, nlzC, if_neg hb_9, nlzD] <;> rfl, rfl⟩
    · refine g_icmp_n C d5_22 (Jvm.Free.XT.ii_lt_f hb_2) (pc' := 25) rfl ?_
      refine g_iinc C d5_25 (v := (31 : Int32)) (w := (15 : Int32)) rfl rfl (L' := #[.val (.int x), .val (.int (15 : Int32))]) rfl (pc' := 28) rfl ?_
      refine g_iload_n C d5_28 (v := x) rfl (pc' := 29) rfl ?_
      refine g_bipush C d5_29 (v := (16 : Int32)) rfl (pc' := 31) rfl ?_
      refine g_iushr C (x := x) (y := (16 : Int32)) d5_31  (pc' := 32) rfl ?_
      refine g_istore_n C d5_32 (v := (Jvm.Free.XT.ushr x (16 : Int32))) (L' := #[.val (.int (Jvm.Free.XT.ushr x (16 : Int32))), .val (.int (15 : Int32))]) rfl (pc' := 33) rfl ?_
      refine g_iload_n C d5_33 (v := (Jvm.Free.XT.ushr x (16 : Int32))) rfl (pc' := 34) rfl ?_
      refine g_sipush C d5_34 (v := (256 : Int32)) rfl (pc' := 37) rfl ?_
      by_cases hb_10 : (Jvm.Free.XT.ushr x (16 : Int32)) < (256 : Int32)
      · refine g_icmp_y C d5_37 (Jvm.Free.XT.ii_lt_t hb_10) (pc' := 48) (by decide) (by decide) ?_
        refine g_iload_n C d5_48 (v := (Jvm.Free.XT.ushr x (16 : Int32))) rfl (pc' := 49) rfl ?_
        refine g_bipush C d5_49 (v := (16 : Int32)) rfl (pc' := 51) rfl ?_
        by_cases hb_11 : (Jvm.Free.XT.ushr x (16 : Int32)) < (16 : Int32)
        · refine g_icmp_y C d5_51 (Jvm.Free.XT.ii_lt_t hb_11) (pc' := 61) (by decide) (by decide) ?_
          refine g_iload_n C d5_61 (v := (Jvm.Free.XT.ushr x (16 : Int32))) rfl (pc' := 62) rfl ?_
          refine g_iconst C d5_62 (v := (4 : Int32)) rfl (pc' := 63) rfl ?_
          by_cases hb_12 : (Jvm.Free.XT.ushr x (16 : Int32)) < (4 : Int32)
          · refine g_icmp_y C d5_63 (Jvm.Free.XT.ii_lt_t hb_12) (pc' := 73) (by decide) (by decide) ?_
            refine g_iload_n C d5_73 (v := (15 : Int32)) rfl (pc' := 74) rfl ?_
            refine g_iload_n C d5_74 (v := (Jvm.Free.XT.ushr x (16 : Int32))) rfl (pc' := 75) rfl ?_
            refine g_iconst C d5_75 (v := (1 : Int32)) rfl (pc' := 76) rfl ?_
            refine g_iushr C (x := (Jvm.Free.XT.ushr x (16 : Int32))) (y := (1 : Int32)) d5_76  (pc' := 77) rfl ?_
            refine g_isub C (x := (15 : Int32)) (y := (Jvm.Free.XT.ushr (Jvm.Free.XT.ushr x (16 : Int32)) (1 : Int32))) d5_77  (pc' := 78) rfl ?_
            refine g_ret C (v := (.int ((15 : Int32) - (Jvm.Free.XT.ushr (Jvm.Free.XT.ushr x (16 : Int32)) (1 : Int32))))) (ty := .int) rfl rfl (Or.inl ⟨rfl, Or.inl rfl, _, rfl⟩) d5_78 (by decide) (by decide) ?_
            exact ⟨by rw [nlzI, if_pos hb_1, if_neg hb_2, nlzA, if_pos hb_10, nlzB, if_pos hb_11, nlzC, if_pos hb_12, nlzD] <;> rfl, rfl⟩
          · refine g_icmp_n C d5_63 (Jvm.Free.XT.ii_lt_f hb_12) (pc' := 66) rfl ?_
            refine g_iinc C d5_66 (v := (15 : Int32)) (w := (13 : Int32)) rfl rfl (L' := #[.val (.int (Jvm.Free.XT.ushr x (16 : Int32))), .val (.int (13 : Int32))]) rfl (pc' := 69) rfl ?_
            refine g_iload_n C d5_69 (v := (Jvm.Free.XT.ushr x (16 : Int32))) rfl (pc' := 70) rfl ?_
            refine g_iconst C d5_70 (v := (2 : Int32)) rfl (pc' := 71) rfl ?_
            refine g_iushr C (x := (Jvm.Free.XT.ushr x (16 : Int32))) (y := (2 : Int32)) d5_71  (pc' := 72) rfl ?_
            refine g_istore_n C d5_72 (v := (Jvm.Free.XT.ushr (Jvm.Free.XT.ushr x (16 : Int32)) (2 : Int32))) (L' := #[.val (.int (Jvm.Free.XT.ushr (Jvm.Free.XT.ushr x (16 : Int32)) (2 : Int32))), .val (.int (13 : Int32))]) rfl (pc' := 73) rfl ?_
            refine g_iload_n C d5_73 (v := (13 : Int32)) rfl (pc' := 74) rfl ?_
            refine g_iload_n C d5_74 (v := (Jvm.Free.XT.ushr (Jvm.Free.XT.ushr x (16 : Int32)) (2 : Int32))) rfl (pc' := 75) rfl ?_
            refine g_iconst C d5_75 (v := (1 : Int32)) rfl (pc' := 76) rfl ?_
            refine g_iushr C (x := (Jvm.Free.XT.ushr (Jvm.Free.XT.ushr x (16 : Int32)) (2 : Int32))) (y := (1 : Int32)) d5_76  (pc' := 77) rfl ?_
            refine g_isub C (x := (13 : Int32)) (y := (Jvm.Free.XT.ushr (Jvm.Free.XT.ushr (Jvm.Free.XT.ushr x (16 : Int32)) (2 : Int32)) (1 : Int32))) d5_77  (pc' := 78) rfl ?_
            refine g_ret C (v := (.int ((13 : Int32) - (Jvm.Free.XT.ushr (Jvm.Free.XT.ushr (Jvm.Free.XT.ushr x (16 : Int32)) (2 : Int32)) (1 : Int32))))) (ty := .int) rfl rfl (Or.inl ⟨rfl, Or.inl rfl, _, rfl⟩) d5_78 (by decide) (by decide) ?_
            exact ⟨by rw [nlzI, if_pos hb_1, if_neg hb_2, nlzA, if_pos hb_10, nlzB, if_pos hb_11, nlzC, if_neg hb_12, nlzD] <;> rfl, rfl⟩
        · refine g_icmp_n C d5_51 (Jvm.Free.XT.ii_lt_f hb_11) (pc' := 54) rfl ?_
          refine g_iinc C d5_54 (v := (15 : Int32)) (w := (11 : Int32)) rfl rfl (L' := #[.val (.int (Jvm.Free.XT.ushr x (16 : Int32))), .val (.int (11 : Int32))]) rfl (pc' := 57) rfl ?_
          refine g_iload_n C d5_57 (v := (Jvm.Free.XT.ushr x (16 : Int32))) rfl (pc' := 58) rfl ?_
          refine g_iconst C d5_58 (v := (4 : Int32)) rfl (pc' := 59) rfl ?_
          refine g_iushr C (x := (Jvm.Free.XT.ushr x (16 : Int32))) (y := (4 : Int32)) d5_59  (pc' := 60) rfl ?_
          refine g_istore_n C d5_60 (v := (Jvm.Free.XT.ushr (Jvm.Free.XT.ushr x (16 : Int32)) (4 : Int32))) (L' := #[.val (.int (Jvm.Free.XT.ushr (Jvm.Free.XT.ushr x (16 : Int32)) (4 : Int32))), .val (.int (11 : Int32))]) rfl (pc' := 61) rfl ?_
          refine g_iload_n C d5_61 (v := (Jvm.Free.XT.ushr (Jvm.Free.XT.ushr x (16 : Int32)) (4 : Int32))) rfl (pc' := 62) rfl ?_
          refine g_iconst C d5_62 (v := (4 : Int32)) rfl (pc' := 63) rfl ?_
          by_cases hb_13 : (Jvm.Free.XT.ushr (Jvm.Free.XT.ushr x (16 : Int32)) (4 : Int32)) < (4 : Int32)
          · refine g_icmp_y C d5_63 (Jvm.Free.XT.ii_lt_t hb_13) (pc' := 73) (by decide) (by decide) ?_
            refine g_iload_n C d5_73 (v := (11 : Int32)) rfl (pc' := 74) rfl ?_
            refine g_iload_n C d5_74 (v := (Jvm.Free.XT.ushr (Jvm.Free.XT.ushr x (16 : Int32)) (4 : Int32))) rfl (pc' := 75) rfl ?_
            refine g_iconst C d5_75 (v := (1 : Int32)) rfl (pc' := 76) rfl ?_
            refine g_iushr C (x := (Jvm.Free.XT.ushr (Jvm.Free.XT.ushr x (16 : Int32)) (4 : Int32))) (y := (1 : Int32)) d5_76  (pc' := 77) rfl ?_
            refine g_isub C (x := (11 : Int32)) (y := (Jvm.Free.XT.ushr (Jvm.Free.XT.ushr (Jvm.Free.XT.ushr x (16 : Int32)) (4 : Int32)) (1 : Int32))) d5_77  (pc' := 78) rfl ?_
            refine g_ret C (v := (.int ((11 : Int32) - (Jvm.Free.XT.ushr (Jvm.Free.XT.ushr (Jvm.Free.XT.ushr x (16 : Int32)) (4 : Int32)) (1 : Int32))))) (ty := .int) rfl rfl (Or.inl ⟨rfl, Or.inl rfl, _, rfl⟩) d5_78 (by decide) (by decide) ?_
            exact ⟨by rw [nlzI, if_pos hb_1, if_neg hb_2, nlzA, if_pos hb_10, nlzB, if_neg hb_11, nlzC, if_pos hb_13, nlzD] <;> rfl, rfl⟩
          · refine g_icmp_n C d5_63 (Jvm.Free.XT.ii_lt_f hb_13) (pc' := 66) rfl ?_
            refine g_iinc C d5_66 (v := (11 : Int32)) (w := (9 : Int32)) rfl rfl (L' := #[.val (.int (Jvm.Free.XT.ushr (Jvm.Free.XT.ushr x (16 : Int32)) (4 : Int32))), .val (.int (9 : Int32))]) rfl (pc' := 69) rfl ?_
            refine g_iload_n C d5_69 (v := (Jvm.Free.XT.ushr (Jvm.Free.XT.ushr x (16 : Int32)) (4 : Int32))) rfl (pc' := 70) rfl ?_
            refine g_iconst C d5_70 (v := (2 : Int32)) rfl (pc' := 71) rfl ?_
            refine g_iushr C (x := (Jvm.Free.XT.ushr (Jvm.Free.XT.ushr x (16 : Int32)) (4 : Int32))) (y := (2 : Int32)) d5_71  (pc' := 72) rfl ?_
            refine g_istore_n C d5_72 (v := (Jvm.Free.XT.ushr (Jvm.Free.XT.ushr (Jvm.Free.XT.ushr x (16 : Int32)) (4 : Int32)) (2 : Int32))) (L' := #[.val (.int (Jvm.Free.XT.ushr (Jvm.Free.XT.ushr (Jvm.Free.XT.ushr x (16 : Int32)) (4 : Int32)) (2 : Int32))), .val (.int (9 : Int32))]) rfl (pc' := 73) rfl ?_
            refine g_iload_n C d5_73 (v := (9 : Int32)) rfl (pc' := 74) rfl ?_
            refine g_iload_n C d5_74 (v := (Jvm.Free.XT.ushr (Jvm.Free.XT.ushr (Jvm.Free.XT.ushr x (16 : Int32)) (4 : Int32)) (2 : Int32))) rfl (pc' := 75) rfl ?_
            refine g_iconst C d5_75 (v := (1 : Int32)) rfl (pc' := 76) rfl ?_
            refine g_iushr C (x := (Jvm.Free.XT.ushr (Jvm.Free.XT.ushr (Jvm.Free.XT.ushr x (16 : Int32)) (4 : Int32)) (2 : Int32))) (y := (1 : Int32)) d5_76  (pc' := 77) rfl ?_
            refine g_isub C (x := (9 : Int32)) (y := (Jvm.Free.XT.ushr (Jvm.Free.XT.ushr (Jvm.Free.XT.ushr (Jvm.Free.XT.ushr x (16 : Int32)) (4 : Int32)) (2 : Int32)) (1 : Int32))) d5_77  (pc' := 78) rfl ?_
            refine g_ret C (v := (.int ((9 : Int32) - (Jvm.Free.XT.ushr (Jvm.Free.XT.ushr (Jvm.Free.XT.ushr (Jvm.Free.XT.ushr x (16 : Int32)) (4 : Int32)) (2 : Int32)) (1 : Int32))))) (ty := .int) rfl rfl (Or.inl ⟨rfl, Or.inl rfl, _, rfl⟩) d5_78 (by decide) (by decide) ?_
            exact ⟨by rw [nlzI, if_pos hb_1, if_neg hb_2, nlzA, if_pos hb_10, nlzB, if_neg hb_11, nlzC, if_neg hb_13, nlzD] <;> rfl, rfl⟩
      · refine g_icmp_n C d5_37 (Jvm.Free.XT.ii_lt_f hb_10) (pc' := 40) rfl ?_
        refine g_iinc C d5_40 (v := (15 : Int32)) (w := (7 : Int32)) rfl rfl (L' := #[.val (.int (Jvm.Free.XT.ushr x (16 : Int32))), .val (.int (7 : Int32))]) rfl (pc' := 43) rfl ?_
        refine g_iload_n C d5_43 (v := (Jvm.Free.XT.ushr x (16 : Int32))) rfl (pc' := 44) rfl ?_
        refine g_bipush C d5_44 (v := (8 : Int32)) rfl (pc' := 46) rfl ?_
        refine g_iushr C (x := (Jvm.Free.XT.ushr x (16 : Int32))) (y := (8 : Int32)) d5_46  (pc' := 47) rfl ?_
        refine g_istore_n C d5_47 (v := (Jvm.Free.XT.ushr (Jvm.Free.XT.ushr x (16 : Int32)) (8 : Int32))) (L' := #[.val (.int (Jvm.Free.XT.ushr (Jvm.Free.XT.ushr x (16 : Int32)) (8 : Int32))), .val (.int (7 : Int32))]) rfl (pc' := 48) rfl ?_
        refine g_iload_n C d5_48 (v := (Jvm.Free.XT.ushr (Jvm.Free.XT.ushr x (16 : Int32)) (8 : Int32))) rfl (pc' := 49) rfl ?_
        refine g_bipush C d5_49 (v := (16 : Int32)) rfl (pc' := 51) rfl ?_
        by_cases hb_14 : (Jvm.Free.XT.ushr (Jvm.Free.XT.ushr x (16 : Int32)) (8 : Int32)) < (16 : Int32)
        · refine g_icmp_y C d5_51 (Jvm.Free.XT.ii_lt_t hb_14) (pc' := 61) (by decide) (by decide) ?_
          refine g_iload_n C d5_61 (v := (Jvm.Free.XT.ushr (Jvm.Free.XT.ushr x (16 : Int32)) (8 : Int32))) rfl (pc' := 62) rfl ?_
          refine g_iconst C d5_62 (v := (4 : Int32)) rfl (pc' := 63) rfl ?_
          by_cases hb_15 : (Jvm.Free.XT.ushr (Jvm.Free.XT.ushr x (16 : Int32)) (8 : Int32)) < (4 : Int32)
          · refine g_icmp_y C d5_63 (Jvm.Free.XT.ii_lt_t hb_15) (pc' := 73) (by decide) (by decide) ?_
            refine g_iload_n C d5_73 (v := (7 : Int32)) rfl (pc' := 74) rfl ?_
            refine g_iload_n C d5_74 (v := (Jvm.Free.XT.ushr (Jvm.Free.XT.ushr x (16 : Int32)) (8 : Int32))) rfl (pc' := 75) rfl ?_
            refine g_iconst C d5_75 (v := (1 : Int32)) rfl (pc' := 76) rfl ?_
            refine g_iushr C (x := (Jvm.Free.XT.ushr (Jvm.Free.XT.ushr x (16 : Int32)) (8 : Int32))) (y := (1 : Int32)) d5_76  (pc' := 77) rfl ?_
            refine g_isub C (x := (7 : Int32)) (y := (Jvm.Free.XT.ushr (Jvm.Free.XT.ushr (Jvm.Free.XT.ushr x (16 : Int32)) (8 : Int32)) (1 : Int32))) d5_77  (pc' := 78) rfl ?_
            refine g_ret C (v := (.int ((7 : Int32) - (Jvm.Free.XT.ushr (Jvm.Free.XT.ushr (Jvm.Free.XT.ushr x (16 : Int32)) (8 : Int32)) (1 : Int32))))) (ty := .int) rfl rfl (Or.inl ⟨rfl, Or.inl rfl, _, rfl⟩) d5_78 (by decide) (by decide) ?_
            exact ⟨by rw [nlzI, if_pos hb_1, if_neg hb_2, nlzA, if_neg hb_10, nlzB, if_pos hb_14, nlzC, if_pos hb_15, nlzD] <;> rfl, rfl⟩
          · refine g_icmp_n C d5_63 (Jvm.Free.XT.ii_lt_f hb_15) (pc' := 66) rfl ?_
            refine g_iinc C d5_66 (v := (7 : Int32)) (w := (5 : Int32)) rfl rfl (L' := #[.val (.int (Jvm.Free.XT.ushr (Jvm.Free.XT.ushr x (16 : Int32)) (8 : Int32))), .val (.int (5 : Int32))]) rfl (pc' := 69) rfl ?_
            refine g_iload_n C d5_69 (v := (Jvm.Free.XT.ushr (Jvm.Free.XT.ushr x (16 : Int32)) (8 : Int32))) rfl (pc' := 70) rfl ?_
            refine g_iconst C d5_70 (v := (2 : Int32)) rfl (pc' := 71) rfl ?_
            refine g_iushr C (x := (Jvm.Free.XT.ushr (Jvm.Free.XT.ushr x (16 : Int32)) (8 : Int32))) (y := (2 : Int32)) d5_71  (pc' := 72) rfl ?_
            refine g_istore_n C d5_72 (v := (Jvm.Free.XT.ushr (Jvm.Free.XT.ushr (Jvm.Free.XT.ushr x (16 : Int32)) (8 : Int32)) (2 : Int32))) (L' := #[.val (.int (Jvm.Free.XT.ushr (Jvm.Free.XT.ushr (Jvm.Free.XT.ushr x (16 : Int32)) (8 : Int32)) (2 : Int32))), .val (.int (5 : Int32))]) rfl (pc' := 73) rfl ?_
            refine g_iload_n C d5_73 (v := (5 : Int32)) rfl (pc' := 74) rfl ?_
            refine g_iload_n C d5_74 (v := (Jvm.Free.XT.ushr (Jvm.Free.XT.ushr (Jvm.Free.XT.ushr x (16 : Int32)) (8 : Int32)) (2 : Int32))) rfl (pc' := 75) rfl ?_
            refine g_iconst C d5_75 (v := (1 : Int32)) rfl (pc' := 76) rfl ?_
            refine g_iushr C (x := (Jvm.Free.XT.ushr (Jvm.Free.XT.ushr (Jvm.Free.XT.ushr x (16 : Int32)) (8 : Int32)) (2 : Int32))) (y := (1 : Int32)) d5_76  (pc' := 77) rfl ?_
            refine g_isub C (x := (5 : Int32)) (y := (Jvm.Free.XT.ushr (Jvm.Free.XT.ushr (Jvm.Free.XT.ushr (Jvm.Free.XT.ushr x (16 : Int32)) (8 : Int32)) (2 : Int32)) (1 : Int32))) d5_77  (pc' := 78) rfl ?_
            refine g_ret C (v := (.int ((5 : Int32) - (Jvm.Free.XT.ushr (Jvm.Free.XT.ushr (Jvm.Free.XT.ushr (Jvm.Free.XT.ushr x (16 : Int32)) (8 : Int32)) (2 : Int32)) (1 : Int32))))) (ty := .int) rfl rfl (Or.inl ⟨rfl, Or.inl rfl, _, rfl⟩) d5_78 (by decide) (by decide) ?_
            exact ⟨by rw [nlzI, if_pos hb_1, if_neg hb_2, nlzA, if_neg hb_10, nlzB, if_pos hb_14, nlzC, if_neg hb_15, nlzD] <;> rfl, rfl⟩
        · refine g_icmp_n C d5_51 (Jvm.Free.XT.ii_lt_f hb_14) (pc' := 54) rfl ?_
          refine g_iinc C d5_54 (v := (7 : Int32)) (w := (3 : Int32)) rfl rfl (L' := #[.val (.int (Jvm.Free.XT.ushr (Jvm.Free.XT.ushr x (16 : Int32)) (8 : Int32))), .val (.int (3 : Int32))]) rfl (pc' := 57) rfl ?_
          refine g_iload_n C d5_57 (v := (Jvm.Free.XT.ushr (Jvm.Free.XT.ushr x (16 : Int32)) (8 : Int32))) rfl (pc' := 58) rfl ?_
          refine g_iconst C d5_58 (v := (4 : Int32)) rfl (pc' := 59) rfl ?_
          refine g_iushr C (x := (Jvm.Free.XT.ushr (Jvm.Free.XT.ushr x (16 : Int32)) (8 : Int32))) (y := (4 : Int32)) d5_59  (pc' := 60) rfl ?_
          refine g_istore_n C d5_60 (v := (Jvm.Free.XT.ushr (Jvm.Free.XT.ushr (Jvm.Free.XT.ushr x (16 : Int32)) (8 : Int32)) (4 : Int32))) (L' := #[.val (.int (Jvm.Free.XT.ushr (Jvm.Free.XT.ushr (Jvm.Free.XT.ushr x (16 : Int32)) (8 : Int32)) (4 : Int32))), .val (.int (3 : Int32))]) rfl (pc' := 61) rfl ?_
          refine g_iload_n C d5_61 (v := (Jvm.Free.XT.ushr (Jvm.Free.XT.ushr (Jvm.Free.XT.ushr x (16 : Int32)) (8 : Int32)) (4 : Int32))) rfl (pc' := 62) rfl ?_
          refine g_iconst C d5_62 (v := (4 : Int32)) rfl (pc' := 63) rfl ?_
          by_cases hb_16 : (Jvm.Free.XT.ushr (Jvm.Free.XT.ushr (Jvm.Free.XT.ushr x (16 : Int32)) (8 : Int32)) (4 : Int32)) < (4 : Int32)
          · refine g_icmp_y C d5_63 (Jvm.Free.XT.ii_lt_t hb_16) (pc' := 73) (by decide) (by decide) ?_
            refine g_iload_n C d5_73 (v := (3 : Int32)) rfl (pc' := 74) rfl ?_
            refine g_iload_n C d5_74 (v := (Jvm.Free.XT.ushr (Jvm.Free.XT.ushr (Jvm.Free.XT.ushr x (16 : Int32)) (8 : Int32)) (4 : Int32))) rfl (pc' := 75) rfl ?_
            refine g_iconst C d5_75 (v := (1 : Int32)) rfl (pc' := 76) rfl ?_
            refine g_iushr C (x := (Jvm.Free.XT.ushr (Jvm.Free.XT.ushr (Jvm.Free.XT.ushr x (16 : Int32)) (8 : Int32)) (4 : Int32))) (y := (1 : Int32)) d5_76  (pc' := 77) rfl ?_
            refine g_isub C (x := (3 : Int32)) (y := (Jvm.Free.XT.ushr (Jvm.Free.XT.ushr (Jvm.Free.XT.ushr (Jvm.Free.XT.ushr x (16 : Int32)) (8 : Int32)) (4 : Int32)) (1 : Int32))) d5_77  (pc' := 78) rfl ?_
            refine g_ret C (v := (.int ((3 : Int32) - (Jvm.Free.XT.ushr (Jvm.Free.XT.ushr (Jvm.Free.XT.ushr (Jvm.Free.XT.ushr x (16 : Int32)) (8 : Int32)) (4 : Int32)) (1 : Int32))))) (ty := .int) rfl rfl (Or.inl ⟨rfl, Or.inl rfl, _, rfl⟩) d5_78 (by decide) (by decide) ?_
            exact ⟨by rw [nlzI, if_pos hb_1, if_neg hb_2, nlzA, if_neg hb_10, nlzB, if_neg hb_14, nlzC, if_pos hb_16, nlzD] <;> rfl, rfl⟩
          · refine g_icmp_n C d5_63 (Jvm.Free.XT.ii_lt_f hb_16) (pc' := 66) rfl ?_
            refine g_iinc C d5_66 (v := (3 : Int32)) (w := (1 : Int32)) rfl rfl (L' := #[.val (.int (Jvm.Free.XT.ushr (Jvm.Free.XT.ushr (Jvm.Free.XT.ushr x (16 : Int32)) (8 : Int32)) (4 : Int32))), .val (.int (1 : Int32))]) rfl (pc' := 69) rfl ?_
            refine g_iload_n C d5_69 (v := (Jvm.Free.XT.ushr (Jvm.Free.XT.ushr (Jvm.Free.XT.ushr x (16 : Int32)) (8 : Int32)) (4 : Int32))) rfl (pc' := 70) rfl ?_
            refine g_iconst C d5_70 (v := (2 : Int32)) rfl (pc' := 71) rfl ?_
            refine g_iushr C (x := (Jvm.Free.XT.ushr (Jvm.Free.XT.ushr (Jvm.Free.XT.ushr x (16 : Int32)) (8 : Int32)) (4 : Int32))) (y := (2 : Int32)) d5_71  (pc' := 72) rfl ?_
            refine g_istore_n C d5_72 (v := (Jvm.Free.XT.ushr (Jvm.Free.XT.ushr (Jvm.Free.XT.ushr (Jvm.Free.XT.ushr x (16 : Int32)) (8 : Int32)) (4 : Int32)) (2 : Int32))) (L' := #[.val (.int (Jvm.Free.XT.ushr (Jvm.Free.XT.ushr (Jvm.Free.XT.ushr (Jvm.Free.XT.ushr x (16 : Int32)) (8 : Int32)) (4 : Int32)) (2 : Int32))), .val (.int (1 : Int32))]) rfl (pc' := 73) rfl ?_
            refine g_iload_n C d5_73 (v := (1 : Int32)) rfl (pc' := 74) rfl ?_
            refine g_iload_n C d5_74 (v := (Jvm.Free.XT.ushr (Jvm.Free.XT.ushr (Jvm.Free.XT.ushr (Jvm.Free.XT.ushr x (16 : Int32)) (8 : Int32)) (4 : Int32)) (2 : Int32))) rfl (pc' := 75) rfl ?_
            refine g_iconst C d5_75 (v := (1 : Int32)) rfl (pc' := 76) rfl ?_
            refine g_iushr C (x := (Jvm.Free.XT.ushr (Jvm.Free.XT.ushr (Jvm.Free.XT.ushr (Jvm.Free.XT.ushr x (16 : Int32)) (8 : Int32)) (4 : Int32)) (2 : Int32))) (y := (1 : Int32)) d5_76  (pc' := 77) rfl ?_
            refine g_isub C (x := (1 : Int32)) (y := (Jvm.Free.XT.ushr (Jvm.Free.XT.ushr (Jvm.Free.XT.ushr (Jvm.Free.XT.ushr (Jvm.Free.XT.ushr x (16 : Int32)) (8 : Int32)) (4 : Int32)) (2 : Int32)) (1 : Int32))) d5_77  (pc' := 78) rfl ?_
            refine g_ret C (v := (.int ((1 : Int32) - (Jvm.Free.XT.ushr (Jvm.Free.XT.ushr (Jvm.Free.XT.ushr (Jvm.Free.XT.ushr (Jvm.Free.XT.ushr x (16 : Int32)) (8 : Int32)) (4 : Int32)) (2 : Int32)) (1 : Int32))))) (ty := .int) rfl rfl (Or.inl ⟨rfl, Or.inl rfl, _, rfl⟩) d5_78 (by decide) (by decide) ?_
            exact ⟨by rw [nlzI, if_pos hb_1, if_neg hb_2, nlzA, if_neg hb_10, nlzB, if_neg hb_14, nlzC, if_neg hb_16, nlzD] <;> rfl, rfl⟩
  · refine g_if_n C d5_1 (Jvm.Free.XT.i0_gt_f hb_1) (pc' := 4) rfl ?_
    refine g_iload_n C d5_4 (v := x) rfl (pc' := 5) rfl ?_
    by_cases hb_17 : x = (0 : Int32)
    · refine g_if_n C d5_5 (Jvm.Free.XT.i0_ne_f hb_17) (pc' := 8) rfl ?_
      refine g_bipush C d5_8 (v := (32 : Int32)) rfl (pc' := 10) rfl ?_
      refine g_goto C d5_10 (pc' := 14) (by decide) (by decide) ?_
      refine g_ret C (v := (.int (32 : Int32))) (ty := .int) rfl rfl (Or.inl ⟨rfl, Or.inl rfl, _, rfl⟩) d5_14 (by decide) (by decide) ?_
      exact ⟨by rw [nlzI, if_neg hb_1, if_pos hb_17] <;> rfl, rfl⟩
    · refine g_if_y C d5_5 (Jvm.Free.XT.i0_ne_t hb_17) (pc' := 13) (by decide) (by decide) ?_
      refine g_iconst C d5_13 (v := (0 : Int32)) rfl (pc' := 14) rfl ?_
      refine g_ret C (v := (.int (0 : Int32))) (ty := .int) rfl rfl (Or.inl ⟨rfl, Or.inl rfl, _, rfl⟩) d5_14 (by decide) (by decide) ?_
      exact ⟨by rw [nlzI, if_neg hb_1, if_neg hb_17] <;> rfl, rfl⟩
theorem own_pd_1_numberOfLeadingZeros : parseMethodDescriptor "(I)I" = some ⟨[.int], (some .int)⟩ := by decide +kernel
theorem d4_0 : decode jdk_35_method_48_code 0 = .ok (.lload_n 0, 1) := by decide +kernel
theorem d4_1 : decode jdk_35_method_48_code 1 = .ok (.bipush 32, 2) := by decide +kernel
theorem d4_3 : decode jdk_35_method_48_code 3 = .ok (.lushr, 1) := by decide +kernel
theorem d4_4 : decode jdk_35_method_48_code 4 = .ok (.l2i, 1) := by decide +kernel
theorem d4_5 : decode jdk_35_method_48_code 5 = .ok (.istore_n 2, 1) := by decide +kernel
theorem d4_6 : decode jdk_35_method_48_code 6 = .ok (.iload_n 2, 1) := by decide +kernel
theorem d4_7 : decode jdk_35_method_48_code 7 = .ok (.ifCond .ne 14, 3) := by decide +kernel
theorem d4_10 : decode jdk_35_method_48_code 10 = .ok (.bipush 32, 2) := by decide +kernel
theorem d4_12 : decode jdk_35_method_48_code 12 = .ok (.lload_n 0, 1) := by decide +kernel
theorem d4_13 : decode jdk_35_method_48_code 13 = .ok (.l2i, 1) := by decide +kernel
theorem d4_14 : decode jdk_35_method_48_code 14 = .ok (.invokestatic 308, 3) := by decide +kernel
theorem d4_17 : decode jdk_35_method_48_code 17 = .ok (.iadd, 1) := by decide +kernel
theorem d4_18 : decode jdk_35_method_48_code 18 = .ok (.goto 7, 3) := by decide +kernel
theorem d4_21 : decode jdk_35_method_48_code 21 = .ok (.iload_n 2, 1) := by decide +kernel
theorem d4_22 : decode jdk_35_method_48_code 22 = .ok (.invokestatic 308, 3) := by decide +kernel
theorem d4_25 : decode jdk_35_method_48_code 25 = .ok (.ireturn, 1) := by decide +kernel
theorem own_pn_java_lang_Long : plainName "java/lang/Long" = true := by first | (simp [plainName, overriddenIn]; done) | decide +kernel
set_option maxRecDepth 65536 in
set_option maxHeartbeats 40000000 in
theorem rm_nlzL (l : Launch) (Z : State) (a0 : Array Value) (hw : ∀ d ∈ tables_1, d.before a0 Z = true) (n0 : Nat) (x : Int64) (h0 : Heap) (Z0 : n0 ≤ h0.size)  :
    Met1 l Z (⟨"java/lang/Long", "numberOfLeadingZeros", "(J)I"⟩ : MethodName) jdk_35_method_48_code 3 (some .int) ({ frames := 1, cells := 0, slots := 0, locals := 14 } : Room) n0 #[(.long x)] h0 (fun v h => v = some (.int (nlzL x)) ∧ h0 = h) := by
  refine met_of (plainFor_of_name own_pn_java_lang_Long) (L0 := #[.val (.long x), .second, .unset]) (by first | (simp [argsToLocals, Value.category]; done) | rfl) ?_
  intro B C
  change Ctx B l _ _ "java/lang/Long" "numberOfLeadingZeros" _ _ Z at C
  refine g_lload_n C d4_0 (v := x) rfl (pc' := 1) rfl ?_
  refine g_bipush C d4_1 (v := (32 : Int32)) rfl (pc' := 3) rfl ?_
  refine g_lushr C (x := x) (y := (32 : Int32)) d4_3  (pc' := 4) rfl ?_
  refine g_l2i C (x := (Jvm.Free.XT.ushrL x (32 : Int32))) d4_4 (pc' := 5) rfl ?_
  refine g_istore_n C d4_5 (v := (Int64.toInt32 (Jvm.Free.XT.ushrL x (32 : Int32)))) (L' := #[.val (.long x), .second, .val (.int (Int64.toInt32 (Jvm.Free.XT.ushrL x (32 : Int32))))]) rfl (pc' := 6) rfl ?_
  refine g_iload_n C d4_6 (v := (Int64.toInt32 (Jvm.Free.XT.ushrL x (32 : Int32)))) rfl (pc' := 7) rfl ?_
  by_cases hb_1 : (Int64.toInt32 (Jvm.Free.XT.ushrL x (32 : Int32))) = (0 : Int32)
  · refine g_if_n C d4_7 (Jvm.Free.XT.i0_ne_f hb_1) (pc' := 10) rfl ?_
    refine g_bipush C d4_10 (v := (32 : Int32)) rfl (pc' := 12) rfl ?_
    refine g_lload_n C d4_12 (v := x) rfl (pc' := 13) rfl ?_
    refine g_l2i C (x := x) d4_13 (pc' := 14) rfl ?_
    refine g_static C (own_w hw 36 rfl) (own_w hw 37 rfl) (own_w hw 38 rfl) (own_w hw 39 rfl) (by decide) (rm_nlzI l Z a0 hw n0 (Int64.toInt32 x) h0 Z0 ) (st := [(.int (32 : Int32))]) [(.int (Int64.toInt32 x))] rfl rfl own_pd_1_numberOfLeadingZeros rfl rfl (by decide) (W := 1) (Nat.le_of_eq rfl) (by decide) (by decide) (by decide) d4_14 (pc' := 17) rfl ?_
    intro v_4 h_2 q_3
    obtain ⟨rfl, rfl⟩ := q_3
    show Go B n0 _ h0 0 0 17 #[.val (.long x), .second, .val (.int (Int64.toInt32 (Jvm.Free.XT.ushrL x (32 : Int32))))] [(.int (nlzI (Int64.toInt32 x))), (.int (32 : Int32))]
    refine g_iadd C (x := (32 : Int32)) (y := (nlzI (Int64.toInt32 x))) d4_17  (pc' := 18) rfl ?_
    refine g_goto C d4_18 (pc' := 25) (by decide) (by decide) ?_
    refine g_ret C (v := (.int ((32 : Int32) + (nlzI (Int64.toInt32 x))))) (ty := .int) rfl rfl (Or.inl ⟨rfl, Or.inl rfl, _, rfl⟩) d4_25 (by decide) (by decide) ?_
    exact ⟨by rw [nlzL, if_pos hb_1], rfl⟩
  · refine g_if_y C d4_7 (Jvm.Free.XT.i0_ne_t hb_1) (pc' := 21) (by decide) (by decide) ?_
    refine g_iload_n C d4_21 (v := (Int64.toInt32 (Jvm.Free.XT.ushrL x (32 : Int32)))) rfl (pc' := 22) rfl ?_
    refine g_static C (own_w hw 36 rfl) (own_w hw 37 rfl) (own_w hw 38 rfl) (own_w hw 39 rfl) (by decide) (rm_nlzI l Z a0 hw n0 (Int64.toInt32 (Jvm.Free.XT.ushrL x (32 : Int32))) h0 Z0 ) (st := []) [(.int (Int64.toInt32 (Jvm.Free.XT.ushrL x (32 : Int32))))] rfl rfl own_pd_1_numberOfLeadingZeros rfl rfl (by decide) (W := 0) (Nat.le_of_eq rfl) (by decide) (by decide) (by decide) d4_22 (pc' := 25) rfl ?_
    intro v_7 h_5 q_6
    obtain ⟨rfl, rfl⟩ := q_6
    show Go B n0 _ h0 0 0 25 #[.val (.long x), .second, .val (.int (Int64.toInt32 (Jvm.Free.XT.ushrL x (32 : Int32))))] [(.int (nlzI (Int64.toInt32 (Jvm.Free.XT.ushrL x (32 : Int32)))))]
    refine g_ret C (v := (.int (nlzI (Int64.toInt32 (Jvm.Free.XT.ushrL x (32 : Int32)))))) (ty := .int) rfl rfl (Or.inl ⟨rfl, Or.inl rfl, _, rfl⟩) d4_25 (by decide) (by decide) ?_
    exact ⟨by rw [nlzL, if_neg hb_1], rfl⟩
theorem d1_0 : decode method_2_code 0 = .ok (.iload_n 0, 1) := by decide +kernel
theorem d1_1 : decode method_2_code 1 = .ok (.bipush 64, 2) := by decide +kernel
theorem d1_3 : decode method_2_code 3 = .ok (.if_icmp .ne 9, 3) := by decide +kernel
theorem d1_6 : decode method_2_code 6 = .ok (.ldc2_w 7, 3) := by decide +kernel
theorem d1_9 : decode method_2_code 9 = .ok (.goto 8, 3) := by decide +kernel
theorem d1_12 : decode method_2_code 12 = .ok (.lconst 1, 1) := by decide +kernel
theorem d1_13 : decode method_2_code 13 = .ok (.iload_n 0, 1) := by decide +kernel
theorem d1_14 : decode method_2_code 14 = .ok (.lshl, 1) := by decide +kernel
theorem d1_15 : decode method_2_code 15 = .ok (.lconst 1, 1) := by decide +kernel
theorem d1_16 : decode method_2_code 16 = .ok (.lsub, 1) := by decide +kernel
theorem d1_17 : decode method_2_code 17 = .ok (.lreturn, 1) := by decide +kernel
theorem own_pn_com_example_vestalia_vestalia_explorer_StatePackingUnpackPinLaw : plainName "com/example/vestalia/vestalia/explorer/StatePackingUnpackPinLaw" = true := by first | (simp [plainName, overriddenIn]; done) | decide +kernel
set_option maxRecDepth 65536 in
set_option maxHeartbeats 40000000 in
theorem rm_maskOf (l : Launch) (Z : State) (a0 : Array Value) (hw : ∀ d ∈ tables_1, d.before a0 Z = true) (n0 : Nat) (k : Int32) (h0 : Heap) (Z0 : n0 ≤ h0.size)  :
    Met1 l Z (⟨"com/example/vestalia/vestalia/explorer/StatePackingUnpackPinLaw", "maskOf", "(I)J"⟩ : MethodName) method_2_code 1 (some .long) ({ frames := 0, cells := 0, slots := 0, locals := 0 } : Room) n0 #[(.int k)] h0 (fun v h => v = some (.long (mk k)) ∧ h0 = h) := by
  refine met_of (plainFor_of_name own_pn_com_example_vestalia_vestalia_explorer_StatePackingUnpackPinLaw) (L0 := #[.val (.int k)]) (by first | (simp [argsToLocals, Value.category]; done) | rfl) ?_
  intro B C
  change Ctx B l _ _ "com/example/vestalia/vestalia/explorer/StatePackingUnpackPinLaw" "maskOf" _ _ Z at C
  refine g_iload_n C d1_0 (v := k) rfl (pc' := 1) rfl ?_
  refine g_bipush C d1_1 (v := (64 : Int32)) rfl (pc' := 3) rfl ?_
  by_cases hb_1 : k = (64 : Int32)
  · refine g_icmp_n C d1_3 (Jvm.Free.XT.ii_ne_f hb_1) (pc' := 6) rfl ?_
    refine g_ldc2_w C (v := (-1 : Int64)) (own_w hw 48 rfl) d1_6 (pc' := 9) rfl ?_
    refine g_goto C d1_9 (pc' := 17) (by decide) (by decide) ?_
    refine g_ret C (v := (.long (-1 : Int64))) (ty := .long) rfl rfl (Or.inr (Or.inl ⟨rfl, rfl, _, rfl⟩)) d1_17 (by decide) (by decide) ?_
    exact ⟨by rw [mk, if_pos hb_1], rfl⟩
  · refine g_icmp_y C d1_3 (Jvm.Free.XT.ii_ne_t hb_1) (pc' := 12) (by decide) (by decide) ?_
    refine g_lconst C d1_12 (v := (1 : Int64)) rfl (pc' := 13) rfl ?_
    refine g_iload_n C d1_13 (v := k) rfl (pc' := 14) rfl ?_
    refine g_lshl C (x := (1 : Int64)) (y := k) d1_14  (pc' := 15) rfl ?_
    refine g_lconst C d1_15 (v := (1 : Int64)) rfl (pc' := 16) rfl ?_
    refine g_lsub C (x := ((1 : Int64) <<< (Int32.toInt64 k &&& 63))) (y := (1 : Int64)) d1_16  (pc' := 17) rfl ?_
    refine g_ret C (v := (.long (((1 : Int64) <<< (Int32.toInt64 k &&& 63)) - (1 : Int64)))) (ty := .long) rfl rfl (Or.inr (Or.inl ⟨rfl, rfl, _, rfl⟩)) d1_17 (by decide) (by decide) ?_
    exact ⟨by rw [mk, if_neg hb_1], rfl⟩
theorem own_pd_3_numberOfLeadingZeros : parseMethodDescriptor "(J)I" = some ⟨[.long], (some .int)⟩ := by decide +kernel
theorem d2_0 : decode prog_18_method_1_code 0 = .ok (.aload_n 0, 1) := by decide +kernel
theorem d2_1 : decode prog_18_method_1_code 1 = .ok (.invokespecial 1, 3) := by decide +kernel
theorem d2_4 : decode prog_18_method_1_code 4 = .ok (.aload_n 0, 1) := by decide +kernel
theorem d2_5 : decode prog_18_method_1_code 5 = .ok (.aload_n 1, 1) := by decide +kernel
theorem d2_6 : decode prog_18_method_1_code 6 = .ok (.invokevirtual 7, 3) := by decide +kernel
theorem d2_9 : decode prog_18_method_1_code 9 = .ok (.checkcast 8, 3) := by decide +kernel
theorem d2_12 : decode prog_18_method_1_code 12 = .ok (.putfield 13, 3) := by decide +kernel
theorem d2_15 : decode prog_18_method_1_code 15 = .ok (.aload_n 0, 1) := by decide +kernel
theorem d2_16 : decode prog_18_method_1_code 16 = .ok (.aload_n 1, 1) := by decide +kernel
theorem d2_17 : decode prog_18_method_1_code 17 = .ok (.arraylength, 1) := by decide +kernel
theorem d2_18 : decode prog_18_method_1_code 18 = .ok (.newarray .int, 2) := by decide +kernel
theorem d2_20 : decode prog_18_method_1_code 20 = .ok (.putfield 18, 3) := by decide +kernel
theorem d2_23 : decode prog_18_method_1_code 23 = .ok (.aload_n 0, 1) := by decide +kernel
theorem d2_24 : decode prog_18_method_1_code 24 = .ok (.aload_n 1, 1) := by decide +kernel
theorem d2_25 : decode prog_18_method_1_code 25 = .ok (.arraylength, 1) := by decide +kernel
theorem d2_26 : decode prog_18_method_1_code 26 = .ok (.newarray .int, 2) := by decide +kernel
theorem d2_28 : decode prog_18_method_1_code 28 = .ok (.putfield 22, 3) := by decide +kernel
theorem d2_31 : decode prog_18_method_1_code 31 = .ok (.aload_n 0, 1) := by decide +kernel
theorem d2_32 : decode prog_18_method_1_code 32 = .ok (.aload_n 1, 1) := by decide +kernel
theorem d2_33 : decode prog_18_method_1_code 33 = .ok (.arraylength, 1) := by decide +kernel
theorem d2_34 : decode prog_18_method_1_code 34 = .ok (.newarray .long, 2) := by decide +kernel
theorem d2_36 : decode prog_18_method_1_code 36 = .ok (.putfield 25, 3) := by decide +kernel
theorem d2_39 : decode prog_18_method_1_code 39 = .ok (.iconst 0, 1) := by decide +kernel
theorem d2_40 : decode prog_18_method_1_code 40 = .ok (.istore_n 3, 1) := by decide +kernel
theorem d2_41 : decode prog_18_method_1_code 41 = .ok (.iconst 0, 1) := by decide +kernel
theorem d2_42 : decode prog_18_method_1_code 42 = .ok (.istore 4, 2) := by decide +kernel
theorem d2_44 : decode prog_18_method_1_code 44 = .ok (.iconst 0, 1) := by decide +kernel
theorem d2_45 : decode prog_18_method_1_code 45 = .ok (.istore 5, 2) := by decide +kernel
theorem d2_47 : decode prog_18_method_1_code 47 = .ok (.iload 5, 2) := by decide +kernel
theorem d2_49 : decode prog_18_method_1_code 49 = .ok (.aload_n 1, 1) := by decide +kernel
theorem d2_50 : decode prog_18_method_1_code 50 = .ok (.arraylength, 1) := by decide +kernel
theorem d2_51 : decode prog_18_method_1_code 51 = .ok (.if_icmp .ge 92, 3) := by decide +kernel
theorem d2_54 : decode prog_18_method_1_code 54 = .ok (.bipush 64, 2) := by decide +kernel
theorem d2_56 : decode prog_18_method_1_code 56 = .ok (.aload_n 2, 1) := by decide +kernel
theorem d2_57 : decode prog_18_method_1_code 57 = .ok (.iload 5, 2) := by decide +kernel
theorem d2_59 : decode prog_18_method_1_code 59 = .ok (.laload, 1) := by decide +kernel
theorem d2_60 : decode prog_18_method_1_code 60 = .ok (.aload_n 1, 1) := by decide +kernel
theorem d2_61 : decode prog_18_method_1_code 61 = .ok (.iload 5, 2) := by decide +kernel
theorem d2_63 : decode prog_18_method_1_code 63 = .ok (.laload, 1) := by decide +kernel
theorem d2_64 : decode prog_18_method_1_code 64 = .ok (.lsub, 1) := by decide +kernel
theorem d2_65 : decode prog_18_method_1_code 65 = .ok (.invokestatic 30, 3) := by decide +kernel
theorem d2_68 : decode prog_18_method_1_code 68 = .ok (.isub, 1) := by decide +kernel
theorem d2_69 : decode prog_18_method_1_code 69 = .ok (.istore 6, 2) := by decide +kernel
theorem d2_71 : decode prog_18_method_1_code 71 = .ok (.iload 4, 2) := by decide +kernel
theorem d2_73 : decode prog_18_method_1_code 73 = .ok (.iload 6, 2) := by decide +kernel
theorem d2_75 : decode prog_18_method_1_code 75 = .ok (.iadd, 1) := by decide +kernel
theorem d2_76 : decode prog_18_method_1_code 76 = .ok (.bipush 64, 2) := by decide +kernel
theorem d2_78 : decode prog_18_method_1_code 78 = .ok (.if_icmp .le 9, 3) := by decide +kernel
theorem d2_81 : decode prog_18_method_1_code 81 = .ok (.iinc 3 1, 3) := by decide +kernel
theorem d2_84 : decode prog_18_method_1_code 84 = .ok (.iconst 0, 1) := by decide +kernel
theorem d2_85 : decode prog_18_method_1_code 85 = .ok (.istore 4, 2) := by decide +kernel
theorem d2_87 : decode prog_18_method_1_code 87 = .ok (.aload_n 0, 1) := by decide +kernel
theorem d2_88 : decode prog_18_method_1_code 88 = .ok (.getfield 18, 3) := by decide +kernel
theorem d2_91 : decode prog_18_method_1_code 91 = .ok (.iload 5, 2) := by decide +kernel
theorem d2_93 : decode prog_18_method_1_code 93 = .ok (.iload_n 3, 1) := by decide +kernel
theorem d2_94 : decode prog_18_method_1_code 94 = .ok (.iastore, 1) := by decide +kernel
theorem d2_95 : decode prog_18_method_1_code 95 = .ok (.aload_n 0, 1) := by decide +kernel
theorem d2_96 : decode prog_18_method_1_code 96 = .ok (.getfield 22, 3) := by decide +kernel
theorem d2_99 : decode prog_18_method_1_code 99 = .ok (.iload 5, 2) := by decide +kernel
theorem d2_101 : decode prog_18_method_1_code 101 = .ok (.iload 4, 2) := by decide +kernel
theorem d2_103 : decode prog_18_method_1_code 103 = .ok (.iastore, 1) := by decide +kernel
theorem d2_104 : decode prog_18_method_1_code 104 = .ok (.aload_n 0, 1) := by decide +kernel
theorem d2_105 : decode prog_18_method_1_code 105 = .ok (.getfield 25, 3) := by decide +kernel
theorem d2_108 : decode prog_18_method_1_code 108 = .ok (.iload 5, 2) := by decide +kernel
theorem d2_110 : decode prog_18_method_1_code 110 = .ok (.iload 6, 2) := by decide +kernel
theorem d2_112 : decode prog_18_method_1_code 112 = .ok (.bipush 64, 2) := by decide +kernel
theorem d2_114 : decode prog_18_method_1_code 114 = .ok (.if_icmp .ne 9, 3) := by decide +kernel
theorem d2_117 : decode prog_18_method_1_code 117 = .ok (.ldc2_w 34, 3) := by decide +kernel
theorem d2_120 : decode prog_18_method_1_code 120 = .ok (.goto 9, 3) := by decide +kernel
theorem d2_123 : decode prog_18_method_1_code 123 = .ok (.lconst 1, 1) := by decide +kernel
theorem d2_124 : decode prog_18_method_1_code 124 = .ok (.iload 6, 2) := by decide +kernel
theorem d2_126 : decode prog_18_method_1_code 126 = .ok (.lshl, 1) := by decide +kernel
theorem d2_127 : decode prog_18_method_1_code 127 = .ok (.lconst 1, 1) := by decide +kernel
theorem d2_128 : decode prog_18_method_1_code 128 = .ok (.lsub, 1) := by decide +kernel
theorem d2_129 : decode prog_18_method_1_code 129 = .ok (.lastore, 1) := by decide +kernel
theorem d2_130 : decode prog_18_method_1_code 130 = .ok (.iload 4, 2) := by decide +kernel
theorem d2_132 : decode prog_18_method_1_code 132 = .ok (.iload 6, 2) := by decide +kernel
theorem d2_134 : decode prog_18_method_1_code 134 = .ok (.iadd, 1) := by decide +kernel
theorem d2_135 : decode prog_18_method_1_code 135 = .ok (.istore 4, 2) := by decide +kernel
theorem d2_137 : decode prog_18_method_1_code 137 = .ok (.iinc 5 1, 3) := by decide +kernel
theorem d2_140 : decode prog_18_method_1_code 140 = .ok (.goto (-93), 3) := by decide +kernel
theorem d2_143 : decode prog_18_method_1_code 143 = .ok (.aload_n 0, 1) := by decide +kernel
theorem d2_144 : decode prog_18_method_1_code 144 = .ok (.iload_n 3, 1) := by decide +kernel
theorem d2_145 : decode prog_18_method_1_code 145 = .ok (.iconst 1, 1) := by decide +kernel
theorem d2_146 : decode prog_18_method_1_code 146 = .ok (.iadd, 1) := by decide +kernel
theorem d2_147 : decode prog_18_method_1_code 147 = .ok (.putfield 36, 3) := by decide +kernel
theorem d2_150 : decode prog_18_method_1_code 150 = .ok (.return_, 1) := by decide +kernel
theorem own_pn_com_example_vestalia_vestalia_explorer_StatePacking : plainName "com/example/vestalia/vestalia/explorer/StatePacking" = true := by first | (simp [plainName, overriddenIn]; done) | decide +kernel
set_option maxRecDepth 65536 in
set_option maxHeartbeats 40000000 in
theorem rm_init (l : Launch) (Z : State) (a0 : Array Value) (hw : ∀ d ∈ tables_1, d.before a0 Z = true) (n0 : Nat) (a1 a2 a3 : Addr) (l0 l1 g0v g1v : Int64) (k0 k1 : Int32) (h0 : Heap) (Z0 : n0 ≤ h0.size) (E0 : Exa Z h0 a1 "com/example/vestalia/vestalia/explorer/StatePacking") (F0 : Fld Z h0 a1 "com/example/vestalia/vestalia/explorer/StatePacking" "least" "[J" .null) (F1 : Fld Z h0 a1 "com/example/vestalia/vestalia/explorer/StatePacking" "word" "[I" .null) (F2 : Fld Z h0 a1 "com/example/vestalia/vestalia/explorer/StatePacking" "shift" "[I" .null) (F3 : Fld Z h0 a1 "com/example/vestalia/vestalia/explorer/StatePacking" "mask" "[J" .null) (F4 : Fld Z h0 a1 "com/example/vestalia/vestalia/explorer/StatePacking" "words" "I" (.int (0 : Int32))) (A2 : Ary Z h0 a2 .long [.long l0, .long l1]) (E2 : Exa Z h0 a2 "[J") (A3 : Ary Z h0 a3 .long [.long g0v, .long g1v]) (n12 : a1 ≠ a2) (n13 : a1 ≠ a3) (g0 : n0 ≤ a1) (N0 : ((64 : Int32) - (nlzL (g0v - l0))) = k0) (N1 : ((64 : Int32) - (nlzL (g1v - l1))) = k1) (K0 : 0 ≤ k0.toInt ∧ k0.toInt ≤ 64) :
    Met1 l Z (⟨"com/example/vestalia/vestalia/explorer/StatePacking", "<init>", "([J[J)V"⟩ : MethodName) prog_18_method_1_code 7 none ({ frames := 2, cells := 4, slots := 8, locals := 29 } : Room) n0 #[(.ref a1), (.ref a2), (.ref a3)] h0 (fun v h => v = none ∧ Keep h0 h [a1] ∧ ∃ bl bw bs bm : Addr, (h0.size ≤ bl ∧ h0.size ≤ bw ∧ h0.size ≤ bs ∧ h0.size ≤ bm) ∧ Fld Z h a1 "com/example/vestalia/vestalia/explorer/StatePacking" "least" "[J" (.ref bl) ∧ Fld Z h a1 "com/example/vestalia/vestalia/explorer/StatePacking" "word" "[I" (.ref bw) ∧ Fld Z h a1 "com/example/vestalia/vestalia/explorer/StatePacking" "shift" "[I" (.ref bs) ∧ Fld Z h a1 "com/example/vestalia/vestalia/explorer/StatePacking" "mask" "[J" (.ref bm) ∧ Ary Z h bl .long [.long l0, .long l1] ∧ Ary Z h bw .int [.int (0 : Int32), .int (wF k0 k1)] ∧ Ary Z h bs .int [.int (0 : Int32), .int (sF k0 k1)] ∧ Ary Z h bm .long [.long (mk k0), .long (mk k1)]) := by
  refine met_of (plainFor_of_name own_pn_com_example_vestalia_vestalia_explorer_StatePacking) (L0 := #[.val (.ref a1), .val (.ref a2), .val (.ref a3), .unset, .unset, .unset, .unset]) (by first | (simp [argsToLocals, Value.category]; done) | rfl) ?_
  intro B C
  change Ctx B l _ _ "com/example/vestalia/vestalia/explorer/StatePacking" "<init>" _ _ Z at C
  refine g_aload_n C d2_0 (v := (.ref a1)) rfl rfl (pc' := 1) rfl ?_
  refine g_initObj C (own_w hw 11 rfl) (own_w hw 12 rfl) (own_w hw 13 rfl) rfl (by decide) (W := 0) (Nat.le_of_eq rfl) (by decide) d2_1 (pc' := 4) rfl ?_
  refine g_aload_n C d2_4 (v := (.ref a1)) rfl rfl (pc' := 5) rfl ?_
  refine g_aload_n C d2_5 (v := (.ref a2)) rfl rfl (pc' := 6) rfl ?_
  refine g_clone C (own_w hw 14 rfl) (own_w hw 15 rfl) (own_w hw 19 rfl) (own_w hw 17 rfl) (own_w hw 18 rfl) (own_w hw 20 rfl) A2 E2 (by simp [fits]) rfl (by decide) (W := 1) (Nat.le_of_eq rfl) (by decide) (cap := 2) (Nat.le_of_eq rfl) (by decide) (by decide) d2_6 (pc' := 9) rfl ?_
  intro h_1 a_2 g_3 E_4 A_5 E_6
  have ne_7 : a1 ≠ a_2 := ne_new E0.lt g_3
  have ne_8 : a2 ≠ a_2 := ne_new A2.lt g_3
  have ne_9 : a3 ≠ a_2 := ne_new A3.lt g_3
  have ge_a_2 : n0 ≤ a_2 := Nat.le_trans Z0 (Nat.le_of_eq g_3.symm)
  have gs_a_2 : h0.size ≤ a_2 := Nat.le_trans (Nat.le_refl h0.size) (Nat.le_of_eq g_3.symm)
  have f_10 : Ary Z h_1 a_2 .long [(.long l0), (.long l1)] := A_5
  show Go B n0 _ h_1 1 2 9 #[.val (.ref a1), .val (.ref a2), .val (.ref a3), .unset, .unset, .unset, .unset] [(.ref a_2), (.ref a1)]
  refine g_checkcast C (own_w hw 21 rfl) (Ins.self E_6) d2_9 (pc' := 12) rfl ?_
  have f_11 := (F0.ext E_4)
  have f_12 := (E0.ext E_4)
  refine g_putfield C (host := "") (v := (.ref a_2)) (Or.inl (own_w hw 23 rfl)) Via.refl f_11 f_12 (Or.inr ⟨(own_w hw 24 rfl), rfl, rfl⟩) (own_w hw 6 rfl) (ty := (.array .long)) (by decide) rfl rfl g0 d2_12 (pc' := 15) rfl ?_
  intro h_13 W_14
  have f_15 := f_11.same W_14
  refine g_aload_n C d2_15 (v := (.ref a1)) rfl rfl (pc' := 16) rfl ?_
  refine g_aload_n C d2_16 (v := (.ref a2)) rfl rfl (pc' := 17) rfl ?_
  have f_16 := ((A2.ext E_4).keep (Keep.of_wr W_14) (nin1 (Ne.symm n12)))
  refine g_arraylength C f_16 (z := (2 : Int32)) rfl d2_17 (pc' := 18) rfl ?_
  have f_17 := (f_12.wr W_14)
  have f_18 := ((A3.ext E_4).keep (Keep.of_wr W_14) (nin1 (Ne.symm n13)))
  have f_19 := (f_10.keep (Keep.of_wr W_14) (nin1 (Ne.symm ne_7)))
  refine g_newarray C (own_w hw 25 rfl) (ty := .int) rfl (by decide) (cap := 2) (by decide) (by decide) (by decide) (by decide) d2_18 (pc' := 20) rfl ?_
  intro h_20 a_21 g_22 E_23 A_24
  have ne_25 : a1 ≠ a_21 := ne_new f_17.lt g_22
  have ne_26 : a2 ≠ a_21 := ne_new f_16.lt g_22
  have ne_27 : a3 ≠ a_21 := ne_new f_18.lt g_22
  have ne_28 : a_2 ≠ a_21 := ne_new f_19.lt g_22
  have f_29 := (Nat.le_trans (Nat.le_trans Z0 E_4.1) (Keep.of_wr W_14).1)
  have ge_a_21 : n0 ≤ a_21 := Nat.le_trans f_29 (Nat.le_of_eq g_22.symm)
  have f_30 := (Nat.le_trans (Nat.le_trans (Nat.le_refl h0.size) E_4.1) (Keep.of_wr W_14).1)
  have gs_a_21 : h0.size ≤ a_21 := Nat.le_trans f_30 (Nat.le_of_eq g_22.symm)
  have f_31 : Ary Z h_20 a_21 .int [(.int (0 : Int32)), (.int (0 : Int32))] := A_24
  show Go B n0 _ h_20 2 4 20 #[.val (.ref a1), .val (.ref a2), .val (.ref a3), .unset, .unset, .unset, .unset] [(.ref a_21), (.ref a1)]
  have f_32 := (((F1.ext E_4).other W_14 (Or.inr (slot_ne (Or.inr (own_w hw 27 rfl)) (Or.inr (own_w hw 24 rfl)) (by decide) (t := (.array .int)) (t' := (.array .long)) (by decide) (by decide)))).ext E_23)
  have f_33 := (f_17.ext E_23)
  refine g_putfield C (host := "") (v := (.ref a_21)) (Or.inl (own_w hw 26 rfl)) Via.refl f_32 f_33 (Or.inr ⟨(own_w hw 27 rfl), rfl, rfl⟩) (own_w hw 6 rfl) (ty := (.array .int)) (by decide) rfl rfl g0 d2_20 (pc' := 23) rfl ?_
  intro h_34 W_35
  have f_36 := f_32.same W_35
  refine g_aload_n C d2_23 (v := (.ref a1)) rfl rfl (pc' := 24) rfl ?_
  refine g_aload_n C d2_24 (v := (.ref a2)) rfl rfl (pc' := 25) rfl ?_
  have f_37 := ((f_16.ext E_23).keep (Keep.of_wr W_35) (nin1 (Ne.symm n12)))
  refine g_arraylength C f_37 (z := (2 : Int32)) rfl d2_25 (pc' := 26) rfl ?_
  have f_38 := (f_33.wr W_35)
  have f_39 := ((f_18.ext E_23).keep (Keep.of_wr W_35) (nin1 (Ne.symm n13)))
  have f_40 := ((f_19.ext E_23).keep (Keep.of_wr W_35) (nin1 (Ne.symm ne_7)))
  have f_41 := (f_31.keep (Keep.of_wr W_35) (nin1 (Ne.symm ne_25)))
  refine g_newarray C (own_w hw 25 rfl) (ty := .int) rfl (by decide) (cap := 2) (by decide) (by decide) (by decide) (by decide) d2_26 (pc' := 28) rfl ?_
  intro h_42 a_43 g_44 E_45 A_46
  have ne_47 : a1 ≠ a_43 := ne_new f_38.lt g_44
  have ne_48 : a2 ≠ a_43 := ne_new f_37.lt g_44
  have ne_49 : a3 ≠ a_43 := ne_new f_39.lt g_44
  have ne_50 : a_2 ≠ a_43 := ne_new f_40.lt g_44
  have ne_51 : a_21 ≠ a_43 := ne_new f_41.lt g_44
  have f_52 := (Nat.le_trans (Nat.le_trans f_29 E_23.1) (Keep.of_wr W_35).1)
  have ge_a_43 : n0 ≤ a_43 := Nat.le_trans f_52 (Nat.le_of_eq g_44.symm)
  have f_53 := (Nat.le_trans (Nat.le_trans f_30 E_23.1) (Keep.of_wr W_35).1)
  have gs_a_43 : h0.size ≤ a_43 := Nat.le_trans f_53 (Nat.le_of_eq g_44.symm)
  have f_54 : Ary Z h_42 a_43 .int [(.int (0 : Int32)), (.int (0 : Int32))] := A_46
  show Go B n0 _ h_42 3 6 28 #[.val (.ref a1), .val (.ref a2), .val (.ref a3), .unset, .unset, .unset, .unset] [(.ref a_43), (.ref a1)]
  have f_55 := (((((F2.ext E_4).other W_14 (Or.inr (slot_ne (Or.inr (own_w hw 29 rfl)) (Or.inr (own_w hw 24 rfl)) (by decide) (t := (.array .int)) (t' := (.array .long)) (by decide) (by decide)))).ext E_23).other W_35 (Or.inr (slot_ne (Or.inr (own_w hw 29 rfl)) (Or.inr (own_w hw 27 rfl)) (by decide) (t := (.array .int)) (t' := (.array .int)) (by decide) (by decide)))).ext E_45)
  have f_56 := (f_38.ext E_45)
  refine g_putfield C (host := "") (v := (.ref a_43)) (Or.inl (own_w hw 28 rfl)) Via.refl f_55 f_56 (Or.inr ⟨(own_w hw 29 rfl), rfl, rfl⟩) (own_w hw 6 rfl) (ty := (.array .int)) (by decide) rfl rfl g0 d2_28 (pc' := 31) rfl ?_
  intro h_57 W_58
  have f_59 := f_55.same W_58
  refine g_aload_n C d2_31 (v := (.ref a1)) rfl rfl (pc' := 32) rfl ?_
  refine g_aload_n C d2_32 (v := (.ref a2)) rfl rfl (pc' := 33) rfl ?_
  have f_60 := ((f_37.ext E_45).keep (Keep.of_wr W_58) (nin1 (Ne.symm n12)))
  refine g_arraylength C f_60 (z := (2 : Int32)) rfl d2_33 (pc' := 34) rfl ?_
  have f_61 := (f_56.wr W_58)
  have f_62 := ((f_39.ext E_45).keep (Keep.of_wr W_58) (nin1 (Ne.symm n13)))
  have f_63 := ((f_40.ext E_45).keep (Keep.of_wr W_58) (nin1 (Ne.symm ne_7)))
  have f_64 := ((f_41.ext E_45).keep (Keep.of_wr W_58) (nin1 (Ne.symm ne_25)))
  have f_65 := (f_54.keep (Keep.of_wr W_58) (nin1 (Ne.symm ne_47)))
  refine g_newarrayE C (own_w hw 4 rfl) (ty := .long) rfl (ad := "[J") (by decide) (by decide) (cap := 2) (by decide) (by decide) (by decide) (by decide) d2_34 (pc' := 36) rfl ?_
  intro h_66 a_67 g_68 E_69 A_70 E_71
  have ne_72 : a1 ≠ a_67 := ne_new f_61.lt g_68
  have ne_73 : a2 ≠ a_67 := ne_new f_60.lt g_68
  have ne_74 : a3 ≠ a_67 := ne_new f_62.lt g_68
  have ne_75 : a_2 ≠ a_67 := ne_new f_63.lt g_68
  have ne_76 : a_21 ≠ a_67 := ne_new f_64.lt g_68
  have ne_77 : a_43 ≠ a_67 := ne_new f_65.lt g_68
  have f_78 := (Nat.le_trans (Nat.le_trans f_52 E_45.1) (Keep.of_wr W_58).1)
  have ge_a_67 : n0 ≤ a_67 := Nat.le_trans f_78 (Nat.le_of_eq g_68.symm)
  have f_79 := (Nat.le_trans (Nat.le_trans f_53 E_45.1) (Keep.of_wr W_58).1)
  have gs_a_67 : h0.size ≤ a_67 := Nat.le_trans f_79 (Nat.le_of_eq g_68.symm)
  have f_80 : Ary Z h_66 a_67 .long [(.long (0 : Int64)), (.long (0 : Int64))] := A_70
  show Go B n0 _ h_66 4 8 36 #[.val (.ref a1), .val (.ref a2), .val (.ref a3), .unset, .unset, .unset, .unset] [(.ref a_67), (.ref a1)]
  have f_81 := (((((((F3.ext E_4).other W_14 (Or.inr (slot_ne (Or.inr (own_w hw 31 rfl)) (Or.inr (own_w hw 24 rfl)) (by decide) (t := (.array .long)) (t' := (.array .long)) (by decide) (by decide)))).ext E_23).other W_35 (Or.inr (slot_ne (Or.inr (own_w hw 31 rfl)) (Or.inr (own_w hw 27 rfl)) (by decide) (t := (.array .long)) (t' := (.array .int)) (by decide) (by decide)))).ext E_45).other W_58 (Or.inr (slot_ne (Or.inr (own_w hw 31 rfl)) (Or.inr (own_w hw 29 rfl)) (by decide) (t := (.array .long)) (t' := (.array .int)) (by decide) (by decide)))).ext E_69)
  have f_82 := (f_61.ext E_69)
  refine g_putfield C (host := "") (v := (.ref a_67)) (Or.inl (own_w hw 30 rfl)) Via.refl f_81 f_82 (Or.inr ⟨(own_w hw 31 rfl), rfl, rfl⟩) (own_w hw 6 rfl) (ty := (.array .long)) (by decide) rfl rfl g0 d2_36 (pc' := 39) rfl ?_
  intro h_83 W_84
  have f_85 := f_81.same W_84
  refine g_iconst C d2_39 (v := (0 : Int32)) rfl (pc' := 40) rfl ?_
  refine g_istore_n C d2_40 (v := (0 : Int32)) (L' := #[.val (.ref a1), .val (.ref a2), .val (.ref a3), .val (.int (0 : Int32)), .unset, .unset, .unset]) rfl (pc' := 41) rfl ?_
  refine g_iconst C d2_41 (v := (0 : Int32)) rfl (pc' := 42) rfl ?_
  refine g_istore C d2_42 (v := (0 : Int32)) (L' := #[.val (.ref a1), .val (.ref a2), .val (.ref a3), .val (.int (0 : Int32)), .val (.int (0 : Int32)), .unset, .unset]) rfl (pc' := 44) rfl ?_
  refine g_iconst C d2_44 (v := (0 : Int32)) rfl (pc' := 45) rfl ?_
  refine g_istore C d2_45 (v := (0 : Int32)) (L' := #[.val (.ref a1), .val (.ref a2), .val (.ref a3), .val (.int (0 : Int32)), .val (.int (0 : Int32)), .val (.int (0 : Int32)), .unset]) rfl (pc' := 47) rfl ?_
  refine g_iload C d2_47 (v := (0 : Int32)) rfl (pc' := 49) rfl ?_
  refine g_aload_n C d2_49 (v := (.ref a2)) rfl rfl (pc' := 50) rfl ?_
  have f_86 := ((f_60.ext E_69).keep (Keep.of_wr W_84) (nin1 (Ne.symm n12)))
  refine g_arraylength C f_86 (z := (2 : Int32)) rfl d2_50 (pc' := 51) rfl ?_
  refine g_icmp_n C d2_51 (Jvm.Free.XT.ii_ge_f (by decide)) (pc' := 54) rfl ?_
  refine g_bipush C d2_54 (v := (64 : Int32)) rfl (pc' := 56) rfl ?_
  refine g_aload_n C d2_56 (v := (.ref a3)) rfl rfl (pc' := 57) rfl ?_
  refine g_iload C d2_57 (v := (0 : Int32)) rfl (pc' := 59) rfl ?_
  have f_87 := ((f_62.ext E_69).keep (Keep.of_wr W_84) (nin1 (Ne.symm n13)))
  refine g_laload C f_87 (by decide) (i := 0) (by decide) (v := g0v) rfl d2_59 (pc' := 60) rfl ?_
  refine g_aload_n C d2_60 (v := (.ref a2)) rfl rfl (pc' := 61) rfl ?_
  refine g_iload C d2_61 (v := (0 : Int32)) rfl (pc' := 63) rfl ?_
  refine g_laload C f_86 (by decide) (i := 0) (by decide) (v := l0) rfl d2_63 (pc' := 64) rfl ?_
  refine g_lsub C (x := g0v) (y := l0) d2_64  (pc' := 65) rfl ?_
  have f_88 := (Nat.le_trans (Nat.le_trans f_78 E_69.1) (Keep.of_wr W_84).1)
  refine g_static C (own_w hw 32 rfl) (own_w hw 33 rfl) (own_w hw 34 rfl) (own_w hw 35 rfl) (by decide) (rm_nlzL l Z a0 hw n0 (g0v - l0) h_83 f_88 ) (st := [(.int (64 : Int32))]) [(.long (g0v - l0))] rfl rfl own_pd_3_numberOfLeadingZeros rfl rfl (by decide) (W := 1) (Nat.le_of_eq rfl) (by decide) (by decide) (by decide) d2_65 (pc' := 68) rfl ?_
  intro v_91 h_89 q_90
  obtain ⟨rfl, rfl⟩ := q_90
  show Go B n0 _ h_83 4 8 68 #[.val (.ref a1), .val (.ref a2), .val (.ref a3), .val (.int (0 : Int32)), .val (.int (0 : Int32)), .val (.int (0 : Int32)), .unset] [(.int (nlzL (g0v - l0))), (.int (64 : Int32))]
  refine g_isub C (x := (64 : Int32)) (y := (nlzL (g0v - l0))) d2_68  (pc' := 69) rfl ?_
  rw [N0]
  refine g_istore C d2_69 (v := k0) (L' := #[.val (.ref a1), .val (.ref a2), .val (.ref a3), .val (.int (0 : Int32)), .val (.int (0 : Int32)), .val (.int (0 : Int32)), .val (.int k0)]) rfl (pc' := 71) rfl ?_
  refine g_iload C d2_71 (v := (0 : Int32)) rfl (pc' := 73) rfl ?_
  refine g_iload C d2_73 (v := k0) rfl (pc' := 75) rfl ?_
  refine g_iadd C (x := (0 : Int32)) (y := k0) d2_75  (pc' := 76) rfl ?_
  rw [Int32.zero_add k0]
  refine g_bipush C d2_76 (v := (64 : Int32)) rfl (pc' := 78) rfl ?_
  refine g_icmp_y C d2_78 (Jvm.Free.XT.ii_le_t (own_le64 K0.2)) (pc' := 87) (by decide) (by decide) ?_
  refine g_aload_n C d2_87 (v := (.ref a1)) rfl rfl (pc' := 88) rfl ?_
  have f_92 := ((((f_36.ext E_45).other W_58 (Or.inr (slot_ne (Or.inr (own_w hw 27 rfl)) (Or.inr (own_w hw 29 rfl)) (by decide) (t := (.array .int)) (t' := (.array .int)) (by decide) (by decide)))).ext E_69).other W_84 (Or.inr (slot_ne (Or.inr (own_w hw 27 rfl)) (Or.inr (own_w hw 31 rfl)) (by decide) (t := (.array .int)) (t' := (.array .long)) (by decide) (by decide))))
  refine g_getfield C (host := "") (v := (.ref a_21)) (Or.inl (own_w hw 26 rfl)) Via.refl f_92 d2_88 (pc' := 91) rfl ?_
  refine g_iload C d2_91 (v := (0 : Int32)) rfl (pc' := 93) rfl ?_
  refine g_iload_n C d2_93 (v := (0 : Int32)) rfl (pc' := 94) rfl ?_
  have f_93 := ((f_64.ext E_69).keep (Keep.of_wr W_84) (nin1 (Ne.symm ne_25)))
  refine g_iastore C f_93 (by decide) (i := 0) (by decide) (show 0 < 2 by decide) (w := (.int (0 : Int32))) rfl ge_a_21 d2_94 (pc' := 95) rfl ?_
  intro h_94 K_95 A_96
  have f_97 : Ary Z h_94 a_21 .int [(.int (0 : Int32)), (.int (0 : Int32))] := A_96
  refine g_aload_n C d2_95 (v := (.ref a1)) rfl rfl (pc' := 96) rfl ?_
  have f_98 := (((f_59.ext E_69).other W_84 (Or.inr (slot_ne (Or.inr (own_w hw 29 rfl)) (Or.inr (own_w hw 31 rfl)) (by decide) (t := (.array .int)) (t' := (.array .long)) (by decide) (by decide)))).keep K_95 (ninS ne_25 nin0))
  refine g_getfield C (host := "") (v := (.ref a_43)) (Or.inl (own_w hw 28 rfl)) Via.refl f_98 d2_96 (pc' := 99) rfl ?_
  refine g_iload C d2_99 (v := (0 : Int32)) rfl (pc' := 101) rfl ?_
  refine g_iload C d2_101 (v := (0 : Int32)) rfl (pc' := 103) rfl ?_
  have f_99 := (((f_65.ext E_69).keep (Keep.of_wr W_84) (nin1 (Ne.symm ne_47))).keep K_95 (ninS (Ne.symm ne_51) nin0))
  refine g_iastore C f_99 (by decide) (i := 0) (by decide) (show 0 < 2 by decide) (w := (.int (0 : Int32))) rfl ge_a_43 d2_103 (pc' := 104) rfl ?_
  intro h_100 K_101 A_102
  have f_103 : Ary Z h_100 a_43 .int [(.int (0 : Int32)), (.int (0 : Int32))] := A_102
  refine g_aload_n C d2_104 (v := (.ref a1)) rfl rfl (pc' := 105) rfl ?_
  have f_104 := ((f_85.keep K_95 (ninS ne_25 nin0)).keep K_101 (ninS ne_47 nin0))
  refine g_getfield C (host := "") (v := (.ref a_67)) (Or.inl (own_w hw 30 rfl)) Via.refl f_104 d2_105 (pc' := 108) rfl ?_
  refine g_iload C d2_108 (v := (0 : Int32)) rfl (pc' := 110) rfl ?_
  refine g_iload C d2_110 (v := k0) rfl (pc' := 112) rfl ?_
  refine g_bipush C d2_112 (v := (64 : Int32)) rfl (pc' := 114) rfl ?_
  by_cases hb_105 : k0 = (64 : Int32)
  · refine g_icmp_n C d2_114 (Jvm.Free.XT.ii_ne_f hb_105) (pc' := 117) rfl ?_
    refine g_ldc2_w C (v := (-1 : Int64)) (own_w hw 49 rfl) d2_117 (pc' := 120) rfl ?_
    refine g_goto C d2_120 (pc' := 129) (by decide) (by decide) ?_
    have f_106 := (((f_80.keep (Keep.of_wr W_84) (nin1 (Ne.symm ne_72))).keep K_95 (ninS (Ne.symm ne_76) nin0)).keep K_101 (ninS (Ne.symm ne_77) nin0))
    refine g_lastore C f_106 (by decide) (i := 0) (by decide) (show 0 < 2 by decide) (w := (.long (-1 : Int64))) rfl ge_a_67 d2_129 (pc' := 130) rfl ?_
    intro h_107 K_108 A_109
    have f_110 : Ary Z h_107 a_67 .long [(.long (-1 : Int64)), (.long (0 : Int64))] := A_109
    refine g_iload C d2_130 (v := (0 : Int32)) rfl (pc' := 132) rfl ?_
    refine g_iload C d2_132 (v := k0) rfl (pc' := 134) rfl ?_
    refine g_iadd C (x := (0 : Int32)) (y := k0) d2_134  (pc' := 135) rfl ?_
    rw [Int32.zero_add k0]
    refine g_istore C d2_135 (v := k0) (L' := #[.val (.ref a1), .val (.ref a2), .val (.ref a3), .val (.int (0 : Int32)), .val (.int k0), .val (.int (0 : Int32)), .val (.int k0)]) rfl (pc' := 137) rfl ?_
    refine g_iinc C d2_137 (v := (0 : Int32)) (w := (1 : Int32)) rfl rfl (L' := #[.val (.ref a1), .val (.ref a2), .val (.ref a3), .val (.int (0 : Int32)), .val (.int k0), .val (.int (1 : Int32)), .val (.int k0)]) rfl (pc' := 140) rfl ?_
    refine g_goto C d2_140 (pc' := 47) (by decide) (by decide) ?_
    refine g_iload C d2_47 (v := (1 : Int32)) rfl (pc' := 49) rfl ?_
    refine g_aload_n C d2_49 (v := (.ref a2)) rfl rfl (pc' := 50) rfl ?_
    have f_111 := (((f_86.keep K_95 (ninS ne_26 nin0)).keep K_101 (ninS ne_48 nin0)).keep K_108 (ninS ne_73 nin0))
    refine g_arraylength C f_111 (z := (2 : Int32)) rfl d2_50 (pc' := 51) rfl ?_
    refine g_icmp_n C d2_51 (Jvm.Free.XT.ii_ge_f (by decide)) (pc' := 54) rfl ?_
    refine g_bipush C d2_54 (v := (64 : Int32)) rfl (pc' := 56) rfl ?_
    refine g_aload_n C d2_56 (v := (.ref a3)) rfl rfl (pc' := 57) rfl ?_
    refine g_iload C d2_57 (v := (1 : Int32)) rfl (pc' := 59) rfl ?_
    have f_112 := (((f_87.keep K_95 (ninS ne_27 nin0)).keep K_101 (ninS ne_49 nin0)).keep K_108 (ninS ne_74 nin0))
    refine g_laload C f_112 (by decide) (i := 1) (by decide) (v := g1v) rfl d2_59 (pc' := 60) rfl ?_
    refine g_aload_n C d2_60 (v := (.ref a2)) rfl rfl (pc' := 61) rfl ?_
    refine g_iload C d2_61 (v := (1 : Int32)) rfl (pc' := 63) rfl ?_
    refine g_laload C f_111 (by decide) (i := 1) (by decide) (v := l1) rfl d2_63 (pc' := 64) rfl ?_
    refine g_lsub C (x := g1v) (y := l1) d2_64  (pc' := 65) rfl ?_
    have f_113 := (Nat.le_trans (Nat.le_trans (Nat.le_trans f_88 K_95.1) K_101.1) K_108.1)
    refine g_static C (own_w hw 32 rfl) (own_w hw 33 rfl) (own_w hw 34 rfl) (own_w hw 35 rfl) (by decide) (rm_nlzL l Z a0 hw n0 (g1v - l1) h_107 f_113 ) (st := [(.int (64 : Int32))]) [(.long (g1v - l1))] rfl rfl own_pd_3_numberOfLeadingZeros rfl rfl (by decide) (W := 1) (Nat.le_of_eq rfl) (by decide) (by decide) (by decide) d2_65 (pc' := 68) rfl ?_
    intro v_116 h_114 q_115
    obtain ⟨rfl, rfl⟩ := q_115
    show Go B n0 _ h_107 4 8 68 #[.val (.ref a1), .val (.ref a2), .val (.ref a3), .val (.int (0 : Int32)), .val (.int k0), .val (.int (1 : Int32)), .val (.int k0)] [(.int (nlzL (g1v - l1))), (.int (64 : Int32))]
    refine g_isub C (x := (64 : Int32)) (y := (nlzL (g1v - l1))) d2_68  (pc' := 69) rfl ?_
    rw [N1]
    refine g_istore C d2_69 (v := k1) (L' := #[.val (.ref a1), .val (.ref a2), .val (.ref a3), .val (.int (0 : Int32)), .val (.int k0), .val (.int (1 : Int32)), .val (.int k1)]) rfl (pc' := 71) rfl ?_
    refine g_iload C d2_71 (v := k0) rfl (pc' := 73) rfl ?_
    refine g_iload C d2_73 (v := k1) rfl (pc' := 75) rfl ?_
    refine g_iadd C (x := k0) (y := k1) d2_75  (pc' := 76) rfl ?_
    refine g_bipush C d2_76 (v := (64 : Int32)) rfl (pc' := 78) rfl ?_
    by_cases hb_117 : (64 : Int32) < (k0 + k1)
    · refine g_icmp_n C d2_78 (Jvm.Free.XT.ii_le_f hb_117) (pc' := 81) rfl ?_
      refine g_iinc C d2_81 (v := (0 : Int32)) (w := (1 : Int32)) rfl rfl (L' := #[.val (.ref a1), .val (.ref a2), .val (.ref a3), .val (.int (1 : Int32)), .val (.int k0), .val (.int (1 : Int32)), .val (.int k1)]) rfl (pc' := 84) rfl ?_
      refine g_iconst C d2_84 (v := (0 : Int32)) rfl (pc' := 85) rfl ?_
      refine g_istore C d2_85 (v := (0 : Int32)) (L' := #[.val (.ref a1), .val (.ref a2), .val (.ref a3), .val (.int (1 : Int32)), .val (.int (0 : Int32)), .val (.int (1 : Int32)), .val (.int k1)]) rfl (pc' := 87) rfl ?_
      refine g_aload_n C d2_87 (v := (.ref a1)) rfl rfl (pc' := 88) rfl ?_
      have f_118 := (((f_92.keep K_95 (ninS ne_25 nin0)).keep K_101 (ninS ne_47 nin0)).keep K_108 (ninS ne_72 nin0))
      refine g_getfield C (host := "") (v := (.ref a_21)) (Or.inl (own_w hw 26 rfl)) Via.refl f_118 d2_88 (pc' := 91) rfl ?_
      refine g_iload C d2_91 (v := (1 : Int32)) rfl (pc' := 93) rfl ?_
      refine g_iload_n C d2_93 (v := (1 : Int32)) rfl (pc' := 94) rfl ?_
      have f_119 := ((f_97.keep K_101 (ninS ne_51 nin0)).keep K_108 (ninS ne_76 nin0))
      refine g_iastore C f_119 (by decide) (i := 1) (by decide) (show 1 < 2 by decide) (w := (.int (1 : Int32))) rfl ge_a_21 d2_94 (pc' := 95) rfl ?_
      intro h_120 K_121 A_122
      have f_123 : Ary Z h_120 a_21 .int [(.int (0 : Int32)), (.int (1 : Int32))] := A_122
      refine g_aload_n C d2_95 (v := (.ref a1)) rfl rfl (pc' := 96) rfl ?_
      have f_124 := (((f_98.keep K_101 (ninS ne_47 nin0)).keep K_108 (ninS ne_72 nin0)).keep K_121 (ninS ne_25 nin0))
      refine g_getfield C (host := "") (v := (.ref a_43)) (Or.inl (own_w hw 28 rfl)) Via.refl f_124 d2_96 (pc' := 99) rfl ?_
      refine g_iload C d2_99 (v := (1 : Int32)) rfl (pc' := 101) rfl ?_
      refine g_iload C d2_101 (v := (0 : Int32)) rfl (pc' := 103) rfl ?_
      have f_125 := ((f_103.keep K_108 (ninS ne_77 nin0)).keep K_121 (ninS (Ne.symm ne_51) nin0))
      refine g_iastore C f_125 (by decide) (i := 1) (by decide) (show 1 < 2 by decide) (w := (.int (0 : Int32))) rfl ge_a_43 d2_103 (pc' := 104) rfl ?_
      intro h_126 K_127 A_128
      have f_129 : Ary Z h_126 a_43 .int [(.int (0 : Int32)), (.int (0 : Int32))] := A_128
      refine g_aload_n C d2_104 (v := (.ref a1)) rfl rfl (pc' := 105) rfl ?_
      have f_130 := (((f_104.keep K_108 (ninS ne_72 nin0)).keep K_121 (ninS ne_25 nin0)).keep K_127 (ninS ne_47 nin0))
      refine g_getfield C (host := "") (v := (.ref a_67)) (Or.inl (own_w hw 30 rfl)) Via.refl f_130 d2_105 (pc' := 108) rfl ?_
      refine g_iload C d2_108 (v := (1 : Int32)) rfl (pc' := 110) rfl ?_
      refine g_iload C d2_110 (v := k1) rfl (pc' := 112) rfl ?_
      refine g_bipush C d2_112 (v := (64 : Int32)) rfl (pc' := 114) rfl ?_
      by_cases hb_131 : k1 = (64 : Int32)
      · refine g_icmp_n C d2_114 (Jvm.Free.XT.ii_ne_f hb_131) (pc' := 117) rfl ?_
        refine g_ldc2_w C (v := (-1 : Int64)) (own_w hw 49 rfl) d2_117 (pc' := 120) rfl ?_
        refine g_goto C d2_120 (pc' := 129) (by decide) (by decide) ?_
        have f_132 := ((f_110.keep K_121 (ninS (Ne.symm ne_76) nin0)).keep K_127 (ninS (Ne.symm ne_77) nin0))
        refine g_lastore C f_132 (by decide) (i := 1) (by decide) (show 1 < 2 by decide) (w := (.long (-1 : Int64))) rfl ge_a_67 d2_129 (pc' := 130) rfl ?_
        intro h_133 K_134 A_135
        have f_136 : Ary Z h_133 a_67 .long [(.long (-1 : Int64)), (.long (-1 : Int64))] := A_135
        refine g_iload C d2_130 (v := (0 : Int32)) rfl (pc' := 132) rfl ?_
        refine g_iload C d2_132 (v := k1) rfl (pc' := 134) rfl ?_
        refine g_iadd C (x := (0 : Int32)) (y := k1) d2_134  (pc' := 135) rfl ?_
        refine g_istore C d2_135 (v := ((0 : Int32) + k1)) (L' := #[.val (.ref a1), .val (.ref a2), .val (.ref a3), .val (.int (1 : Int32)), .val (.int ((0 : Int32) + k1)), .val (.int (1 : Int32)), .val (.int k1)]) rfl (pc' := 137) rfl ?_
        refine g_iinc C d2_137 (v := (1 : Int32)) (w := (2 : Int32)) rfl rfl (L' := #[.val (.ref a1), .val (.ref a2), .val (.ref a3), .val (.int (1 : Int32)), .val (.int ((0 : Int32) + k1)), .val (.int (2 : Int32)), .val (.int k1)]) rfl (pc' := 140) rfl ?_
        refine g_goto C d2_140 (pc' := 47) (by decide) (by decide) ?_
        refine g_iload C d2_47 (v := (2 : Int32)) rfl (pc' := 49) rfl ?_
        refine g_aload_n C d2_49 (v := (.ref a2)) rfl rfl (pc' := 50) rfl ?_
        have f_137 := (((f_111.keep K_121 (ninS ne_26 nin0)).keep K_127 (ninS ne_48 nin0)).keep K_134 (ninS ne_73 nin0))
        refine g_arraylength C f_137 (z := (2 : Int32)) rfl d2_50 (pc' := 51) rfl ?_
        refine g_icmp_y C d2_51 (Jvm.Free.XT.ii_ge_t (by decide)) (pc' := 143) (by decide) (by decide) ?_
        refine g_aload_n C d2_143 (v := (.ref a1)) rfl rfl (pc' := 144) rfl ?_
        refine g_iload_n C d2_144 (v := (1 : Int32)) rfl (pc' := 145) rfl ?_
        refine g_iconst C d2_145 (v := (1 : Int32)) rfl (pc' := 146) rfl ?_
        refine g_iadd C (x := (1 : Int32)) (y := (1 : Int32)) d2_146  (pc' := 147) rfl ?_
        refine Go.eqs (st2 := [(.int (2 : Int32)), (.ref a1)]) ?_ (by rfl)
        have f_138 := ((((((((((((((F4.ext E_4).other W_14 (Or.inr (slot_ne (Or.inr (own_w hw 41 rfl)) (Or.inr (own_w hw 24 rfl)) (by decide) (t := .int) (t' := (.array .long)) (by decide) (by decide)))).ext E_23).other W_35 (Or.inr (slot_ne (Or.inr (own_w hw 41 rfl)) (Or.inr (own_w hw 27 rfl)) (by decide) (t := .int) (t' := (.array .int)) (by decide) (by decide)))).ext E_45).other W_58 (Or.inr (slot_ne (Or.inr (own_w hw 41 rfl)) (Or.inr (own_w hw 29 rfl)) (by decide) (t := .int) (t' := (.array .int)) (by decide) (by decide)))).ext E_69).other W_84 (Or.inr (slot_ne (Or.inr (own_w hw 41 rfl)) (Or.inr (own_w hw 31 rfl)) (by decide) (t := .int) (t' := (.array .long)) (by decide) (by decide)))).keep K_95 (ninS ne_25 nin0)).keep K_101 (ninS ne_47 nin0)).keep K_108 (ninS ne_72 nin0)).keep K_121 (ninS ne_25 nin0)).keep K_127 (ninS ne_47 nin0)).keep K_134 (ninS ne_72 nin0))
        have f_139 := (((((((f_82.wr W_84).keep K_95).keep K_101).keep K_108).keep K_121).keep K_127).keep K_134)
        refine g_putfield C (host := "") (v := (.int (2 : Int32))) (Or.inl (own_w hw 40 rfl)) Via.refl f_138 f_139 (Or.inr ⟨(own_w hw 41 rfl), rfl, rfl⟩) (own_w hw 6 rfl) (ty := .int) (by decide) rfl rfl g0 d2_147 (pc' := 150) rfl ?_
        intro h_140 W_141
        have f_142 := f_138.same W_141
        refine g_return C rfl d2_150 (by decide) (by decide) ?_
        have f_143 := (((((((((f_63.ext E_69).keep (Keep.of_wr W_84) (nin1 (Ne.symm ne_7))).keep K_95 (ninS ne_28 nin0)).keep K_101 (ninS ne_50 nin0)).keep K_108 (ninS ne_75 nin0)).keep K_121 (ninS ne_28 nin0)).keep K_127 (ninS ne_50 nin0)).keep K_134 (ninS ne_75 nin0)).keep (Keep.of_wr W_141) (nin1 (Ne.symm ne_7)))
        have f_144 := (((f_123.keep K_127 (ninS ne_51 nin0)).keep K_134 (ninS ne_76 nin0)).keep (Keep.of_wr W_141) (nin1 (Ne.symm ne_25)))
        have f_145 := ((f_129.keep K_134 (ninS ne_77 nin0)).keep (Keep.of_wr W_141) (nin1 (Ne.symm ne_47)))
        have f_146 := (f_136.keep (Keep.of_wr W_141) (nin1 (Ne.symm ne_72)))
        have f_147 := (((((((((((((f_15.ext E_23).other W_35 (Or.inr (slot_ne (Or.inr (own_w hw 24 rfl)) (Or.inr (own_w hw 27 rfl)) (by decide) (t := (.array .long)) (t' := (.array .int)) (by decide) (by decide)))).ext E_45).other W_58 (Or.inr (slot_ne (Or.inr (own_w hw 24 rfl)) (Or.inr (own_w hw 29 rfl)) (by decide) (t := (.array .long)) (t' := (.array .int)) (by decide) (by decide)))).ext E_69).other W_84 (Or.inr (slot_ne (Or.inr (own_w hw 24 rfl)) (Or.inr (own_w hw 31 rfl)) (by decide) (t := (.array .long)) (t' := (.array .long)) (by decide) (by decide)))).keep K_95 (ninS ne_25 nin0)).keep K_101 (ninS ne_47 nin0)).keep K_108 (ninS ne_72 nin0)).keep K_121 (ninS ne_25 nin0)).keep K_127 (ninS ne_47 nin0)).keep K_134 (ninS ne_72 nin0)).other W_141 (Or.inr (slot_ne (Or.inr (own_w hw 24 rfl)) (Or.inr (own_w hw 41 rfl)) (by decide) (t := (.array .long)) (t' := .int) (by decide) (by decide))))
        have f_148 := ((((f_118.keep K_121 (ninS ne_25 nin0)).keep K_127 (ninS ne_47 nin0)).keep K_134 (ninS ne_72 nin0)).other W_141 (Or.inr (slot_ne (Or.inr (own_w hw 27 rfl)) (Or.inr (own_w hw 41 rfl)) (by decide) (t := (.array .int)) (t' := .int) (by decide) (by decide))))
        have f_149 := (((f_124.keep K_127 (ninS ne_47 nin0)).keep K_134 (ninS ne_72 nin0)).other W_141 (Or.inr (slot_ne (Or.inr (own_w hw 29 rfl)) (Or.inr (own_w hw 41 rfl)) (by decide) (t := (.array .int)) (t' := .int) (by decide) (by decide))))
        have f_150 := ((f_130.keep K_134 (ninS ne_72 nin0)).other W_141 (Or.inr (slot_ne (Or.inr (own_w hw 31 rfl)) (Or.inr (own_w hw 41 rfl)) (by decide) (t := (.array .long)) (t' := .int) (by decide) (by decide))))
        have aw : Ary Z h_140 a_21 .int [.int (0 : Int32), .int (wF k0 k1)] := by rw [wF, if_pos hb_117]; exact f_144
        have as' : Ary Z h_140 a_43 .int [.int (0 : Int32), .int (sF k0 k1)] := by rw [sF, if_pos hb_117]; exact f_145
        have am : Ary Z h_140 a_67 .long [.long (mk k0), .long (mk k1)] := by rw [mk, if_pos hb_105, mk, if_pos hb_131]; exact f_146
        exact ⟨rfl, ((((((((((((((((Keep.refl h0 [a1]).ext E_4).wr W_14 (Or.inl (List.mem_of_getElem? (i := 0) rfl))).ext E_23).wr W_35 (Or.inl (List.mem_of_getElem? (i := 0) rfl))).ext E_45).wr W_58 (Or.inl (List.mem_of_getElem? (i := 0) rfl))).ext E_69).wr W_84 (Or.inl (List.mem_of_getElem? (i := 0) rfl))).trans K_95 (allS (Or.inr gs_a_21) all0)).trans K_101 (allS (Or.inr gs_a_43) all0)).trans K_108 (allS (Or.inr gs_a_67) all0)).trans K_121 (allS (Or.inr gs_a_21) all0)).trans K_127 (allS (Or.inr gs_a_43) all0)).trans K_134 (allS (Or.inr gs_a_67) all0)).wr W_141 (Or.inl (List.mem_of_getElem? (i := 0) rfl))), a_2, a_21, a_43, a_67, ⟨gs_a_2, gs_a_21, gs_a_43, gs_a_67⟩, f_147, f_148, f_149, f_150, f_143, aw, as', am⟩
      · refine g_icmp_y C d2_114 (Jvm.Free.XT.ii_ne_t hb_131) (pc' := 123) (by decide) (by decide) ?_
        refine g_lconst C d2_123 (v := (1 : Int64)) rfl (pc' := 124) rfl ?_
        refine g_iload C d2_124 (v := k1) rfl (pc' := 126) rfl ?_
        refine g_lshl C (x := (1 : Int64)) (y := k1) d2_126  (pc' := 127) rfl ?_
        refine g_lconst C d2_127 (v := (1 : Int64)) rfl (pc' := 128) rfl ?_
        refine g_lsub C (x := ((1 : Int64) <<< (Int32.toInt64 k1 &&& 63))) (y := (1 : Int64)) d2_128  (pc' := 129) rfl ?_
        have f_151 := ((f_110.keep K_121 (ninS (Ne.symm ne_76) nin0)).keep K_127 (ninS (Ne.symm ne_77) nin0))
        refine g_lastore C f_151 (by decide) (i := 1) (by decide) (show 1 < 2 by decide) (w := (.long (((1 : Int64) <<< (Int32.toInt64 k1 &&& 63)) - (1 : Int64)))) rfl ge_a_67 d2_129 (pc' := 130) rfl ?_
        intro h_152 K_153 A_154
        have f_155 : Ary Z h_152 a_67 .long [(.long (-1 : Int64)), (.long (((1 : Int64) <<< (Int32.toInt64 k1 &&& 63)) - (1 : Int64)))] := A_154
        refine g_iload C d2_130 (v := (0 : Int32)) rfl (pc' := 132) rfl ?_
        refine g_iload C d2_132 (v := k1) rfl (pc' := 134) rfl ?_
        refine g_iadd C (x := (0 : Int32)) (y := k1) d2_134  (pc' := 135) rfl ?_
        refine g_istore C d2_135 (v := ((0 : Int32) + k1)) (L' := #[.val (.ref a1), .val (.ref a2), .val (.ref a3), .val (.int (1 : Int32)), .val (.int ((0 : Int32) + k1)), .val (.int (1 : Int32)), .val (.int k1)]) rfl (pc' := 137) rfl ?_
        refine g_iinc C d2_137 (v := (1 : Int32)) (w := (2 : Int32)) rfl rfl (L' := #[.val (.ref a1), .val (.ref a2), .val (.ref a3), .val (.int (1 : Int32)), .val (.int ((0 : Int32) + k1)), .val (.int (2 : Int32)), .val (.int k1)]) rfl (pc' := 140) rfl ?_
        refine g_goto C d2_140 (pc' := 47) (by decide) (by decide) ?_
        refine g_iload C d2_47 (v := (2 : Int32)) rfl (pc' := 49) rfl ?_
        refine g_aload_n C d2_49 (v := (.ref a2)) rfl rfl (pc' := 50) rfl ?_
        have f_156 := (((f_111.keep K_121 (ninS ne_26 nin0)).keep K_127 (ninS ne_48 nin0)).keep K_153 (ninS ne_73 nin0))
        refine g_arraylength C f_156 (z := (2 : Int32)) rfl d2_50 (pc' := 51) rfl ?_
        refine g_icmp_y C d2_51 (Jvm.Free.XT.ii_ge_t (by decide)) (pc' := 143) (by decide) (by decide) ?_
        refine g_aload_n C d2_143 (v := (.ref a1)) rfl rfl (pc' := 144) rfl ?_
        refine g_iload_n C d2_144 (v := (1 : Int32)) rfl (pc' := 145) rfl ?_
        refine g_iconst C d2_145 (v := (1 : Int32)) rfl (pc' := 146) rfl ?_
        refine g_iadd C (x := (1 : Int32)) (y := (1 : Int32)) d2_146  (pc' := 147) rfl ?_
        refine Go.eqs (st2 := [(.int (2 : Int32)), (.ref a1)]) ?_ (by rfl)
        have f_157 := ((((((((((((((F4.ext E_4).other W_14 (Or.inr (slot_ne (Or.inr (own_w hw 41 rfl)) (Or.inr (own_w hw 24 rfl)) (by decide) (t := .int) (t' := (.array .long)) (by decide) (by decide)))).ext E_23).other W_35 (Or.inr (slot_ne (Or.inr (own_w hw 41 rfl)) (Or.inr (own_w hw 27 rfl)) (by decide) (t := .int) (t' := (.array .int)) (by decide) (by decide)))).ext E_45).other W_58 (Or.inr (slot_ne (Or.inr (own_w hw 41 rfl)) (Or.inr (own_w hw 29 rfl)) (by decide) (t := .int) (t' := (.array .int)) (by decide) (by decide)))).ext E_69).other W_84 (Or.inr (slot_ne (Or.inr (own_w hw 41 rfl)) (Or.inr (own_w hw 31 rfl)) (by decide) (t := .int) (t' := (.array .long)) (by decide) (by decide)))).keep K_95 (ninS ne_25 nin0)).keep K_101 (ninS ne_47 nin0)).keep K_108 (ninS ne_72 nin0)).keep K_121 (ninS ne_25 nin0)).keep K_127 (ninS ne_47 nin0)).keep K_153 (ninS ne_72 nin0))
        have f_158 := (((((((f_82.wr W_84).keep K_95).keep K_101).keep K_108).keep K_121).keep K_127).keep K_153)
        refine g_putfield C (host := "") (v := (.int (2 : Int32))) (Or.inl (own_w hw 40 rfl)) Via.refl f_157 f_158 (Or.inr ⟨(own_w hw 41 rfl), rfl, rfl⟩) (own_w hw 6 rfl) (ty := .int) (by decide) rfl rfl g0 d2_147 (pc' := 150) rfl ?_
        intro h_159 W_160
        have f_161 := f_157.same W_160
        refine g_return C rfl d2_150 (by decide) (by decide) ?_
        have f_162 := (((((((((f_63.ext E_69).keep (Keep.of_wr W_84) (nin1 (Ne.symm ne_7))).keep K_95 (ninS ne_28 nin0)).keep K_101 (ninS ne_50 nin0)).keep K_108 (ninS ne_75 nin0)).keep K_121 (ninS ne_28 nin0)).keep K_127 (ninS ne_50 nin0)).keep K_153 (ninS ne_75 nin0)).keep (Keep.of_wr W_160) (nin1 (Ne.symm ne_7)))
        have f_163 := (((f_123.keep K_127 (ninS ne_51 nin0)).keep K_153 (ninS ne_76 nin0)).keep (Keep.of_wr W_160) (nin1 (Ne.symm ne_25)))
        have f_164 := ((f_129.keep K_153 (ninS ne_77 nin0)).keep (Keep.of_wr W_160) (nin1 (Ne.symm ne_47)))
        have f_165 := (f_155.keep (Keep.of_wr W_160) (nin1 (Ne.symm ne_72)))
        have f_166 := (((((((((((((f_15.ext E_23).other W_35 (Or.inr (slot_ne (Or.inr (own_w hw 24 rfl)) (Or.inr (own_w hw 27 rfl)) (by decide) (t := (.array .long)) (t' := (.array .int)) (by decide) (by decide)))).ext E_45).other W_58 (Or.inr (slot_ne (Or.inr (own_w hw 24 rfl)) (Or.inr (own_w hw 29 rfl)) (by decide) (t := (.array .long)) (t' := (.array .int)) (by decide) (by decide)))).ext E_69).other W_84 (Or.inr (slot_ne (Or.inr (own_w hw 24 rfl)) (Or.inr (own_w hw 31 rfl)) (by decide) (t := (.array .long)) (t' := (.array .long)) (by decide) (by decide)))).keep K_95 (ninS ne_25 nin0)).keep K_101 (ninS ne_47 nin0)).keep K_108 (ninS ne_72 nin0)).keep K_121 (ninS ne_25 nin0)).keep K_127 (ninS ne_47 nin0)).keep K_153 (ninS ne_72 nin0)).other W_160 (Or.inr (slot_ne (Or.inr (own_w hw 24 rfl)) (Or.inr (own_w hw 41 rfl)) (by decide) (t := (.array .long)) (t' := .int) (by decide) (by decide))))
        have f_167 := ((((f_118.keep K_121 (ninS ne_25 nin0)).keep K_127 (ninS ne_47 nin0)).keep K_153 (ninS ne_72 nin0)).other W_160 (Or.inr (slot_ne (Or.inr (own_w hw 27 rfl)) (Or.inr (own_w hw 41 rfl)) (by decide) (t := (.array .int)) (t' := .int) (by decide) (by decide))))
        have f_168 := (((f_124.keep K_127 (ninS ne_47 nin0)).keep K_153 (ninS ne_72 nin0)).other W_160 (Or.inr (slot_ne (Or.inr (own_w hw 29 rfl)) (Or.inr (own_w hw 41 rfl)) (by decide) (t := (.array .int)) (t' := .int) (by decide) (by decide))))
        have f_169 := ((f_130.keep K_153 (ninS ne_72 nin0)).other W_160 (Or.inr (slot_ne (Or.inr (own_w hw 31 rfl)) (Or.inr (own_w hw 41 rfl)) (by decide) (t := (.array .long)) (t' := .int) (by decide) (by decide))))
        have aw : Ary Z h_159 a_21 .int [.int (0 : Int32), .int (wF k0 k1)] := by rw [wF, if_pos hb_117]; exact f_163
        have as' : Ary Z h_159 a_43 .int [.int (0 : Int32), .int (sF k0 k1)] := by rw [sF, if_pos hb_117]; exact f_164
        have am : Ary Z h_159 a_67 .long [.long (mk k0), .long (mk k1)] := by rw [mk, if_pos hb_105, mk, if_neg hb_131]; exact f_165
        exact ⟨rfl, ((((((((((((((((Keep.refl h0 [a1]).ext E_4).wr W_14 (Or.inl (List.mem_of_getElem? (i := 0) rfl))).ext E_23).wr W_35 (Or.inl (List.mem_of_getElem? (i := 0) rfl))).ext E_45).wr W_58 (Or.inl (List.mem_of_getElem? (i := 0) rfl))).ext E_69).wr W_84 (Or.inl (List.mem_of_getElem? (i := 0) rfl))).trans K_95 (allS (Or.inr gs_a_21) all0)).trans K_101 (allS (Or.inr gs_a_43) all0)).trans K_108 (allS (Or.inr gs_a_67) all0)).trans K_121 (allS (Or.inr gs_a_21) all0)).trans K_127 (allS (Or.inr gs_a_43) all0)).trans K_153 (allS (Or.inr gs_a_67) all0)).wr W_160 (Or.inl (List.mem_of_getElem? (i := 0) rfl))), a_2, a_21, a_43, a_67, ⟨gs_a_2, gs_a_21, gs_a_43, gs_a_67⟩, f_166, f_167, f_168, f_169, f_162, aw, as', am⟩
    · refine g_icmp_y C d2_78 (Jvm.Free.XT.ii_le_t hb_117) (pc' := 87) (by decide) (by decide) ?_
      refine g_aload_n C d2_87 (v := (.ref a1)) rfl rfl (pc' := 88) rfl ?_
      have f_170 := (((f_92.keep K_95 (ninS ne_25 nin0)).keep K_101 (ninS ne_47 nin0)).keep K_108 (ninS ne_72 nin0))
      refine g_getfield C (host := "") (v := (.ref a_21)) (Or.inl (own_w hw 26 rfl)) Via.refl f_170 d2_88 (pc' := 91) rfl ?_
      refine g_iload C d2_91 (v := (1 : Int32)) rfl (pc' := 93) rfl ?_
      refine g_iload_n C d2_93 (v := (0 : Int32)) rfl (pc' := 94) rfl ?_
      have f_171 := ((f_97.keep K_101 (ninS ne_51 nin0)).keep K_108 (ninS ne_76 nin0))
      refine g_iastore C f_171 (by decide) (i := 1) (by decide) (show 1 < 2 by decide) (w := (.int (0 : Int32))) rfl ge_a_21 d2_94 (pc' := 95) rfl ?_
      intro h_172 K_173 A_174
      have f_175 : Ary Z h_172 a_21 .int [(.int (0 : Int32)), (.int (0 : Int32))] := A_174
      refine g_aload_n C d2_95 (v := (.ref a1)) rfl rfl (pc' := 96) rfl ?_
      have f_176 := (((f_98.keep K_101 (ninS ne_47 nin0)).keep K_108 (ninS ne_72 nin0)).keep K_173 (ninS ne_25 nin0))
      refine g_getfield C (host := "") (v := (.ref a_43)) (Or.inl (own_w hw 28 rfl)) Via.refl f_176 d2_96 (pc' := 99) rfl ?_
      refine g_iload C d2_99 (v := (1 : Int32)) rfl (pc' := 101) rfl ?_
      refine g_iload C d2_101 (v := k0) rfl (pc' := 103) rfl ?_
      have f_177 := ((f_103.keep K_108 (ninS ne_77 nin0)).keep K_173 (ninS (Ne.symm ne_51) nin0))
      refine g_iastore C f_177 (by decide) (i := 1) (by decide) (show 1 < 2 by decide) (w := (.int k0)) rfl ge_a_43 d2_103 (pc' := 104) rfl ?_
      intro h_178 K_179 A_180
      have f_181 : Ary Z h_178 a_43 .int [(.int (0 : Int32)), (.int k0)] := A_180
      refine g_aload_n C d2_104 (v := (.ref a1)) rfl rfl (pc' := 105) rfl ?_
      have f_182 := (((f_104.keep K_108 (ninS ne_72 nin0)).keep K_173 (ninS ne_25 nin0)).keep K_179 (ninS ne_47 nin0))
      refine g_getfield C (host := "") (v := (.ref a_67)) (Or.inl (own_w hw 30 rfl)) Via.refl f_182 d2_105 (pc' := 108) rfl ?_
      refine g_iload C d2_108 (v := (1 : Int32)) rfl (pc' := 110) rfl ?_
      refine g_iload C d2_110 (v := k1) rfl (pc' := 112) rfl ?_
      refine g_bipush C d2_112 (v := (64 : Int32)) rfl (pc' := 114) rfl ?_
      by_cases hb_183 : k1 = (64 : Int32)
      · refine g_icmp_n C d2_114 (Jvm.Free.XT.ii_ne_f hb_183) (pc' := 117) rfl ?_
        refine g_ldc2_w C (v := (-1 : Int64)) (own_w hw 49 rfl) d2_117 (pc' := 120) rfl ?_
        refine g_goto C d2_120 (pc' := 129) (by decide) (by decide) ?_
        have f_184 := ((f_110.keep K_173 (ninS (Ne.symm ne_76) nin0)).keep K_179 (ninS (Ne.symm ne_77) nin0))
        refine g_lastore C f_184 (by decide) (i := 1) (by decide) (show 1 < 2 by decide) (w := (.long (-1 : Int64))) rfl ge_a_67 d2_129 (pc' := 130) rfl ?_
        intro h_185 K_186 A_187
        have f_188 : Ary Z h_185 a_67 .long [(.long (-1 : Int64)), (.long (-1 : Int64))] := A_187
        refine g_iload C d2_130 (v := k0) rfl (pc' := 132) rfl ?_
        refine g_iload C d2_132 (v := k1) rfl (pc' := 134) rfl ?_
        refine g_iadd C (x := k0) (y := k1) d2_134  (pc' := 135) rfl ?_
        refine g_istore C d2_135 (v := (k0 + k1)) (L' := #[.val (.ref a1), .val (.ref a2), .val (.ref a3), .val (.int (0 : Int32)), .val (.int (k0 + k1)), .val (.int (1 : Int32)), .val (.int k1)]) rfl (pc' := 137) rfl ?_
        refine g_iinc C d2_137 (v := (1 : Int32)) (w := (2 : Int32)) rfl rfl (L' := #[.val (.ref a1), .val (.ref a2), .val (.ref a3), .val (.int (0 : Int32)), .val (.int (k0 + k1)), .val (.int (2 : Int32)), .val (.int k1)]) rfl (pc' := 140) rfl ?_
        refine g_goto C d2_140 (pc' := 47) (by decide) (by decide) ?_
        refine g_iload C d2_47 (v := (2 : Int32)) rfl (pc' := 49) rfl ?_
        refine g_aload_n C d2_49 (v := (.ref a2)) rfl rfl (pc' := 50) rfl ?_
        have f_189 := (((f_111.keep K_173 (ninS ne_26 nin0)).keep K_179 (ninS ne_48 nin0)).keep K_186 (ninS ne_73 nin0))
        refine g_arraylength C f_189 (z := (2 : Int32)) rfl d2_50 (pc' := 51) rfl ?_
        refine g_icmp_y C d2_51 (Jvm.Free.XT.ii_ge_t (by decide)) (pc' := 143) (by decide) (by decide) ?_
        refine g_aload_n C d2_143 (v := (.ref a1)) rfl rfl (pc' := 144) rfl ?_
        refine g_iload_n C d2_144 (v := (0 : Int32)) rfl (pc' := 145) rfl ?_
        refine g_iconst C d2_145 (v := (1 : Int32)) rfl (pc' := 146) rfl ?_
        refine g_iadd C (x := (0 : Int32)) (y := (1 : Int32)) d2_146  (pc' := 147) rfl ?_
        refine Go.eqs (st2 := [(.int (1 : Int32)), (.ref a1)]) ?_ (by rfl)
        have f_190 := ((((((((((((((F4.ext E_4).other W_14 (Or.inr (slot_ne (Or.inr (own_w hw 41 rfl)) (Or.inr (own_w hw 24 rfl)) (by decide) (t := .int) (t' := (.array .long)) (by decide) (by decide)))).ext E_23).other W_35 (Or.inr (slot_ne (Or.inr (own_w hw 41 rfl)) (Or.inr (own_w hw 27 rfl)) (by decide) (t := .int) (t' := (.array .int)) (by decide) (by decide)))).ext E_45).other W_58 (Or.inr (slot_ne (Or.inr (own_w hw 41 rfl)) (Or.inr (own_w hw 29 rfl)) (by decide) (t := .int) (t' := (.array .int)) (by decide) (by decide)))).ext E_69).other W_84 (Or.inr (slot_ne (Or.inr (own_w hw 41 rfl)) (Or.inr (own_w hw 31 rfl)) (by decide) (t := .int) (t' := (.array .long)) (by decide) (by decide)))).keep K_95 (ninS ne_25 nin0)).keep K_101 (ninS ne_47 nin0)).keep K_108 (ninS ne_72 nin0)).keep K_173 (ninS ne_25 nin0)).keep K_179 (ninS ne_47 nin0)).keep K_186 (ninS ne_72 nin0))
        have f_191 := (((((((f_82.wr W_84).keep K_95).keep K_101).keep K_108).keep K_173).keep K_179).keep K_186)
        refine g_putfield C (host := "") (v := (.int (1 : Int32))) (Or.inl (own_w hw 40 rfl)) Via.refl f_190 f_191 (Or.inr ⟨(own_w hw 41 rfl), rfl, rfl⟩) (own_w hw 6 rfl) (ty := .int) (by decide) rfl rfl g0 d2_147 (pc' := 150) rfl ?_
        intro h_192 W_193
        have f_194 := f_190.same W_193
        refine g_return C rfl d2_150 (by decide) (by decide) ?_
        have f_195 := (((((((((f_63.ext E_69).keep (Keep.of_wr W_84) (nin1 (Ne.symm ne_7))).keep K_95 (ninS ne_28 nin0)).keep K_101 (ninS ne_50 nin0)).keep K_108 (ninS ne_75 nin0)).keep K_173 (ninS ne_28 nin0)).keep K_179 (ninS ne_50 nin0)).keep K_186 (ninS ne_75 nin0)).keep (Keep.of_wr W_193) (nin1 (Ne.symm ne_7)))
        have f_196 := (((f_175.keep K_179 (ninS ne_51 nin0)).keep K_186 (ninS ne_76 nin0)).keep (Keep.of_wr W_193) (nin1 (Ne.symm ne_25)))
        have f_197 := ((f_181.keep K_186 (ninS ne_77 nin0)).keep (Keep.of_wr W_193) (nin1 (Ne.symm ne_47)))
        have f_198 := (f_188.keep (Keep.of_wr W_193) (nin1 (Ne.symm ne_72)))
        have f_199 := (((((((((((((f_15.ext E_23).other W_35 (Or.inr (slot_ne (Or.inr (own_w hw 24 rfl)) (Or.inr (own_w hw 27 rfl)) (by decide) (t := (.array .long)) (t' := (.array .int)) (by decide) (by decide)))).ext E_45).other W_58 (Or.inr (slot_ne (Or.inr (own_w hw 24 rfl)) (Or.inr (own_w hw 29 rfl)) (by decide) (t := (.array .long)) (t' := (.array .int)) (by decide) (by decide)))).ext E_69).other W_84 (Or.inr (slot_ne (Or.inr (own_w hw 24 rfl)) (Or.inr (own_w hw 31 rfl)) (by decide) (t := (.array .long)) (t' := (.array .long)) (by decide) (by decide)))).keep K_95 (ninS ne_25 nin0)).keep K_101 (ninS ne_47 nin0)).keep K_108 (ninS ne_72 nin0)).keep K_173 (ninS ne_25 nin0)).keep K_179 (ninS ne_47 nin0)).keep K_186 (ninS ne_72 nin0)).other W_193 (Or.inr (slot_ne (Or.inr (own_w hw 24 rfl)) (Or.inr (own_w hw 41 rfl)) (by decide) (t := (.array .long)) (t' := .int) (by decide) (by decide))))
        have f_200 := ((((f_170.keep K_173 (ninS ne_25 nin0)).keep K_179 (ninS ne_47 nin0)).keep K_186 (ninS ne_72 nin0)).other W_193 (Or.inr (slot_ne (Or.inr (own_w hw 27 rfl)) (Or.inr (own_w hw 41 rfl)) (by decide) (t := (.array .int)) (t' := .int) (by decide) (by decide))))
        have f_201 := (((f_176.keep K_179 (ninS ne_47 nin0)).keep K_186 (ninS ne_72 nin0)).other W_193 (Or.inr (slot_ne (Or.inr (own_w hw 29 rfl)) (Or.inr (own_w hw 41 rfl)) (by decide) (t := (.array .int)) (t' := .int) (by decide) (by decide))))
        have f_202 := ((f_182.keep K_186 (ninS ne_72 nin0)).other W_193 (Or.inr (slot_ne (Or.inr (own_w hw 31 rfl)) (Or.inr (own_w hw 41 rfl)) (by decide) (t := (.array .long)) (t' := .int) (by decide) (by decide))))
        have aw : Ary Z h_192 a_21 .int [.int (0 : Int32), .int (wF k0 k1)] := by rw [wF, if_neg hb_117]; exact f_196
        have as' : Ary Z h_192 a_43 .int [.int (0 : Int32), .int (sF k0 k1)] := by rw [sF, if_neg hb_117]; exact f_197
        have am : Ary Z h_192 a_67 .long [.long (mk k0), .long (mk k1)] := by rw [mk, if_pos hb_105, mk, if_pos hb_183]; exact f_198
        exact ⟨rfl, ((((((((((((((((Keep.refl h0 [a1]).ext E_4).wr W_14 (Or.inl (List.mem_of_getElem? (i := 0) rfl))).ext E_23).wr W_35 (Or.inl (List.mem_of_getElem? (i := 0) rfl))).ext E_45).wr W_58 (Or.inl (List.mem_of_getElem? (i := 0) rfl))).ext E_69).wr W_84 (Or.inl (List.mem_of_getElem? (i := 0) rfl))).trans K_95 (allS (Or.inr gs_a_21) all0)).trans K_101 (allS (Or.inr gs_a_43) all0)).trans K_108 (allS (Or.inr gs_a_67) all0)).trans K_173 (allS (Or.inr gs_a_21) all0)).trans K_179 (allS (Or.inr gs_a_43) all0)).trans K_186 (allS (Or.inr gs_a_67) all0)).wr W_193 (Or.inl (List.mem_of_getElem? (i := 0) rfl))), a_2, a_21, a_43, a_67, ⟨gs_a_2, gs_a_21, gs_a_43, gs_a_67⟩, f_199, f_200, f_201, f_202, f_195, aw, as', am⟩
      · refine g_icmp_y C d2_114 (Jvm.Free.XT.ii_ne_t hb_183) (pc' := 123) (by decide) (by decide) ?_
        refine g_lconst C d2_123 (v := (1 : Int64)) rfl (pc' := 124) rfl ?_
        refine g_iload C d2_124 (v := k1) rfl (pc' := 126) rfl ?_
        refine g_lshl C (x := (1 : Int64)) (y := k1) d2_126  (pc' := 127) rfl ?_
        refine g_lconst C d2_127 (v := (1 : Int64)) rfl (pc' := 128) rfl ?_
        refine g_lsub C (x := ((1 : Int64) <<< (Int32.toInt64 k1 &&& 63))) (y := (1 : Int64)) d2_128  (pc' := 129) rfl ?_
        have f_203 := ((f_110.keep K_173 (ninS (Ne.symm ne_76) nin0)).keep K_179 (ninS (Ne.symm ne_77) nin0))
        refine g_lastore C f_203 (by decide) (i := 1) (by decide) (show 1 < 2 by decide) (w := (.long (((1 : Int64) <<< (Int32.toInt64 k1 &&& 63)) - (1 : Int64)))) rfl ge_a_67 d2_129 (pc' := 130) rfl ?_
        intro h_204 K_205 A_206
        have f_207 : Ary Z h_204 a_67 .long [(.long (-1 : Int64)), (.long (((1 : Int64) <<< (Int32.toInt64 k1 &&& 63)) - (1 : Int64)))] := A_206
        refine g_iload C d2_130 (v := k0) rfl (pc' := 132) rfl ?_
        refine g_iload C d2_132 (v := k1) rfl (pc' := 134) rfl ?_
        refine g_iadd C (x := k0) (y := k1) d2_134  (pc' := 135) rfl ?_
        refine g_istore C d2_135 (v := (k0 + k1)) (L' := #[.val (.ref a1), .val (.ref a2), .val (.ref a3), .val (.int (0 : Int32)), .val (.int (k0 + k1)), .val (.int (1 : Int32)), .val (.int k1)]) rfl (pc' := 137) rfl ?_
        refine g_iinc C d2_137 (v := (1 : Int32)) (w := (2 : Int32)) rfl rfl (L' := #[.val (.ref a1), .val (.ref a2), .val (.ref a3), .val (.int (0 : Int32)), .val (.int (k0 + k1)), .val (.int (2 : Int32)), .val (.int k1)]) rfl (pc' := 140) rfl ?_
        refine g_goto C d2_140 (pc' := 47) (by decide) (by decide) ?_
        refine g_iload C d2_47 (v := (2 : Int32)) rfl (pc' := 49) rfl ?_
        refine g_aload_n C d2_49 (v := (.ref a2)) rfl rfl (pc' := 50) rfl ?_
        have f_208 := (((f_111.keep K_173 (ninS ne_26 nin0)).keep K_179 (ninS ne_48 nin0)).keep K_205 (ninS ne_73 nin0))
        refine g_arraylength C f_208 (z := (2 : Int32)) rfl d2_50 (pc' := 51) rfl ?_
        refine g_icmp_y C d2_51 (Jvm.Free.XT.ii_ge_t (by decide)) (pc' := 143) (by decide) (by decide) ?_
        refine g_aload_n C d2_143 (v := (.ref a1)) rfl rfl (pc' := 144) rfl ?_
        refine g_iload_n C d2_144 (v := (0 : Int32)) rfl (pc' := 145) rfl ?_
        refine g_iconst C d2_145 (v := (1 : Int32)) rfl (pc' := 146) rfl ?_
        refine g_iadd C (x := (0 : Int32)) (y := (1 : Int32)) d2_146  (pc' := 147) rfl ?_
        refine Go.eqs (st2 := [(.int (1 : Int32)), (.ref a1)]) ?_ (by rfl)
        have f_209 := ((((((((((((((F4.ext E_4).other W_14 (Or.inr (slot_ne (Or.inr (own_w hw 41 rfl)) (Or.inr (own_w hw 24 rfl)) (by decide) (t := .int) (t' := (.array .long)) (by decide) (by decide)))).ext E_23).other W_35 (Or.inr (slot_ne (Or.inr (own_w hw 41 rfl)) (Or.inr (own_w hw 27 rfl)) (by decide) (t := .int) (t' := (.array .int)) (by decide) (by decide)))).ext E_45).other W_58 (Or.inr (slot_ne (Or.inr (own_w hw 41 rfl)) (Or.inr (own_w hw 29 rfl)) (by decide) (t := .int) (t' := (.array .int)) (by decide) (by decide)))).ext E_69).other W_84 (Or.inr (slot_ne (Or.inr (own_w hw 41 rfl)) (Or.inr (own_w hw 31 rfl)) (by decide) (t := .int) (t' := (.array .long)) (by decide) (by decide)))).keep K_95 (ninS ne_25 nin0)).keep K_101 (ninS ne_47 nin0)).keep K_108 (ninS ne_72 nin0)).keep K_173 (ninS ne_25 nin0)).keep K_179 (ninS ne_47 nin0)).keep K_205 (ninS ne_72 nin0))
        have f_210 := (((((((f_82.wr W_84).keep K_95).keep K_101).keep K_108).keep K_173).keep K_179).keep K_205)
        refine g_putfield C (host := "") (v := (.int (1 : Int32))) (Or.inl (own_w hw 40 rfl)) Via.refl f_209 f_210 (Or.inr ⟨(own_w hw 41 rfl), rfl, rfl⟩) (own_w hw 6 rfl) (ty := .int) (by decide) rfl rfl g0 d2_147 (pc' := 150) rfl ?_
        intro h_211 W_212
        have f_213 := f_209.same W_212
        refine g_return C rfl d2_150 (by decide) (by decide) ?_
        have f_214 := (((((((((f_63.ext E_69).keep (Keep.of_wr W_84) (nin1 (Ne.symm ne_7))).keep K_95 (ninS ne_28 nin0)).keep K_101 (ninS ne_50 nin0)).keep K_108 (ninS ne_75 nin0)).keep K_173 (ninS ne_28 nin0)).keep K_179 (ninS ne_50 nin0)).keep K_205 (ninS ne_75 nin0)).keep (Keep.of_wr W_212) (nin1 (Ne.symm ne_7)))
        have f_215 := (((f_175.keep K_179 (ninS ne_51 nin0)).keep K_205 (ninS ne_76 nin0)).keep (Keep.of_wr W_212) (nin1 (Ne.symm ne_25)))
        have f_216 := ((f_181.keep K_205 (ninS ne_77 nin0)).keep (Keep.of_wr W_212) (nin1 (Ne.symm ne_47)))
        have f_217 := (f_207.keep (Keep.of_wr W_212) (nin1 (Ne.symm ne_72)))
        have f_218 := (((((((((((((f_15.ext E_23).other W_35 (Or.inr (slot_ne (Or.inr (own_w hw 24 rfl)) (Or.inr (own_w hw 27 rfl)) (by decide) (t := (.array .long)) (t' := (.array .int)) (by decide) (by decide)))).ext E_45).other W_58 (Or.inr (slot_ne (Or.inr (own_w hw 24 rfl)) (Or.inr (own_w hw 29 rfl)) (by decide) (t := (.array .long)) (t' := (.array .int)) (by decide) (by decide)))).ext E_69).other W_84 (Or.inr (slot_ne (Or.inr (own_w hw 24 rfl)) (Or.inr (own_w hw 31 rfl)) (by decide) (t := (.array .long)) (t' := (.array .long)) (by decide) (by decide)))).keep K_95 (ninS ne_25 nin0)).keep K_101 (ninS ne_47 nin0)).keep K_108 (ninS ne_72 nin0)).keep K_173 (ninS ne_25 nin0)).keep K_179 (ninS ne_47 nin0)).keep K_205 (ninS ne_72 nin0)).other W_212 (Or.inr (slot_ne (Or.inr (own_w hw 24 rfl)) (Or.inr (own_w hw 41 rfl)) (by decide) (t := (.array .long)) (t' := .int) (by decide) (by decide))))
        have f_219 := ((((f_170.keep K_173 (ninS ne_25 nin0)).keep K_179 (ninS ne_47 nin0)).keep K_205 (ninS ne_72 nin0)).other W_212 (Or.inr (slot_ne (Or.inr (own_w hw 27 rfl)) (Or.inr (own_w hw 41 rfl)) (by decide) (t := (.array .int)) (t' := .int) (by decide) (by decide))))
        have f_220 := (((f_176.keep K_179 (ninS ne_47 nin0)).keep K_205 (ninS ne_72 nin0)).other W_212 (Or.inr (slot_ne (Or.inr (own_w hw 29 rfl)) (Or.inr (own_w hw 41 rfl)) (by decide) (t := (.array .int)) (t' := .int) (by decide) (by decide))))
        have f_221 := ((f_182.keep K_205 (ninS ne_72 nin0)).other W_212 (Or.inr (slot_ne (Or.inr (own_w hw 31 rfl)) (Or.inr (own_w hw 41 rfl)) (by decide) (t := (.array .long)) (t' := .int) (by decide) (by decide))))
        have aw : Ary Z h_211 a_21 .int [.int (0 : Int32), .int (wF k0 k1)] := by rw [wF, if_neg hb_117]; exact f_215
        have as' : Ary Z h_211 a_43 .int [.int (0 : Int32), .int (sF k0 k1)] := by rw [sF, if_neg hb_117]; exact f_216
        have am : Ary Z h_211 a_67 .long [.long (mk k0), .long (mk k1)] := by rw [mk, if_pos hb_105, mk, if_neg hb_183]; exact f_217
        exact ⟨rfl, ((((((((((((((((Keep.refl h0 [a1]).ext E_4).wr W_14 (Or.inl (List.mem_of_getElem? (i := 0) rfl))).ext E_23).wr W_35 (Or.inl (List.mem_of_getElem? (i := 0) rfl))).ext E_45).wr W_58 (Or.inl (List.mem_of_getElem? (i := 0) rfl))).ext E_69).wr W_84 (Or.inl (List.mem_of_getElem? (i := 0) rfl))).trans K_95 (allS (Or.inr gs_a_21) all0)).trans K_101 (allS (Or.inr gs_a_43) all0)).trans K_108 (allS (Or.inr gs_a_67) all0)).trans K_173 (allS (Or.inr gs_a_21) all0)).trans K_179 (allS (Or.inr gs_a_43) all0)).trans K_205 (allS (Or.inr gs_a_67) all0)).wr W_212 (Or.inl (List.mem_of_getElem? (i := 0) rfl))), a_2, a_21, a_43, a_67, ⟨gs_a_2, gs_a_21, gs_a_43, gs_a_67⟩, f_218, f_219, f_220, f_221, f_214, aw, as', am⟩
  · refine g_icmp_y C d2_114 (Jvm.Free.XT.ii_ne_t hb_105) (pc' := 123) (by decide) (by decide) ?_
    refine g_lconst C d2_123 (v := (1 : Int64)) rfl (pc' := 124) rfl ?_
    refine g_iload C d2_124 (v := k0) rfl (pc' := 126) rfl ?_
    refine g_lshl C (x := (1 : Int64)) (y := k0) d2_126  (pc' := 127) rfl ?_
    refine g_lconst C d2_127 (v := (1 : Int64)) rfl (pc' := 128) rfl ?_
    refine g_lsub C (x := ((1 : Int64) <<< (Int32.toInt64 k0 &&& 63))) (y := (1 : Int64)) d2_128  (pc' := 129) rfl ?_
    have f_222 := (((f_80.keep (Keep.of_wr W_84) (nin1 (Ne.symm ne_72))).keep K_95 (ninS (Ne.symm ne_76) nin0)).keep K_101 (ninS (Ne.symm ne_77) nin0))
    refine g_lastore C f_222 (by decide) (i := 0) (by decide) (show 0 < 2 by decide) (w := (.long (((1 : Int64) <<< (Int32.toInt64 k0 &&& 63)) - (1 : Int64)))) rfl ge_a_67 d2_129 (pc' := 130) rfl ?_
    intro h_223 K_224 A_225
    have f_226 : Ary Z h_223 a_67 .long [(.long (((1 : Int64) <<< (Int32.toInt64 k0 &&& 63)) - (1 : Int64))), (.long (0 : Int64))] := A_225
    refine g_iload C d2_130 (v := (0 : Int32)) rfl (pc' := 132) rfl ?_
    refine g_iload C d2_132 (v := k0) rfl (pc' := 134) rfl ?_
    refine g_iadd C (x := (0 : Int32)) (y := k0) d2_134  (pc' := 135) rfl ?_
    rw [Int32.zero_add k0]
    refine g_istore C d2_135 (v := k0) (L' := #[.val (.ref a1), .val (.ref a2), .val (.ref a3), .val (.int (0 : Int32)), .val (.int k0), .val (.int (0 : Int32)), .val (.int k0)]) rfl (pc' := 137) rfl ?_
    refine g_iinc C d2_137 (v := (0 : Int32)) (w := (1 : Int32)) rfl rfl (L' := #[.val (.ref a1), .val (.ref a2), .val (.ref a3), .val (.int (0 : Int32)), .val (.int k0), .val (.int (1 : Int32)), .val (.int k0)]) rfl (pc' := 140) rfl ?_
    refine g_goto C d2_140 (pc' := 47) (by decide) (by decide) ?_
    refine g_iload C d2_47 (v := (1 : Int32)) rfl (pc' := 49) rfl ?_
    refine g_aload_n C d2_49 (v := (.ref a2)) rfl rfl (pc' := 50) rfl ?_
    have f_227 := (((f_86.keep K_95 (ninS ne_26 nin0)).keep K_101 (ninS ne_48 nin0)).keep K_224 (ninS ne_73 nin0))
    refine g_arraylength C f_227 (z := (2 : Int32)) rfl d2_50 (pc' := 51) rfl ?_
    refine g_icmp_n C d2_51 (Jvm.Free.XT.ii_ge_f (by decide)) (pc' := 54) rfl ?_
    refine g_bipush C d2_54 (v := (64 : Int32)) rfl (pc' := 56) rfl ?_
    refine g_aload_n C d2_56 (v := (.ref a3)) rfl rfl (pc' := 57) rfl ?_
    refine g_iload C d2_57 (v := (1 : Int32)) rfl (pc' := 59) rfl ?_
    have f_228 := (((f_87.keep K_95 (ninS ne_27 nin0)).keep K_101 (ninS ne_49 nin0)).keep K_224 (ninS ne_74 nin0))
    refine g_laload C f_228 (by decide) (i := 1) (by decide) (v := g1v) rfl d2_59 (pc' := 60) rfl ?_
    refine g_aload_n C d2_60 (v := (.ref a2)) rfl rfl (pc' := 61) rfl ?_
    refine g_iload C d2_61 (v := (1 : Int32)) rfl (pc' := 63) rfl ?_
    refine g_laload C f_227 (by decide) (i := 1) (by decide) (v := l1) rfl d2_63 (pc' := 64) rfl ?_
    refine g_lsub C (x := g1v) (y := l1) d2_64  (pc' := 65) rfl ?_
    have f_229 := (Nat.le_trans (Nat.le_trans (Nat.le_trans f_88 K_95.1) K_101.1) K_224.1)
    refine g_static C (own_w hw 32 rfl) (own_w hw 33 rfl) (own_w hw 34 rfl) (own_w hw 35 rfl) (by decide) (rm_nlzL l Z a0 hw n0 (g1v - l1) h_223 f_229 ) (st := [(.int (64 : Int32))]) [(.long (g1v - l1))] rfl rfl own_pd_3_numberOfLeadingZeros rfl rfl (by decide) (W := 1) (Nat.le_of_eq rfl) (by decide) (by decide) (by decide) d2_65 (pc' := 68) rfl ?_
    intro v_232 h_230 q_231
    obtain ⟨rfl, rfl⟩ := q_231
    show Go B n0 _ h_223 4 8 68 #[.val (.ref a1), .val (.ref a2), .val (.ref a3), .val (.int (0 : Int32)), .val (.int k0), .val (.int (1 : Int32)), .val (.int k0)] [(.int (nlzL (g1v - l1))), (.int (64 : Int32))]
    refine g_isub C (x := (64 : Int32)) (y := (nlzL (g1v - l1))) d2_68  (pc' := 69) rfl ?_
    rw [N1]
    refine g_istore C d2_69 (v := k1) (L' := #[.val (.ref a1), .val (.ref a2), .val (.ref a3), .val (.int (0 : Int32)), .val (.int k0), .val (.int (1 : Int32)), .val (.int k1)]) rfl (pc' := 71) rfl ?_
    refine g_iload C d2_71 (v := k0) rfl (pc' := 73) rfl ?_
    refine g_iload C d2_73 (v := k1) rfl (pc' := 75) rfl ?_
    refine g_iadd C (x := k0) (y := k1) d2_75  (pc' := 76) rfl ?_
    refine g_bipush C d2_76 (v := (64 : Int32)) rfl (pc' := 78) rfl ?_
    by_cases hb_233 : (64 : Int32) < (k0 + k1)
    · refine g_icmp_n C d2_78 (Jvm.Free.XT.ii_le_f hb_233) (pc' := 81) rfl ?_
      refine g_iinc C d2_81 (v := (0 : Int32)) (w := (1 : Int32)) rfl rfl (L' := #[.val (.ref a1), .val (.ref a2), .val (.ref a3), .val (.int (1 : Int32)), .val (.int k0), .val (.int (1 : Int32)), .val (.int k1)]) rfl (pc' := 84) rfl ?_
      refine g_iconst C d2_84 (v := (0 : Int32)) rfl (pc' := 85) rfl ?_
      refine g_istore C d2_85 (v := (0 : Int32)) (L' := #[.val (.ref a1), .val (.ref a2), .val (.ref a3), .val (.int (1 : Int32)), .val (.int (0 : Int32)), .val (.int (1 : Int32)), .val (.int k1)]) rfl (pc' := 87) rfl ?_
      refine g_aload_n C d2_87 (v := (.ref a1)) rfl rfl (pc' := 88) rfl ?_
      have f_234 := (((f_92.keep K_95 (ninS ne_25 nin0)).keep K_101 (ninS ne_47 nin0)).keep K_224 (ninS ne_72 nin0))
      refine g_getfield C (host := "") (v := (.ref a_21)) (Or.inl (own_w hw 26 rfl)) Via.refl f_234 d2_88 (pc' := 91) rfl ?_
      refine g_iload C d2_91 (v := (1 : Int32)) rfl (pc' := 93) rfl ?_
      refine g_iload_n C d2_93 (v := (1 : Int32)) rfl (pc' := 94) rfl ?_
      have f_235 := ((f_97.keep K_101 (ninS ne_51 nin0)).keep K_224 (ninS ne_76 nin0))
      refine g_iastore C f_235 (by decide) (i := 1) (by decide) (show 1 < 2 by decide) (w := (.int (1 : Int32))) rfl ge_a_21 d2_94 (pc' := 95) rfl ?_
      intro h_236 K_237 A_238
      have f_239 : Ary Z h_236 a_21 .int [(.int (0 : Int32)), (.int (1 : Int32))] := A_238
      refine g_aload_n C d2_95 (v := (.ref a1)) rfl rfl (pc' := 96) rfl ?_
      have f_240 := (((f_98.keep K_101 (ninS ne_47 nin0)).keep K_224 (ninS ne_72 nin0)).keep K_237 (ninS ne_25 nin0))
      refine g_getfield C (host := "") (v := (.ref a_43)) (Or.inl (own_w hw 28 rfl)) Via.refl f_240 d2_96 (pc' := 99) rfl ?_
      refine g_iload C d2_99 (v := (1 : Int32)) rfl (pc' := 101) rfl ?_
      refine g_iload C d2_101 (v := (0 : Int32)) rfl (pc' := 103) rfl ?_
      have f_241 := ((f_103.keep K_224 (ninS ne_77 nin0)).keep K_237 (ninS (Ne.symm ne_51) nin0))
      refine g_iastore C f_241 (by decide) (i := 1) (by decide) (show 1 < 2 by decide) (w := (.int (0 : Int32))) rfl ge_a_43 d2_103 (pc' := 104) rfl ?_
      intro h_242 K_243 A_244
      have f_245 : Ary Z h_242 a_43 .int [(.int (0 : Int32)), (.int (0 : Int32))] := A_244
      refine g_aload_n C d2_104 (v := (.ref a1)) rfl rfl (pc' := 105) rfl ?_
      have f_246 := (((f_104.keep K_224 (ninS ne_72 nin0)).keep K_237 (ninS ne_25 nin0)).keep K_243 (ninS ne_47 nin0))
      refine g_getfield C (host := "") (v := (.ref a_67)) (Or.inl (own_w hw 30 rfl)) Via.refl f_246 d2_105 (pc' := 108) rfl ?_
      refine g_iload C d2_108 (v := (1 : Int32)) rfl (pc' := 110) rfl ?_
      refine g_iload C d2_110 (v := k1) rfl (pc' := 112) rfl ?_
      refine g_bipush C d2_112 (v := (64 : Int32)) rfl (pc' := 114) rfl ?_
      by_cases hb_247 : k1 = (64 : Int32)
      · refine g_icmp_n C d2_114 (Jvm.Free.XT.ii_ne_f hb_247) (pc' := 117) rfl ?_
        refine g_ldc2_w C (v := (-1 : Int64)) (own_w hw 49 rfl) d2_117 (pc' := 120) rfl ?_
        refine g_goto C d2_120 (pc' := 129) (by decide) (by decide) ?_
        have f_248 := ((f_226.keep K_237 (ninS (Ne.symm ne_76) nin0)).keep K_243 (ninS (Ne.symm ne_77) nin0))
        refine g_lastore C f_248 (by decide) (i := 1) (by decide) (show 1 < 2 by decide) (w := (.long (-1 : Int64))) rfl ge_a_67 d2_129 (pc' := 130) rfl ?_
        intro h_249 K_250 A_251
        have f_252 : Ary Z h_249 a_67 .long [(.long (((1 : Int64) <<< (Int32.toInt64 k0 &&& 63)) - (1 : Int64))), (.long (-1 : Int64))] := A_251
        refine g_iload C d2_130 (v := (0 : Int32)) rfl (pc' := 132) rfl ?_
        refine g_iload C d2_132 (v := k1) rfl (pc' := 134) rfl ?_
        refine g_iadd C (x := (0 : Int32)) (y := k1) d2_134  (pc' := 135) rfl ?_
        refine g_istore C d2_135 (v := ((0 : Int32) + k1)) (L' := #[.val (.ref a1), .val (.ref a2), .val (.ref a3), .val (.int (1 : Int32)), .val (.int ((0 : Int32) + k1)), .val (.int (1 : Int32)), .val (.int k1)]) rfl (pc' := 137) rfl ?_
        refine g_iinc C d2_137 (v := (1 : Int32)) (w := (2 : Int32)) rfl rfl (L' := #[.val (.ref a1), .val (.ref a2), .val (.ref a3), .val (.int (1 : Int32)), .val (.int ((0 : Int32) + k1)), .val (.int (2 : Int32)), .val (.int k1)]) rfl (pc' := 140) rfl ?_
        refine g_goto C d2_140 (pc' := 47) (by decide) (by decide) ?_
        refine g_iload C d2_47 (v := (2 : Int32)) rfl (pc' := 49) rfl ?_
        refine g_aload_n C d2_49 (v := (.ref a2)) rfl rfl (pc' := 50) rfl ?_
        have f_253 := (((f_227.keep K_237 (ninS ne_26 nin0)).keep K_243 (ninS ne_48 nin0)).keep K_250 (ninS ne_73 nin0))
        refine g_arraylength C f_253 (z := (2 : Int32)) rfl d2_50 (pc' := 51) rfl ?_
        refine g_icmp_y C d2_51 (Jvm.Free.XT.ii_ge_t (by decide)) (pc' := 143) (by decide) (by decide) ?_
        refine g_aload_n C d2_143 (v := (.ref a1)) rfl rfl (pc' := 144) rfl ?_
        refine g_iload_n C d2_144 (v := (1 : Int32)) rfl (pc' := 145) rfl ?_
        refine g_iconst C d2_145 (v := (1 : Int32)) rfl (pc' := 146) rfl ?_
        refine g_iadd C (x := (1 : Int32)) (y := (1 : Int32)) d2_146  (pc' := 147) rfl ?_
        refine Go.eqs (st2 := [(.int (2 : Int32)), (.ref a1)]) ?_ (by rfl)
        have f_254 := ((((((((((((((F4.ext E_4).other W_14 (Or.inr (slot_ne (Or.inr (own_w hw 41 rfl)) (Or.inr (own_w hw 24 rfl)) (by decide) (t := .int) (t' := (.array .long)) (by decide) (by decide)))).ext E_23).other W_35 (Or.inr (slot_ne (Or.inr (own_w hw 41 rfl)) (Or.inr (own_w hw 27 rfl)) (by decide) (t := .int) (t' := (.array .int)) (by decide) (by decide)))).ext E_45).other W_58 (Or.inr (slot_ne (Or.inr (own_w hw 41 rfl)) (Or.inr (own_w hw 29 rfl)) (by decide) (t := .int) (t' := (.array .int)) (by decide) (by decide)))).ext E_69).other W_84 (Or.inr (slot_ne (Or.inr (own_w hw 41 rfl)) (Or.inr (own_w hw 31 rfl)) (by decide) (t := .int) (t' := (.array .long)) (by decide) (by decide)))).keep K_95 (ninS ne_25 nin0)).keep K_101 (ninS ne_47 nin0)).keep K_224 (ninS ne_72 nin0)).keep K_237 (ninS ne_25 nin0)).keep K_243 (ninS ne_47 nin0)).keep K_250 (ninS ne_72 nin0))
        have f_255 := (((((((f_82.wr W_84).keep K_95).keep K_101).keep K_224).keep K_237).keep K_243).keep K_250)
        refine g_putfield C (host := "") (v := (.int (2 : Int32))) (Or.inl (own_w hw 40 rfl)) Via.refl f_254 f_255 (Or.inr ⟨(own_w hw 41 rfl), rfl, rfl⟩) (own_w hw 6 rfl) (ty := .int) (by decide) rfl rfl g0 d2_147 (pc' := 150) rfl ?_
        intro h_256 W_257
        have f_258 := f_254.same W_257
        refine g_return C rfl d2_150 (by decide) (by decide) ?_
        have f_259 := (((((((((f_63.ext E_69).keep (Keep.of_wr W_84) (nin1 (Ne.symm ne_7))).keep K_95 (ninS ne_28 nin0)).keep K_101 (ninS ne_50 nin0)).keep K_224 (ninS ne_75 nin0)).keep K_237 (ninS ne_28 nin0)).keep K_243 (ninS ne_50 nin0)).keep K_250 (ninS ne_75 nin0)).keep (Keep.of_wr W_257) (nin1 (Ne.symm ne_7)))
        have f_260 := (((f_239.keep K_243 (ninS ne_51 nin0)).keep K_250 (ninS ne_76 nin0)).keep (Keep.of_wr W_257) (nin1 (Ne.symm ne_25)))
        have f_261 := ((f_245.keep K_250 (ninS ne_77 nin0)).keep (Keep.of_wr W_257) (nin1 (Ne.symm ne_47)))
        have f_262 := (f_252.keep (Keep.of_wr W_257) (nin1 (Ne.symm ne_72)))
        have f_263 := (((((((((((((f_15.ext E_23).other W_35 (Or.inr (slot_ne (Or.inr (own_w hw 24 rfl)) (Or.inr (own_w hw 27 rfl)) (by decide) (t := (.array .long)) (t' := (.array .int)) (by decide) (by decide)))).ext E_45).other W_58 (Or.inr (slot_ne (Or.inr (own_w hw 24 rfl)) (Or.inr (own_w hw 29 rfl)) (by decide) (t := (.array .long)) (t' := (.array .int)) (by decide) (by decide)))).ext E_69).other W_84 (Or.inr (slot_ne (Or.inr (own_w hw 24 rfl)) (Or.inr (own_w hw 31 rfl)) (by decide) (t := (.array .long)) (t' := (.array .long)) (by decide) (by decide)))).keep K_95 (ninS ne_25 nin0)).keep K_101 (ninS ne_47 nin0)).keep K_224 (ninS ne_72 nin0)).keep K_237 (ninS ne_25 nin0)).keep K_243 (ninS ne_47 nin0)).keep K_250 (ninS ne_72 nin0)).other W_257 (Or.inr (slot_ne (Or.inr (own_w hw 24 rfl)) (Or.inr (own_w hw 41 rfl)) (by decide) (t := (.array .long)) (t' := .int) (by decide) (by decide))))
        have f_264 := ((((f_234.keep K_237 (ninS ne_25 nin0)).keep K_243 (ninS ne_47 nin0)).keep K_250 (ninS ne_72 nin0)).other W_257 (Or.inr (slot_ne (Or.inr (own_w hw 27 rfl)) (Or.inr (own_w hw 41 rfl)) (by decide) (t := (.array .int)) (t' := .int) (by decide) (by decide))))
        have f_265 := (((f_240.keep K_243 (ninS ne_47 nin0)).keep K_250 (ninS ne_72 nin0)).other W_257 (Or.inr (slot_ne (Or.inr (own_w hw 29 rfl)) (Or.inr (own_w hw 41 rfl)) (by decide) (t := (.array .int)) (t' := .int) (by decide) (by decide))))
        have f_266 := ((f_246.keep K_250 (ninS ne_72 nin0)).other W_257 (Or.inr (slot_ne (Or.inr (own_w hw 31 rfl)) (Or.inr (own_w hw 41 rfl)) (by decide) (t := (.array .long)) (t' := .int) (by decide) (by decide))))
        have aw : Ary Z h_256 a_21 .int [.int (0 : Int32), .int (wF k0 k1)] := by rw [wF, if_pos hb_233]; exact f_260
        have as' : Ary Z h_256 a_43 .int [.int (0 : Int32), .int (sF k0 k1)] := by rw [sF, if_pos hb_233]; exact f_261
        have am : Ary Z h_256 a_67 .long [.long (mk k0), .long (mk k1)] := by rw [mk, if_neg hb_105, mk, if_pos hb_247]; exact f_262
        exact ⟨rfl, ((((((((((((((((Keep.refl h0 [a1]).ext E_4).wr W_14 (Or.inl (List.mem_of_getElem? (i := 0) rfl))).ext E_23).wr W_35 (Or.inl (List.mem_of_getElem? (i := 0) rfl))).ext E_45).wr W_58 (Or.inl (List.mem_of_getElem? (i := 0) rfl))).ext E_69).wr W_84 (Or.inl (List.mem_of_getElem? (i := 0) rfl))).trans K_95 (allS (Or.inr gs_a_21) all0)).trans K_101 (allS (Or.inr gs_a_43) all0)).trans K_224 (allS (Or.inr gs_a_67) all0)).trans K_237 (allS (Or.inr gs_a_21) all0)).trans K_243 (allS (Or.inr gs_a_43) all0)).trans K_250 (allS (Or.inr gs_a_67) all0)).wr W_257 (Or.inl (List.mem_of_getElem? (i := 0) rfl))), a_2, a_21, a_43, a_67, ⟨gs_a_2, gs_a_21, gs_a_43, gs_a_67⟩, f_263, f_264, f_265, f_266, f_259, aw, as', am⟩
      · refine g_icmp_y C d2_114 (Jvm.Free.XT.ii_ne_t hb_247) (pc' := 123) (by decide) (by decide) ?_
        refine g_lconst C d2_123 (v := (1 : Int64)) rfl (pc' := 124) rfl ?_
        refine g_iload C d2_124 (v := k1) rfl (pc' := 126) rfl ?_
        refine g_lshl C (x := (1 : Int64)) (y := k1) d2_126  (pc' := 127) rfl ?_
        refine g_lconst C d2_127 (v := (1 : Int64)) rfl (pc' := 128) rfl ?_
        refine g_lsub C (x := ((1 : Int64) <<< (Int32.toInt64 k1 &&& 63))) (y := (1 : Int64)) d2_128  (pc' := 129) rfl ?_
        have f_267 := ((f_226.keep K_237 (ninS (Ne.symm ne_76) nin0)).keep K_243 (ninS (Ne.symm ne_77) nin0))
        refine g_lastore C f_267 (by decide) (i := 1) (by decide) (show 1 < 2 by decide) (w := (.long (((1 : Int64) <<< (Int32.toInt64 k1 &&& 63)) - (1 : Int64)))) rfl ge_a_67 d2_129 (pc' := 130) rfl ?_
        intro h_268 K_269 A_270
        have f_271 : Ary Z h_268 a_67 .long [(.long (((1 : Int64) <<< (Int32.toInt64 k0 &&& 63)) - (1 : Int64))), (.long (((1 : Int64) <<< (Int32.toInt64 k1 &&& 63)) - (1 : Int64)))] := A_270
        refine g_iload C d2_130 (v := (0 : Int32)) rfl (pc' := 132) rfl ?_
        refine g_iload C d2_132 (v := k1) rfl (pc' := 134) rfl ?_
        refine g_iadd C (x := (0 : Int32)) (y := k1) d2_134  (pc' := 135) rfl ?_
        refine g_istore C d2_135 (v := ((0 : Int32) + k1)) (L' := #[.val (.ref a1), .val (.ref a2), .val (.ref a3), .val (.int (1 : Int32)), .val (.int ((0 : Int32) + k1)), .val (.int (1 : Int32)), .val (.int k1)]) rfl (pc' := 137) rfl ?_
        refine g_iinc C d2_137 (v := (1 : Int32)) (w := (2 : Int32)) rfl rfl (L' := #[.val (.ref a1), .val (.ref a2), .val (.ref a3), .val (.int (1 : Int32)), .val (.int ((0 : Int32) + k1)), .val (.int (2 : Int32)), .val (.int k1)]) rfl (pc' := 140) rfl ?_
        refine g_goto C d2_140 (pc' := 47) (by decide) (by decide) ?_
        refine g_iload C d2_47 (v := (2 : Int32)) rfl (pc' := 49) rfl ?_
        refine g_aload_n C d2_49 (v := (.ref a2)) rfl rfl (pc' := 50) rfl ?_
        have f_272 := (((f_227.keep K_237 (ninS ne_26 nin0)).keep K_243 (ninS ne_48 nin0)).keep K_269 (ninS ne_73 nin0))
        refine g_arraylength C f_272 (z := (2 : Int32)) rfl d2_50 (pc' := 51) rfl ?_
        refine g_icmp_y C d2_51 (Jvm.Free.XT.ii_ge_t (by decide)) (pc' := 143) (by decide) (by decide) ?_
        refine g_aload_n C d2_143 (v := (.ref a1)) rfl rfl (pc' := 144) rfl ?_
        refine g_iload_n C d2_144 (v := (1 : Int32)) rfl (pc' := 145) rfl ?_
        refine g_iconst C d2_145 (v := (1 : Int32)) rfl (pc' := 146) rfl ?_
        refine g_iadd C (x := (1 : Int32)) (y := (1 : Int32)) d2_146  (pc' := 147) rfl ?_
        refine Go.eqs (st2 := [(.int (2 : Int32)), (.ref a1)]) ?_ (by rfl)
        have f_273 := ((((((((((((((F4.ext E_4).other W_14 (Or.inr (slot_ne (Or.inr (own_w hw 41 rfl)) (Or.inr (own_w hw 24 rfl)) (by decide) (t := .int) (t' := (.array .long)) (by decide) (by decide)))).ext E_23).other W_35 (Or.inr (slot_ne (Or.inr (own_w hw 41 rfl)) (Or.inr (own_w hw 27 rfl)) (by decide) (t := .int) (t' := (.array .int)) (by decide) (by decide)))).ext E_45).other W_58 (Or.inr (slot_ne (Or.inr (own_w hw 41 rfl)) (Or.inr (own_w hw 29 rfl)) (by decide) (t := .int) (t' := (.array .int)) (by decide) (by decide)))).ext E_69).other W_84 (Or.inr (slot_ne (Or.inr (own_w hw 41 rfl)) (Or.inr (own_w hw 31 rfl)) (by decide) (t := .int) (t' := (.array .long)) (by decide) (by decide)))).keep K_95 (ninS ne_25 nin0)).keep K_101 (ninS ne_47 nin0)).keep K_224 (ninS ne_72 nin0)).keep K_237 (ninS ne_25 nin0)).keep K_243 (ninS ne_47 nin0)).keep K_269 (ninS ne_72 nin0))
        have f_274 := (((((((f_82.wr W_84).keep K_95).keep K_101).keep K_224).keep K_237).keep K_243).keep K_269)
        refine g_putfield C (host := "") (v := (.int (2 : Int32))) (Or.inl (own_w hw 40 rfl)) Via.refl f_273 f_274 (Or.inr ⟨(own_w hw 41 rfl), rfl, rfl⟩) (own_w hw 6 rfl) (ty := .int) (by decide) rfl rfl g0 d2_147 (pc' := 150) rfl ?_
        intro h_275 W_276
        have f_277 := f_273.same W_276
        refine g_return C rfl d2_150 (by decide) (by decide) ?_
        have f_278 := (((((((((f_63.ext E_69).keep (Keep.of_wr W_84) (nin1 (Ne.symm ne_7))).keep K_95 (ninS ne_28 nin0)).keep K_101 (ninS ne_50 nin0)).keep K_224 (ninS ne_75 nin0)).keep K_237 (ninS ne_28 nin0)).keep K_243 (ninS ne_50 nin0)).keep K_269 (ninS ne_75 nin0)).keep (Keep.of_wr W_276) (nin1 (Ne.symm ne_7)))
        have f_279 := (((f_239.keep K_243 (ninS ne_51 nin0)).keep K_269 (ninS ne_76 nin0)).keep (Keep.of_wr W_276) (nin1 (Ne.symm ne_25)))
        have f_280 := ((f_245.keep K_269 (ninS ne_77 nin0)).keep (Keep.of_wr W_276) (nin1 (Ne.symm ne_47)))
        have f_281 := (f_271.keep (Keep.of_wr W_276) (nin1 (Ne.symm ne_72)))
        have f_282 := (((((((((((((f_15.ext E_23).other W_35 (Or.inr (slot_ne (Or.inr (own_w hw 24 rfl)) (Or.inr (own_w hw 27 rfl)) (by decide) (t := (.array .long)) (t' := (.array .int)) (by decide) (by decide)))).ext E_45).other W_58 (Or.inr (slot_ne (Or.inr (own_w hw 24 rfl)) (Or.inr (own_w hw 29 rfl)) (by decide) (t := (.array .long)) (t' := (.array .int)) (by decide) (by decide)))).ext E_69).other W_84 (Or.inr (slot_ne (Or.inr (own_w hw 24 rfl)) (Or.inr (own_w hw 31 rfl)) (by decide) (t := (.array .long)) (t' := (.array .long)) (by decide) (by decide)))).keep K_95 (ninS ne_25 nin0)).keep K_101 (ninS ne_47 nin0)).keep K_224 (ninS ne_72 nin0)).keep K_237 (ninS ne_25 nin0)).keep K_243 (ninS ne_47 nin0)).keep K_269 (ninS ne_72 nin0)).other W_276 (Or.inr (slot_ne (Or.inr (own_w hw 24 rfl)) (Or.inr (own_w hw 41 rfl)) (by decide) (t := (.array .long)) (t' := .int) (by decide) (by decide))))
        have f_283 := ((((f_234.keep K_237 (ninS ne_25 nin0)).keep K_243 (ninS ne_47 nin0)).keep K_269 (ninS ne_72 nin0)).other W_276 (Or.inr (slot_ne (Or.inr (own_w hw 27 rfl)) (Or.inr (own_w hw 41 rfl)) (by decide) (t := (.array .int)) (t' := .int) (by decide) (by decide))))
        have f_284 := (((f_240.keep K_243 (ninS ne_47 nin0)).keep K_269 (ninS ne_72 nin0)).other W_276 (Or.inr (slot_ne (Or.inr (own_w hw 29 rfl)) (Or.inr (own_w hw 41 rfl)) (by decide) (t := (.array .int)) (t' := .int) (by decide) (by decide))))
        have f_285 := ((f_246.keep K_269 (ninS ne_72 nin0)).other W_276 (Or.inr (slot_ne (Or.inr (own_w hw 31 rfl)) (Or.inr (own_w hw 41 rfl)) (by decide) (t := (.array .long)) (t' := .int) (by decide) (by decide))))
        have aw : Ary Z h_275 a_21 .int [.int (0 : Int32), .int (wF k0 k1)] := by rw [wF, if_pos hb_233]; exact f_279
        have as' : Ary Z h_275 a_43 .int [.int (0 : Int32), .int (sF k0 k1)] := by rw [sF, if_pos hb_233]; exact f_280
        have am : Ary Z h_275 a_67 .long [.long (mk k0), .long (mk k1)] := by rw [mk, if_neg hb_105, mk, if_neg hb_247]; exact f_281
        exact ⟨rfl, ((((((((((((((((Keep.refl h0 [a1]).ext E_4).wr W_14 (Or.inl (List.mem_of_getElem? (i := 0) rfl))).ext E_23).wr W_35 (Or.inl (List.mem_of_getElem? (i := 0) rfl))).ext E_45).wr W_58 (Or.inl (List.mem_of_getElem? (i := 0) rfl))).ext E_69).wr W_84 (Or.inl (List.mem_of_getElem? (i := 0) rfl))).trans K_95 (allS (Or.inr gs_a_21) all0)).trans K_101 (allS (Or.inr gs_a_43) all0)).trans K_224 (allS (Or.inr gs_a_67) all0)).trans K_237 (allS (Or.inr gs_a_21) all0)).trans K_243 (allS (Or.inr gs_a_43) all0)).trans K_269 (allS (Or.inr gs_a_67) all0)).wr W_276 (Or.inl (List.mem_of_getElem? (i := 0) rfl))), a_2, a_21, a_43, a_67, ⟨gs_a_2, gs_a_21, gs_a_43, gs_a_67⟩, f_282, f_283, f_284, f_285, f_278, aw, as', am⟩
    · refine g_icmp_y C d2_78 (Jvm.Free.XT.ii_le_t hb_233) (pc' := 87) (by decide) (by decide) ?_
      refine g_aload_n C d2_87 (v := (.ref a1)) rfl rfl (pc' := 88) rfl ?_
      have f_286 := (((f_92.keep K_95 (ninS ne_25 nin0)).keep K_101 (ninS ne_47 nin0)).keep K_224 (ninS ne_72 nin0))
      refine g_getfield C (host := "") (v := (.ref a_21)) (Or.inl (own_w hw 26 rfl)) Via.refl f_286 d2_88 (pc' := 91) rfl ?_
      refine g_iload C d2_91 (v := (1 : Int32)) rfl (pc' := 93) rfl ?_
      refine g_iload_n C d2_93 (v := (0 : Int32)) rfl (pc' := 94) rfl ?_
      have f_287 := ((f_97.keep K_101 (ninS ne_51 nin0)).keep K_224 (ninS ne_76 nin0))
      refine g_iastore C f_287 (by decide) (i := 1) (by decide) (show 1 < 2 by decide) (w := (.int (0 : Int32))) rfl ge_a_21 d2_94 (pc' := 95) rfl ?_
      intro h_288 K_289 A_290
      have f_291 : Ary Z h_288 a_21 .int [(.int (0 : Int32)), (.int (0 : Int32))] := A_290
      refine g_aload_n C d2_95 (v := (.ref a1)) rfl rfl (pc' := 96) rfl ?_
      have f_292 := (((f_98.keep K_101 (ninS ne_47 nin0)).keep K_224 (ninS ne_72 nin0)).keep K_289 (ninS ne_25 nin0))
      refine g_getfield C (host := "") (v := (.ref a_43)) (Or.inl (own_w hw 28 rfl)) Via.refl f_292 d2_96 (pc' := 99) rfl ?_
      refine g_iload C d2_99 (v := (1 : Int32)) rfl (pc' := 101) rfl ?_
      refine g_iload C d2_101 (v := k0) rfl (pc' := 103) rfl ?_
      have f_293 := ((f_103.keep K_224 (ninS ne_77 nin0)).keep K_289 (ninS (Ne.symm ne_51) nin0))
      refine g_iastore C f_293 (by decide) (i := 1) (by decide) (show 1 < 2 by decide) (w := (.int k0)) rfl ge_a_43 d2_103 (pc' := 104) rfl ?_
      intro h_294 K_295 A_296
      have f_297 : Ary Z h_294 a_43 .int [(.int (0 : Int32)), (.int k0)] := A_296
      refine g_aload_n C d2_104 (v := (.ref a1)) rfl rfl (pc' := 105) rfl ?_
      have f_298 := (((f_104.keep K_224 (ninS ne_72 nin0)).keep K_289 (ninS ne_25 nin0)).keep K_295 (ninS ne_47 nin0))
      refine g_getfield C (host := "") (v := (.ref a_67)) (Or.inl (own_w hw 30 rfl)) Via.refl f_298 d2_105 (pc' := 108) rfl ?_
      refine g_iload C d2_108 (v := (1 : Int32)) rfl (pc' := 110) rfl ?_
      refine g_iload C d2_110 (v := k1) rfl (pc' := 112) rfl ?_
      refine g_bipush C d2_112 (v := (64 : Int32)) rfl (pc' := 114) rfl ?_
      by_cases hb_299 : k1 = (64 : Int32)
      · refine g_icmp_n C d2_114 (Jvm.Free.XT.ii_ne_f hb_299) (pc' := 117) rfl ?_
        refine g_ldc2_w C (v := (-1 : Int64)) (own_w hw 49 rfl) d2_117 (pc' := 120) rfl ?_
        refine g_goto C d2_120 (pc' := 129) (by decide) (by decide) ?_
        have f_300 := ((f_226.keep K_289 (ninS (Ne.symm ne_76) nin0)).keep K_295 (ninS (Ne.symm ne_77) nin0))
        refine g_lastore C f_300 (by decide) (i := 1) (by decide) (show 1 < 2 by decide) (w := (.long (-1 : Int64))) rfl ge_a_67 d2_129 (pc' := 130) rfl ?_
        intro h_301 K_302 A_303
        have f_304 : Ary Z h_301 a_67 .long [(.long (((1 : Int64) <<< (Int32.toInt64 k0 &&& 63)) - (1 : Int64))), (.long (-1 : Int64))] := A_303
        refine g_iload C d2_130 (v := k0) rfl (pc' := 132) rfl ?_
        refine g_iload C d2_132 (v := k1) rfl (pc' := 134) rfl ?_
        refine g_iadd C (x := k0) (y := k1) d2_134  (pc' := 135) rfl ?_
        refine g_istore C d2_135 (v := (k0 + k1)) (L' := #[.val (.ref a1), .val (.ref a2), .val (.ref a3), .val (.int (0 : Int32)), .val (.int (k0 + k1)), .val (.int (1 : Int32)), .val (.int k1)]) rfl (pc' := 137) rfl ?_
        refine g_iinc C d2_137 (v := (1 : Int32)) (w := (2 : Int32)) rfl rfl (L' := #[.val (.ref a1), .val (.ref a2), .val (.ref a3), .val (.int (0 : Int32)), .val (.int (k0 + k1)), .val (.int (2 : Int32)), .val (.int k1)]) rfl (pc' := 140) rfl ?_
        refine g_goto C d2_140 (pc' := 47) (by decide) (by decide) ?_
        refine g_iload C d2_47 (v := (2 : Int32)) rfl (pc' := 49) rfl ?_
        refine g_aload_n C d2_49 (v := (.ref a2)) rfl rfl (pc' := 50) rfl ?_
        have f_305 := (((f_227.keep K_289 (ninS ne_26 nin0)).keep K_295 (ninS ne_48 nin0)).keep K_302 (ninS ne_73 nin0))
        refine g_arraylength C f_305 (z := (2 : Int32)) rfl d2_50 (pc' := 51) rfl ?_
        refine g_icmp_y C d2_51 (Jvm.Free.XT.ii_ge_t (by decide)) (pc' := 143) (by decide) (by decide) ?_
        refine g_aload_n C d2_143 (v := (.ref a1)) rfl rfl (pc' := 144) rfl ?_
        refine g_iload_n C d2_144 (v := (0 : Int32)) rfl (pc' := 145) rfl ?_
        refine g_iconst C d2_145 (v := (1 : Int32)) rfl (pc' := 146) rfl ?_
        refine g_iadd C (x := (0 : Int32)) (y := (1 : Int32)) d2_146  (pc' := 147) rfl ?_
        refine Go.eqs (st2 := [(.int (1 : Int32)), (.ref a1)]) ?_ (by rfl)
        have f_306 := ((((((((((((((F4.ext E_4).other W_14 (Or.inr (slot_ne (Or.inr (own_w hw 41 rfl)) (Or.inr (own_w hw 24 rfl)) (by decide) (t := .int) (t' := (.array .long)) (by decide) (by decide)))).ext E_23).other W_35 (Or.inr (slot_ne (Or.inr (own_w hw 41 rfl)) (Or.inr (own_w hw 27 rfl)) (by decide) (t := .int) (t' := (.array .int)) (by decide) (by decide)))).ext E_45).other W_58 (Or.inr (slot_ne (Or.inr (own_w hw 41 rfl)) (Or.inr (own_w hw 29 rfl)) (by decide) (t := .int) (t' := (.array .int)) (by decide) (by decide)))).ext E_69).other W_84 (Or.inr (slot_ne (Or.inr (own_w hw 41 rfl)) (Or.inr (own_w hw 31 rfl)) (by decide) (t := .int) (t' := (.array .long)) (by decide) (by decide)))).keep K_95 (ninS ne_25 nin0)).keep K_101 (ninS ne_47 nin0)).keep K_224 (ninS ne_72 nin0)).keep K_289 (ninS ne_25 nin0)).keep K_295 (ninS ne_47 nin0)).keep K_302 (ninS ne_72 nin0))
        have f_307 := (((((((f_82.wr W_84).keep K_95).keep K_101).keep K_224).keep K_289).keep K_295).keep K_302)
        refine g_putfield C (host := "") (v := (.int (1 : Int32))) (Or.inl (own_w hw 40 rfl)) Via.refl f_306 f_307 (Or.inr ⟨(own_w hw 41 rfl), rfl, rfl⟩) (own_w hw 6 rfl) (ty := .int) (by decide) rfl rfl g0 d2_147 (pc' := 150) rfl ?_
        intro h_308 W_309
        have f_310 := f_306.same W_309
        refine g_return C rfl d2_150 (by decide) (by decide) ?_
        have f_311 := (((((((((f_63.ext E_69).keep (Keep.of_wr W_84) (nin1 (Ne.symm ne_7))).keep K_95 (ninS ne_28 nin0)).keep K_101 (ninS ne_50 nin0)).keep K_224 (ninS ne_75 nin0)).keep K_289 (ninS ne_28 nin0)).keep K_295 (ninS ne_50 nin0)).keep K_302 (ninS ne_75 nin0)).keep (Keep.of_wr W_309) (nin1 (Ne.symm ne_7)))
        have f_312 := (((f_291.keep K_295 (ninS ne_51 nin0)).keep K_302 (ninS ne_76 nin0)).keep (Keep.of_wr W_309) (nin1 (Ne.symm ne_25)))
        have f_313 := ((f_297.keep K_302 (ninS ne_77 nin0)).keep (Keep.of_wr W_309) (nin1 (Ne.symm ne_47)))
        have f_314 := (f_304.keep (Keep.of_wr W_309) (nin1 (Ne.symm ne_72)))
        have f_315 := (((((((((((((f_15.ext E_23).other W_35 (Or.inr (slot_ne (Or.inr (own_w hw 24 rfl)) (Or.inr (own_w hw 27 rfl)) (by decide) (t := (.array .long)) (t' := (.array .int)) (by decide) (by decide)))).ext E_45).other W_58 (Or.inr (slot_ne (Or.inr (own_w hw 24 rfl)) (Or.inr (own_w hw 29 rfl)) (by decide) (t := (.array .long)) (t' := (.array .int)) (by decide) (by decide)))).ext E_69).other W_84 (Or.inr (slot_ne (Or.inr (own_w hw 24 rfl)) (Or.inr (own_w hw 31 rfl)) (by decide) (t := (.array .long)) (t' := (.array .long)) (by decide) (by decide)))).keep K_95 (ninS ne_25 nin0)).keep K_101 (ninS ne_47 nin0)).keep K_224 (ninS ne_72 nin0)).keep K_289 (ninS ne_25 nin0)).keep K_295 (ninS ne_47 nin0)).keep K_302 (ninS ne_72 nin0)).other W_309 (Or.inr (slot_ne (Or.inr (own_w hw 24 rfl)) (Or.inr (own_w hw 41 rfl)) (by decide) (t := (.array .long)) (t' := .int) (by decide) (by decide))))
        have f_316 := ((((f_286.keep K_289 (ninS ne_25 nin0)).keep K_295 (ninS ne_47 nin0)).keep K_302 (ninS ne_72 nin0)).other W_309 (Or.inr (slot_ne (Or.inr (own_w hw 27 rfl)) (Or.inr (own_w hw 41 rfl)) (by decide) (t := (.array .int)) (t' := .int) (by decide) (by decide))))
        have f_317 := (((f_292.keep K_295 (ninS ne_47 nin0)).keep K_302 (ninS ne_72 nin0)).other W_309 (Or.inr (slot_ne (Or.inr (own_w hw 29 rfl)) (Or.inr (own_w hw 41 rfl)) (by decide) (t := (.array .int)) (t' := .int) (by decide) (by decide))))
        have f_318 := ((f_298.keep K_302 (ninS ne_72 nin0)).other W_309 (Or.inr (slot_ne (Or.inr (own_w hw 31 rfl)) (Or.inr (own_w hw 41 rfl)) (by decide) (t := (.array .long)) (t' := .int) (by decide) (by decide))))
        have aw : Ary Z h_308 a_21 .int [.int (0 : Int32), .int (wF k0 k1)] := by rw [wF, if_neg hb_233]; exact f_312
        have as' : Ary Z h_308 a_43 .int [.int (0 : Int32), .int (sF k0 k1)] := by rw [sF, if_neg hb_233]; exact f_313
        have am : Ary Z h_308 a_67 .long [.long (mk k0), .long (mk k1)] := by rw [mk, if_neg hb_105, mk, if_pos hb_299]; exact f_314
        exact ⟨rfl, ((((((((((((((((Keep.refl h0 [a1]).ext E_4).wr W_14 (Or.inl (List.mem_of_getElem? (i := 0) rfl))).ext E_23).wr W_35 (Or.inl (List.mem_of_getElem? (i := 0) rfl))).ext E_45).wr W_58 (Or.inl (List.mem_of_getElem? (i := 0) rfl))).ext E_69).wr W_84 (Or.inl (List.mem_of_getElem? (i := 0) rfl))).trans K_95 (allS (Or.inr gs_a_21) all0)).trans K_101 (allS (Or.inr gs_a_43) all0)).trans K_224 (allS (Or.inr gs_a_67) all0)).trans K_289 (allS (Or.inr gs_a_21) all0)).trans K_295 (allS (Or.inr gs_a_43) all0)).trans K_302 (allS (Or.inr gs_a_67) all0)).wr W_309 (Or.inl (List.mem_of_getElem? (i := 0) rfl))), a_2, a_21, a_43, a_67, ⟨gs_a_2, gs_a_21, gs_a_43, gs_a_67⟩, f_315, f_316, f_317, f_318, f_311, aw, as', am⟩
      · refine g_icmp_y C d2_114 (Jvm.Free.XT.ii_ne_t hb_299) (pc' := 123) (by decide) (by decide) ?_
        refine g_lconst C d2_123 (v := (1 : Int64)) rfl (pc' := 124) rfl ?_
        refine g_iload C d2_124 (v := k1) rfl (pc' := 126) rfl ?_
        refine g_lshl C (x := (1 : Int64)) (y := k1) d2_126  (pc' := 127) rfl ?_
        refine g_lconst C d2_127 (v := (1 : Int64)) rfl (pc' := 128) rfl ?_
        refine g_lsub C (x := ((1 : Int64) <<< (Int32.toInt64 k1 &&& 63))) (y := (1 : Int64)) d2_128  (pc' := 129) rfl ?_
        have f_319 := ((f_226.keep K_289 (ninS (Ne.symm ne_76) nin0)).keep K_295 (ninS (Ne.symm ne_77) nin0))
        refine g_lastore C f_319 (by decide) (i := 1) (by decide) (show 1 < 2 by decide) (w := (.long (((1 : Int64) <<< (Int32.toInt64 k1 &&& 63)) - (1 : Int64)))) rfl ge_a_67 d2_129 (pc' := 130) rfl ?_
        intro h_320 K_321 A_322
        have f_323 : Ary Z h_320 a_67 .long [(.long (((1 : Int64) <<< (Int32.toInt64 k0 &&& 63)) - (1 : Int64))), (.long (((1 : Int64) <<< (Int32.toInt64 k1 &&& 63)) - (1 : Int64)))] := A_322
        refine g_iload C d2_130 (v := k0) rfl (pc' := 132) rfl ?_
        refine g_iload C d2_132 (v := k1) rfl (pc' := 134) rfl ?_
        refine g_iadd C (x := k0) (y := k1) d2_134  (pc' := 135) rfl ?_
        refine g_istore C d2_135 (v := (k0 + k1)) (L' := #[.val (.ref a1), .val (.ref a2), .val (.ref a3), .val (.int (0 : Int32)), .val (.int (k0 + k1)), .val (.int (1 : Int32)), .val (.int k1)]) rfl (pc' := 137) rfl ?_
        refine g_iinc C d2_137 (v := (1 : Int32)) (w := (2 : Int32)) rfl rfl (L' := #[.val (.ref a1), .val (.ref a2), .val (.ref a3), .val (.int (0 : Int32)), .val (.int (k0 + k1)), .val (.int (2 : Int32)), .val (.int k1)]) rfl (pc' := 140) rfl ?_
        refine g_goto C d2_140 (pc' := 47) (by decide) (by decide) ?_
        refine g_iload C d2_47 (v := (2 : Int32)) rfl (pc' := 49) rfl ?_
        refine g_aload_n C d2_49 (v := (.ref a2)) rfl rfl (pc' := 50) rfl ?_
        have f_324 := (((f_227.keep K_289 (ninS ne_26 nin0)).keep K_295 (ninS ne_48 nin0)).keep K_321 (ninS ne_73 nin0))
        refine g_arraylength C f_324 (z := (2 : Int32)) rfl d2_50 (pc' := 51) rfl ?_
        refine g_icmp_y C d2_51 (Jvm.Free.XT.ii_ge_t (by decide)) (pc' := 143) (by decide) (by decide) ?_
        refine g_aload_n C d2_143 (v := (.ref a1)) rfl rfl (pc' := 144) rfl ?_
        refine g_iload_n C d2_144 (v := (0 : Int32)) rfl (pc' := 145) rfl ?_
        refine g_iconst C d2_145 (v := (1 : Int32)) rfl (pc' := 146) rfl ?_
        refine g_iadd C (x := (0 : Int32)) (y := (1 : Int32)) d2_146  (pc' := 147) rfl ?_
        refine Go.eqs (st2 := [(.int (1 : Int32)), (.ref a1)]) ?_ (by rfl)
        have f_325 := ((((((((((((((F4.ext E_4).other W_14 (Or.inr (slot_ne (Or.inr (own_w hw 41 rfl)) (Or.inr (own_w hw 24 rfl)) (by decide) (t := .int) (t' := (.array .long)) (by decide) (by decide)))).ext E_23).other W_35 (Or.inr (slot_ne (Or.inr (own_w hw 41 rfl)) (Or.inr (own_w hw 27 rfl)) (by decide) (t := .int) (t' := (.array .int)) (by decide) (by decide)))).ext E_45).other W_58 (Or.inr (slot_ne (Or.inr (own_w hw 41 rfl)) (Or.inr (own_w hw 29 rfl)) (by decide) (t := .int) (t' := (.array .int)) (by decide) (by decide)))).ext E_69).other W_84 (Or.inr (slot_ne (Or.inr (own_w hw 41 rfl)) (Or.inr (own_w hw 31 rfl)) (by decide) (t := .int) (t' := (.array .long)) (by decide) (by decide)))).keep K_95 (ninS ne_25 nin0)).keep K_101 (ninS ne_47 nin0)).keep K_224 (ninS ne_72 nin0)).keep K_289 (ninS ne_25 nin0)).keep K_295 (ninS ne_47 nin0)).keep K_321 (ninS ne_72 nin0))
        have f_326 := (((((((f_82.wr W_84).keep K_95).keep K_101).keep K_224).keep K_289).keep K_295).keep K_321)
        refine g_putfield C (host := "") (v := (.int (1 : Int32))) (Or.inl (own_w hw 40 rfl)) Via.refl f_325 f_326 (Or.inr ⟨(own_w hw 41 rfl), rfl, rfl⟩) (own_w hw 6 rfl) (ty := .int) (by decide) rfl rfl g0 d2_147 (pc' := 150) rfl ?_
        intro h_327 W_328
        have f_329 := f_325.same W_328
        refine g_return C rfl d2_150 (by decide) (by decide) ?_
        have f_330 := (((((((((f_63.ext E_69).keep (Keep.of_wr W_84) (nin1 (Ne.symm ne_7))).keep K_95 (ninS ne_28 nin0)).keep K_101 (ninS ne_50 nin0)).keep K_224 (ninS ne_75 nin0)).keep K_289 (ninS ne_28 nin0)).keep K_295 (ninS ne_50 nin0)).keep K_321 (ninS ne_75 nin0)).keep (Keep.of_wr W_328) (nin1 (Ne.symm ne_7)))
        have f_331 := (((f_291.keep K_295 (ninS ne_51 nin0)).keep K_321 (ninS ne_76 nin0)).keep (Keep.of_wr W_328) (nin1 (Ne.symm ne_25)))
        have f_332 := ((f_297.keep K_321 (ninS ne_77 nin0)).keep (Keep.of_wr W_328) (nin1 (Ne.symm ne_47)))
        have f_333 := (f_323.keep (Keep.of_wr W_328) (nin1 (Ne.symm ne_72)))
        have f_334 := (((((((((((((f_15.ext E_23).other W_35 (Or.inr (slot_ne (Or.inr (own_w hw 24 rfl)) (Or.inr (own_w hw 27 rfl)) (by decide) (t := (.array .long)) (t' := (.array .int)) (by decide) (by decide)))).ext E_45).other W_58 (Or.inr (slot_ne (Or.inr (own_w hw 24 rfl)) (Or.inr (own_w hw 29 rfl)) (by decide) (t := (.array .long)) (t' := (.array .int)) (by decide) (by decide)))).ext E_69).other W_84 (Or.inr (slot_ne (Or.inr (own_w hw 24 rfl)) (Or.inr (own_w hw 31 rfl)) (by decide) (t := (.array .long)) (t' := (.array .long)) (by decide) (by decide)))).keep K_95 (ninS ne_25 nin0)).keep K_101 (ninS ne_47 nin0)).keep K_224 (ninS ne_72 nin0)).keep K_289 (ninS ne_25 nin0)).keep K_295 (ninS ne_47 nin0)).keep K_321 (ninS ne_72 nin0)).other W_328 (Or.inr (slot_ne (Or.inr (own_w hw 24 rfl)) (Or.inr (own_w hw 41 rfl)) (by decide) (t := (.array .long)) (t' := .int) (by decide) (by decide))))
        have f_335 := ((((f_286.keep K_289 (ninS ne_25 nin0)).keep K_295 (ninS ne_47 nin0)).keep K_321 (ninS ne_72 nin0)).other W_328 (Or.inr (slot_ne (Or.inr (own_w hw 27 rfl)) (Or.inr (own_w hw 41 rfl)) (by decide) (t := (.array .int)) (t' := .int) (by decide) (by decide))))
        have f_336 := (((f_292.keep K_295 (ninS ne_47 nin0)).keep K_321 (ninS ne_72 nin0)).other W_328 (Or.inr (slot_ne (Or.inr (own_w hw 29 rfl)) (Or.inr (own_w hw 41 rfl)) (by decide) (t := (.array .int)) (t' := .int) (by decide) (by decide))))
        have f_337 := ((f_298.keep K_321 (ninS ne_72 nin0)).other W_328 (Or.inr (slot_ne (Or.inr (own_w hw 31 rfl)) (Or.inr (own_w hw 41 rfl)) (by decide) (t := (.array .long)) (t' := .int) (by decide) (by decide))))
        have aw : Ary Z h_327 a_21 .int [.int (0 : Int32), .int (wF k0 k1)] := by rw [wF, if_neg hb_233]; exact f_331
        have as' : Ary Z h_327 a_43 .int [.int (0 : Int32), .int (sF k0 k1)] := by rw [sF, if_neg hb_233]; exact f_332
        have am : Ary Z h_327 a_67 .long [.long (mk k0), .long (mk k1)] := by rw [mk, if_neg hb_105, mk, if_neg hb_299]; exact f_333
        exact ⟨rfl, ((((((((((((((((Keep.refl h0 [a1]).ext E_4).wr W_14 (Or.inl (List.mem_of_getElem? (i := 0) rfl))).ext E_23).wr W_35 (Or.inl (List.mem_of_getElem? (i := 0) rfl))).ext E_45).wr W_58 (Or.inl (List.mem_of_getElem? (i := 0) rfl))).ext E_69).wr W_84 (Or.inl (List.mem_of_getElem? (i := 0) rfl))).trans K_95 (allS (Or.inr gs_a_21) all0)).trans K_101 (allS (Or.inr gs_a_43) all0)).trans K_224 (allS (Or.inr gs_a_67) all0)).trans K_289 (allS (Or.inr gs_a_21) all0)).trans K_295 (allS (Or.inr gs_a_43) all0)).trans K_321 (allS (Or.inr gs_a_67) all0)).wr W_328 (Or.inl (List.mem_of_getElem? (i := 0) rfl))), a_2, a_21, a_43, a_67, ⟨gs_a_2, gs_a_21, gs_a_43, gs_a_67⟩, f_334, f_335, f_336, f_337, f_330, aw, as', am⟩
theorem d6_0 : decode prog_18_method_4_code 0 = .ok (.iconst 0, 1) := by decide +kernel
theorem d6_1 : decode prog_18_method_4_code 1 = .ok (.istore 4, 2) := by decide +kernel
theorem d6_3 : decode prog_18_method_4_code 3 = .ok (.iload 4, 2) := by decide +kernel
theorem d6_5 : decode prog_18_method_4_code 5 = .ok (.aload_n 3, 1) := by decide +kernel
theorem d6_6 : decode prog_18_method_4_code 6 = .ok (.arraylength, 1) := by decide +kernel
theorem d6_7 : decode prog_18_method_4_code 7 = .ok (.if_icmp .ge 48, 3) := by decide +kernel
theorem d6_10 : decode prog_18_method_4_code 10 = .ok (.aload_n 3, 1) := by decide +kernel
theorem d6_11 : decode prog_18_method_4_code 11 = .ok (.iload 4, 2) := by decide +kernel
theorem d6_13 : decode prog_18_method_4_code 13 = .ok (.aload_n 0, 1) := by decide +kernel
theorem d6_14 : decode prog_18_method_4_code 14 = .ok (.getfield 13, 3) := by decide +kernel
theorem d6_17 : decode prog_18_method_4_code 17 = .ok (.iload 4, 2) := by decide +kernel
theorem d6_19 : decode prog_18_method_4_code 19 = .ok (.laload, 1) := by decide +kernel
theorem d6_20 : decode prog_18_method_4_code 20 = .ok (.aload_n 1, 1) := by decide +kernel
theorem d6_21 : decode prog_18_method_4_code 21 = .ok (.iload_n 2, 1) := by decide +kernel
theorem d6_22 : decode prog_18_method_4_code 22 = .ok (.aload_n 0, 1) := by decide +kernel
theorem d6_23 : decode prog_18_method_4_code 23 = .ok (.getfield 18, 3) := by decide +kernel
theorem d6_26 : decode prog_18_method_4_code 26 = .ok (.iload 4, 2) := by decide +kernel
theorem d6_28 : decode prog_18_method_4_code 28 = .ok (.iaload, 1) := by decide +kernel
theorem d6_29 : decode prog_18_method_4_code 29 = .ok (.iadd, 1) := by decide +kernel
theorem d6_30 : decode prog_18_method_4_code 30 = .ok (.laload, 1) := by decide +kernel
theorem d6_31 : decode prog_18_method_4_code 31 = .ok (.aload_n 0, 1) := by decide +kernel
theorem d6_32 : decode prog_18_method_4_code 32 = .ok (.getfield 22, 3) := by decide +kernel
theorem d6_35 : decode prog_18_method_4_code 35 = .ok (.iload 4, 2) := by decide +kernel
theorem d6_37 : decode prog_18_method_4_code 37 = .ok (.iaload, 1) := by decide +kernel
theorem d6_38 : decode prog_18_method_4_code 38 = .ok (.lushr, 1) := by decide +kernel
theorem d6_39 : decode prog_18_method_4_code 39 = .ok (.aload_n 0, 1) := by decide +kernel
theorem d6_40 : decode prog_18_method_4_code 40 = .ok (.getfield 25, 3) := by decide +kernel
theorem d6_43 : decode prog_18_method_4_code 43 = .ok (.iload 4, 2) := by decide +kernel
theorem d6_45 : decode prog_18_method_4_code 45 = .ok (.laload, 1) := by decide +kernel
theorem d6_46 : decode prog_18_method_4_code 46 = .ok (.land, 1) := by decide +kernel
theorem d6_47 : decode prog_18_method_4_code 47 = .ok (.ladd, 1) := by decide +kernel
theorem d6_48 : decode prog_18_method_4_code 48 = .ok (.lastore, 1) := by decide +kernel
theorem d6_49 : decode prog_18_method_4_code 49 = .ok (.iinc 4 1, 3) := by decide +kernel
theorem d6_52 : decode prog_18_method_4_code 52 = .ok (.goto (-49), 3) := by decide +kernel
theorem d6_55 : decode prog_18_method_4_code 55 = .ok (.return_, 1) := by decide +kernel
set_option maxRecDepth 65536 in
set_option maxHeartbeats 40000000 in
theorem rm_unpack00 (l : Launch) (Z : State) (a0 : Array Value) (hw : ∀ d ∈ tables_1, d.before a0 Z = true) (n0 : Nat) (a1 a2 a3 bl bw bs bm : Addr) (l0 l1 m0 m1 w0 w1 w2 : Int64) (s1 : Int32) (h0 : Heap) (Z0 : n0 ≤ h0.size) (F0 : Fld Z h0 a1 "com/example/vestalia/vestalia/explorer/StatePacking" "least" "[J" (.ref bl)) (F1 : Fld Z h0 a1 "com/example/vestalia/vestalia/explorer/StatePacking" "word" "[I" (.ref bw)) (F2 : Fld Z h0 a1 "com/example/vestalia/vestalia/explorer/StatePacking" "shift" "[I" (.ref bs)) (F3 : Fld Z h0 a1 "com/example/vestalia/vestalia/explorer/StatePacking" "mask" "[J" (.ref bm)) (A0 : Ary Z h0 bl .long [.long l0, .long l1]) (A1 : Ary Z h0 bw .int [.int (0 : Int32), .int (0 : Int32)]) (A2 : Ary Z h0 bs .int [.int (0 : Int32), .int s1]) (A3 : Ary Z h0 bm .long [.long m0, .long m1]) (B2 : Ary Z h0 a2 .long [.long w0, .long w1, .long w2]) (B3 : Ary Z h0 a3 .long [.long (0 : Int64), .long (0 : Int64)]) (g3 : n0 ≤ a3) (n1 : a1 ≠ a3) (nl : bl ≠ a3) (nw : bw ≠ a3) (ns : bs ≠ a3) (nm : bm ≠ a3) (n2 : a2 ≠ a3) :
    Met1 l Z (⟨"com/example/vestalia/vestalia/explorer/StatePacking", "unpack", "([JI[J)V"⟩ : MethodName) prog_18_method_4_code 5 none ({ frames := 0, cells := 0, slots := 0, locals := 0 } : Room) n0 #[(.ref a1), (.ref a2), (.int (0 : Int32)), (.ref a3)] h0 (fun v h => v = none ∧ Keep h0 h [a3] ∧ Ary Z h a3 .long [.long (l0 + ((Jvm.Free.XT.ushrL w0 (0 : Int32)) &&& m0)), .long (l1 + ((Jvm.Free.XT.ushrL w0 s1) &&& m1))]) := by
  refine met_of (plainFor_of_name own_pn_com_example_vestalia_vestalia_explorer_StatePacking) (L0 := #[.val (.ref a1), .val (.ref a2), .val (.int (0 : Int32)), .val (.ref a3), .unset]) (by first | (simp [argsToLocals, Value.category]; done) | rfl) ?_
  intro B C
  change Ctx B l _ _ "com/example/vestalia/vestalia/explorer/StatePacking" "unpack" _ _ Z at C
  refine g_iconst C d6_0 (v := (0 : Int32)) rfl (pc' := 1) rfl ?_
  refine g_istore C d6_1 (v := (0 : Int32)) (L' := #[.val (.ref a1), .val (.ref a2), .val (.int (0 : Int32)), .val (.ref a3), .val (.int (0 : Int32))]) rfl (pc' := 3) rfl ?_
  refine g_iload C d6_3 (v := (0 : Int32)) rfl (pc' := 5) rfl ?_
  refine g_aload_n C d6_5 (v := (.ref a3)) rfl rfl (pc' := 6) rfl ?_
  refine g_arraylength C B3 (z := (2 : Int32)) rfl d6_6 (pc' := 7) rfl ?_
  refine g_icmp_n C d6_7 (Jvm.Free.XT.ii_ge_f (by decide)) (pc' := 10) rfl ?_
  refine g_aload_n C d6_10 (v := (.ref a3)) rfl rfl (pc' := 11) rfl ?_
  refine g_iload C d6_11 (v := (0 : Int32)) rfl (pc' := 13) rfl ?_
  refine g_aload_n C d6_13 (v := (.ref a1)) rfl rfl (pc' := 14) rfl ?_
  refine g_getfield C (host := "") (v := (.ref bl)) (Or.inl (own_w hw 23 rfl)) Via.refl F0 d6_14 (pc' := 17) rfl ?_
  refine g_iload C d6_17 (v := (0 : Int32)) rfl (pc' := 19) rfl ?_
  refine g_laload C A0 (by decide) (i := 0) (by decide) (v := l0) rfl d6_19 (pc' := 20) rfl ?_
  refine g_aload_n C d6_20 (v := (.ref a2)) rfl rfl (pc' := 21) rfl ?_
  refine g_iload_n C d6_21 (v := (0 : Int32)) rfl (pc' := 22) rfl ?_
  refine g_aload_n C d6_22 (v := (.ref a1)) rfl rfl (pc' := 23) rfl ?_
  refine g_getfield C (host := "") (v := (.ref bw)) (Or.inl (own_w hw 26 rfl)) Via.refl F1 d6_23 (pc' := 26) rfl ?_
  refine g_iload C d6_26 (v := (0 : Int32)) rfl (pc' := 28) rfl ?_
  refine g_iaload C A1 (by decide) (i := 0) (by decide) (v := (0 : Int32)) rfl d6_28 (pc' := 29) rfl ?_
  refine g_iadd C (x := (0 : Int32)) (y := (0 : Int32)) d6_29  (pc' := 30) rfl ?_
  refine Go.eqs (st2 := [(.int (0 : Int32)), (.ref a2), (.long l0), (.int (0 : Int32)), (.ref a3)]) ?_ (by rfl)
  refine g_laload C B2 (by decide) (i := 0) (by decide) (v := w0) rfl d6_30 (pc' := 31) rfl ?_
  refine g_aload_n C d6_31 (v := (.ref a1)) rfl rfl (pc' := 32) rfl ?_
  refine g_getfield C (host := "") (v := (.ref bs)) (Or.inl (own_w hw 28 rfl)) Via.refl F2 d6_32 (pc' := 35) rfl ?_
  refine g_iload C d6_35 (v := (0 : Int32)) rfl (pc' := 37) rfl ?_
  refine g_iaload C A2 (by decide) (i := 0) (by decide) (v := (0 : Int32)) rfl d6_37 (pc' := 38) rfl ?_
  refine g_lushr C (x := w0) (y := (0 : Int32)) d6_38  (pc' := 39) rfl ?_
  refine g_aload_n C d6_39 (v := (.ref a1)) rfl rfl (pc' := 40) rfl ?_
  refine g_getfield C (host := "") (v := (.ref bm)) (Or.inl (own_w hw 30 rfl)) Via.refl F3 d6_40 (pc' := 43) rfl ?_
  refine g_iload C d6_43 (v := (0 : Int32)) rfl (pc' := 45) rfl ?_
  refine g_laload C A3 (by decide) (i := 0) (by decide) (v := m0) rfl d6_45 (pc' := 46) rfl ?_
  refine g_land C (x := (Jvm.Free.XT.ushrL w0 (0 : Int32))) (y := m0) d6_46  (pc' := 47) rfl ?_
  refine g_ladd C (x := l0) (y := ((Jvm.Free.XT.ushrL w0 (0 : Int32)) &&& m0)) d6_47  (pc' := 48) rfl ?_
  refine g_lastore C B3 (by decide) (i := 0) (by decide) (show 0 < 2 by decide) (w := (.long (l0 + ((Jvm.Free.XT.ushrL w0 (0 : Int32)) &&& m0)))) rfl g3 d6_48 (pc' := 49) rfl ?_
  intro h_1 K_2 A_3
  have f_4 : Ary Z h_1 a3 .long [(.long (l0 + ((Jvm.Free.XT.ushrL w0 (0 : Int32)) &&& m0))), (.long (0 : Int64))] := A_3
  refine g_iinc C d6_49 (v := (0 : Int32)) (w := (1 : Int32)) rfl rfl (L' := #[.val (.ref a1), .val (.ref a2), .val (.int (0 : Int32)), .val (.ref a3), .val (.int (1 : Int32))]) rfl (pc' := 52) rfl ?_
  refine g_goto C d6_52 (pc' := 3) (by decide) (by decide) ?_
  refine g_iload C d6_3 (v := (1 : Int32)) rfl (pc' := 5) rfl ?_
  refine g_aload_n C d6_5 (v := (.ref a3)) rfl rfl (pc' := 6) rfl ?_
  refine g_arraylength C f_4 (z := (2 : Int32)) rfl d6_6 (pc' := 7) rfl ?_
  refine g_icmp_n C d6_7 (Jvm.Free.XT.ii_ge_f (by decide)) (pc' := 10) rfl ?_
  refine g_aload_n C d6_10 (v := (.ref a3)) rfl rfl (pc' := 11) rfl ?_
  refine g_iload C d6_11 (v := (1 : Int32)) rfl (pc' := 13) rfl ?_
  refine g_aload_n C d6_13 (v := (.ref a1)) rfl rfl (pc' := 14) rfl ?_
  have f_5 := (F0.keep K_2 (ninS n1 nin0))
  refine g_getfield C (host := "") (v := (.ref bl)) (Or.inl (own_w hw 23 rfl)) Via.refl f_5 d6_14 (pc' := 17) rfl ?_
  refine g_iload C d6_17 (v := (1 : Int32)) rfl (pc' := 19) rfl ?_
  have f_6 := (A0.keep K_2 (ninS nl nin0))
  refine g_laload C f_6 (by decide) (i := 1) (by decide) (v := l1) rfl d6_19 (pc' := 20) rfl ?_
  refine g_aload_n C d6_20 (v := (.ref a2)) rfl rfl (pc' := 21) rfl ?_
  refine g_iload_n C d6_21 (v := (0 : Int32)) rfl (pc' := 22) rfl ?_
  refine g_aload_n C d6_22 (v := (.ref a1)) rfl rfl (pc' := 23) rfl ?_
  have f_7 := (F1.keep K_2 (ninS n1 nin0))
  refine g_getfield C (host := "") (v := (.ref bw)) (Or.inl (own_w hw 26 rfl)) Via.refl f_7 d6_23 (pc' := 26) rfl ?_
  refine g_iload C d6_26 (v := (1 : Int32)) rfl (pc' := 28) rfl ?_
  have f_8 := (A1.keep K_2 (ninS nw nin0))
  refine g_iaload C f_8 (by decide) (i := 1) (by decide) (v := (0 : Int32)) rfl d6_28 (pc' := 29) rfl ?_
  refine g_iadd C (x := (0 : Int32)) (y := (0 : Int32)) d6_29  (pc' := 30) rfl ?_
  refine Go.eqs (st2 := [(.int (0 : Int32)), (.ref a2), (.long l1), (.int (1 : Int32)), (.ref a3)]) ?_ (by rfl)
  have f_9 := (B2.keep K_2 (ninS n2 nin0))
  refine g_laload C f_9 (by decide) (i := 0) (by decide) (v := w0) rfl d6_30 (pc' := 31) rfl ?_
  refine g_aload_n C d6_31 (v := (.ref a1)) rfl rfl (pc' := 32) rfl ?_
  have f_10 := (F2.keep K_2 (ninS n1 nin0))
  refine g_getfield C (host := "") (v := (.ref bs)) (Or.inl (own_w hw 28 rfl)) Via.refl f_10 d6_32 (pc' := 35) rfl ?_
  refine g_iload C d6_35 (v := (1 : Int32)) rfl (pc' := 37) rfl ?_
  have f_11 := (A2.keep K_2 (ninS ns nin0))
  refine g_iaload C f_11 (by decide) (i := 1) (by decide) (v := s1) rfl d6_37 (pc' := 38) rfl ?_
  refine g_lushr C (x := w0) (y := s1) d6_38  (pc' := 39) rfl ?_
  refine g_aload_n C d6_39 (v := (.ref a1)) rfl rfl (pc' := 40) rfl ?_
  have f_12 := (F3.keep K_2 (ninS n1 nin0))
  refine g_getfield C (host := "") (v := (.ref bm)) (Or.inl (own_w hw 30 rfl)) Via.refl f_12 d6_40 (pc' := 43) rfl ?_
  refine g_iload C d6_43 (v := (1 : Int32)) rfl (pc' := 45) rfl ?_
  have f_13 := (A3.keep K_2 (ninS nm nin0))
  refine g_laload C f_13 (by decide) (i := 1) (by decide) (v := m1) rfl d6_45 (pc' := 46) rfl ?_
  refine g_land C (x := (Jvm.Free.XT.ushrL w0 s1)) (y := m1) d6_46  (pc' := 47) rfl ?_
  refine g_ladd C (x := l1) (y := ((Jvm.Free.XT.ushrL w0 s1) &&& m1)) d6_47  (pc' := 48) rfl ?_
  refine g_lastore C f_4 (by decide) (i := 1) (by decide) (show 1 < 2 by decide) (w := (.long (l1 + ((Jvm.Free.XT.ushrL w0 s1) &&& m1)))) rfl g3 d6_48 (pc' := 49) rfl ?_
  intro h_14 K_15 A_16
  have f_17 : Ary Z h_14 a3 .long [(.long (l0 + ((Jvm.Free.XT.ushrL w0 (0 : Int32)) &&& m0))), (.long (l1 + ((Jvm.Free.XT.ushrL w0 s1) &&& m1)))] := A_16
  refine g_iinc C d6_49 (v := (1 : Int32)) (w := (2 : Int32)) rfl rfl (L' := #[.val (.ref a1), .val (.ref a2), .val (.int (0 : Int32)), .val (.ref a3), .val (.int (2 : Int32))]) rfl (pc' := 52) rfl ?_
  refine g_goto C d6_52 (pc' := 3) (by decide) (by decide) ?_
  refine g_iload C d6_3 (v := (2 : Int32)) rfl (pc' := 5) rfl ?_
  refine g_aload_n C d6_5 (v := (.ref a3)) rfl rfl (pc' := 6) rfl ?_
  refine g_arraylength C f_17 (z := (2 : Int32)) rfl d6_6 (pc' := 7) rfl ?_
  refine g_icmp_y C d6_7 (Jvm.Free.XT.ii_ge_t (by decide)) (pc' := 55) (by decide) (by decide) ?_
  refine g_return C rfl d6_55 (by decide) (by decide) ?_
  exact ⟨rfl, (((Keep.refl h0 [a3]).trans K_2 (allS (Or.inl (List.mem_of_getElem? (i := 0) rfl)) all0)).trans K_15 (allS (Or.inl (List.mem_of_getElem? (i := 0) rfl)) all0)), f_17⟩
set_option maxRecDepth 65536 in
set_option maxHeartbeats 40000000 in
theorem rm_unpack01 (l : Launch) (Z : State) (a0 : Array Value) (hw : ∀ d ∈ tables_1, d.before a0 Z = true) (n0 : Nat) (a1 a2 a3 bl bw bs bm : Addr) (l0 l1 m0 m1 w0 w1 w2 : Int64) (s1 : Int32) (h0 : Heap) (Z0 : n0 ≤ h0.size) (F0 : Fld Z h0 a1 "com/example/vestalia/vestalia/explorer/StatePacking" "least" "[J" (.ref bl)) (F1 : Fld Z h0 a1 "com/example/vestalia/vestalia/explorer/StatePacking" "word" "[I" (.ref bw)) (F2 : Fld Z h0 a1 "com/example/vestalia/vestalia/explorer/StatePacking" "shift" "[I" (.ref bs)) (F3 : Fld Z h0 a1 "com/example/vestalia/vestalia/explorer/StatePacking" "mask" "[J" (.ref bm)) (A0 : Ary Z h0 bl .long [.long l0, .long l1]) (A1 : Ary Z h0 bw .int [.int (0 : Int32), .int (0 : Int32)]) (A2 : Ary Z h0 bs .int [.int (0 : Int32), .int s1]) (A3 : Ary Z h0 bm .long [.long m0, .long m1]) (B2 : Ary Z h0 a2 .long [.long w0, .long w1, .long w2]) (B3 : Ary Z h0 a3 .long [.long (0 : Int64), .long (0 : Int64)]) (g3 : n0 ≤ a3) (n1 : a1 ≠ a3) (nl : bl ≠ a3) (nw : bw ≠ a3) (ns : bs ≠ a3) (nm : bm ≠ a3) (n2 : a2 ≠ a3) :
    Met1 l Z (⟨"com/example/vestalia/vestalia/explorer/StatePacking", "unpack", "([JI[J)V"⟩ : MethodName) prog_18_method_4_code 5 none ({ frames := 0, cells := 0, slots := 0, locals := 0 } : Room) n0 #[(.ref a1), (.ref a2), (.int (1 : Int32)), (.ref a3)] h0 (fun v h => v = none ∧ Keep h0 h [a3] ∧ Ary Z h a3 .long [.long (l0 + ((Jvm.Free.XT.ushrL w1 (0 : Int32)) &&& m0)), .long (l1 + ((Jvm.Free.XT.ushrL w1 s1) &&& m1))]) := by
  refine met_of (plainFor_of_name own_pn_com_example_vestalia_vestalia_explorer_StatePacking) (L0 := #[.val (.ref a1), .val (.ref a2), .val (.int (1 : Int32)), .val (.ref a3), .unset]) (by first | (simp [argsToLocals, Value.category]; done) | rfl) ?_
  intro B C
  change Ctx B l _ _ "com/example/vestalia/vestalia/explorer/StatePacking" "unpack" _ _ Z at C
  refine g_iconst C d6_0 (v := (0 : Int32)) rfl (pc' := 1) rfl ?_
  refine g_istore C d6_1 (v := (0 : Int32)) (L' := #[.val (.ref a1), .val (.ref a2), .val (.int (1 : Int32)), .val (.ref a3), .val (.int (0 : Int32))]) rfl (pc' := 3) rfl ?_
  refine g_iload C d6_3 (v := (0 : Int32)) rfl (pc' := 5) rfl ?_
  refine g_aload_n C d6_5 (v := (.ref a3)) rfl rfl (pc' := 6) rfl ?_
  refine g_arraylength C B3 (z := (2 : Int32)) rfl d6_6 (pc' := 7) rfl ?_
  refine g_icmp_n C d6_7 (Jvm.Free.XT.ii_ge_f (by decide)) (pc' := 10) rfl ?_
  refine g_aload_n C d6_10 (v := (.ref a3)) rfl rfl (pc' := 11) rfl ?_
  refine g_iload C d6_11 (v := (0 : Int32)) rfl (pc' := 13) rfl ?_
  refine g_aload_n C d6_13 (v := (.ref a1)) rfl rfl (pc' := 14) rfl ?_
  refine g_getfield C (host := "") (v := (.ref bl)) (Or.inl (own_w hw 23 rfl)) Via.refl F0 d6_14 (pc' := 17) rfl ?_
  refine g_iload C d6_17 (v := (0 : Int32)) rfl (pc' := 19) rfl ?_
  refine g_laload C A0 (by decide) (i := 0) (by decide) (v := l0) rfl d6_19 (pc' := 20) rfl ?_
  refine g_aload_n C d6_20 (v := (.ref a2)) rfl rfl (pc' := 21) rfl ?_
  refine g_iload_n C d6_21 (v := (1 : Int32)) rfl (pc' := 22) rfl ?_
  refine g_aload_n C d6_22 (v := (.ref a1)) rfl rfl (pc' := 23) rfl ?_
  refine g_getfield C (host := "") (v := (.ref bw)) (Or.inl (own_w hw 26 rfl)) Via.refl F1 d6_23 (pc' := 26) rfl ?_
  refine g_iload C d6_26 (v := (0 : Int32)) rfl (pc' := 28) rfl ?_
  refine g_iaload C A1 (by decide) (i := 0) (by decide) (v := (0 : Int32)) rfl d6_28 (pc' := 29) rfl ?_
  refine g_iadd C (x := (1 : Int32)) (y := (0 : Int32)) d6_29  (pc' := 30) rfl ?_
  refine Go.eqs (st2 := [(.int (1 : Int32)), (.ref a2), (.long l0), (.int (0 : Int32)), (.ref a3)]) ?_ (by rfl)
  refine g_laload C B2 (by decide) (i := 1) (by decide) (v := w1) rfl d6_30 (pc' := 31) rfl ?_
  refine g_aload_n C d6_31 (v := (.ref a1)) rfl rfl (pc' := 32) rfl ?_
  refine g_getfield C (host := "") (v := (.ref bs)) (Or.inl (own_w hw 28 rfl)) Via.refl F2 d6_32 (pc' := 35) rfl ?_
  refine g_iload C d6_35 (v := (0 : Int32)) rfl (pc' := 37) rfl ?_
  refine g_iaload C A2 (by decide) (i := 0) (by decide) (v := (0 : Int32)) rfl d6_37 (pc' := 38) rfl ?_
  refine g_lushr C (x := w1) (y := (0 : Int32)) d6_38  (pc' := 39) rfl ?_
  refine g_aload_n C d6_39 (v := (.ref a1)) rfl rfl (pc' := 40) rfl ?_
  refine g_getfield C (host := "") (v := (.ref bm)) (Or.inl (own_w hw 30 rfl)) Via.refl F3 d6_40 (pc' := 43) rfl ?_
  refine g_iload C d6_43 (v := (0 : Int32)) rfl (pc' := 45) rfl ?_
  refine g_laload C A3 (by decide) (i := 0) (by decide) (v := m0) rfl d6_45 (pc' := 46) rfl ?_
  refine g_land C (x := (Jvm.Free.XT.ushrL w1 (0 : Int32))) (y := m0) d6_46  (pc' := 47) rfl ?_
  refine g_ladd C (x := l0) (y := ((Jvm.Free.XT.ushrL w1 (0 : Int32)) &&& m0)) d6_47  (pc' := 48) rfl ?_
  refine g_lastore C B3 (by decide) (i := 0) (by decide) (show 0 < 2 by decide) (w := (.long (l0 + ((Jvm.Free.XT.ushrL w1 (0 : Int32)) &&& m0)))) rfl g3 d6_48 (pc' := 49) rfl ?_
  intro h_1 K_2 A_3
  have f_4 : Ary Z h_1 a3 .long [(.long (l0 + ((Jvm.Free.XT.ushrL w1 (0 : Int32)) &&& m0))), (.long (0 : Int64))] := A_3
  refine g_iinc C d6_49 (v := (0 : Int32)) (w := (1 : Int32)) rfl rfl (L' := #[.val (.ref a1), .val (.ref a2), .val (.int (1 : Int32)), .val (.ref a3), .val (.int (1 : Int32))]) rfl (pc' := 52) rfl ?_
  refine g_goto C d6_52 (pc' := 3) (by decide) (by decide) ?_
  refine g_iload C d6_3 (v := (1 : Int32)) rfl (pc' := 5) rfl ?_
  refine g_aload_n C d6_5 (v := (.ref a3)) rfl rfl (pc' := 6) rfl ?_
  refine g_arraylength C f_4 (z := (2 : Int32)) rfl d6_6 (pc' := 7) rfl ?_
  refine g_icmp_n C d6_7 (Jvm.Free.XT.ii_ge_f (by decide)) (pc' := 10) rfl ?_
  refine g_aload_n C d6_10 (v := (.ref a3)) rfl rfl (pc' := 11) rfl ?_
  refine g_iload C d6_11 (v := (1 : Int32)) rfl (pc' := 13) rfl ?_
  refine g_aload_n C d6_13 (v := (.ref a1)) rfl rfl (pc' := 14) rfl ?_
  have f_5 := (F0.keep K_2 (ninS n1 nin0))
  refine g_getfield C (host := "") (v := (.ref bl)) (Or.inl (own_w hw 23 rfl)) Via.refl f_5 d6_14 (pc' := 17) rfl ?_
  refine g_iload C d6_17 (v := (1 : Int32)) rfl (pc' := 19) rfl ?_
  have f_6 := (A0.keep K_2 (ninS nl nin0))
  refine g_laload C f_6 (by decide) (i := 1) (by decide) (v := l1) rfl d6_19 (pc' := 20) rfl ?_
  refine g_aload_n C d6_20 (v := (.ref a2)) rfl rfl (pc' := 21) rfl ?_
  refine g_iload_n C d6_21 (v := (1 : Int32)) rfl (pc' := 22) rfl ?_
  refine g_aload_n C d6_22 (v := (.ref a1)) rfl rfl (pc' := 23) rfl ?_
  have f_7 := (F1.keep K_2 (ninS n1 nin0))
  refine g_getfield C (host := "") (v := (.ref bw)) (Or.inl (own_w hw 26 rfl)) Via.refl f_7 d6_23 (pc' := 26) rfl ?_
  refine g_iload C d6_26 (v := (1 : Int32)) rfl (pc' := 28) rfl ?_
  have f_8 := (A1.keep K_2 (ninS nw nin0))
  refine g_iaload C f_8 (by decide) (i := 1) (by decide) (v := (0 : Int32)) rfl d6_28 (pc' := 29) rfl ?_
  refine g_iadd C (x := (1 : Int32)) (y := (0 : Int32)) d6_29  (pc' := 30) rfl ?_
  refine Go.eqs (st2 := [(.int (1 : Int32)), (.ref a2), (.long l1), (.int (1 : Int32)), (.ref a3)]) ?_ (by rfl)
  have f_9 := (B2.keep K_2 (ninS n2 nin0))
  refine g_laload C f_9 (by decide) (i := 1) (by decide) (v := w1) rfl d6_30 (pc' := 31) rfl ?_
  refine g_aload_n C d6_31 (v := (.ref a1)) rfl rfl (pc' := 32) rfl ?_
  have f_10 := (F2.keep K_2 (ninS n1 nin0))
  refine g_getfield C (host := "") (v := (.ref bs)) (Or.inl (own_w hw 28 rfl)) Via.refl f_10 d6_32 (pc' := 35) rfl ?_
  refine g_iload C d6_35 (v := (1 : Int32)) rfl (pc' := 37) rfl ?_
  have f_11 := (A2.keep K_2 (ninS ns nin0))
  refine g_iaload C f_11 (by decide) (i := 1) (by decide) (v := s1) rfl d6_37 (pc' := 38) rfl ?_
  refine g_lushr C (x := w1) (y := s1) d6_38  (pc' := 39) rfl ?_
  refine g_aload_n C d6_39 (v := (.ref a1)) rfl rfl (pc' := 40) rfl ?_
  have f_12 := (F3.keep K_2 (ninS n1 nin0))
  refine g_getfield C (host := "") (v := (.ref bm)) (Or.inl (own_w hw 30 rfl)) Via.refl f_12 d6_40 (pc' := 43) rfl ?_
  refine g_iload C d6_43 (v := (1 : Int32)) rfl (pc' := 45) rfl ?_
  have f_13 := (A3.keep K_2 (ninS nm nin0))
  refine g_laload C f_13 (by decide) (i := 1) (by decide) (v := m1) rfl d6_45 (pc' := 46) rfl ?_
  refine g_land C (x := (Jvm.Free.XT.ushrL w1 s1)) (y := m1) d6_46  (pc' := 47) rfl ?_
  refine g_ladd C (x := l1) (y := ((Jvm.Free.XT.ushrL w1 s1) &&& m1)) d6_47  (pc' := 48) rfl ?_
  refine g_lastore C f_4 (by decide) (i := 1) (by decide) (show 1 < 2 by decide) (w := (.long (l1 + ((Jvm.Free.XT.ushrL w1 s1) &&& m1)))) rfl g3 d6_48 (pc' := 49) rfl ?_
  intro h_14 K_15 A_16
  have f_17 : Ary Z h_14 a3 .long [(.long (l0 + ((Jvm.Free.XT.ushrL w1 (0 : Int32)) &&& m0))), (.long (l1 + ((Jvm.Free.XT.ushrL w1 s1) &&& m1)))] := A_16
  refine g_iinc C d6_49 (v := (1 : Int32)) (w := (2 : Int32)) rfl rfl (L' := #[.val (.ref a1), .val (.ref a2), .val (.int (1 : Int32)), .val (.ref a3), .val (.int (2 : Int32))]) rfl (pc' := 52) rfl ?_
  refine g_goto C d6_52 (pc' := 3) (by decide) (by decide) ?_
  refine g_iload C d6_3 (v := (2 : Int32)) rfl (pc' := 5) rfl ?_
  refine g_aload_n C d6_5 (v := (.ref a3)) rfl rfl (pc' := 6) rfl ?_
  refine g_arraylength C f_17 (z := (2 : Int32)) rfl d6_6 (pc' := 7) rfl ?_
  refine g_icmp_y C d6_7 (Jvm.Free.XT.ii_ge_t (by decide)) (pc' := 55) (by decide) (by decide) ?_
  refine g_return C rfl d6_55 (by decide) (by decide) ?_
  exact ⟨rfl, (((Keep.refl h0 [a3]).trans K_2 (allS (Or.inl (List.mem_of_getElem? (i := 0) rfl)) all0)).trans K_15 (allS (Or.inl (List.mem_of_getElem? (i := 0) rfl)) all0)), f_17⟩
set_option maxRecDepth 65536 in
set_option maxHeartbeats 40000000 in
theorem rm_unpack10 (l : Launch) (Z : State) (a0 : Array Value) (hw : ∀ d ∈ tables_1, d.before a0 Z = true) (n0 : Nat) (a1 a2 a3 bl bw bs bm : Addr) (l0 l1 m0 m1 w0 w1 w2 : Int64) (s1 : Int32) (h0 : Heap) (Z0 : n0 ≤ h0.size) (F0 : Fld Z h0 a1 "com/example/vestalia/vestalia/explorer/StatePacking" "least" "[J" (.ref bl)) (F1 : Fld Z h0 a1 "com/example/vestalia/vestalia/explorer/StatePacking" "word" "[I" (.ref bw)) (F2 : Fld Z h0 a1 "com/example/vestalia/vestalia/explorer/StatePacking" "shift" "[I" (.ref bs)) (F3 : Fld Z h0 a1 "com/example/vestalia/vestalia/explorer/StatePacking" "mask" "[J" (.ref bm)) (A0 : Ary Z h0 bl .long [.long l0, .long l1]) (A1 : Ary Z h0 bw .int [.int (0 : Int32), .int (1 : Int32)]) (A2 : Ary Z h0 bs .int [.int (0 : Int32), .int s1]) (A3 : Ary Z h0 bm .long [.long m0, .long m1]) (B2 : Ary Z h0 a2 .long [.long w0, .long w1, .long w2]) (B3 : Ary Z h0 a3 .long [.long (0 : Int64), .long (0 : Int64)]) (g3 : n0 ≤ a3) (n1 : a1 ≠ a3) (nl : bl ≠ a3) (nw : bw ≠ a3) (ns : bs ≠ a3) (nm : bm ≠ a3) (n2 : a2 ≠ a3) :
    Met1 l Z (⟨"com/example/vestalia/vestalia/explorer/StatePacking", "unpack", "([JI[J)V"⟩ : MethodName) prog_18_method_4_code 5 none ({ frames := 0, cells := 0, slots := 0, locals := 0 } : Room) n0 #[(.ref a1), (.ref a2), (.int (0 : Int32)), (.ref a3)] h0 (fun v h => v = none ∧ Keep h0 h [a3] ∧ Ary Z h a3 .long [.long (l0 + ((Jvm.Free.XT.ushrL w0 (0 : Int32)) &&& m0)), .long (l1 + ((Jvm.Free.XT.ushrL w1 s1) &&& m1))]) := by
  refine met_of (plainFor_of_name own_pn_com_example_vestalia_vestalia_explorer_StatePacking) (L0 := #[.val (.ref a1), .val (.ref a2), .val (.int (0 : Int32)), .val (.ref a3), .unset]) (by first | (simp [argsToLocals, Value.category]; done) | rfl) ?_
  intro B C
  change Ctx B l _ _ "com/example/vestalia/vestalia/explorer/StatePacking" "unpack" _ _ Z at C
  refine g_iconst C d6_0 (v := (0 : Int32)) rfl (pc' := 1) rfl ?_
  refine g_istore C d6_1 (v := (0 : Int32)) (L' := #[.val (.ref a1), .val (.ref a2), .val (.int (0 : Int32)), .val (.ref a3), .val (.int (0 : Int32))]) rfl (pc' := 3) rfl ?_
  refine g_iload C d6_3 (v := (0 : Int32)) rfl (pc' := 5) rfl ?_
  refine g_aload_n C d6_5 (v := (.ref a3)) rfl rfl (pc' := 6) rfl ?_
  refine g_arraylength C B3 (z := (2 : Int32)) rfl d6_6 (pc' := 7) rfl ?_
  refine g_icmp_n C d6_7 (Jvm.Free.XT.ii_ge_f (by decide)) (pc' := 10) rfl ?_
  refine g_aload_n C d6_10 (v := (.ref a3)) rfl rfl (pc' := 11) rfl ?_
  refine g_iload C d6_11 (v := (0 : Int32)) rfl (pc' := 13) rfl ?_
  refine g_aload_n C d6_13 (v := (.ref a1)) rfl rfl (pc' := 14) rfl ?_
  refine g_getfield C (host := "") (v := (.ref bl)) (Or.inl (own_w hw 23 rfl)) Via.refl F0 d6_14 (pc' := 17) rfl ?_
  refine g_iload C d6_17 (v := (0 : Int32)) rfl (pc' := 19) rfl ?_
  refine g_laload C A0 (by decide) (i := 0) (by decide) (v := l0) rfl d6_19 (pc' := 20) rfl ?_
  refine g_aload_n C d6_20 (v := (.ref a2)) rfl rfl (pc' := 21) rfl ?_
  refine g_iload_n C d6_21 (v := (0 : Int32)) rfl (pc' := 22) rfl ?_
  refine g_aload_n C d6_22 (v := (.ref a1)) rfl rfl (pc' := 23) rfl ?_
  refine g_getfield C (host := "") (v := (.ref bw)) (Or.inl (own_w hw 26 rfl)) Via.refl F1 d6_23 (pc' := 26) rfl ?_
  refine g_iload C d6_26 (v := (0 : Int32)) rfl (pc' := 28) rfl ?_
  refine g_iaload C A1 (by decide) (i := 0) (by decide) (v := (0 : Int32)) rfl d6_28 (pc' := 29) rfl ?_
  refine g_iadd C (x := (0 : Int32)) (y := (0 : Int32)) d6_29  (pc' := 30) rfl ?_
  refine Go.eqs (st2 := [(.int (0 : Int32)), (.ref a2), (.long l0), (.int (0 : Int32)), (.ref a3)]) ?_ (by rfl)
  refine g_laload C B2 (by decide) (i := 0) (by decide) (v := w0) rfl d6_30 (pc' := 31) rfl ?_
  refine g_aload_n C d6_31 (v := (.ref a1)) rfl rfl (pc' := 32) rfl ?_
  refine g_getfield C (host := "") (v := (.ref bs)) (Or.inl (own_w hw 28 rfl)) Via.refl F2 d6_32 (pc' := 35) rfl ?_
  refine g_iload C d6_35 (v := (0 : Int32)) rfl (pc' := 37) rfl ?_
  refine g_iaload C A2 (by decide) (i := 0) (by decide) (v := (0 : Int32)) rfl d6_37 (pc' := 38) rfl ?_
  refine g_lushr C (x := w0) (y := (0 : Int32)) d6_38  (pc' := 39) rfl ?_
  refine g_aload_n C d6_39 (v := (.ref a1)) rfl rfl (pc' := 40) rfl ?_
  refine g_getfield C (host := "") (v := (.ref bm)) (Or.inl (own_w hw 30 rfl)) Via.refl F3 d6_40 (pc' := 43) rfl ?_
  refine g_iload C d6_43 (v := (0 : Int32)) rfl (pc' := 45) rfl ?_
  refine g_laload C A3 (by decide) (i := 0) (by decide) (v := m0) rfl d6_45 (pc' := 46) rfl ?_
  refine g_land C (x := (Jvm.Free.XT.ushrL w0 (0 : Int32))) (y := m0) d6_46  (pc' := 47) rfl ?_
  refine g_ladd C (x := l0) (y := ((Jvm.Free.XT.ushrL w0 (0 : Int32)) &&& m0)) d6_47  (pc' := 48) rfl ?_
  refine g_lastore C B3 (by decide) (i := 0) (by decide) (show 0 < 2 by decide) (w := (.long (l0 + ((Jvm.Free.XT.ushrL w0 (0 : Int32)) &&& m0)))) rfl g3 d6_48 (pc' := 49) rfl ?_
  intro h_1 K_2 A_3
  have f_4 : Ary Z h_1 a3 .long [(.long (l0 + ((Jvm.Free.XT.ushrL w0 (0 : Int32)) &&& m0))), (.long (0 : Int64))] := A_3
  refine g_iinc C d6_49 (v := (0 : Int32)) (w := (1 : Int32)) rfl rfl (L' := #[.val (.ref a1), .val (.ref a2), .val (.int (0 : Int32)), .val (.ref a3), .val (.int (1 : Int32))]) rfl (pc' := 52) rfl ?_
  refine g_goto C d6_52 (pc' := 3) (by decide) (by decide) ?_
  refine g_iload C d6_3 (v := (1 : Int32)) rfl (pc' := 5) rfl ?_
  refine g_aload_n C d6_5 (v := (.ref a3)) rfl rfl (pc' := 6) rfl ?_
  refine g_arraylength C f_4 (z := (2 : Int32)) rfl d6_6 (pc' := 7) rfl ?_
  refine g_icmp_n C d6_7 (Jvm.Free.XT.ii_ge_f (by decide)) (pc' := 10) rfl ?_
  refine g_aload_n C d6_10 (v := (.ref a3)) rfl rfl (pc' := 11) rfl ?_
  refine g_iload C d6_11 (v := (1 : Int32)) rfl (pc' := 13) rfl ?_
  refine g_aload_n C d6_13 (v := (.ref a1)) rfl rfl (pc' := 14) rfl ?_
  have f_5 := (F0.keep K_2 (ninS n1 nin0))
  refine g_getfield C (host := "") (v := (.ref bl)) (Or.inl (own_w hw 23 rfl)) Via.refl f_5 d6_14 (pc' := 17) rfl ?_
  refine g_iload C d6_17 (v := (1 : Int32)) rfl (pc' := 19) rfl ?_
  have f_6 := (A0.keep K_2 (ninS nl nin0))
  refine g_laload C f_6 (by decide) (i := 1) (by decide) (v := l1) rfl d6_19 (pc' := 20) rfl ?_
  refine g_aload_n C d6_20 (v := (.ref a2)) rfl rfl (pc' := 21) rfl ?_
  refine g_iload_n C d6_21 (v := (0 : Int32)) rfl (pc' := 22) rfl ?_
  refine g_aload_n C d6_22 (v := (.ref a1)) rfl rfl (pc' := 23) rfl ?_
  have f_7 := (F1.keep K_2 (ninS n1 nin0))
  refine g_getfield C (host := "") (v := (.ref bw)) (Or.inl (own_w hw 26 rfl)) Via.refl f_7 d6_23 (pc' := 26) rfl ?_
  refine g_iload C d6_26 (v := (1 : Int32)) rfl (pc' := 28) rfl ?_
  have f_8 := (A1.keep K_2 (ninS nw nin0))
  refine g_iaload C f_8 (by decide) (i := 1) (by decide) (v := (1 : Int32)) rfl d6_28 (pc' := 29) rfl ?_
  refine g_iadd C (x := (0 : Int32)) (y := (1 : Int32)) d6_29  (pc' := 30) rfl ?_
  refine Go.eqs (st2 := [(.int (1 : Int32)), (.ref a2), (.long l1), (.int (1 : Int32)), (.ref a3)]) ?_ (by rfl)
  have f_9 := (B2.keep K_2 (ninS n2 nin0))
  refine g_laload C f_9 (by decide) (i := 1) (by decide) (v := w1) rfl d6_30 (pc' := 31) rfl ?_
  refine g_aload_n C d6_31 (v := (.ref a1)) rfl rfl (pc' := 32) rfl ?_
  have f_10 := (F2.keep K_2 (ninS n1 nin0))
  refine g_getfield C (host := "") (v := (.ref bs)) (Or.inl (own_w hw 28 rfl)) Via.refl f_10 d6_32 (pc' := 35) rfl ?_
  refine g_iload C d6_35 (v := (1 : Int32)) rfl (pc' := 37) rfl ?_
  have f_11 := (A2.keep K_2 (ninS ns nin0))
  refine g_iaload C f_11 (by decide) (i := 1) (by decide) (v := s1) rfl d6_37 (pc' := 38) rfl ?_
  refine g_lushr C (x := w1) (y := s1) d6_38  (pc' := 39) rfl ?_
  refine g_aload_n C d6_39 (v := (.ref a1)) rfl rfl (pc' := 40) rfl ?_
  have f_12 := (F3.keep K_2 (ninS n1 nin0))
  refine g_getfield C (host := "") (v := (.ref bm)) (Or.inl (own_w hw 30 rfl)) Via.refl f_12 d6_40 (pc' := 43) rfl ?_
  refine g_iload C d6_43 (v := (1 : Int32)) rfl (pc' := 45) rfl ?_
  have f_13 := (A3.keep K_2 (ninS nm nin0))
  refine g_laload C f_13 (by decide) (i := 1) (by decide) (v := m1) rfl d6_45 (pc' := 46) rfl ?_
  refine g_land C (x := (Jvm.Free.XT.ushrL w1 s1)) (y := m1) d6_46  (pc' := 47) rfl ?_
  refine g_ladd C (x := l1) (y := ((Jvm.Free.XT.ushrL w1 s1) &&& m1)) d6_47  (pc' := 48) rfl ?_
  refine g_lastore C f_4 (by decide) (i := 1) (by decide) (show 1 < 2 by decide) (w := (.long (l1 + ((Jvm.Free.XT.ushrL w1 s1) &&& m1)))) rfl g3 d6_48 (pc' := 49) rfl ?_
  intro h_14 K_15 A_16
  have f_17 : Ary Z h_14 a3 .long [(.long (l0 + ((Jvm.Free.XT.ushrL w0 (0 : Int32)) &&& m0))), (.long (l1 + ((Jvm.Free.XT.ushrL w1 s1) &&& m1)))] := A_16
  refine g_iinc C d6_49 (v := (1 : Int32)) (w := (2 : Int32)) rfl rfl (L' := #[.val (.ref a1), .val (.ref a2), .val (.int (0 : Int32)), .val (.ref a3), .val (.int (2 : Int32))]) rfl (pc' := 52) rfl ?_
  refine g_goto C d6_52 (pc' := 3) (by decide) (by decide) ?_
  refine g_iload C d6_3 (v := (2 : Int32)) rfl (pc' := 5) rfl ?_
  refine g_aload_n C d6_5 (v := (.ref a3)) rfl rfl (pc' := 6) rfl ?_
  refine g_arraylength C f_17 (z := (2 : Int32)) rfl d6_6 (pc' := 7) rfl ?_
  refine g_icmp_y C d6_7 (Jvm.Free.XT.ii_ge_t (by decide)) (pc' := 55) (by decide) (by decide) ?_
  refine g_return C rfl d6_55 (by decide) (by decide) ?_
  exact ⟨rfl, (((Keep.refl h0 [a3]).trans K_2 (allS (Or.inl (List.mem_of_getElem? (i := 0) rfl)) all0)).trans K_15 (allS (Or.inl (List.mem_of_getElem? (i := 0) rfl)) all0)), f_17⟩
set_option maxRecDepth 65536 in
set_option maxHeartbeats 40000000 in
theorem rm_unpack11 (l : Launch) (Z : State) (a0 : Array Value) (hw : ∀ d ∈ tables_1, d.before a0 Z = true) (n0 : Nat) (a1 a2 a3 bl bw bs bm : Addr) (l0 l1 m0 m1 w0 w1 w2 : Int64) (s1 : Int32) (h0 : Heap) (Z0 : n0 ≤ h0.size) (F0 : Fld Z h0 a1 "com/example/vestalia/vestalia/explorer/StatePacking" "least" "[J" (.ref bl)) (F1 : Fld Z h0 a1 "com/example/vestalia/vestalia/explorer/StatePacking" "word" "[I" (.ref bw)) (F2 : Fld Z h0 a1 "com/example/vestalia/vestalia/explorer/StatePacking" "shift" "[I" (.ref bs)) (F3 : Fld Z h0 a1 "com/example/vestalia/vestalia/explorer/StatePacking" "mask" "[J" (.ref bm)) (A0 : Ary Z h0 bl .long [.long l0, .long l1]) (A1 : Ary Z h0 bw .int [.int (0 : Int32), .int (1 : Int32)]) (A2 : Ary Z h0 bs .int [.int (0 : Int32), .int s1]) (A3 : Ary Z h0 bm .long [.long m0, .long m1]) (B2 : Ary Z h0 a2 .long [.long w0, .long w1, .long w2]) (B3 : Ary Z h0 a3 .long [.long (0 : Int64), .long (0 : Int64)]) (g3 : n0 ≤ a3) (n1 : a1 ≠ a3) (nl : bl ≠ a3) (nw : bw ≠ a3) (ns : bs ≠ a3) (nm : bm ≠ a3) (n2 : a2 ≠ a3) :
    Met1 l Z (⟨"com/example/vestalia/vestalia/explorer/StatePacking", "unpack", "([JI[J)V"⟩ : MethodName) prog_18_method_4_code 5 none ({ frames := 0, cells := 0, slots := 0, locals := 0 } : Room) n0 #[(.ref a1), (.ref a2), (.int (1 : Int32)), (.ref a3)] h0 (fun v h => v = none ∧ Keep h0 h [a3] ∧ Ary Z h a3 .long [.long (l0 + ((Jvm.Free.XT.ushrL w1 (0 : Int32)) &&& m0)), .long (l1 + ((Jvm.Free.XT.ushrL w2 s1) &&& m1))]) := by
  refine met_of (plainFor_of_name own_pn_com_example_vestalia_vestalia_explorer_StatePacking) (L0 := #[.val (.ref a1), .val (.ref a2), .val (.int (1 : Int32)), .val (.ref a3), .unset]) (by first | (simp [argsToLocals, Value.category]; done) | rfl) ?_
  intro B C
  change Ctx B l _ _ "com/example/vestalia/vestalia/explorer/StatePacking" "unpack" _ _ Z at C
  refine g_iconst C d6_0 (v := (0 : Int32)) rfl (pc' := 1) rfl ?_
  refine g_istore C d6_1 (v := (0 : Int32)) (L' := #[.val (.ref a1), .val (.ref a2), .val (.int (1 : Int32)), .val (.ref a3), .val (.int (0 : Int32))]) rfl (pc' := 3) rfl ?_
  refine g_iload C d6_3 (v := (0 : Int32)) rfl (pc' := 5) rfl ?_
  refine g_aload_n C d6_5 (v := (.ref a3)) rfl rfl (pc' := 6) rfl ?_
  refine g_arraylength C B3 (z := (2 : Int32)) rfl d6_6 (pc' := 7) rfl ?_
  refine g_icmp_n C d6_7 (Jvm.Free.XT.ii_ge_f (by decide)) (pc' := 10) rfl ?_
  refine g_aload_n C d6_10 (v := (.ref a3)) rfl rfl (pc' := 11) rfl ?_
  refine g_iload C d6_11 (v := (0 : Int32)) rfl (pc' := 13) rfl ?_
  refine g_aload_n C d6_13 (v := (.ref a1)) rfl rfl (pc' := 14) rfl ?_
  refine g_getfield C (host := "") (v := (.ref bl)) (Or.inl (own_w hw 23 rfl)) Via.refl F0 d6_14 (pc' := 17) rfl ?_
  refine g_iload C d6_17 (v := (0 : Int32)) rfl (pc' := 19) rfl ?_
  refine g_laload C A0 (by decide) (i := 0) (by decide) (v := l0) rfl d6_19 (pc' := 20) rfl ?_
  refine g_aload_n C d6_20 (v := (.ref a2)) rfl rfl (pc' := 21) rfl ?_
  refine g_iload_n C d6_21 (v := (1 : Int32)) rfl (pc' := 22) rfl ?_
  refine g_aload_n C d6_22 (v := (.ref a1)) rfl rfl (pc' := 23) rfl ?_
  refine g_getfield C (host := "") (v := (.ref bw)) (Or.inl (own_w hw 26 rfl)) Via.refl F1 d6_23 (pc' := 26) rfl ?_
  refine g_iload C d6_26 (v := (0 : Int32)) rfl (pc' := 28) rfl ?_
  refine g_iaload C A1 (by decide) (i := 0) (by decide) (v := (0 : Int32)) rfl d6_28 (pc' := 29) rfl ?_
  refine g_iadd C (x := (1 : Int32)) (y := (0 : Int32)) d6_29  (pc' := 30) rfl ?_
  refine Go.eqs (st2 := [(.int (1 : Int32)), (.ref a2), (.long l0), (.int (0 : Int32)), (.ref a3)]) ?_ (by rfl)
  refine g_laload C B2 (by decide) (i := 1) (by decide) (v := w1) rfl d6_30 (pc' := 31) rfl ?_
  refine g_aload_n C d6_31 (v := (.ref a1)) rfl rfl (pc' := 32) rfl ?_
  refine g_getfield C (host := "") (v := (.ref bs)) (Or.inl (own_w hw 28 rfl)) Via.refl F2 d6_32 (pc' := 35) rfl ?_
  refine g_iload C d6_35 (v := (0 : Int32)) rfl (pc' := 37) rfl ?_
  refine g_iaload C A2 (by decide) (i := 0) (by decide) (v := (0 : Int32)) rfl d6_37 (pc' := 38) rfl ?_
  refine g_lushr C (x := w1) (y := (0 : Int32)) d6_38  (pc' := 39) rfl ?_
  refine g_aload_n C d6_39 (v := (.ref a1)) rfl rfl (pc' := 40) rfl ?_
  refine g_getfield C (host := "") (v := (.ref bm)) (Or.inl (own_w hw 30 rfl)) Via.refl F3 d6_40 (pc' := 43) rfl ?_
  refine g_iload C d6_43 (v := (0 : Int32)) rfl (pc' := 45) rfl ?_
  refine g_laload C A3 (by decide) (i := 0) (by decide) (v := m0) rfl d6_45 (pc' := 46) rfl ?_
  refine g_land C (x := (Jvm.Free.XT.ushrL w1 (0 : Int32))) (y := m0) d6_46  (pc' := 47) rfl ?_
  refine g_ladd C (x := l0) (y := ((Jvm.Free.XT.ushrL w1 (0 : Int32)) &&& m0)) d6_47  (pc' := 48) rfl ?_
  refine g_lastore C B3 (by decide) (i := 0) (by decide) (show 0 < 2 by decide) (w := (.long (l0 + ((Jvm.Free.XT.ushrL w1 (0 : Int32)) &&& m0)))) rfl g3 d6_48 (pc' := 49) rfl ?_
  intro h_1 K_2 A_3
  have f_4 : Ary Z h_1 a3 .long [(.long (l0 + ((Jvm.Free.XT.ushrL w1 (0 : Int32)) &&& m0))), (.long (0 : Int64))] := A_3
  refine g_iinc C d6_49 (v := (0 : Int32)) (w := (1 : Int32)) rfl rfl (L' := #[.val (.ref a1), .val (.ref a2), .val (.int (1 : Int32)), .val (.ref a3), .val (.int (1 : Int32))]) rfl (pc' := 52) rfl ?_
  refine g_goto C d6_52 (pc' := 3) (by decide) (by decide) ?_
  refine g_iload C d6_3 (v := (1 : Int32)) rfl (pc' := 5) rfl ?_
  refine g_aload_n C d6_5 (v := (.ref a3)) rfl rfl (pc' := 6) rfl ?_
  refine g_arraylength C f_4 (z := (2 : Int32)) rfl d6_6 (pc' := 7) rfl ?_
  refine g_icmp_n C d6_7 (Jvm.Free.XT.ii_ge_f (by decide)) (pc' := 10) rfl ?_
  refine g_aload_n C d6_10 (v := (.ref a3)) rfl rfl (pc' := 11) rfl ?_
  refine g_iload C d6_11 (v := (1 : Int32)) rfl (pc' := 13) rfl ?_
  refine g_aload_n C d6_13 (v := (.ref a1)) rfl rfl (pc' := 14) rfl ?_
  have f_5 := (F0.keep K_2 (ninS n1 nin0))
  refine g_getfield C (host := "") (v := (.ref bl)) (Or.inl (own_w hw 23 rfl)) Via.refl f_5 d6_14 (pc' := 17) rfl ?_
  refine g_iload C d6_17 (v := (1 : Int32)) rfl (pc' := 19) rfl ?_
  have f_6 := (A0.keep K_2 (ninS nl nin0))
  refine g_laload C f_6 (by decide) (i := 1) (by decide) (v := l1) rfl d6_19 (pc' := 20) rfl ?_
  refine g_aload_n C d6_20 (v := (.ref a2)) rfl rfl (pc' := 21) rfl ?_
  refine g_iload_n C d6_21 (v := (1 : Int32)) rfl (pc' := 22) rfl ?_
  refine g_aload_n C d6_22 (v := (.ref a1)) rfl rfl (pc' := 23) rfl ?_
  have f_7 := (F1.keep K_2 (ninS n1 nin0))
  refine g_getfield C (host := "") (v := (.ref bw)) (Or.inl (own_w hw 26 rfl)) Via.refl f_7 d6_23 (pc' := 26) rfl ?_
  refine g_iload C d6_26 (v := (1 : Int32)) rfl (pc' := 28) rfl ?_
  have f_8 := (A1.keep K_2 (ninS nw nin0))
  refine g_iaload C f_8 (by decide) (i := 1) (by decide) (v := (1 : Int32)) rfl d6_28 (pc' := 29) rfl ?_
  refine g_iadd C (x := (1 : Int32)) (y := (1 : Int32)) d6_29  (pc' := 30) rfl ?_
  refine Go.eqs (st2 := [(.int (2 : Int32)), (.ref a2), (.long l1), (.int (1 : Int32)), (.ref a3)]) ?_ (by rfl)
  have f_9 := (B2.keep K_2 (ninS n2 nin0))
  refine g_laload C f_9 (by decide) (i := 2) (by decide) (v := w2) rfl d6_30 (pc' := 31) rfl ?_
  refine g_aload_n C d6_31 (v := (.ref a1)) rfl rfl (pc' := 32) rfl ?_
  have f_10 := (F2.keep K_2 (ninS n1 nin0))
  refine g_getfield C (host := "") (v := (.ref bs)) (Or.inl (own_w hw 28 rfl)) Via.refl f_10 d6_32 (pc' := 35) rfl ?_
  refine g_iload C d6_35 (v := (1 : Int32)) rfl (pc' := 37) rfl ?_
  have f_11 := (A2.keep K_2 (ninS ns nin0))
  refine g_iaload C f_11 (by decide) (i := 1) (by decide) (v := s1) rfl d6_37 (pc' := 38) rfl ?_
  refine g_lushr C (x := w2) (y := s1) d6_38  (pc' := 39) rfl ?_
  refine g_aload_n C d6_39 (v := (.ref a1)) rfl rfl (pc' := 40) rfl ?_
  have f_12 := (F3.keep K_2 (ninS n1 nin0))
  refine g_getfield C (host := "") (v := (.ref bm)) (Or.inl (own_w hw 30 rfl)) Via.refl f_12 d6_40 (pc' := 43) rfl ?_
  refine g_iload C d6_43 (v := (1 : Int32)) rfl (pc' := 45) rfl ?_
  have f_13 := (A3.keep K_2 (ninS nm nin0))
  refine g_laload C f_13 (by decide) (i := 1) (by decide) (v := m1) rfl d6_45 (pc' := 46) rfl ?_
  refine g_land C (x := (Jvm.Free.XT.ushrL w2 s1)) (y := m1) d6_46  (pc' := 47) rfl ?_
  refine g_ladd C (x := l1) (y := ((Jvm.Free.XT.ushrL w2 s1) &&& m1)) d6_47  (pc' := 48) rfl ?_
  refine g_lastore C f_4 (by decide) (i := 1) (by decide) (show 1 < 2 by decide) (w := (.long (l1 + ((Jvm.Free.XT.ushrL w2 s1) &&& m1)))) rfl g3 d6_48 (pc' := 49) rfl ?_
  intro h_14 K_15 A_16
  have f_17 : Ary Z h_14 a3 .long [(.long (l0 + ((Jvm.Free.XT.ushrL w1 (0 : Int32)) &&& m0))), (.long (l1 + ((Jvm.Free.XT.ushrL w2 s1) &&& m1)))] := A_16
  refine g_iinc C d6_49 (v := (1 : Int32)) (w := (2 : Int32)) rfl rfl (L' := #[.val (.ref a1), .val (.ref a2), .val (.int (1 : Int32)), .val (.ref a3), .val (.int (2 : Int32))]) rfl (pc' := 52) rfl ?_
  refine g_goto C d6_52 (pc' := 3) (by decide) (by decide) ?_
  refine g_iload C d6_3 (v := (2 : Int32)) rfl (pc' := 5) rfl ?_
  refine g_aload_n C d6_5 (v := (.ref a3)) rfl rfl (pc' := 6) rfl ?_
  refine g_arraylength C f_17 (z := (2 : Int32)) rfl d6_6 (pc' := 7) rfl ?_
  refine g_icmp_y C d6_7 (Jvm.Free.XT.ii_ge_t (by decide)) (pc' := 55) (by decide) (by decide) ?_
  refine g_return C rfl d6_55 (by decide) (by decide) ?_
  exact ⟨rfl, (((Keep.refl h0 [a3]).trans K_2 (allS (Or.inl (List.mem_of_getElem? (i := 0) rfl)) all0)).trans K_15 (allS (Or.inl (List.mem_of_getElem? (i := 0) rfl)) all0)), f_17⟩
theorem own_pd_2_maskOf : parseMethodDescriptor "(I)J" = some ⟨[.int], (some .long)⟩ := by decide +kernel
theorem own_pd_6_init : parseMethodDescriptor "([J[J)V" = some ⟨[(.array .long), (.array .long)], none⟩ := by decide +kernel
theorem own_pd_5_unpack : parseMethodDescriptor "([JI[J)V" = some ⟨[(.array .long), .int, (.array .long)], none⟩ := by decide +kernel
set_option maxRecDepth 65536 in
set_option maxHeartbeats 40000000 in
theorem rm_law (l : Launch) (Z : State) (a0 : Array Value) (hw : ∀ d ∈ tables_1, d.before a0 Z = true) (n0 : Nat) (p0 p1 : Int64) (p2 : Int32) (p3 p4 p5 : Int64) (h0 : Heap) (Z0 : n0 ≤ h0.size)  :
    Met1 l Z x code maxLocals ret room_1 n0 #[(.long p0), (.long p1), (.int p2), (.long p3), (.long p4), (.long p5)] h0 (fun v h => v = some (.int 1)) := by
  refine met_of (plainFor_of_name own_pn_com_example_vestalia_vestalia_explorer_StatePackingUnpackPinLaw) (L0 := #[.val (.long p0), .second, .val (.long p1), .second, .val (.int p2), .val (.long p3), .second, .val (.long p4), .second, .val (.long p5), .second, .unset, .unset, .unset, .unset, .unset, .unset, .unset, .unset, .unset, .unset, .unset, .unset, .unset, .unset, .unset, .unset, .unset, .unset]) (by first | (simp [argsToLocals, Value.category, maxLocals]; done) | rfl) ?_
  intro B C
  change Ctx B l room_1 code "com/example/vestalia/vestalia/explorer/StatePackingUnpackPinLaw" "law" 29 (some .boolean) Z at C
  refine g_iload C at_0 (v := p2) rfl (pc' := 2) rfl ?_
  refine g_sipush C at_2 (v := (255 : Int32)) rfl (pc' := 5) rfl ?_
  refine g_iand C (x := p2) (y := (255 : Int32)) at_5  (pc' := 6) rfl ?_
  refine g_bipush C at_6 (v := (65 : Int32)) rfl (pc' := 8) rfl ?_
  refine g_irem C (x := (p2 &&& (255 : Int32))) (y := (65 : Int32)) at_8 (by decide) (pc' := 9) rfl ?_
  have Hk0 := own_rem65 (own_ff p2)
  obtain ⟨k0, ek0⟩ : ∃ z : Int32, z = ((p2 &&& (255 : Int32)) - ((p2 &&& (255 : Int32)) / (65 : Int32)) * (65 : Int32)) := ⟨_, rfl⟩
  rw [← ek0]
  rw [← ek0] at Hk0
  refine g_istore C at_9 (v := k0) (L' := #[.val (.long p0), .second, .val (.long p1), .second, .val (.int p2), .val (.long p3), .second, .val (.long p4), .second, .val (.long p5), .second, .val (.int k0), .unset, .unset, .unset, .unset, .unset, .unset, .unset, .unset, .unset, .unset, .unset, .unset, .unset, .unset, .unset, .unset, .unset]) rfl (pc' := 11) rfl ?_
  refine g_iload C at_11 (v := p2) rfl (pc' := 13) rfl ?_
  refine g_bipush C at_13 (v := (8 : Int32)) rfl (pc' := 15) rfl ?_
  refine g_iushr C (x := p2) (y := (8 : Int32)) at_15  (pc' := 16) rfl ?_
  refine g_sipush C at_16 (v := (255 : Int32)) rfl (pc' := 19) rfl ?_
  refine g_iand C (x := (Jvm.Free.XT.ushr p2 (8 : Int32))) (y := (255 : Int32)) at_19  (pc' := 20) rfl ?_
  refine g_bipush C at_20 (v := (65 : Int32)) rfl (pc' := 22) rfl ?_
  refine g_irem C (x := ((Jvm.Free.XT.ushr p2 (8 : Int32)) &&& (255 : Int32))) (y := (65 : Int32)) at_22 (by decide) (pc' := 23) rfl ?_
  have Hk1 := own_rem65 (own_ff (Jvm.Free.XT.ushr p2 (8 : Int32)))
  obtain ⟨k1, ek1⟩ : ∃ z : Int32, z = (((Jvm.Free.XT.ushr p2 (8 : Int32)) &&& (255 : Int32)) - (((Jvm.Free.XT.ushr p2 (8 : Int32)) &&& (255 : Int32)) / (65 : Int32)) * (65 : Int32)) := ⟨_, rfl⟩
  rw [← ek1]
  rw [← ek1] at Hk1
  refine g_istore C at_23 (v := k1) (L' := #[.val (.long p0), .second, .val (.long p1), .second, .val (.int p2), .val (.long p3), .second, .val (.long p4), .second, .val (.long p5), .second, .val (.int k0), .val (.int k1), .unset, .unset, .unset, .unset, .unset, .unset, .unset, .unset, .unset, .unset, .unset, .unset, .unset, .unset, .unset, .unset]) rfl (pc' := 25) rfl ?_
  refine g_iload C at_25 (v := p2) rfl (pc' := 27) rfl ?_
  refine g_bipush C at_27 (v := (16 : Int32)) rfl (pc' := 29) rfl ?_
  refine g_iushr C (x := p2) (y := (16 : Int32)) at_29  (pc' := 30) rfl ?_
  refine g_iconst C at_30 (v := (1 : Int32)) rfl (pc' := 31) rfl ?_
  refine g_iand C (x := (Jvm.Free.XT.ushr p2 (16 : Int32))) (y := (1 : Int32)) at_31  (pc' := 32) rfl ?_
  have Hat' := own_bit (Jvm.Free.XT.ushr p2 (16 : Int32))
  obtain ⟨at', eat'⟩ : ∃ z : Int32, z = ((Jvm.Free.XT.ushr p2 (16 : Int32)) &&& (1 : Int32)) := ⟨_, rfl⟩
  rw [← eat']
  rw [← eat'] at Hat'
  refine g_istore C at_32 (v := at') (L' := #[.val (.long p0), .second, .val (.long p1), .second, .val (.int p2), .val (.long p3), .second, .val (.long p4), .second, .val (.long p5), .second, .val (.int k0), .val (.int k1), .val (.int at'), .unset, .unset, .unset, .unset, .unset, .unset, .unset, .unset, .unset, .unset, .unset, .unset, .unset, .unset, .unset]) rfl (pc' := 34) rfl ?_
  refine g_iload C at_34 (v := k0) rfl (pc' := 36) rfl ?_
  refine g_static C (own_w hw 0 rfl) (own_w hw 1 rfl) (own_w hw 2 rfl) (own_w hw 3 rfl) (by decide) (rm_maskOf l Z a0 hw n0 k0 h0 Z0 ) (st := []) [(.int k0)] rfl rfl own_pd_2_maskOf rfl rfl (by decide) (W := 0) (Nat.le_of_eq rfl) (by decide) (by decide) (by decide) at_36 (pc' := 39) rfl ?_
  intro v_3 h_1 q_2
  obtain ⟨rfl, rfl⟩ := q_2
  show Go B n0 _ h0 0 0 39 #[.val (.long p0), .second, .val (.long p1), .second, .val (.int p2), .val (.long p3), .second, .val (.long p4), .second, .val (.long p5), .second, .val (.int k0), .val (.int k1), .val (.int at'), .unset, .unset, .unset, .unset, .unset, .unset, .unset, .unset, .unset, .unset, .unset, .unset, .unset, .unset, .unset] [(.long (mk k0))]
  refine g_lstore C at_39 (v := (mk k0)) (L' := #[.val (.long p0), .second, .val (.long p1), .second, .val (.int p2), .val (.long p3), .second, .val (.long p4), .second, .val (.long p5), .second, .val (.int k0), .val (.int k1), .val (.int at'), .val (.long (mk k0)), .second, .unset, .unset, .unset, .unset, .unset, .unset, .unset, .unset, .unset, .unset, .unset, .unset, .unset]) rfl (pc' := 41) rfl ?_
  refine g_iload C at_41 (v := k1) rfl (pc' := 43) rfl ?_
  refine g_static C (own_w hw 0 rfl) (own_w hw 1 rfl) (own_w hw 2 rfl) (own_w hw 3 rfl) (by decide) (rm_maskOf l Z a0 hw n0 k1 h0 Z0 ) (st := []) [(.int k1)] rfl rfl own_pd_2_maskOf rfl rfl (by decide) (W := 0) (Nat.le_of_eq rfl) (by decide) (by decide) (by decide) at_43 (pc' := 46) rfl ?_
  intro v_6 h_4 q_5
  obtain ⟨rfl, rfl⟩ := q_5
  show Go B n0 _ h0 0 0 46 #[.val (.long p0), .second, .val (.long p1), .second, .val (.int p2), .val (.long p3), .second, .val (.long p4), .second, .val (.long p5), .second, .val (.int k0), .val (.int k1), .val (.int at'), .val (.long (mk k0)), .second, .unset, .unset, .unset, .unset, .unset, .unset, .unset, .unset, .unset, .unset, .unset, .unset, .unset] [(.long (mk k1))]
  refine g_lstore C at_46 (v := (mk k1)) (L' := #[.val (.long p0), .second, .val (.long p1), .second, .val (.int p2), .val (.long p3), .second, .val (.long p4), .second, .val (.long p5), .second, .val (.int k0), .val (.int k1), .val (.int at'), .val (.long (mk k0)), .second, .val (.long (mk k1)), .second, .unset, .unset, .unset, .unset, .unset, .unset, .unset, .unset, .unset, .unset, .unset]) rfl (pc' := 48) rfl ?_
  refine g_iconst C at_48 (v := (2 : Int32)) rfl (pc' := 49) rfl ?_
  refine g_newarrayE C (own_w hw 4 rfl) (ty := .long) rfl (ad := "[J") (by decide) (by decide) (cap := 2) (by decide) (by decide) (by decide) (by decide) at_49 (pc' := 51) rfl ?_
  intro h_7 a_8 g_9 E_10 A_11 E_12
  have ge_a_8 : n0 ≤ a_8 := Nat.le_trans Z0 (Nat.le_of_eq g_9.symm)
  have gs_a_8 : h0.size ≤ a_8 := Nat.le_trans (Nat.le_refl h0.size) (Nat.le_of_eq g_9.symm)
  have f_13 : Ary Z h_7 a_8 .long [(.long (0 : Int64)), (.long (0 : Int64))] := A_11
  show Go B n0 _ h_7 1 2 51 #[.val (.long p0), .second, .val (.long p1), .second, .val (.int p2), .val (.long p3), .second, .val (.long p4), .second, .val (.long p5), .second, .val (.int k0), .val (.int k1), .val (.int at'), .val (.long (mk k0)), .second, .val (.long (mk k1)), .second, .unset, .unset, .unset, .unset, .unset, .unset, .unset, .unset, .unset, .unset, .unset] [(.ref a_8)]
  refine g_dup C at_51 rfl (pc' := 52) rfl ?_
  refine g_iconst C at_52 (v := (0 : Int32)) rfl (pc' := 53) rfl ?_
  refine g_lload_n C at_53 (v := p0) rfl (pc' := 54) rfl ?_
  refine g_lastore C f_13 (by decide) (i := 0) (by decide) (show 0 < 2 by decide) (w := (.long p0)) rfl ge_a_8 at_54 (pc' := 55) rfl ?_
  intro h_14 K_15 A_16
  have f_17 : Ary Z h_14 a_8 .long [(.long p0), (.long (0 : Int64))] := A_16
  refine g_dup C at_55 rfl (pc' := 56) rfl ?_
  refine g_iconst C at_56 (v := (1 : Int32)) rfl (pc' := 57) rfl ?_
  refine g_lload_n C at_57 (v := p1) rfl (pc' := 58) rfl ?_
  refine g_lastore C f_17 (by decide) (i := 1) (by decide) (show 1 < 2 by decide) (w := (.long p1)) rfl ge_a_8 at_58 (pc' := 59) rfl ?_
  intro h_18 K_19 A_20
  have f_21 : Ary Z h_18 a_8 .long [(.long p0), (.long p1)] := A_20
  refine g_astore C at_59 (v := (.ref a_8)) (L' := #[.val (.long p0), .second, .val (.long p1), .second, .val (.int p2), .val (.long p3), .second, .val (.long p4), .second, .val (.long p5), .second, .val (.int k0), .val (.int k1), .val (.int at'), .val (.long (mk k0)), .second, .val (.long (mk k1)), .second, .val (.ref a_8), .unset, .unset, .unset, .unset, .unset, .unset, .unset, .unset, .unset, .unset]) rfl rfl (pc' := 61) rfl ?_
  refine g_iconst C at_61 (v := (2 : Int32)) rfl (pc' := 62) rfl ?_
  refine g_newarrayE C (own_w hw 4 rfl) (ty := .long) rfl (ad := "[J") (by decide) (by decide) (cap := 2) (by decide) (by decide) (by decide) (by decide) at_62 (pc' := 64) rfl ?_
  intro h_22 a_23 g_24 E_25 A_26 E_27
  have ne_28 : a_8 ≠ a_23 := ne_new f_21.lt g_24
  have f_29 := (Nat.le_trans (Nat.le_trans (Nat.le_trans Z0 E_10.1) K_15.1) K_19.1)
  have ge_a_23 : n0 ≤ a_23 := Nat.le_trans f_29 (Nat.le_of_eq g_24.symm)
  have f_30 := (Nat.le_trans (Nat.le_trans (Nat.le_trans (Nat.le_refl h0.size) E_10.1) K_15.1) K_19.1)
  have gs_a_23 : h0.size ≤ a_23 := Nat.le_trans f_30 (Nat.le_of_eq g_24.symm)
  have f_31 : Ary Z h_22 a_23 .long [(.long (0 : Int64)), (.long (0 : Int64))] := A_26
  show Go B n0 _ h_22 2 4 64 #[.val (.long p0), .second, .val (.long p1), .second, .val (.int p2), .val (.long p3), .second, .val (.long p4), .second, .val (.long p5), .second, .val (.int k0), .val (.int k1), .val (.int at'), .val (.long (mk k0)), .second, .val (.long (mk k1)), .second, .val (.ref a_8), .unset, .unset, .unset, .unset, .unset, .unset, .unset, .unset, .unset, .unset] [(.ref a_23)]
  refine g_dup C at_64 rfl (pc' := 65) rfl ?_
  refine g_iconst C at_65 (v := (0 : Int32)) rfl (pc' := 66) rfl ?_
  refine g_lload_n C at_66 (v := p0) rfl (pc' := 67) rfl ?_
  refine g_lload C at_67 (v := (mk k0)) rfl (pc' := 69) rfl ?_
  refine g_ladd C (x := p0) (y := (mk k0)) at_69  (pc' := 70) rfl ?_
  refine g_lastore C f_31 (by decide) (i := 0) (by decide) (show 0 < 2 by decide) (w := (.long (p0 + (mk k0)))) rfl ge_a_23 at_70 (pc' := 71) rfl ?_
  intro h_32 K_33 A_34
  have f_35 : Ary Z h_32 a_23 .long [(.long (p0 + (mk k0))), (.long (0 : Int64))] := A_34
  refine g_dup C at_71 rfl (pc' := 72) rfl ?_
  refine g_iconst C at_72 (v := (1 : Int32)) rfl (pc' := 73) rfl ?_
  refine g_lload_n C at_73 (v := p1) rfl (pc' := 74) rfl ?_
  refine g_lload C at_74 (v := (mk k1)) rfl (pc' := 76) rfl ?_
  refine g_ladd C (x := p1) (y := (mk k1)) at_76  (pc' := 77) rfl ?_
  refine g_lastore C f_35 (by decide) (i := 1) (by decide) (show 1 < 2 by decide) (w := (.long (p1 + (mk k1)))) rfl ge_a_23 at_77 (pc' := 78) rfl ?_
  intro h_36 K_37 A_38
  have f_39 : Ary Z h_36 a_23 .long [(.long (p0 + (mk k0))), (.long (p1 + (mk k1)))] := A_38
  refine g_astore C at_78 (v := (.ref a_23)) (L' := #[.val (.long p0), .second, .val (.long p1), .second, .val (.int p2), .val (.long p3), .second, .val (.long p4), .second, .val (.long p5), .second, .val (.int k0), .val (.int k1), .val (.int at'), .val (.long (mk k0)), .second, .val (.long (mk k1)), .second, .val (.ref a_8), .val (.ref a_23), .unset, .unset, .unset, .unset, .unset, .unset, .unset, .unset, .unset]) rfl rfl (pc' := 80) rfl ?_
  have f_40 := (((f_21.ext E_25).keep K_33 (ninS ne_28 nin0)).keep K_37 (ninS ne_28 nin0))
  refine g_new C (own_w hw 5 rfl) (own_w hw 6 rfl) (own_w hw 7 rfl) (by decide) (by decide) at_80 (pc' := 83) rfl ?_
  intro h_41 a_42 g_43 E_44 A_45 D_46
  have ne_47 : a_23 ≠ a_42 := ne_new f_39.lt g_43
  have ne_48 : a_8 ≠ a_42 := ne_new f_40.lt g_43
  have f_49 := (Nat.le_trans (Nat.le_trans (Nat.le_trans f_29 E_25.1) K_33.1) K_37.1)
  have ge_a_42 : n0 ≤ a_42 := Nat.le_trans f_49 (Nat.le_of_eq g_43.symm)
  have f_50 := (Nat.le_trans (Nat.le_trans (Nat.le_trans f_30 E_25.1) K_33.1) K_37.1)
  have gs_a_42 : h0.size ≤ a_42 := Nat.le_trans f_50 (Nat.le_of_eq g_43.symm)
  have f_51 : Fld Z h_41 a_42 "com/example/vestalia/vestalia/explorer/StatePacking" "least" "[J" .null := D_46 (Or.inr (own_w hw 24 rfl)) (ty := (.array .long)) (by decide)
  have f_52 : Fld Z h_41 a_42 "com/example/vestalia/vestalia/explorer/StatePacking" "word" "[I" .null := D_46 (Or.inr (own_w hw 27 rfl)) (ty := (.array .int)) (by decide)
  have f_53 : Fld Z h_41 a_42 "com/example/vestalia/vestalia/explorer/StatePacking" "shift" "[I" .null := D_46 (Or.inr (own_w hw 29 rfl)) (ty := (.array .int)) (by decide)
  have f_54 : Fld Z h_41 a_42 "com/example/vestalia/vestalia/explorer/StatePacking" "mask" "[J" .null := D_46 (Or.inr (own_w hw 31 rfl)) (ty := (.array .long)) (by decide)
  have f_55 : Fld Z h_41 a_42 "com/example/vestalia/vestalia/explorer/StatePacking" "words" "I" (.int (0 : Int32)) := D_46 (Or.inr (own_w hw 41 rfl)) (ty := .int) (by decide)
  show Go B n0 _ h_41 3 9 83 #[.val (.long p0), .second, .val (.long p1), .second, .val (.int p2), .val (.long p3), .second, .val (.long p4), .second, .val (.long p5), .second, .val (.int k0), .val (.int k1), .val (.int at'), .val (.long (mk k0)), .second, .val (.long (mk k1)), .second, .val (.ref a_8), .val (.ref a_23), .unset, .unset, .unset, .unset, .unset, .unset, .unset, .unset, .unset] [(.ref a_42)]
  refine g_dup C at_83 rfl (pc' := 84) rfl ?_
  refine g_aload C at_84 (v := (.ref a_8)) rfl rfl (pc' := 86) rfl ?_
  refine g_aload C at_86 (v := (.ref a_23)) rfl rfl (pc' := 88) rfl ?_
  have f_56 := (f_40.ext E_44)
  have f_57 := ((((((E_12.keep K_15).keep K_19).ext E_25).keep K_33).keep K_37).ext E_44)
  have f_58 := (f_39.ext E_44)
  have f_59 := (Nat.le_trans f_49 E_44.1)
  have f_60 := (Nat.le_trans f_50 E_44.1)
  refine g_special C (a := a_42) rfl (own_w hw 8 rfl) (own_w hw 9 rfl) (own_w hw 7 rfl) (own_w hw 10 rfl) (by decide) (rm_init l Z a0 hw n0 a_42 a_8 a_23 p0 p1 (p0 + (mk k0)) (p1 + (mk k1)) k0 k1 h_41 f_59 A_45 f_51 f_52 f_53 f_54 f_55 f_56 f_57 f_58 (Ne.symm ne_48) (Ne.symm ne_47) ge_a_42 (own_nlz Hk0.1 Hk0.2 p0) (own_nlz Hk1.1 Hk1.2 p1) Hk0) (st := [(.ref a_42)]) [(.ref a_8), (.ref a_23)] rfl rfl own_pd_6_init rfl rfl (by decide) (W := 1) (Nat.le_of_eq rfl) (by decide) (by decide) (by decide) at_88 (pc' := 91) rfl ?_
  intro v_63 h_61 q_62
  obtain ⟨rfl, K_65, b_78, b_79, b_80, b_81, ⟨le_66, le_67, le_68, le_69⟩, f_70, f_71, f_72, f_73, f_74, f_75, f_76, f_77⟩ := q_62
  have ne_82 : a_23 ≠ b_78 := ne_ge f_58.lt le_66
  have ne_83 : a_42 ≠ b_78 := ne_ge A_45.lt le_66
  have ne_84 : a_8 ≠ b_78 := ne_ge f_56.lt le_66
  have ge_b_78 : n0 ≤ b_78 := Nat.le_trans f_59 le_66
  have gs_b_78 : h0.size ≤ b_78 := Nat.le_trans f_60 le_66
  have ne_85 : a_23 ≠ b_79 := ne_ge f_58.lt le_67
  have ne_86 : a_42 ≠ b_79 := ne_ge A_45.lt le_67
  have ne_87 : a_8 ≠ b_79 := ne_ge f_56.lt le_67
  have ge_b_79 : n0 ≤ b_79 := Nat.le_trans f_59 le_67
  have gs_b_79 : h0.size ≤ b_79 := Nat.le_trans f_60 le_67
  have ne_88 : a_23 ≠ b_80 := ne_ge f_58.lt le_68
  have ne_89 : a_42 ≠ b_80 := ne_ge A_45.lt le_68
  have ne_90 : a_8 ≠ b_80 := ne_ge f_56.lt le_68
  have ge_b_80 : n0 ≤ b_80 := Nat.le_trans f_59 le_68
  have gs_b_80 : h0.size ≤ b_80 := Nat.le_trans f_60 le_68
  have ne_91 : a_23 ≠ b_81 := ne_ge f_58.lt le_69
  have ne_92 : a_42 ≠ b_81 := ne_ge A_45.lt le_69
  have ne_93 : a_8 ≠ b_81 := ne_ge f_56.lt le_69
  have ge_b_81 : n0 ≤ b_81 := Nat.le_trans f_59 le_69
  have gs_b_81 : h0.size ≤ b_81 := Nat.le_trans f_60 le_69
  show Go B n0 _ h_61 7 17 91 #[.val (.long p0), .second, .val (.long p1), .second, .val (.int p2), .val (.long p3), .second, .val (.long p4), .second, .val (.long p5), .second, .val (.int k0), .val (.int k1), .val (.int at'), .val (.long (mk k0)), .second, .val (.long (mk k1)), .second, .val (.ref a_8), .val (.ref a_23), .unset, .unset, .unset, .unset, .unset, .unset, .unset, .unset, .unset] [(.ref a_42)]
  refine g_astore C at_91 (v := (.ref a_42)) (L' := #[.val (.long p0), .second, .val (.long p1), .second, .val (.int p2), .val (.long p3), .second, .val (.long p4), .second, .val (.long p5), .second, .val (.int k0), .val (.int k1), .val (.int at'), .val (.long (mk k0)), .second, .val (.long (mk k1)), .second, .val (.ref a_8), .val (.ref a_23), .val (.ref a_42), .unset, .unset, .unset, .unset, .unset, .unset, .unset, .unset]) rfl rfl (pc' := 93) rfl ?_
  refine g_iconst C at_93 (v := (3 : Int32)) rfl (pc' := 94) rfl ?_
  have f_94 := (f_58.keep K_65 (ninS ne_47 nin0))
  have f_95 := (A_45.keep K_65)
  have f_96 := (f_56.keep K_65 (ninS ne_48 nin0))
  refine g_newarrayE C (own_w hw 4 rfl) (ty := .long) rfl (ad := "[J") (by decide) (by decide) (cap := 3) (by decide) (by decide) (by decide) (by decide) at_94 (pc' := 96) rfl ?_
  intro h_97 a_98 g_99 E_100 A_101 E_102
  have ne_103 : a_23 ≠ a_98 := ne_new f_94.lt g_99
  have ne_104 : a_42 ≠ a_98 := ne_new f_95.lt g_99
  have ne_105 : a_8 ≠ a_98 := ne_new f_96.lt g_99
  have ne_106 : b_78 ≠ a_98 := ne_new f_74.lt g_99
  have ne_107 : b_79 ≠ a_98 := ne_new f_75.lt g_99
  have ne_108 : b_80 ≠ a_98 := ne_new f_76.lt g_99
  have ne_109 : b_81 ≠ a_98 := ne_new f_77.lt g_99
  have f_110 := (Nat.le_trans f_59 K_65.1)
  have ge_a_98 : n0 ≤ a_98 := Nat.le_trans f_110 (Nat.le_of_eq g_99.symm)
  have f_111 := (Nat.le_trans f_60 K_65.1)
  have gs_a_98 : h0.size ≤ a_98 := Nat.le_trans f_111 (Nat.le_of_eq g_99.symm)
  have f_112 : Ary Z h_97 a_98 .long [(.long (0 : Int64)), (.long (0 : Int64)), (.long (0 : Int64))] := A_101
  show Go B n0 _ h_97 8 20 96 #[.val (.long p0), .second, .val (.long p1), .second, .val (.int p2), .val (.long p3), .second, .val (.long p4), .second, .val (.long p5), .second, .val (.int k0), .val (.int k1), .val (.int at'), .val (.long (mk k0)), .second, .val (.long (mk k1)), .second, .val (.ref a_8), .val (.ref a_23), .val (.ref a_42), .unset, .unset, .unset, .unset, .unset, .unset, .unset, .unset] [(.ref a_98)]
  refine g_dup C at_96 rfl (pc' := 97) rfl ?_
  refine g_iconst C at_97 (v := (0 : Int32)) rfl (pc' := 98) rfl ?_
  refine g_lload C at_98 (v := p3) rfl (pc' := 100) rfl ?_
  refine g_lastore C f_112 (by decide) (i := 0) (by decide) (show 0 < 3 by decide) (w := (.long p3)) rfl ge_a_98 at_100 (pc' := 101) rfl ?_
  intro h_113 K_114 A_115
  have f_116 : Ary Z h_113 a_98 .long [(.long p3), (.long (0 : Int64)), (.long (0 : Int64))] := A_115
  refine g_dup C at_101 rfl (pc' := 102) rfl ?_
  refine g_iconst C at_102 (v := (1 : Int32)) rfl (pc' := 103) rfl ?_
  refine g_lload C at_103 (v := p4) rfl (pc' := 105) rfl ?_
  refine g_lastore C f_116 (by decide) (i := 1) (by decide) (show 1 < 3 by decide) (w := (.long p4)) rfl ge_a_98 at_105 (pc' := 106) rfl ?_
  intro h_117 K_118 A_119
  have f_120 : Ary Z h_117 a_98 .long [(.long p3), (.long p4), (.long (0 : Int64))] := A_119
  refine g_dup C at_106 rfl (pc' := 107) rfl ?_
  refine g_iconst C at_107 (v := (2 : Int32)) rfl (pc' := 108) rfl ?_
  refine g_lload C at_108 (v := p5) rfl (pc' := 110) rfl ?_
  refine g_lastore C f_120 (by decide) (i := 2) (by decide) (show 2 < 3 by decide) (w := (.long p5)) rfl ge_a_98 at_110 (pc' := 111) rfl ?_
  intro h_121 K_122 A_123
  have f_124 : Ary Z h_121 a_98 .long [(.long p3), (.long p4), (.long p5)] := A_123
  refine g_astore C at_111 (v := (.ref a_98)) (L' := #[.val (.long p0), .second, .val (.long p1), .second, .val (.int p2), .val (.long p3), .second, .val (.long p4), .second, .val (.long p5), .second, .val (.int k0), .val (.int k1), .val (.int at'), .val (.long (mk k0)), .second, .val (.long (mk k1)), .second, .val (.ref a_8), .val (.ref a_23), .val (.ref a_42), .val (.ref a_98), .unset, .unset, .unset, .unset, .unset, .unset, .unset]) rfl rfl (pc' := 113) rfl ?_
  refine g_iconst C at_113 (v := (2 : Int32)) rfl (pc' := 114) rfl ?_
  have f_125 := ((((f_94.ext E_100).keep K_114 (ninS ne_103 nin0)).keep K_118 (ninS ne_103 nin0)).keep K_122 (ninS ne_103 nin0))
  have f_126 := ((((f_95.ext E_100).keep K_114).keep K_118).keep K_122)
  have f_127 := ((((f_96.ext E_100).keep K_114 (ninS ne_105 nin0)).keep K_118 (ninS ne_105 nin0)).keep K_122 (ninS ne_105 nin0))
  have f_128 := ((((f_74.ext E_100).keep K_114 (ninS ne_106 nin0)).keep K_118 (ninS ne_106 nin0)).keep K_122 (ninS ne_106 nin0))
  have f_129 := ((((f_75.ext E_100).keep K_114 (ninS ne_107 nin0)).keep K_118 (ninS ne_107 nin0)).keep K_122 (ninS ne_107 nin0))
  have f_130 := ((((f_76.ext E_100).keep K_114 (ninS ne_108 nin0)).keep K_118 (ninS ne_108 nin0)).keep K_122 (ninS ne_108 nin0))
  have f_131 := ((((f_77.ext E_100).keep K_114 (ninS ne_109 nin0)).keep K_118 (ninS ne_109 nin0)).keep K_122 (ninS ne_109 nin0))
  refine g_newarrayE C (own_w hw 4 rfl) (ty := .long) rfl (ad := "[J") (by decide) (by decide) (cap := 2) (by decide) (by decide) (by decide) (by decide) at_114 (pc' := 116) rfl ?_
  intro h_132 a_133 g_134 E_135 A_136 E_137
  have ne_138 : a_23 ≠ a_133 := ne_new f_125.lt g_134
  have ne_139 : a_42 ≠ a_133 := ne_new f_126.lt g_134
  have ne_140 : a_8 ≠ a_133 := ne_new f_127.lt g_134
  have ne_141 : a_98 ≠ a_133 := ne_new f_124.lt g_134
  have ne_142 : b_78 ≠ a_133 := ne_new f_128.lt g_134
  have ne_143 : b_79 ≠ a_133 := ne_new f_129.lt g_134
  have ne_144 : b_80 ≠ a_133 := ne_new f_130.lt g_134
  have ne_145 : b_81 ≠ a_133 := ne_new f_131.lt g_134
  have f_146 := (Nat.le_trans (Nat.le_trans (Nat.le_trans (Nat.le_trans f_110 E_100.1) K_114.1) K_118.1) K_122.1)
  have ge_a_133 : n0 ≤ a_133 := Nat.le_trans f_146 (Nat.le_of_eq g_134.symm)
  have f_147 := (Nat.le_trans (Nat.le_trans (Nat.le_trans (Nat.le_trans f_111 E_100.1) K_114.1) K_118.1) K_122.1)
  have gs_a_133 : h0.size ≤ a_133 := Nat.le_trans f_147 (Nat.le_of_eq g_134.symm)
  have f_148 : Ary Z h_132 a_133 .long [(.long (0 : Int64)), (.long (0 : Int64))] := A_136
  show Go B n0 _ h_132 9 22 116 #[.val (.long p0), .second, .val (.long p1), .second, .val (.int p2), .val (.long p3), .second, .val (.long p4), .second, .val (.long p5), .second, .val (.int k0), .val (.int k1), .val (.int at'), .val (.long (mk k0)), .second, .val (.long (mk k1)), .second, .val (.ref a_8), .val (.ref a_23), .val (.ref a_42), .val (.ref a_98), .unset, .unset, .unset, .unset, .unset, .unset, .unset] [(.ref a_133)]
  refine g_astore C at_116 (v := (.ref a_133)) (L' := #[.val (.long p0), .second, .val (.long p1), .second, .val (.int p2), .val (.long p3), .second, .val (.long p4), .second, .val (.long p5), .second, .val (.int k0), .val (.int k1), .val (.int at'), .val (.long (mk k0)), .second, .val (.long (mk k1)), .second, .val (.ref a_8), .val (.ref a_23), .val (.ref a_42), .val (.ref a_98), .val (.ref a_133), .unset, .unset, .unset, .unset, .unset, .unset]) rfl rfl (pc' := 118) rfl ?_
  rcases Hat' with at0 | at1
  · rw [at0]
    show Go B n0 _ h_132 9 22 118 #[.val (.long p0), .second, .val (.long p1), .second, .val (.int p2), .val (.long p3), .second, .val (.long p4), .second, .val (.long p5), .second, .val (.int k0), .val (.int k1), .val (.int (0 : Int32)), .val (.long (mk k0)), .second, .val (.long (mk k1)), .second, .val (.ref a_8), .val (.ref a_23), .val (.ref a_42), .val (.ref a_98), .val (.ref a_133), .unset, .unset, .unset, .unset, .unset, .unset] []
    by_cases hb_149 : (64 : Int32) < (k0 + k1)
    · have f_150 := (f_129.ext E_135)
      have f_151 := (f_130.ext E_135)
      have f_152 : Ary Z h_132 b_79 .int [.int (0 : Int32), .int (1 : Int32)] := by have q := f_150; rw [wF, if_pos hb_149] at q; exact q
      have f_153 : Ary Z h_132 b_80 .int [.int (0 : Int32), .int (0 : Int32)] := by have q := f_151; rw [sF, if_pos hb_149] at q; exact q
      refine g_aload C at_118 (v := (.ref a_42)) rfl rfl (pc' := 120) rfl ?_
      refine g_aload C at_120 (v := (.ref a_98)) rfl rfl (pc' := 122) rfl ?_
      refine g_iload C at_122 (v := (0 : Int32)) rfl (pc' := 124) rfl ?_
      refine g_aload C at_124 (v := (.ref a_133)) rfl rfl (pc' := 126) rfl ?_
      have f_154 := (((((f_70.ext E_100).keep K_114 (ninS ne_104 nin0)).keep K_118 (ninS ne_104 nin0)).keep K_122 (ninS ne_104 nin0)).ext E_135)
      have f_155 := (((((f_71.ext E_100).keep K_114 (ninS ne_104 nin0)).keep K_118 (ninS ne_104 nin0)).keep K_122 (ninS ne_104 nin0)).ext E_135)
      have f_156 := (((((f_72.ext E_100).keep K_114 (ninS ne_104 nin0)).keep K_118 (ninS ne_104 nin0)).keep K_122 (ninS ne_104 nin0)).ext E_135)
      have f_157 := (((((f_73.ext E_100).keep K_114 (ninS ne_104 nin0)).keep K_118 (ninS ne_104 nin0)).keep K_122 (ninS ne_104 nin0)).ext E_135)
      have f_158 := (f_128.ext E_135)
      have f_159 := (f_131.ext E_135)
      have f_160 := (f_124.ext E_135)
      have f_161 := (Nat.le_trans f_146 E_135.1)
      have f_162 := (f_126.ext E_135)
      refine g_virtual C (own_w hw 42 rfl) (own_w hw 43 rfl) (own_w hw 45 rfl) (own_w hw 44 rfl) (own_w hw 7 rfl) (own_w hw 46 rfl) (notFace_of_selects (args := #[]) (mvT C.2.2.2.2.1 (own_w hw 45 rfl))) (by decide) f_162 (rm_unpack10 l Z a0 hw n0 a_42 a_98 a_133 b_78 b_79 b_80 b_81 p0 p1 (mk k0) (mk k1) p3 p4 p5 (0 : Int32) h_132 f_161 f_154 f_155 f_156 f_157 f_158 f_152 f_153 f_159 f_160 f_148 ge_a_133 ne_139 ne_142 ne_143 ne_144 ne_145 ne_141) (st := []) [(.ref a_98), (.int (0 : Int32)), (.ref a_133)] rfl rfl own_pd_5_unpack rfl rfl (by decide) (W := 0) (Nat.le_of_eq rfl) (by decide) (by decide) (by decide) at_126 (pc' := 129) rfl ?_
      intro v_165 h_163 q_164
      obtain ⟨rfl, K_166, f_167⟩ := q_164
      show Go B n0 _ h_163 9 22 129 #[.val (.long p0), .second, .val (.long p1), .second, .val (.int p2), .val (.long p3), .second, .val (.long p4), .second, .val (.long p5), .second, .val (.int k0), .val (.int k1), .val (.int (0 : Int32)), .val (.long (mk k0)), .second, .val (.long (mk k1)), .second, .val (.ref a_8), .val (.ref a_23), .val (.ref a_42), .val (.ref a_98), .val (.ref a_133), .unset, .unset, .unset, .unset, .unset, .unset] []
      refine g_aload C at_129 (v := (.ref a_98)) rfl rfl (pc' := 131) rfl ?_
      refine g_iload C at_131 (v := (0 : Int32)) rfl (pc' := 133) rfl ?_
      have f_168 := (f_160.keep K_166 (ninS ne_141 nin0))
      refine g_laload C f_168 (by decide) (i := 0) (by decide) (v := p3) rfl at_133 (pc' := 134) rfl ?_
      refine g_lstore C at_134 (v := p3) (L' := #[.val (.long p0), .second, .val (.long p1), .second, .val (.int p2), .val (.long p3), .second, .val (.long p4), .second, .val (.long p5), .second, .val (.int k0), .val (.int k1), .val (.int (0 : Int32)), .val (.long (mk k0)), .second, .val (.long (mk k1)), .second, .val (.ref a_8), .val (.ref a_23), .val (.ref a_42), .val (.ref a_98), .val (.ref a_133), .val (.long p3), .second, .unset, .unset, .unset, .unset]) rfl (pc' := 136) rfl ?_
      refine g_lload_n C at_136 (v := p0) rfl (pc' := 137) rfl ?_
      refine g_lload C at_137 (v := p3) rfl (pc' := 139) rfl ?_
      refine g_lload C at_139 (v := (mk k0)) rfl (pc' := 141) rfl ?_
      refine g_land C (x := p3) (y := (mk k0)) at_141  (pc' := 142) rfl ?_
      refine g_ladd C (x := p0) (y := (p3 &&& (mk k0))) at_142  (pc' := 143) rfl ?_
      refine g_lstore C at_143 (v := (p0 + (p3 &&& (mk k0)))) (L' := #[.val (.long p0), .second, .val (.long p1), .second, .val (.int p2), .val (.long p3), .second, .val (.long p4), .second, .val (.long p5), .second, .val (.int k0), .val (.int k1), .val (.int (0 : Int32)), .val (.long (mk k0)), .second, .val (.long (mk k1)), .second, .val (.ref a_8), .val (.ref a_23), .val (.ref a_42), .val (.ref a_98), .val (.ref a_133), .val (.long p3), .second, .val (.long (p0 + (p3 &&& (mk k0)))), .second, .unset, .unset]) rfl (pc' := 145) rfl ?_
      refine g_iload C at_145 (v := k0) rfl (pc' := 147) rfl ?_
      refine g_iload C at_147 (v := k1) rfl (pc' := 149) rfl ?_
      refine g_iadd C (x := k0) (y := k1) at_149  (pc' := 150) rfl ?_
      refine g_bipush C at_150 (v := (64 : Int32)) rfl (pc' := 152) rfl ?_
      refine g_icmp_n C at_152 (Jvm.Free.XT.ii_le_f hb_149) (pc' := 155) rfl ?_
      refine g_lload_n C at_155 (v := p1) rfl (pc' := 156) rfl ?_
      refine g_aload C at_156 (v := (.ref a_98)) rfl rfl (pc' := 158) rfl ?_
      refine g_iload C at_158 (v := (0 : Int32)) rfl (pc' := 160) rfl ?_
      refine g_iconst C at_160 (v := (1 : Int32)) rfl (pc' := 161) rfl ?_
      refine g_iadd C (x := (0 : Int32)) (y := (1 : Int32)) at_161  (pc' := 162) rfl ?_
      refine Go.eqs (st2 := [(.int (1 : Int32)), (.ref a_98), (.long p1)]) ?_ (by rfl)
      refine g_laload C f_168 (by decide) (i := 1) (by decide) (v := p4) rfl at_162 (pc' := 163) rfl ?_
      refine g_lload C at_163 (v := (mk k1)) rfl (pc' := 165) rfl ?_
      refine g_land C (x := p4) (y := (mk k1)) at_165  (pc' := 166) rfl ?_
      refine g_ladd C (x := p1) (y := (p4 &&& (mk k1))) at_166  (pc' := 167) rfl ?_
      refine g_lstore C at_167 (v := (p1 + (p4 &&& (mk k1)))) (L' := #[.val (.long p0), .second, .val (.long p1), .second, .val (.int p2), .val (.long p3), .second, .val (.long p4), .second, .val (.long p5), .second, .val (.int k0), .val (.int k1), .val (.int (0 : Int32)), .val (.long (mk k0)), .second, .val (.long (mk k1)), .second, .val (.ref a_8), .val (.ref a_23), .val (.ref a_42), .val (.ref a_98), .val (.ref a_133), .val (.long p3), .second, .val (.long (p0 + (p3 &&& (mk k0)))), .second, .val (.long (p1 + (p4 &&& (mk k1)))), .second]) rfl (pc' := 169) rfl ?_
      refine g_goto C at_169 (pc' := 197) (by decide) (by decide) ?_
      refine g_aload C at_197 (v := (.ref a_133)) rfl rfl (pc' := 199) rfl ?_
      refine g_iconst C at_199 (v := (0 : Int32)) rfl (pc' := 200) rfl ?_
      refine g_laload C f_167 (by decide) (i := 0) (by decide) (v := (p0 + ((Jvm.Free.XT.ushrL p3 (0 : Int32)) &&& (mk k0)))) rfl at_200 (pc' := 201) rfl ?_
      refine g_lload C at_201 (v := (p0 + (p3 &&& (mk k0)))) rfl (pc' := 203) rfl ?_
      refine g_lcmp C (x := (p0 + ((Jvm.Free.XT.ushrL p3 (0 : Int32)) &&& (mk k0)))) (y := (p0 + (p3 &&& (mk k0)))) at_203 (pc' := 204) rfl ?_
      refine g_if_n C at_204 (Jvm.Free.XT.ll_ne_f (by rw [own_u0])) (pc' := 207) rfl ?_
      refine g_aload C at_207 (v := (.ref a_133)) rfl rfl (pc' := 209) rfl ?_
      refine g_iconst C at_209 (v := (1 : Int32)) rfl (pc' := 210) rfl ?_
      refine g_laload C f_167 (by decide) (i := 1) (by decide) (v := (p1 + ((Jvm.Free.XT.ushrL p4 (0 : Int32)) &&& (mk k1)))) rfl at_210 (pc' := 211) rfl ?_
      refine g_lload C at_211 (v := (p1 + (p4 &&& (mk k1)))) rfl (pc' := 213) rfl ?_
      refine g_lcmp C (x := (p1 + ((Jvm.Free.XT.ushrL p4 (0 : Int32)) &&& (mk k1)))) (y := (p1 + (p4 &&& (mk k1)))) at_213 (pc' := 214) rfl ?_
      refine g_if_n C at_214 (Jvm.Free.XT.ll_ne_f (by rw [own_u0])) (pc' := 217) rfl ?_
      refine g_iconst C at_217 (v := (1 : Int32)) rfl (pc' := 218) rfl ?_
      refine g_goto C at_218 (pc' := 222) (by decide) (by decide) ?_
      refine g_ret C (v := (.int (1 : Int32))) (ty := .boolean) rfl rfl (Or.inl ⟨rfl, Or.inr (Or.inl rfl), _, rfl⟩) at_222 (by decide) (by decide) ?_
      rfl
    · have f_169 := (f_129.ext E_135)
      have f_170 := (f_130.ext E_135)
      have f_171 : Ary Z h_132 b_79 .int [.int (0 : Int32), .int (0 : Int32)] := by have q := f_169; rw [wF, if_neg hb_149] at q; exact q
      have f_172 : Ary Z h_132 b_80 .int [.int (0 : Int32), .int k0] := by have q := f_170; rw [sF, if_neg hb_149] at q; exact q
      refine g_aload C at_118 (v := (.ref a_42)) rfl rfl (pc' := 120) rfl ?_
      refine g_aload C at_120 (v := (.ref a_98)) rfl rfl (pc' := 122) rfl ?_
      refine g_iload C at_122 (v := (0 : Int32)) rfl (pc' := 124) rfl ?_
      refine g_aload C at_124 (v := (.ref a_133)) rfl rfl (pc' := 126) rfl ?_
      have f_173 := (((((f_70.ext E_100).keep K_114 (ninS ne_104 nin0)).keep K_118 (ninS ne_104 nin0)).keep K_122 (ninS ne_104 nin0)).ext E_135)
      have f_174 := (((((f_71.ext E_100).keep K_114 (ninS ne_104 nin0)).keep K_118 (ninS ne_104 nin0)).keep K_122 (ninS ne_104 nin0)).ext E_135)
      have f_175 := (((((f_72.ext E_100).keep K_114 (ninS ne_104 nin0)).keep K_118 (ninS ne_104 nin0)).keep K_122 (ninS ne_104 nin0)).ext E_135)
      have f_176 := (((((f_73.ext E_100).keep K_114 (ninS ne_104 nin0)).keep K_118 (ninS ne_104 nin0)).keep K_122 (ninS ne_104 nin0)).ext E_135)
      have f_177 := (f_128.ext E_135)
      have f_178 := (f_131.ext E_135)
      have f_179 := (f_124.ext E_135)
      have f_180 := (Nat.le_trans f_146 E_135.1)
      have f_181 := (f_126.ext E_135)
      refine g_virtual C (own_w hw 42 rfl) (own_w hw 43 rfl) (own_w hw 45 rfl) (own_w hw 44 rfl) (own_w hw 7 rfl) (own_w hw 46 rfl) (notFace_of_selects (args := #[]) (mvT C.2.2.2.2.1 (own_w hw 45 rfl))) (by decide) f_181 (rm_unpack00 l Z a0 hw n0 a_42 a_98 a_133 b_78 b_79 b_80 b_81 p0 p1 (mk k0) (mk k1) p3 p4 p5 k0 h_132 f_180 f_173 f_174 f_175 f_176 f_177 f_171 f_172 f_178 f_179 f_148 ge_a_133 ne_139 ne_142 ne_143 ne_144 ne_145 ne_141) (st := []) [(.ref a_98), (.int (0 : Int32)), (.ref a_133)] rfl rfl own_pd_5_unpack rfl rfl (by decide) (W := 0) (Nat.le_of_eq rfl) (by decide) (by decide) (by decide) at_126 (pc' := 129) rfl ?_
      intro v_184 h_182 q_183
      obtain ⟨rfl, K_185, f_186⟩ := q_183
      show Go B n0 _ h_182 9 22 129 #[.val (.long p0), .second, .val (.long p1), .second, .val (.int p2), .val (.long p3), .second, .val (.long p4), .second, .val (.long p5), .second, .val (.int k0), .val (.int k1), .val (.int (0 : Int32)), .val (.long (mk k0)), .second, .val (.long (mk k1)), .second, .val (.ref a_8), .val (.ref a_23), .val (.ref a_42), .val (.ref a_98), .val (.ref a_133), .unset, .unset, .unset, .unset, .unset, .unset] []
      refine g_aload C at_129 (v := (.ref a_98)) rfl rfl (pc' := 131) rfl ?_
      refine g_iload C at_131 (v := (0 : Int32)) rfl (pc' := 133) rfl ?_
      have f_187 := (f_179.keep K_185 (ninS ne_141 nin0))
      refine g_laload C f_187 (by decide) (i := 0) (by decide) (v := p3) rfl at_133 (pc' := 134) rfl ?_
      refine g_lstore C at_134 (v := p3) (L' := #[.val (.long p0), .second, .val (.long p1), .second, .val (.int p2), .val (.long p3), .second, .val (.long p4), .second, .val (.long p5), .second, .val (.int k0), .val (.int k1), .val (.int (0 : Int32)), .val (.long (mk k0)), .second, .val (.long (mk k1)), .second, .val (.ref a_8), .val (.ref a_23), .val (.ref a_42), .val (.ref a_98), .val (.ref a_133), .val (.long p3), .second, .unset, .unset, .unset, .unset]) rfl (pc' := 136) rfl ?_
      refine g_lload_n C at_136 (v := p0) rfl (pc' := 137) rfl ?_
      refine g_lload C at_137 (v := p3) rfl (pc' := 139) rfl ?_
      refine g_lload C at_139 (v := (mk k0)) rfl (pc' := 141) rfl ?_
      refine g_land C (x := p3) (y := (mk k0)) at_141  (pc' := 142) rfl ?_
      refine g_ladd C (x := p0) (y := (p3 &&& (mk k0))) at_142  (pc' := 143) rfl ?_
      refine g_lstore C at_143 (v := (p0 + (p3 &&& (mk k0)))) (L' := #[.val (.long p0), .second, .val (.long p1), .second, .val (.int p2), .val (.long p3), .second, .val (.long p4), .second, .val (.long p5), .second, .val (.int k0), .val (.int k1), .val (.int (0 : Int32)), .val (.long (mk k0)), .second, .val (.long (mk k1)), .second, .val (.ref a_8), .val (.ref a_23), .val (.ref a_42), .val (.ref a_98), .val (.ref a_133), .val (.long p3), .second, .val (.long (p0 + (p3 &&& (mk k0)))), .second, .unset, .unset]) rfl (pc' := 145) rfl ?_
      refine g_iload C at_145 (v := k0) rfl (pc' := 147) rfl ?_
      refine g_iload C at_147 (v := k1) rfl (pc' := 149) rfl ?_
      refine g_iadd C (x := k0) (y := k1) at_149  (pc' := 150) rfl ?_
      refine g_bipush C at_150 (v := (64 : Int32)) rfl (pc' := 152) rfl ?_
      refine g_icmp_y C at_152 (Jvm.Free.XT.ii_le_t hb_149) (pc' := 172) (by decide) (by decide) ?_
      refine g_iload C at_172 (v := k0) rfl (pc' := 174) rfl ?_
      refine g_bipush C at_174 (v := (64 : Int32)) rfl (pc' := 176) rfl ?_
      by_cases hb_188 : k0 = (64 : Int32)
      · refine g_icmp_n C at_176 (Jvm.Free.XT.ii_ne_f hb_188) (pc' := 179) rfl ?_
        refine g_lload_n C at_179 (v := p1) rfl (pc' := 180) rfl ?_
        refine g_lstore C at_180 (v := p1) (L' := #[.val (.long p0), .second, .val (.long p1), .second, .val (.int p2), .val (.long p3), .second, .val (.long p4), .second, .val (.long p5), .second, .val (.int k0), .val (.int k1), .val (.int (0 : Int32)), .val (.long (mk k0)), .second, .val (.long (mk k1)), .second, .val (.ref a_8), .val (.ref a_23), .val (.ref a_42), .val (.ref a_98), .val (.ref a_133), .val (.long p3), .second, .val (.long (p0 + (p3 &&& (mk k0)))), .second, .val (.long p1), .second]) rfl (pc' := 182) rfl ?_
        refine g_goto C at_182 (pc' := 197) (by decide) (by decide) ?_
        refine g_aload C at_197 (v := (.ref a_133)) rfl rfl (pc' := 199) rfl ?_
        refine g_iconst C at_199 (v := (0 : Int32)) rfl (pc' := 200) rfl ?_
        refine g_laload C f_186 (by decide) (i := 0) (by decide) (v := (p0 + ((Jvm.Free.XT.ushrL p3 (0 : Int32)) &&& (mk k0)))) rfl at_200 (pc' := 201) rfl ?_
        refine g_lload C at_201 (v := (p0 + (p3 &&& (mk k0)))) rfl (pc' := 203) rfl ?_
        refine g_lcmp C (x := (p0 + ((Jvm.Free.XT.ushrL p3 (0 : Int32)) &&& (mk k0)))) (y := (p0 + (p3 &&& (mk k0)))) at_203 (pc' := 204) rfl ?_
        refine g_if_n C at_204 (Jvm.Free.XT.ll_ne_f (by rw [own_u0])) (pc' := 207) rfl ?_
        refine g_aload C at_207 (v := (.ref a_133)) rfl rfl (pc' := 209) rfl ?_
        refine g_iconst C at_209 (v := (1 : Int32)) rfl (pc' := 210) rfl ?_
        refine g_laload C f_186 (by decide) (i := 1) (by decide) (v := (p1 + ((Jvm.Free.XT.ushrL p3 k0) &&& (mk k1)))) rfl at_210 (pc' := 211) rfl ?_
        refine g_lload C at_211 (v := p1) rfl (pc' := 213) rfl ?_
        refine g_lcmp C (x := (p1 + ((Jvm.Free.XT.ushrL p3 k0) &&& (mk k1)))) (y := p1) at_213 (pc' := 214) rfl ?_
        refine g_if_n C at_214 (Jvm.Free.XT.ll_ne_f (own_last _ _ Hk1.1 Hk1.2 hb_188 hb_149)) (pc' := 217) rfl ?_
        refine g_iconst C at_217 (v := (1 : Int32)) rfl (pc' := 218) rfl ?_
        refine g_goto C at_218 (pc' := 222) (by decide) (by decide) ?_
        refine g_ret C (v := (.int (1 : Int32))) (ty := .boolean) rfl rfl (Or.inl ⟨rfl, Or.inr (Or.inl rfl), _, rfl⟩) at_222 (by decide) (by decide) ?_
        rfl
      · refine g_icmp_y C at_176 (Jvm.Free.XT.ii_ne_t hb_188) (pc' := 185) (by decide) (by decide) ?_
        refine g_lload_n C at_185 (v := p1) rfl (pc' := 186) rfl ?_
        refine g_lload C at_186 (v := p3) rfl (pc' := 188) rfl ?_
        refine g_iload C at_188 (v := k0) rfl (pc' := 190) rfl ?_
        refine g_lushr C (x := p3) (y := k0) at_190  (pc' := 191) rfl ?_
        refine g_lload C at_191 (v := (mk k1)) rfl (pc' := 193) rfl ?_
        refine g_land C (x := (Jvm.Free.XT.ushrL p3 k0)) (y := (mk k1)) at_193  (pc' := 194) rfl ?_
        refine g_ladd C (x := p1) (y := ((Jvm.Free.XT.ushrL p3 k0) &&& (mk k1))) at_194  (pc' := 195) rfl ?_
        refine g_lstore C at_195 (v := (p1 + ((Jvm.Free.XT.ushrL p3 k0) &&& (mk k1)))) (L' := #[.val (.long p0), .second, .val (.long p1), .second, .val (.int p2), .val (.long p3), .second, .val (.long p4), .second, .val (.long p5), .second, .val (.int k0), .val (.int k1), .val (.int (0 : Int32)), .val (.long (mk k0)), .second, .val (.long (mk k1)), .second, .val (.ref a_8), .val (.ref a_23), .val (.ref a_42), .val (.ref a_98), .val (.ref a_133), .val (.long p3), .second, .val (.long (p0 + (p3 &&& (mk k0)))), .second, .val (.long (p1 + ((Jvm.Free.XT.ushrL p3 k0) &&& (mk k1)))), .second]) rfl (pc' := 197) rfl ?_
        refine g_aload C at_197 (v := (.ref a_133)) rfl rfl (pc' := 199) rfl ?_
        refine g_iconst C at_199 (v := (0 : Int32)) rfl (pc' := 200) rfl ?_
        refine g_laload C f_186 (by decide) (i := 0) (by decide) (v := (p0 + ((Jvm.Free.XT.ushrL p3 (0 : Int32)) &&& (mk k0)))) rfl at_200 (pc' := 201) rfl ?_
        refine g_lload C at_201 (v := (p0 + (p3 &&& (mk k0)))) rfl (pc' := 203) rfl ?_
        refine g_lcmp C (x := (p0 + ((Jvm.Free.XT.ushrL p3 (0 : Int32)) &&& (mk k0)))) (y := (p0 + (p3 &&& (mk k0)))) at_203 (pc' := 204) rfl ?_
        refine g_if_n C at_204 (Jvm.Free.XT.ll_ne_f (by rw [own_u0])) (pc' := 207) rfl ?_
        refine g_aload C at_207 (v := (.ref a_133)) rfl rfl (pc' := 209) rfl ?_
        refine g_iconst C at_209 (v := (1 : Int32)) rfl (pc' := 210) rfl ?_
        refine g_laload C f_186 (by decide) (i := 1) (by decide) (v := (p1 + ((Jvm.Free.XT.ushrL p3 k0) &&& (mk k1)))) rfl at_210 (pc' := 211) rfl ?_
        refine g_lload C at_211 (v := (p1 + ((Jvm.Free.XT.ushrL p3 k0) &&& (mk k1)))) rfl (pc' := 213) rfl ?_
        refine g_lcmp C (x := (p1 + ((Jvm.Free.XT.ushrL p3 k0) &&& (mk k1)))) (y := (p1 + ((Jvm.Free.XT.ushrL p3 k0) &&& (mk k1)))) at_213 (pc' := 214) rfl ?_
        refine g_if_n C at_214 (Jvm.Free.XT.ll_ne_f rfl) (pc' := 217) rfl ?_
        refine g_iconst C at_217 (v := (1 : Int32)) rfl (pc' := 218) rfl ?_
        refine g_goto C at_218 (pc' := 222) (by decide) (by decide) ?_
        refine g_ret C (v := (.int (1 : Int32))) (ty := .boolean) rfl rfl (Or.inl ⟨rfl, Or.inr (Or.inl rfl), _, rfl⟩) at_222 (by decide) (by decide) ?_
        rfl
  · rw [at1]
    show Go B n0 _ h_132 9 22 118 #[.val (.long p0), .second, .val (.long p1), .second, .val (.int p2), .val (.long p3), .second, .val (.long p4), .second, .val (.long p5), .second, .val (.int k0), .val (.int k1), .val (.int (1 : Int32)), .val (.long (mk k0)), .second, .val (.long (mk k1)), .second, .val (.ref a_8), .val (.ref a_23), .val (.ref a_42), .val (.ref a_98), .val (.ref a_133), .unset, .unset, .unset, .unset, .unset, .unset] []
    by_cases hb_189 : (64 : Int32) < (k0 + k1)
    · have f_190 := (f_129.ext E_135)
      have f_191 := (f_130.ext E_135)
      have f_192 : Ary Z h_132 b_79 .int [.int (0 : Int32), .int (1 : Int32)] := by have q := f_190; rw [wF, if_pos hb_189] at q; exact q
      have f_193 : Ary Z h_132 b_80 .int [.int (0 : Int32), .int (0 : Int32)] := by have q := f_191; rw [sF, if_pos hb_189] at q; exact q
      refine g_aload C at_118 (v := (.ref a_42)) rfl rfl (pc' := 120) rfl ?_
      refine g_aload C at_120 (v := (.ref a_98)) rfl rfl (pc' := 122) rfl ?_
      refine g_iload C at_122 (v := (1 : Int32)) rfl (pc' := 124) rfl ?_
      refine g_aload C at_124 (v := (.ref a_133)) rfl rfl (pc' := 126) rfl ?_
      have f_194 := (((((f_70.ext E_100).keep K_114 (ninS ne_104 nin0)).keep K_118 (ninS ne_104 nin0)).keep K_122 (ninS ne_104 nin0)).ext E_135)
      have f_195 := (((((f_71.ext E_100).keep K_114 (ninS ne_104 nin0)).keep K_118 (ninS ne_104 nin0)).keep K_122 (ninS ne_104 nin0)).ext E_135)
      have f_196 := (((((f_72.ext E_100).keep K_114 (ninS ne_104 nin0)).keep K_118 (ninS ne_104 nin0)).keep K_122 (ninS ne_104 nin0)).ext E_135)
      have f_197 := (((((f_73.ext E_100).keep K_114 (ninS ne_104 nin0)).keep K_118 (ninS ne_104 nin0)).keep K_122 (ninS ne_104 nin0)).ext E_135)
      have f_198 := (f_128.ext E_135)
      have f_199 := (f_131.ext E_135)
      have f_200 := (f_124.ext E_135)
      have f_201 := (Nat.le_trans f_146 E_135.1)
      have f_202 := (f_126.ext E_135)
      refine g_virtual C (own_w hw 42 rfl) (own_w hw 43 rfl) (own_w hw 45 rfl) (own_w hw 44 rfl) (own_w hw 7 rfl) (own_w hw 46 rfl) (notFace_of_selects (args := #[]) (mvT C.2.2.2.2.1 (own_w hw 45 rfl))) (by decide) f_202 (rm_unpack11 l Z a0 hw n0 a_42 a_98 a_133 b_78 b_79 b_80 b_81 p0 p1 (mk k0) (mk k1) p3 p4 p5 (0 : Int32) h_132 f_201 f_194 f_195 f_196 f_197 f_198 f_192 f_193 f_199 f_200 f_148 ge_a_133 ne_139 ne_142 ne_143 ne_144 ne_145 ne_141) (st := []) [(.ref a_98), (.int (1 : Int32)), (.ref a_133)] rfl rfl own_pd_5_unpack rfl rfl (by decide) (W := 0) (Nat.le_of_eq rfl) (by decide) (by decide) (by decide) at_126 (pc' := 129) rfl ?_
      intro v_205 h_203 q_204
      obtain ⟨rfl, K_206, f_207⟩ := q_204
      show Go B n0 _ h_203 9 22 129 #[.val (.long p0), .second, .val (.long p1), .second, .val (.int p2), .val (.long p3), .second, .val (.long p4), .second, .val (.long p5), .second, .val (.int k0), .val (.int k1), .val (.int (1 : Int32)), .val (.long (mk k0)), .second, .val (.long (mk k1)), .second, .val (.ref a_8), .val (.ref a_23), .val (.ref a_42), .val (.ref a_98), .val (.ref a_133), .unset, .unset, .unset, .unset, .unset, .unset] []
      refine g_aload C at_129 (v := (.ref a_98)) rfl rfl (pc' := 131) rfl ?_
      refine g_iload C at_131 (v := (1 : Int32)) rfl (pc' := 133) rfl ?_
      have f_208 := (f_200.keep K_206 (ninS ne_141 nin0))
      refine g_laload C f_208 (by decide) (i := 1) (by decide) (v := p4) rfl at_133 (pc' := 134) rfl ?_
      refine g_lstore C at_134 (v := p4) (L' := #[.val (.long p0), .second, .val (.long p1), .second, .val (.int p2), .val (.long p3), .second, .val (.long p4), .second, .val (.long p5), .second, .val (.int k0), .val (.int k1), .val (.int (1 : Int32)), .val (.long (mk k0)), .second, .val (.long (mk k1)), .second, .val (.ref a_8), .val (.ref a_23), .val (.ref a_42), .val (.ref a_98), .val (.ref a_133), .val (.long p4), .second, .unset, .unset, .unset, .unset]) rfl (pc' := 136) rfl ?_
      refine g_lload_n C at_136 (v := p0) rfl (pc' := 137) rfl ?_
      refine g_lload C at_137 (v := p4) rfl (pc' := 139) rfl ?_
      refine g_lload C at_139 (v := (mk k0)) rfl (pc' := 141) rfl ?_
      refine g_land C (x := p4) (y := (mk k0)) at_141  (pc' := 142) rfl ?_
      refine g_ladd C (x := p0) (y := (p4 &&& (mk k0))) at_142  (pc' := 143) rfl ?_
      refine g_lstore C at_143 (v := (p0 + (p4 &&& (mk k0)))) (L' := #[.val (.long p0), .second, .val (.long p1), .second, .val (.int p2), .val (.long p3), .second, .val (.long p4), .second, .val (.long p5), .second, .val (.int k0), .val (.int k1), .val (.int (1 : Int32)), .val (.long (mk k0)), .second, .val (.long (mk k1)), .second, .val (.ref a_8), .val (.ref a_23), .val (.ref a_42), .val (.ref a_98), .val (.ref a_133), .val (.long p4), .second, .val (.long (p0 + (p4 &&& (mk k0)))), .second, .unset, .unset]) rfl (pc' := 145) rfl ?_
      refine g_iload C at_145 (v := k0) rfl (pc' := 147) rfl ?_
      refine g_iload C at_147 (v := k1) rfl (pc' := 149) rfl ?_
      refine g_iadd C (x := k0) (y := k1) at_149  (pc' := 150) rfl ?_
      refine g_bipush C at_150 (v := (64 : Int32)) rfl (pc' := 152) rfl ?_
      refine g_icmp_n C at_152 (Jvm.Free.XT.ii_le_f hb_189) (pc' := 155) rfl ?_
      refine g_lload_n C at_155 (v := p1) rfl (pc' := 156) rfl ?_
      refine g_aload C at_156 (v := (.ref a_98)) rfl rfl (pc' := 158) rfl ?_
      refine g_iload C at_158 (v := (1 : Int32)) rfl (pc' := 160) rfl ?_
      refine g_iconst C at_160 (v := (1 : Int32)) rfl (pc' := 161) rfl ?_
      refine g_iadd C (x := (1 : Int32)) (y := (1 : Int32)) at_161  (pc' := 162) rfl ?_
      refine Go.eqs (st2 := [(.int (2 : Int32)), (.ref a_98), (.long p1)]) ?_ (by rfl)
      refine g_laload C f_208 (by decide) (i := 2) (by decide) (v := p5) rfl at_162 (pc' := 163) rfl ?_
      refine g_lload C at_163 (v := (mk k1)) rfl (pc' := 165) rfl ?_
      refine g_land C (x := p5) (y := (mk k1)) at_165  (pc' := 166) rfl ?_
      refine g_ladd C (x := p1) (y := (p5 &&& (mk k1))) at_166  (pc' := 167) rfl ?_
      refine g_lstore C at_167 (v := (p1 + (p5 &&& (mk k1)))) (L' := #[.val (.long p0), .second, .val (.long p1), .second, .val (.int p2), .val (.long p3), .second, .val (.long p4), .second, .val (.long p5), .second, .val (.int k0), .val (.int k1), .val (.int (1 : Int32)), .val (.long (mk k0)), .second, .val (.long (mk k1)), .second, .val (.ref a_8), .val (.ref a_23), .val (.ref a_42), .val (.ref a_98), .val (.ref a_133), .val (.long p4), .second, .val (.long (p0 + (p4 &&& (mk k0)))), .second, .val (.long (p1 + (p5 &&& (mk k1)))), .second]) rfl (pc' := 169) rfl ?_
      refine g_goto C at_169 (pc' := 197) (by decide) (by decide) ?_
      refine g_aload C at_197 (v := (.ref a_133)) rfl rfl (pc' := 199) rfl ?_
      refine g_iconst C at_199 (v := (0 : Int32)) rfl (pc' := 200) rfl ?_
      refine g_laload C f_207 (by decide) (i := 0) (by decide) (v := (p0 + ((Jvm.Free.XT.ushrL p4 (0 : Int32)) &&& (mk k0)))) rfl at_200 (pc' := 201) rfl ?_
      refine g_lload C at_201 (v := (p0 + (p4 &&& (mk k0)))) rfl (pc' := 203) rfl ?_
      refine g_lcmp C (x := (p0 + ((Jvm.Free.XT.ushrL p4 (0 : Int32)) &&& (mk k0)))) (y := (p0 + (p4 &&& (mk k0)))) at_203 (pc' := 204) rfl ?_
      refine g_if_n C at_204 (Jvm.Free.XT.ll_ne_f (by rw [own_u0])) (pc' := 207) rfl ?_
      refine g_aload C at_207 (v := (.ref a_133)) rfl rfl (pc' := 209) rfl ?_
      refine g_iconst C at_209 (v := (1 : Int32)) rfl (pc' := 210) rfl ?_
      refine g_laload C f_207 (by decide) (i := 1) (by decide) (v := (p1 + ((Jvm.Free.XT.ushrL p5 (0 : Int32)) &&& (mk k1)))) rfl at_210 (pc' := 211) rfl ?_
      refine g_lload C at_211 (v := (p1 + (p5 &&& (mk k1)))) rfl (pc' := 213) rfl ?_
      refine g_lcmp C (x := (p1 + ((Jvm.Free.XT.ushrL p5 (0 : Int32)) &&& (mk k1)))) (y := (p1 + (p5 &&& (mk k1)))) at_213 (pc' := 214) rfl ?_
      refine g_if_n C at_214 (Jvm.Free.XT.ll_ne_f (by rw [own_u0])) (pc' := 217) rfl ?_
      refine g_iconst C at_217 (v := (1 : Int32)) rfl (pc' := 218) rfl ?_
      refine g_goto C at_218 (pc' := 222) (by decide) (by decide) ?_
      refine g_ret C (v := (.int (1 : Int32))) (ty := .boolean) rfl rfl (Or.inl ⟨rfl, Or.inr (Or.inl rfl), _, rfl⟩) at_222 (by decide) (by decide) ?_
      rfl
    · have f_209 := (f_129.ext E_135)
      have f_210 := (f_130.ext E_135)
      have f_211 : Ary Z h_132 b_79 .int [.int (0 : Int32), .int (0 : Int32)] := by have q := f_209; rw [wF, if_neg hb_189] at q; exact q
      have f_212 : Ary Z h_132 b_80 .int [.int (0 : Int32), .int k0] := by have q := f_210; rw [sF, if_neg hb_189] at q; exact q
      refine g_aload C at_118 (v := (.ref a_42)) rfl rfl (pc' := 120) rfl ?_
      refine g_aload C at_120 (v := (.ref a_98)) rfl rfl (pc' := 122) rfl ?_
      refine g_iload C at_122 (v := (1 : Int32)) rfl (pc' := 124) rfl ?_
      refine g_aload C at_124 (v := (.ref a_133)) rfl rfl (pc' := 126) rfl ?_
      have f_213 := (((((f_70.ext E_100).keep K_114 (ninS ne_104 nin0)).keep K_118 (ninS ne_104 nin0)).keep K_122 (ninS ne_104 nin0)).ext E_135)
      have f_214 := (((((f_71.ext E_100).keep K_114 (ninS ne_104 nin0)).keep K_118 (ninS ne_104 nin0)).keep K_122 (ninS ne_104 nin0)).ext E_135)
      have f_215 := (((((f_72.ext E_100).keep K_114 (ninS ne_104 nin0)).keep K_118 (ninS ne_104 nin0)).keep K_122 (ninS ne_104 nin0)).ext E_135)
      have f_216 := (((((f_73.ext E_100).keep K_114 (ninS ne_104 nin0)).keep K_118 (ninS ne_104 nin0)).keep K_122 (ninS ne_104 nin0)).ext E_135)
      have f_217 := (f_128.ext E_135)
      have f_218 := (f_131.ext E_135)
      have f_219 := (f_124.ext E_135)
      have f_220 := (Nat.le_trans f_146 E_135.1)
      have f_221 := (f_126.ext E_135)
      refine g_virtual C (own_w hw 42 rfl) (own_w hw 43 rfl) (own_w hw 45 rfl) (own_w hw 44 rfl) (own_w hw 7 rfl) (own_w hw 46 rfl) (notFace_of_selects (args := #[]) (mvT C.2.2.2.2.1 (own_w hw 45 rfl))) (by decide) f_221 (rm_unpack01 l Z a0 hw n0 a_42 a_98 a_133 b_78 b_79 b_80 b_81 p0 p1 (mk k0) (mk k1) p3 p4 p5 k0 h_132 f_220 f_213 f_214 f_215 f_216 f_217 f_211 f_212 f_218 f_219 f_148 ge_a_133 ne_139 ne_142 ne_143 ne_144 ne_145 ne_141) (st := []) [(.ref a_98), (.int (1 : Int32)), (.ref a_133)] rfl rfl own_pd_5_unpack rfl rfl (by decide) (W := 0) (Nat.le_of_eq rfl) (by decide) (by decide) (by decide) at_126 (pc' := 129) rfl ?_
      intro v_224 h_222 q_223
      obtain ⟨rfl, K_225, f_226⟩ := q_223
      show Go B n0 _ h_222 9 22 129 #[.val (.long p0), .second, .val (.long p1), .second, .val (.int p2), .val (.long p3), .second, .val (.long p4), .second, .val (.long p5), .second, .val (.int k0), .val (.int k1), .val (.int (1 : Int32)), .val (.long (mk k0)), .second, .val (.long (mk k1)), .second, .val (.ref a_8), .val (.ref a_23), .val (.ref a_42), .val (.ref a_98), .val (.ref a_133), .unset, .unset, .unset, .unset, .unset, .unset] []
      refine g_aload C at_129 (v := (.ref a_98)) rfl rfl (pc' := 131) rfl ?_
      refine g_iload C at_131 (v := (1 : Int32)) rfl (pc' := 133) rfl ?_
      have f_227 := (f_219.keep K_225 (ninS ne_141 nin0))
      refine g_laload C f_227 (by decide) (i := 1) (by decide) (v := p4) rfl at_133 (pc' := 134) rfl ?_
      refine g_lstore C at_134 (v := p4) (L' := #[.val (.long p0), .second, .val (.long p1), .second, .val (.int p2), .val (.long p3), .second, .val (.long p4), .second, .val (.long p5), .second, .val (.int k0), .val (.int k1), .val (.int (1 : Int32)), .val (.long (mk k0)), .second, .val (.long (mk k1)), .second, .val (.ref a_8), .val (.ref a_23), .val (.ref a_42), .val (.ref a_98), .val (.ref a_133), .val (.long p4), .second, .unset, .unset, .unset, .unset]) rfl (pc' := 136) rfl ?_
      refine g_lload_n C at_136 (v := p0) rfl (pc' := 137) rfl ?_
      refine g_lload C at_137 (v := p4) rfl (pc' := 139) rfl ?_
      refine g_lload C at_139 (v := (mk k0)) rfl (pc' := 141) rfl ?_
      refine g_land C (x := p4) (y := (mk k0)) at_141  (pc' := 142) rfl ?_
      refine g_ladd C (x := p0) (y := (p4 &&& (mk k0))) at_142  (pc' := 143) rfl ?_
      refine g_lstore C at_143 (v := (p0 + (p4 &&& (mk k0)))) (L' := #[.val (.long p0), .second, .val (.long p1), .second, .val (.int p2), .val (.long p3), .second, .val (.long p4), .second, .val (.long p5), .second, .val (.int k0), .val (.int k1), .val (.int (1 : Int32)), .val (.long (mk k0)), .second, .val (.long (mk k1)), .second, .val (.ref a_8), .val (.ref a_23), .val (.ref a_42), .val (.ref a_98), .val (.ref a_133), .val (.long p4), .second, .val (.long (p0 + (p4 &&& (mk k0)))), .second, .unset, .unset]) rfl (pc' := 145) rfl ?_
      refine g_iload C at_145 (v := k0) rfl (pc' := 147) rfl ?_
      refine g_iload C at_147 (v := k1) rfl (pc' := 149) rfl ?_
      refine g_iadd C (x := k0) (y := k1) at_149  (pc' := 150) rfl ?_
      refine g_bipush C at_150 (v := (64 : Int32)) rfl (pc' := 152) rfl ?_
      refine g_icmp_y C at_152 (Jvm.Free.XT.ii_le_t hb_189) (pc' := 172) (by decide) (by decide) ?_
      refine g_iload C at_172 (v := k0) rfl (pc' := 174) rfl ?_
      refine g_bipush C at_174 (v := (64 : Int32)) rfl (pc' := 176) rfl ?_
      by_cases hb_228 : k0 = (64 : Int32)
      · refine g_icmp_n C at_176 (Jvm.Free.XT.ii_ne_f hb_228) (pc' := 179) rfl ?_
        refine g_lload_n C at_179 (v := p1) rfl (pc' := 180) rfl ?_
        refine g_lstore C at_180 (v := p1) (L' := #[.val (.long p0), .second, .val (.long p1), .second, .val (.int p2), .val (.long p3), .second, .val (.long p4), .second, .val (.long p5), .second, .val (.int k0), .val (.int k1), .val (.int (1 : Int32)), .val (.long (mk k0)), .second, .val (.long (mk k1)), .second, .val (.ref a_8), .val (.ref a_23), .val (.ref a_42), .val (.ref a_98), .val (.ref a_133), .val (.long p4), .second, .val (.long (p0 + (p4 &&& (mk k0)))), .second, .val (.long p1), .second]) rfl (pc' := 182) rfl ?_
        refine g_goto C at_182 (pc' := 197) (by decide) (by decide) ?_
        refine g_aload C at_197 (v := (.ref a_133)) rfl rfl (pc' := 199) rfl ?_
        refine g_iconst C at_199 (v := (0 : Int32)) rfl (pc' := 200) rfl ?_
        refine g_laload C f_226 (by decide) (i := 0) (by decide) (v := (p0 + ((Jvm.Free.XT.ushrL p4 (0 : Int32)) &&& (mk k0)))) rfl at_200 (pc' := 201) rfl ?_
        refine g_lload C at_201 (v := (p0 + (p4 &&& (mk k0)))) rfl (pc' := 203) rfl ?_
        refine g_lcmp C (x := (p0 + ((Jvm.Free.XT.ushrL p4 (0 : Int32)) &&& (mk k0)))) (y := (p0 + (p4 &&& (mk k0)))) at_203 (pc' := 204) rfl ?_
        refine g_if_n C at_204 (Jvm.Free.XT.ll_ne_f (by rw [own_u0])) (pc' := 207) rfl ?_
        refine g_aload C at_207 (v := (.ref a_133)) rfl rfl (pc' := 209) rfl ?_
        refine g_iconst C at_209 (v := (1 : Int32)) rfl (pc' := 210) rfl ?_
        refine g_laload C f_226 (by decide) (i := 1) (by decide) (v := (p1 + ((Jvm.Free.XT.ushrL p4 k0) &&& (mk k1)))) rfl at_210 (pc' := 211) rfl ?_
        refine g_lload C at_211 (v := p1) rfl (pc' := 213) rfl ?_
        refine g_lcmp C (x := (p1 + ((Jvm.Free.XT.ushrL p4 k0) &&& (mk k1)))) (y := p1) at_213 (pc' := 214) rfl ?_
        refine g_if_n C at_214 (Jvm.Free.XT.ll_ne_f (own_last _ _ Hk1.1 Hk1.2 hb_228 hb_189)) (pc' := 217) rfl ?_
        refine g_iconst C at_217 (v := (1 : Int32)) rfl (pc' := 218) rfl ?_
        refine g_goto C at_218 (pc' := 222) (by decide) (by decide) ?_
        refine g_ret C (v := (.int (1 : Int32))) (ty := .boolean) rfl rfl (Or.inl ⟨rfl, Or.inr (Or.inl rfl), _, rfl⟩) at_222 (by decide) (by decide) ?_
        rfl
      · refine g_icmp_y C at_176 (Jvm.Free.XT.ii_ne_t hb_228) (pc' := 185) (by decide) (by decide) ?_
        refine g_lload_n C at_185 (v := p1) rfl (pc' := 186) rfl ?_
        refine g_lload C at_186 (v := p4) rfl (pc' := 188) rfl ?_
        refine g_iload C at_188 (v := k0) rfl (pc' := 190) rfl ?_
        refine g_lushr C (x := p4) (y := k0) at_190  (pc' := 191) rfl ?_
        refine g_lload C at_191 (v := (mk k1)) rfl (pc' := 193) rfl ?_
        refine g_land C (x := (Jvm.Free.XT.ushrL p4 k0)) (y := (mk k1)) at_193  (pc' := 194) rfl ?_
        refine g_ladd C (x := p1) (y := ((Jvm.Free.XT.ushrL p4 k0) &&& (mk k1))) at_194  (pc' := 195) rfl ?_
        refine g_lstore C at_195 (v := (p1 + ((Jvm.Free.XT.ushrL p4 k0) &&& (mk k1)))) (L' := #[.val (.long p0), .second, .val (.long p1), .second, .val (.int p2), .val (.long p3), .second, .val (.long p4), .second, .val (.long p5), .second, .val (.int k0), .val (.int k1), .val (.int (1 : Int32)), .val (.long (mk k0)), .second, .val (.long (mk k1)), .second, .val (.ref a_8), .val (.ref a_23), .val (.ref a_42), .val (.ref a_98), .val (.ref a_133), .val (.long p4), .second, .val (.long (p0 + (p4 &&& (mk k0)))), .second, .val (.long (p1 + ((Jvm.Free.XT.ushrL p4 k0) &&& (mk k1)))), .second]) rfl (pc' := 197) rfl ?_
        refine g_aload C at_197 (v := (.ref a_133)) rfl rfl (pc' := 199) rfl ?_
        refine g_iconst C at_199 (v := (0 : Int32)) rfl (pc' := 200) rfl ?_
        refine g_laload C f_226 (by decide) (i := 0) (by decide) (v := (p0 + ((Jvm.Free.XT.ushrL p4 (0 : Int32)) &&& (mk k0)))) rfl at_200 (pc' := 201) rfl ?_
        refine g_lload C at_201 (v := (p0 + (p4 &&& (mk k0)))) rfl (pc' := 203) rfl ?_
        refine g_lcmp C (x := (p0 + ((Jvm.Free.XT.ushrL p4 (0 : Int32)) &&& (mk k0)))) (y := (p0 + (p4 &&& (mk k0)))) at_203 (pc' := 204) rfl ?_
        refine g_if_n C at_204 (Jvm.Free.XT.ll_ne_f (by rw [own_u0])) (pc' := 207) rfl ?_
        refine g_aload C at_207 (v := (.ref a_133)) rfl rfl (pc' := 209) rfl ?_
        refine g_iconst C at_209 (v := (1 : Int32)) rfl (pc' := 210) rfl ?_
        refine g_laload C f_226 (by decide) (i := 1) (by decide) (v := (p1 + ((Jvm.Free.XT.ushrL p4 k0) &&& (mk k1)))) rfl at_210 (pc' := 211) rfl ?_
        refine g_lload C at_211 (v := (p1 + ((Jvm.Free.XT.ushrL p4 k0) &&& (mk k1)))) rfl (pc' := 213) rfl ?_
        refine g_lcmp C (x := (p1 + ((Jvm.Free.XT.ushrL p4 k0) &&& (mk k1)))) (y := (p1 + ((Jvm.Free.XT.ushrL p4 k0) &&& (mk k1)))) at_213 (pc' := 214) rfl ?_
        refine g_if_n C at_214 (Jvm.Free.XT.ll_ne_f rfl) (pc' := 217) rfl ?_
        refine g_iconst C at_217 (v := (1 : Int32)) rfl (pc' := 218) rfl ?_
        refine g_goto C at_218 (pc' := 222) (by decide) (by decide) ?_
        refine g_ret C (v := (.int (1 : Int32))) (ty := .boolean) rfl rfl (Or.inl ⟨rfl, Or.inr (Or.inl rfl), _, rfl⟩) at_222 (by decide) (by decide) ?_
        rfl
set_option maxRecDepth 65536 in
set_option maxHeartbeats 40000000 in
theorem comes_1 {Post : Tables → Env → Array Value → State → Outcome → State → Prop} (hpost : ∀ tb e args s v u, (limb_1_1.after args s (.returned v) u = true ∧ limb_1_2.after args s (.returned v) u = true ∧ True) → FrameEnd s (.returned v) u (Jvm.fieldLocs frame_1_writes args s ++ Jvm.arrayLocs frame_1_arrays args s ++ Jvm.staticLocs frame_1_statics s) 32 128 → Post tb e args s (.returned v) u) :
    ArmFor flags0 classFile x code maxLocals ret World_1 tables_1 room_1 Calls_1 rest_1 Pre_1 Post := by
  intro l hfl _ _ p e ha hc hk s m args below hf hA hF happ hP
  obtain ⟨hcalls, hrest, hpre⟩ := hP
  obtain ⟨-, -, -, hnamed, -, -, -, hat⟩ := (Spec.applies_iff hf).mp happ
  obtain ⟨hg, hn⟩ := and_e (Cond.before_iff.mp (show (Jvm.Cond.and given_1 narrow_1).before args s = true from hpre))
  obtain ⟨gc, gr0⟩ := and_e hg
  obtain ⟨ga0, gr1⟩ := and_e gr0
  obtain ⟨ga1, gr2⟩ := and_e gr1
  obtain ⟨ga2, gr3⟩ := and_e gr2
  obtain ⟨ga3, gr4⟩ := and_e gr3
  obtain ⟨ga4, gr5⟩ := and_e gr4
  obtain ⟨w0, w1, w2, w3, w4, w5, rfl⟩ : ∃ w0 w1 w2 w3 w4 w5 : Value, args = #[w0, w1, w2, w3, w4, w5] := by
    have hs : args.size = 6 := by simpa [Cond.value, given_1] using gc
    obtain ⟨L⟩ := args
    match L, hs with
    | [w0, w1, w2, w3, w4, w5], _ => exact ⟨w0, w1, w2, w3, w4, w5, rfl⟩
  have hw := fun d (hd : d ∈ tables_1) => atoms_spec (ws := Jvm.Cond.code x code maxLocals ret :: tables_1) hat d (List.mem_cons_of_mem _ hd)
  have hfit : Fit s := fun {y c} hc i hi => by
    obtain ⟨ha, rfl⟩ := Array.getElem?_eq_some_iff.mp hc
    have q := List.all_eq_true.mp ((Array.all_eq_true_iff_forall_mem.mp hF) _ (Array.getElem_mem ha)) i (List.mem_range.mpr hi)
    simpa [Array.getElem?_eq_getElem hi] using q
  obtain ⟨i0, ei0⟩ := isL_v ga0
  obtain rfl : w0 = (.long i0) := Option.some.inj ei0
  obtain ⟨i1, ei1⟩ := isL_v ga1
  obtain rfl : w1 = (.long i1) := Option.some.inj ei1
  obtain ⟨i2, ei2⟩ := is_v ga2
  obtain rfl : w2 = (.int i2) := Option.some.inj ei2
  obtain ⟨i3, ei3⟩ := isL_v ga3
  obtain rfl : w3 = (.long i3) := Option.some.inj ei3
  obtain ⟨i4, ei4⟩ := isL_v ga4
  obtain rfl : w4 = (.long i4) := Option.some.inj ei4
  obtain ⟨i5, ei5⟩ := isL_v gr5
  obtain rfl : w5 = (.long i5) := Option.some.inj ei5
  obtain ⟨n, o, h1, h2, h3, _, L, rfl, ⟨N, rfl⟩, hq⟩ := rm_law l s _ hw s.heap.size i0 i1 i2 i3 i4 i5  s.heap (Nat.le_refl _)  tables_1 p e ha hc hk s m _ below hf ((Spec.applies_iff_loose hf).mp happ).1 ⟨rfl, State.Warmed39.refl s, rfl⟩ trivial
  refine ⟨n, _, h1, h2, h3, hpost _ _ _ _ _ _ ⟨Cond.after_iff.mpr rfl, Cond.after_iff.mpr (eq_i res_at (Term.int_eval (1)) rfl), trivial⟩ ⟨hq.1, hq.2.1, (hq.2.2.sift fun y hy => Or.inr (N y hy)).mono (by decide) (by decide)⟩⟩
theorem main_1_1 : Claimed_1_1 := comes_1 fun _ _ _ _ _ _ h hF => ⟨h.1, hF⟩
theorem main_1_2 : Claimed_1_2 := comes_1 fun _ _ _ _ _ _ h hF => ⟨h.2.1, hF⟩
end Jvm.Pilot.@@N@@
namespace Jvm.Pilot.@@N@@
open Jvm Jvm.ClassFile Sem Op Lib Jvm.Free Jvm.Stand Jvm.Pilot.@@N@@.Jvm.D
/-! MADE BY PROGRAM (witnessworld.py) out of the Statement's table words and the real class files: 17 classes; the members and pool entries that the words name. The judged class is class 1, her method 2. -/
namespace start1
open Jvm.ClassFile
def u (s : String) : CpInfo := .utf8 (stringToUtf16 s)
/-- a pool by its gaps: so many unusable entries, then the entry; so many at the end -/
def gap : Nat → List CpInfo → List CpInfo
  | 0, r => r
  | n + 1, r => .unusable :: gap n r
def poolList (es : List (Nat × CpInfo)) (last : Nat) : List CpInfo := es.foldr (fun e r => gap e.1 (e.2 :: r)) (gap last [])
def pool (es : List (Nat × CpInfo)) (last : Nat) : Array CpInfo := ⟨poolList es last⟩
def fileOf (pool : Array CpInfo) (this : Nat) (attrs : Array Attribute := #[]) (ms : Array MethodInfo := #[]) (fl : Nat := 33) (sup : Nat := 0) (ifs : Array Nat := #[]) (fds : Array FieldInfo := #[]) : ClassFile where
  minorVersion := 0
  majorVersion := 65
  constantPool := pool
  accessFlags := fl
  thisClass := this
  superClass := sup
  interfaces := ifs
  fields := fds
  methods := ms
  attributes := attrs
def plain (name : String) (sup : Option ClassId) : Class where
  name := name
  kind := .ordinary
  loader := none
  accessFlags := 33
  super := sup
  interfaces := #[]
  cf := none
  fields := #[]
  methods := #[]
  instanceTypes := #[]
  staticTypes := #[]
  resolved := #[]
  callSites := []
  init := .initialized
  statics := none
  mirror := none

def pool0 : Array CpInfo := pool [(5, u "<init>"), (0, u "()V"), (1, .class_ 10), (1, u "java/lang/Object"), (85, u "clone"), (0, u "()Ljava/lang/Object;")] 26

def k0c0 : Code := { maxStack := 0, maxLocals := 1, code := object_method_1_code, exceptionTable := #[], attributes := #[] }
def k0m0 : Method := { name := "<init>", desc := "()V", sig := { parameters := [], returnType := none }, accessFlags := 1, code := some k0c0 }
def k0m1 : Method := { name := "clone", desc := "()Ljava/lang/Object;", sig := { parameters := [], returnType := some (.object "java/lang/Object") }, accessFlags := 260, code := none }
/-- java/lang/Object -/
def k0 : Class := { plain "java/lang/Object" none with
  accessFlags := 33
  interfaces := #[]
  cf := some (fileOf pool0 8 #[] #[{ accessFlags := 1, nameIndex := 5, descriptorIndex := 6, attributes := #[] }, { accessFlags := 260, nameIndex := 96, descriptorIndex := 97, attributes := #[] }] 33 0 #[] #[])
  fields := #[]
  methods := #[k0m0, k0m1]
  instanceTypes := #[]
  staticTypes := #[]
  resolved := Array.replicate 124 none
  statics := none }

def pool1 : Array CpInfo := pool [(2, .class_ 4), (1, u "java/lang/Object"), (0, u "<init>"), (0, u "()V"), (0, .long 18446744073709551615), (1, .methodref 10 11), (0, .class_ 12), (0, .nameAndType 13 14), (0, u "com/example/vestalia/vestalia/explorer/StatePackingUnpackPinLaw"), (0, u "maskOf"), (0, u "(I)J"), (0, .class_ 16), (0, u "com/example/vestalia/vestalia/explorer/StatePacking"), (0, .methodref 15 18), (0, .nameAndType 5 19), (0, u "([J[J)V"), (0, .methodref 15 21), (0, .nameAndType 22 23), (0, u "unpack"), (0, u "([JI[J)V"), (3, u "law"), (0, u "(JJIJJJ)Z")] 4

def k1m0 : Method := { name := "<init>", desc := "()V", sig := { parameters := [], returnType := none }, accessFlags := 1, code := none }
def k1c1 : Code := { maxStack := 4, maxLocals := 1, code := method_2_code, exceptionTable := #[], attributes := #[] }
def k1m1 : Method := { name := "maskOf", desc := "(I)J", sig := { parameters := [.int], returnType := some .long }, accessFlags := 10, code := some k1c1 }
def k1c2 : Code := { maxStack := 7, maxLocals := 29, code := code, exceptionTable := #[], attributes := #[] }
def k1m2 : Method := { name := "law", desc := "(JJIJJJ)Z", sig := { parameters := [.long, .long, .int, .long, .long, .long], returnType := some .boolean }, accessFlags := 9, code := some k1c2 }
/-- com/example/vestalia/vestalia/explorer/StatePackingUnpackPinLaw -/
def k1 : Class := { plain "com/example/vestalia/vestalia/explorer/StatePackingUnpackPinLaw" (some 0) with
  accessFlags := 49
  interfaces := #[]
  cf := some (fileOf pool1 10 #[] #[{ accessFlags := 1, nameIndex := 5, descriptorIndex := 6, attributes := #[] }, { accessFlags := 10, nameIndex := 13, descriptorIndex := 14, attributes := #[] }, { accessFlags := 9, nameIndex := 27, descriptorIndex := 28, attributes := #[] }] 49 2 #[] #[])
  fields := #[]
  methods := #[k1m0, k1m1, k1m2]
  instanceTypes := #[]
  staticTypes := #[]
  resolved := Array.replicate 33 none
  statics := none }

def pool2 : Array CpInfo := pool [(1, .methodref 2 3), (0, .class_ 4), (0, .nameAndType 5 6), (0, u "java/lang/Object"), (0, u "<init>"), (0, u "()V"), (0, .methodref 8 9), (0, .class_ 10), (0, .nameAndType 11 12), (0, u "[J"), (0, u "clone"), (0, u "()Ljava/lang/Object;"), (0, .fieldref 14 15), (0, .class_ 16), (0, .nameAndType 17 10), (0, u "com/example/vestalia/vestalia/explorer/StatePacking"), (0, u "least"), (0, .fieldref 14 19), (0, .nameAndType 20 21), (0, u "word"), (0, u "[I"), (0, .fieldref 14 23), (0, .nameAndType 24 21), (0, u "shift"), (0, .fieldref 14 26), (0, .nameAndType 27 10), (0, u "mask"), (0, .class_ 29), (0, u "java/lang/Long"), (0, .methodref 28 31), (0, .nameAndType 32 33), (0, u "numberOfLeadingZeros"), (0, u "(J)I"), (0, .long 18446744073709551615), (1, .fieldref 14 37), (0, .nameAndType 38 39), (0, u "words"), (0, u "I"), (4, u "([J[J)V"), (6, u "unpack"), (0, u "([JI[J)V")] 2

def k2c0 : Code := { maxStack := 6, maxLocals := 7, code := prog_18_method_1_code, exceptionTable := #[], attributes := #[] }
def k2m0 : Method := { name := "<init>", desc := "([J[J)V", sig := { parameters := [(.array .long), (.array .long)], returnType := none }, accessFlags := 0, code := some k2c0 }
def k2c1 : Code := { maxStack := 8, maxLocals := 5, code := prog_18_method_4_code, exceptionTable := #[], attributes := #[] }
def k2m1 : Method := { name := "unpack", desc := "([JI[J)V", sig := { parameters := [(.array .long), .int, (.array .long)], returnType := none }, accessFlags := 0, code := some k2c1 }
/-- com/example/vestalia/vestalia/explorer/StatePacking -/
def k2 : Class := { plain "com/example/vestalia/vestalia/explorer/StatePacking" (some 0) with
  accessFlags := 48
  interfaces := #[]
  cf := some (fileOf pool2 14 #[] #[{ accessFlags := 0, nameIndex := 5, descriptorIndex := 44, attributes := #[] }, { accessFlags := 0, nameIndex := 51, descriptorIndex := 52, attributes := #[] }] 48 2 #[] #[{ accessFlags := 18, nameIndex := 17, descriptorIndex := 10, attributes := #[] }, { accessFlags := 18, nameIndex := 20, descriptorIndex := 21, attributes := #[] }, { accessFlags := 18, nameIndex := 24, descriptorIndex := 21, attributes := #[] }, { accessFlags := 18, nameIndex := 27, descriptorIndex := 10, attributes := #[] }, { accessFlags := 18, nameIndex := 38, descriptorIndex := 39, attributes := #[] }])
  fields := #[{ name := "least", type := (.array .long), accessFlags := 18, slot := 0, constantValue := 0 }, { name := "word", type := (.array .int), accessFlags := 18, slot := 1, constantValue := 0 }, { name := "shift", type := (.array .int), accessFlags := 18, slot := 2, constantValue := 0 }, { name := "mask", type := (.array .long), accessFlags := 18, slot := 3, constantValue := 0 }, { name := "words", type := .int, accessFlags := 18, slot := 4, constantValue := 0 }]
  methods := #[k2m0, k2m1]
  instanceTypes := #[(.array .long), (.array .int), (.array .int), (.array .long), .int]
  staticTypes := #[]
  resolved := Array.replicate 55 none
  statics := none }

def pool3 : Array CpInfo := pool [(1, .class_ 2), (0, u "java/lang/Cloneable"), (0, .class_ 4), (0, u "java/lang/Object")] 2

/-- java/lang/Cloneable -/
def k3 : Class := { plain "java/lang/Cloneable" (some 0) with
  accessFlags := 1537
  interfaces := #[]
  cf := some (fileOf pool3 1 #[] #[] 1537 3 #[] #[])
  fields := #[]
  methods := #[]
  instanceTypes := #[]
  staticTypes := #[]
  resolved := Array.replicate 7 none
  statics := none }

def pool4 : Array CpInfo := pool [(1, .class_ 2), (0, u "java/io/Serializable"), (0, .class_ 4), (0, u "java/lang/Object")] 2

/-- java/io/Serializable -/
def k4 : Class := { plain "java/io/Serializable" (some 0) with
  accessFlags := 1537
  interfaces := #[]
  cf := some (fileOf pool4 1 #[] #[] 1537 3 #[] #[])
  fields := #[]
  methods := #[]
  instanceTypes := #[]
  staticTypes := #[]
  resolved := Array.replicate 7 none
  statics := none }

def pool5 : Array CpInfo := pool [(2, .class_ 4), (1, u "java/lang/Object"), (0, u "<init>"), (0, u "()V"), (1, .class_ 10), (1, u "java/lang/Number"), (2, .class_ 14), (0, u "java/io/Serializable"), (0, u "serialVersionUID"), (0, u "J")] 20

def k5m0 : Method := { name := "<init>", desc := "()V", sig := { parameters := [], returnType := none }, accessFlags := 1, code := none }
/-- java/lang/Number -/
def k5 : Class := { plain "java/lang/Number" (some 0) with
  accessFlags := 1057
  interfaces := #[4]
  cf := some (fileOf pool5 8 #[] #[{ accessFlags := 1, nameIndex := 5, descriptorIndex := 6, attributes := #[] }] 1057 2 #[13] #[{ accessFlags := 26, nameIndex := 15, descriptorIndex := 16, attributes := #[] }])
  fields := #[{ name := "serialVersionUID", type := .long, accessFlags := 26, slot := 0, constantValue := 0 }]
  methods := #[k5m0]
  instanceTypes := #[]
  staticTypes := #[.long]
  resolved := Array.replicate 37 none
  statics := none }

def pool6 : Array CpInfo := pool [(1, .class_ 2), (0, u "java/lang/Comparable"), (0, .class_ 4), (0, u "java/lang/Object")] 7

/-- java/lang/Comparable -/
def k6 : Class := { plain "java/lang/Comparable" (some 0) with
  accessFlags := 1537
  interfaces := #[]
  cf := some (fileOf pool6 1 #[] #[] 1537 3 #[] #[])
  fields := #[]
  methods := #[]
  instanceTypes := #[]
  staticTypes := #[]
  resolved := Array.replicate 12 none
  statics := none }

def pool7 : Array CpInfo := pool [(1, .class_ 2), (0, u "java/lang/constant/Constable"), (0, .class_ 4), (0, u "java/lang/Object")] 6

/-- java/lang/constant/Constable -/
def k7 : Class := { plain "java/lang/constant/Constable" (some 0) with
  accessFlags := 1537
  interfaces := #[]
  cf := some (fileOf pool7 1 #[] #[] 1537 3 #[] #[])
  fields := #[]
  methods := #[]
  instanceTypes := #[]
  staticTypes := #[]
  resolved := Array.replicate 11 none
  statics := none }

def pool8 : Array CpInfo := pool [(1, .class_ 2), (0, u "java/lang/constant/ConstantDesc"), (0, .class_ 4), (0, u "java/lang/Object")] 32

/-- java/lang/constant/ConstantDesc -/
def k8 : Class := { plain "java/lang/constant/ConstantDesc" (some 0) with
  accessFlags := 1537
  interfaces := #[]
  cf := some (fileOf pool8 1 #[] #[] 1537 3 #[] #[])
  fields := #[]
  methods := #[]
  instanceTypes := #[]
  staticTypes := #[]
  resolved := Array.replicate 37 none
  statics := none }

def pool9 : Array CpInfo := pool [(1, .class_ 2), (0, u "java/lang/Long"), (15, .class_ 20), (1, u "java/lang/Integer"), (79, u "numberOfLeadingZeros"), (0, u "(J)I"), (133, .class_ 237), (1, u "java/lang/Long$LongCache"), (33, .class_ 272), (0, u "java/lang/Number"), (2, u "value"), (0, u "J"), (31, .methodref 18 309), (0, .nameAndType 100 310), (0, u "(I)I"), (50, u "TYPE"), (0, u "Ljava/lang/Class;"), (0, .class_ 364), (0, u "java/lang/Comparable"), (0, .class_ 366), (0, u "java/lang/constant/Constable"), (0, .class_ 368), (0, u "java/lang/constant/ConstantDesc"), (0, u "MIN_VALUE"), (1, u "MAX_VALUE"), (4, u "SIZE"), (0, u "I"), (1, u "BYTES"), (1, u "serialVersionUID")] 142

def k9c0 : Code := { maxStack := 3, maxLocals := 3, code := jdk_35_method_48_code, exceptionTable := #[], attributes := #[] }
def k9m0 : Method := { name := "numberOfLeadingZeros", desc := "(J)I", sig := { parameters := [.long], returnType := some .int }, accessFlags := 9, code := some k9c0 }
/-- java/lang/Long -/
def k9 : Class := { plain "java/lang/Long" (some 5) with
  accessFlags := 49
  interfaces := #[6, 7, 8]
  cf := some (fileOf pool9 1 #[.nestMembers #[235]] #[{ accessFlags := 9, nameIndex := 100, descriptorIndex := 101, attributes := #[] }] 49 271 #[363, 365, 367] #[{ accessFlags := 25, nameIndex := 369, descriptorIndex := 276, attributes := #[] }, { accessFlags := 25, nameIndex := 371, descriptorIndex := 276, attributes := #[] }, { accessFlags := 25, nameIndex := 361, descriptorIndex := 362, attributes := #[] }, { accessFlags := 18, nameIndex := 275, descriptorIndex := 276, attributes := #[] }, { accessFlags := 25, nameIndex := 376, descriptorIndex := 377, attributes := #[] }, { accessFlags := 25, nameIndex := 379, descriptorIndex := 377, attributes := #[] }, { accessFlags := 26, nameIndex := 381, descriptorIndex := 276, attributes := #[] }])
  fields := #[{ name := "MIN_VALUE", type := .long, accessFlags := 25, slot := 0, constantValue := 0 }, { name := "MAX_VALUE", type := .long, accessFlags := 25, slot := 1, constantValue := 0 }, { name := "TYPE", type := (.object "java/lang/Class"), accessFlags := 25, slot := 2, constantValue := 0 }, { name := "value", type := .long, accessFlags := 18, slot := 0, constantValue := 0 }, { name := "SIZE", type := .int, accessFlags := 25, slot := 3, constantValue := 0 }, { name := "BYTES", type := .int, accessFlags := 25, slot := 4, constantValue := 0 }, { name := "serialVersionUID", type := .long, accessFlags := 26, slot := 5, constantValue := 0 }]
  methods := #[k9m0]
  instanceTypes := #[.long]
  staticTypes := #[.long, .long, (.object "java/lang/Class"), .int, .int, .long]
  resolved := Array.replicate 524 none
  statics := none }

def pool10 : Array CpInfo := pool [(1, .class_ 2), (0, u "java/lang/Integer"), (16, u "digits"), (0, u "[C"), (32, u "numberOfLeadingZeros"), (0, u "(I)I"), (30, u "DigitOnes"), (0, u "[B"), (2, u "DigitTens"), (99, .class_ 190), (0, u "java/lang/Integer$IntegerCache"), (3, u "I"), (8, .class_ 204), (0, u "java/lang/Number"), (2, u "value"), (56, .integer 65536), (37, u "TYPE"), (0, u "Ljava/lang/Class;"), (0, .class_ 305), (0, u "java/lang/Comparable"), (0, .class_ 307), (0, u "java/lang/constant/Constable"), (0, .class_ 309), (0, u "java/lang/constant/ConstantDesc"), (0, u "MIN_VALUE"), (1, u "MAX_VALUE"), (3, u "SIZE"), (1, u "BYTES"), (1, u "serialVersionUID"), (0, u "J")] 131

def k10c0 : Code := { maxStack := 3, maxLocals := 2, code := jdk_33_method_47_code, exceptionTable := #[], attributes := #[] }
def k10m0 : Method := { name := "numberOfLeadingZeros", desc := "(I)I", sig := { parameters := [.int], returnType := some .int }, accessFlags := 9, code := some k10c0 }
/-- java/lang/Integer -/
def k10 : Class := { plain "java/lang/Integer" (some 5) with
  accessFlags := 49
  interfaces := #[6, 7, 8]
  cf := some (fileOf pool10 1 #[.nestMembers #[189]] #[{ accessFlags := 9, nameIndex := 53, descriptorIndex := 54, attributes := #[] }] 49 203 #[304, 306, 308] #[{ accessFlags := 25, nameIndex := 310, descriptorIndex := 194, attributes := #[] }, { accessFlags := 25, nameIndex := 312, descriptorIndex := 194, attributes := #[] }, { accessFlags := 25, nameIndex := 302, descriptorIndex := 303, attributes := #[] }, { accessFlags := 24, nameIndex := 19, descriptorIndex := 20, attributes := #[] }, { accessFlags := 24, nameIndex := 89, descriptorIndex := 86, attributes := #[] }, { accessFlags := 24, nameIndex := 85, descriptorIndex := 86, attributes := #[] }, { accessFlags := 18, nameIndex := 207, descriptorIndex := 194, attributes := #[] }, { accessFlags := 25, nameIndex := 316, descriptorIndex := 194, attributes := #[] }, { accessFlags := 25, nameIndex := 318, descriptorIndex := 194, attributes := #[] }, { accessFlags := 26, nameIndex := 320, descriptorIndex := 321, attributes := #[] }])
  fields := #[{ name := "MIN_VALUE", type := .int, accessFlags := 25, slot := 0, constantValue := 0 }, { name := "MAX_VALUE", type := .int, accessFlags := 25, slot := 1, constantValue := 0 }, { name := "TYPE", type := (.object "java/lang/Class"), accessFlags := 25, slot := 2, constantValue := 0 }, { name := "digits", type := (.array .char), accessFlags := 24, slot := 3, constantValue := 0 }, { name := "DigitTens", type := (.array .byte), accessFlags := 24, slot := 4, constantValue := 0 }, { name := "DigitOnes", type := (.array .byte), accessFlags := 24, slot := 5, constantValue := 0 }, { name := "value", type := .int, accessFlags := 18, slot := 0, constantValue := 0 }, { name := "SIZE", type := .int, accessFlags := 25, slot := 6, constantValue := 0 }, { name := "BYTES", type := .int, accessFlags := 25, slot := 7, constantValue := 0 }, { name := "serialVersionUID", type := .long, accessFlags := 26, slot := 8, constantValue := 0 }]
  methods := #[k10m0]
  instanceTypes := #[.int]
  staticTypes := #[.int, .int, (.object "java/lang/Class"), (.array .char), (.array .byte), (.array .byte), .int, .int, .long]
  resolved := Array.replicate 453 none
  statics := none }

/-- the primitive byte -/
def k11 : Class := { plain "byte" none with kind := .primitive 'B', accessFlags := 0x411 }
/-- [B -/
def k12 : Class := { plain "[B" (some 0) with kind := .array 11 .byte, interfaces := #[3, 4], accessFlags := 1041 }

/-- the primitive int -/
def k13 : Class := { plain "int" none with kind := .primitive 'I', accessFlags := 0x411 }
/-- [I -/
def k14 : Class := { plain "[I" (some 0) with kind := .array 13 .int, interfaces := #[3, 4], accessFlags := 1041 }

/-- the primitive long -/
def k15 : Class := { plain "long" none with kind := .primitive 'J', accessFlags := 0x411 }
/-- [J -/
def k16 : Class := { plain "[J" (some 0) with kind := .array 15 .long, interfaces := #[3, 4], accessFlags := 1041 }

def heap : Heap := #[]
def classes : Array Class := #[k0, k1, k2, k3, k4, k5, k6, k7, k8, k9, k10, k11, k12, k13, k14, k15, k16]
def interned : List (Array UInt16 × Addr) := []
def slotsUsed : Nat := 0
def theMethod : MethodId := ⟨1, 2⟩
def args0 : Array Value := #[.long 5, .long 6, .int 7, .long 8, .long 9, .long 10]
def aboutOver (below : List Frame) : State where
  vm := { classes := classes, interned := interned.toArray }
  heap := heap
  slotsUsed := slotsUsed
  threads := #[{ frames := .invoking theMethod args0 :: below }]
def below0 : List Frame := [.native { method := ⟨0, 0⟩, args := #[] }]
def about1 : State := aboutOver below0
def p0 : Program := .bare "" "" ""
def e0 : Env := launch0.env 0 0 0
theorem w_frames : about1.frames = Frame.invoking theMethod args0 :: below0 := rfl
set_option maxRecDepth 65536 in
theorem w_args : argsFit about1.vm theMethod args0 = true := by decide +kernel
set_option maxRecDepth 65536 in
theorem w_heap : heapFits about1 = true := by decide +kernel
set_option maxRecDepth 65536 in
theorem w_runnable : about1.curStatus? = some .runnable := by decide +kernel
set_option maxRecDepth 65536 in
theorem w_alone : about1.alone = true := by decide +kernel
set_option maxRecDepth 65536 in
theorem w_named : about1.methodNamed? x = some theMethod := by decide +kernel
set_option maxRecDepth 65536 in
theorem w_hears : about1.hears theMethod below0 = true := by decide +kernel
set_option maxRecDepth 65536 in
theorem w_ripe : about1.ripe theMethod args0 below0 = true := by decide +kernel
theorem w_running : about1.status = .running := rfl
set_option maxRecDepth 65536 in
theorem w_room : about1.hasRoom e0.platform room_1 = true :=
  launch0.hasRoom_least _ room_1 (by decide +kernel) (by decide +kernel) (by decide +kernel) (by decide +kernel) (by decide +kernel) (by decide +kernel)
theorem allAtoms_all (ts : List Jvm.Cond) (a : Array Jvm.Value) (st : Jvm.State) : (allAtoms ts).before a st = ts.all (fun c => c.before a st) := by
  induction ts with
  | nil => rfl
  | cons c t ih =>
    show (Jvm.Cond.and c (allAtoms t)).before a st = _
    rw [Jvm.Cond.before_and, ih, List.all_cons]
def words1 : List Jvm.Cond := Jvm.Cond.code x code maxLocals ret :: tables_1
/-- a 'code' word, met by the world's own term for the bytes: nothing is compared byte by byte -/
theorem code_word {y : MethodName} {bytes : ByteArray} {mx : Nat} {rt : Option FieldType} {a : Array Value} {s : State} {m : MethodId} {meth : Method} {c : Code} (h1 : s.methodNamed? y = some m) (h2 : s.vm.method? m = some meth) (h3 : meth.code = some c) (h4 : c.code = bytes)
    (h5 : (c.maxLocals == mx && c.exceptionTable.isEmpty && decide (c.maxStack ≤ mostOperands) && decide (meth.sig.returnType = rt) && !meth.locks && decide (parseMethodDescriptor y.desc = some meth.sig)) = true) : (Jvm.Cond.code y bytes mx rt).before a s = true := by
  simp only [Bool.and_eq_true, beq_iff_eq, Bool.not_eq_true', decide_eq_true_eq] at h5
  obtain ⟨⟨⟨⟨⟨g1, g2⟩, g3⟩, g4⟩, g5⟩, g6⟩ := h5
  simp [Cond.before, Cond.holds, Cond.value, h1, h2, h3, h4, g1, g2, g3, g4, g5, g6]
def isCode : Jvm.Cond → Bool
  | .code _ _ _ _ => true
  | _ => false
theorem all_split {L : List Jvm.Cond} {P : Jvm.Cond → Bool} (h1 : L.all (fun c => isCode c || P c) = true) (h2 : ∀ c ∈ L.filter isCode, P c = true) : L.all P = true := by
  refine List.all_eq_true.mpr fun c hc => ?_
  have h := List.all_eq_true.mp h1 c hc
  rcases Bool.eq_false_or_eq_true (isCode c) with hi | hi
  · exact h2 c (List.mem_filter.mpr ⟨hc, hi⟩)
  · simpa [hi] using h
set_option maxRecDepth 65536 in
theorem w_c0 : (Jvm.Cond.code x code maxLocals ret).before args0 about1 = true := code_word (m := ⟨1, 2⟩) (meth := k1m2) (c := k1c2) (by decide +kernel) rfl rfl rfl (by decide +kernel)
set_option maxRecDepth 65536 in
theorem w_c1 : (Jvm.Cond.code ({ cls := "com/example/vestalia/vestalia/explorer/StatePackingUnpackPinLaw", name := "maskOf", desc := "(I)J" } : Jvm.MethodName) method_2_code (1 : Nat) (Option.some Jvm.ClassFile.FieldType.long)).before args0 about1 = true := code_word (m := ⟨1, 1⟩) (meth := k1m1) (c := k1c1) (by decide +kernel) rfl rfl rfl (by decide +kernel)
set_option maxRecDepth 65536 in
theorem w_c2 : (Jvm.Cond.code ({ cls := "com/example/vestalia/vestalia/explorer/StatePacking", name := "<init>", desc := "([J[J)V" } : Jvm.MethodName) prog_18_method_1_code (7 : Nat) (Option.none : Option Jvm.ClassFile.FieldType)).before args0 about1 = true := code_word (m := ⟨2, 0⟩) (meth := k2m0) (c := k2c0) (by decide +kernel) rfl rfl rfl (by decide +kernel)
set_option maxRecDepth 65536 in
theorem w_c3 : (Jvm.Cond.code ({ cls := "java/lang/Object", name := "<init>", desc := "()V" } : Jvm.MethodName) object_method_1_code (1 : Nat) (Option.none : Option Jvm.ClassFile.FieldType)).before args0 about1 = true := code_word (m := ⟨0, 0⟩) (meth := k0m0) (c := k0c0) (by decide +kernel) rfl rfl rfl (by decide +kernel)
set_option maxRecDepth 65536 in
theorem w_c4 : (Jvm.Cond.code ({ cls := "java/lang/Long", name := "numberOfLeadingZeros", desc := "(J)I" } : Jvm.MethodName) jdk_35_method_48_code (3 : Nat) (Option.some Jvm.ClassFile.FieldType.int)).before args0 about1 = true := code_word (m := ⟨9, 0⟩) (meth := k9m0) (c := k9c0) (by decide +kernel) rfl rfl rfl (by decide +kernel)
set_option maxRecDepth 65536 in
theorem w_c5 : (Jvm.Cond.code ({ cls := "java/lang/Integer", name := "numberOfLeadingZeros", desc := "(I)I" } : Jvm.MethodName) jdk_33_method_47_code (2 : Nat) (Option.some Jvm.ClassFile.FieldType.int)).before args0 about1 = true := code_word (m := ⟨10, 0⟩) (meth := k10m0) (c := k10c0) (by decide +kernel) rfl rfl rfl (by decide +kernel)
set_option maxRecDepth 65536 in
theorem w_c6 : (Jvm.Cond.code ({ cls := "com/example/vestalia/vestalia/explorer/StatePacking", name := "unpack", desc := "([JI[J)V" } : Jvm.MethodName) prog_18_method_4_code (5 : Nat) (Option.none : Option Jvm.ClassFile.FieldType)).before args0 about1 = true := code_word (m := ⟨2, 1⟩) (meth := k2m1) (c := k2c1) (by decide +kernel) rfl rfl rfl (by decide +kernel)
def codes1 : List Jvm.Cond := [Jvm.Cond.code x code maxLocals ret, Jvm.Cond.code ({ cls := "com/example/vestalia/vestalia/explorer/StatePackingUnpackPinLaw", name := "maskOf", desc := "(I)J" } : Jvm.MethodName) method_2_code (1 : Nat) (Option.some Jvm.ClassFile.FieldType.long), Jvm.Cond.code ({ cls := "com/example/vestalia/vestalia/explorer/StatePacking", name := "<init>", desc := "([J[J)V" } : Jvm.MethodName) prog_18_method_1_code (7 : Nat) (Option.none : Option Jvm.ClassFile.FieldType), Jvm.Cond.code ({ cls := "java/lang/Object", name := "<init>", desc := "()V" } : Jvm.MethodName) object_method_1_code (1 : Nat) (Option.none : Option Jvm.ClassFile.FieldType), Jvm.Cond.code ({ cls := "java/lang/Long", name := "numberOfLeadingZeros", desc := "(J)I" } : Jvm.MethodName) jdk_35_method_48_code (3 : Nat) (Option.some Jvm.ClassFile.FieldType.int), Jvm.Cond.code ({ cls := "java/lang/Integer", name := "numberOfLeadingZeros", desc := "(I)I" } : Jvm.MethodName) jdk_33_method_47_code (2 : Nat) (Option.some Jvm.ClassFile.FieldType.int), Jvm.Cond.code ({ cls := "com/example/vestalia/vestalia/explorer/StatePacking", name := "unpack", desc := "([JI[J)V" } : Jvm.MethodName) prog_18_method_4_code (5 : Nat) (Option.none : Option Jvm.ClassFile.FieldType)]
set_option maxRecDepth 65536 in
theorem codes_eq : words1.filter isCode = codes1 := rfl
theorem w_codes : ∀ c ∈ words1.filter isCode, c.before args0 about1 = true := by
  rw [codes_eq]
  intro c hc
  simp only [codes1, List.mem_cons, List.not_mem_nil, or_false] at hc
  rcases hc with rfl | rfl | rfl | rfl | rfl | rfl | rfl
  · exact w_c0
  · exact w_c1
  · exact w_c2
  · exact w_c3
  · exact w_c4
  · exact w_c5
  · exact w_c6
set_option maxRecDepth 65536 in
theorem w_t1 : (words1.take 24).all (fun c => isCode c || c.before args0 about1) = true := by decide +kernel
set_option maxRecDepth 65536 in
theorem w_t2 : ((words1.drop 24).take 24).all (fun c => isCode c || c.before args0 about1) = true := by decide +kernel
set_option maxRecDepth 65536 in
theorem w_t3 : ((words1.drop 24).drop 24).all (fun c => isCode c || c.before args0 about1) = true := by decide +kernel
theorem w_tables : (allAtoms (Jvm.Cond.code x code maxLocals ret :: tables_1)).before args0 about1 = true := by
  rw [allAtoms_all]
  show words1.all (fun c => c.before args0 about1) = true
  refine all_split ?_ w_codes
  rw [← List.take_append_drop 24 words1, List.all_append, w_t1, ← List.take_append_drop 24 (words1.drop 24), List.all_append, w_t2, w_t3]
  rfl
set_option maxRecDepth 65536 in
theorem w_case : (Jvm.Cond.and given_1 narrow_1).before args0 about1 = true := by decide +kernel
theorem w_applies : (headSpec (Jvm.Cond.code x code maxLocals ret :: tables_1) room_1).applies x e0.platform about1 = true :=
  (Spec.applies_iff w_frames).mpr ⟨w_running, w_runnable, w_alone, w_named, w_hears, w_ripe, w_room, w_tables⟩
theorem atStart : AtStart classFile x code maxLocals ret World_1 tables_1 room_1 Calls_1 rest_1 Pre_1 launch0 p0 e0 about1 theMethod args0 below0 :=
  ⟨lists_1, trivial, launch0.admits_env _ _ _, launch0.least_env, fairChoices_fair.cas, fairChoices_fair.clock, w_frames, w_args, w_heap, w_applies, trivial, trivial, w_case⟩
end start1
theorem witness_1 : WitnessClaimed_1 := ⟨start1.p0, start1.e0, start1.about1, start1.theMethod, start1.args0, start1.below0, start1.atStart⟩
end Jvm.Pilot.@@N@@
