import JvmDerived
import JvmDerived.Pilot.@@N@@Statement
import JvmDerived.Pilot.@@N@@Code
set_option linter.unusedVariables false
set_option linter.unusedSimpArgs false
namespace Jvm.OwnKit
open Jvm Jvm.ClassFile Sem Op Lib Jvm.Stand Jvm.Free Jvm.LawKit Jvm.RoadKit
/-! A small calculus of my own over the library's laws: Go says 'from here the body comes to its end, and what it leaves satisfies Q'. -/
abbrev Bod : Type := Program × Launch × Env × Room × State × MethodId × Array Value × List Frame × Method × Code
abbrev Bod.p (B : Bod) : Program := B.1
abbrev Bod.l (B : Bod) : Launch := B.2.1
abbrev Bod.e (B : Bod) : Env := B.2.2.1
abbrev Bod.R (B : Bod) : Room := B.2.2.2.1
abbrev Bod.s (B : Bod) : State := B.2.2.2.2.1
abbrev Bod.m (B : Bod) : MethodId := B.2.2.2.2.2.1
abbrev Bod.args (B : Bod) : Array Value := B.2.2.2.2.2.2.1
abbrev Bod.below (B : Bod) : List Frame := B.2.2.2.2.2.2.2.1
abbrev Bod.meth (B : Bod) : Method := B.2.2.2.2.2.2.2.2.1
abbrev Bod.c (B : Bod) : Code := B.2.2.2.2.2.2.2.2.2
abbrev St (B : Bod) (T : State) (locs : List Loc) (k n : Nat) : Prop := Stand B.p B.l B.e B.R B.s B.m B.args B.below B.meth B.c T locs k n
def Fin0 (B : Bod) (n0 : Nat) (Q : Option Value → Heap → Prop) (g : JFrame) (T : State) : Prop :=
  ∃ t o, Steps B.p.tables B.e B.below (T.setTop g) t ∧ t.status = .running ∧ Ended t B.below o ∧ ∃ v L, o = .returned v ∧ (Fr n0 L ∧ Q v t.heap) ∧ FrameEnd B.s o t L B.R.cells B.R.slots
def Go (B : Bod) (n0 : Nat) (Q : Option Value → Heap → Prop) (h : Heap) (k n pc : Nat) (L : Array Slot) (st : List Value) : Prop :=
  ∀ T locs, St B T locs k n → Fr n0 locs → T.heap = h → Fin0 B n0 Q (mkF B.m pc L st) T
def Ctx (B : Bod) (l : Launch) (rm : Room) (bytes : ByteArray) (own nm : String) (maxL : Nat) (ret : Option FieldType) (Z : State) : Prop :=
  B.l = l ∧ B.R = rm ∧ B.p.tables.exec = Jvm.exec ∧ B.c.code = bytes ∧ Z.Warmed39 B.s.vm ∧ B.s.vm.findClass own = some B.m.cls ∧ B.meth.name = nm ∧ B.c.maxLocals = maxL ∧ B.meth.sig.returnType = ret ∧ B.meth.locks = false
/-- a method's contract: called with these arguments over this heap it returns, and Q holds of what it returns and of the heap it leaves -/
def Met1 (l : Launch) (Z : State) (y : MethodName) (bytes : ByteArray) (maxL : Nat) (ret : Option FieldType) (rm : Room) (n0 : Nat) (as' : Array Value) (h0 : Heap) (Q : Option Value → Heap → Prop) : Prop :=
  ∀ ws : List Jvm.Cond, MetFree l y (head1 (Jvm.Cond.code y bytes maxL ret :: ws) rm) (fun a U => a = as' ∧ Z.Warmed39 U.vm ∧ U.heap = h0) (fun _ _ _ _ _ => True) (fun _ U o U' => ∃ v L, o = .returned v ∧ (Fr n0 L ∧ Q v U'.heap) ∧ FrameEnd U o U' L rm.cells rm.slots)
section Base
variable {B : Bod} {l : Launch} {rm : Room} {bytes : ByteArray} {own nm : String} {maxL : Nat} {ret : Option FieldType} {Z : State} {n0 : Nat} {Q : Option Value → Heap → Prop} {h : Heap} {k n pc pc' : Nat} {L L' : Array Slot} {st st' : List Value} {a0 : Array Value}
theorem met_of {y : MethodName} {as' : Array Value} (hp : plainFor y = true) {L0 : Array Slot} (hL : argsToLocals as' maxL = L0) (go : ∀ B : Bod, Ctx B l rm bytes y.cls y.name maxL ret Z → Go B n0 Q h 0 0 0 L0 []) : Met1 l Z y bytes maxL ret rm n0 as' h Q := by
  intro ws
  refine MetFree.of_bodySF hp hisR ?_
  intro p e s m args below meth c s₁ Bd hml0 hP hK
  obtain ⟨rfl, hZ, hh⟩ := hP
  subst hL
  obtain ⟨t, o, h1, h2, h3, v, L, h4, h5, h6⟩ := go (p, l, e, rm, s, m, args, below, meth, c) ⟨rfl, rfl, Bd.exec, Bd.bytes, hZ, findClass_of_methodNamed Bd.named, (name_of_methodNamed Bd.named Bd.method).1, hml0, Bd.returns, BodyLoose.notSynchronized Bd⟩ s₁ [] (Stand.of_body Bd) (Fr.nil n0) (by rw [← hh, Bd.state]; rfl)
  exact ⟨t, o, h1, h2, h3, v, L, h4, h5, h6⟩
/-- a step that moves the frame alone -/
theorem Go.step (f : ∀ T locs, St B T locs k n → T.heap = h → ∀ t, Steps B.p.tables B.e B.below (T.setTop (mkF B.m pc' L' st')) t → Steps B.p.tables B.e B.below (T.setTop (mkF B.m pc L st)) t) (go : Go B n0 Q h k n pc' L' st') : Go B n0 Q h k n pc L st := fun T locs X N eT => by
  obtain ⟨t, o, a, r⟩ := go T locs X N eT
  exact ⟨t, o, f T locs X eT t a, r⟩
/-- a step that moves the tables too -/
theorem Go.move (f : ∀ T locs, St B T locs k n → T.heap = h → ∃ T', St B T' locs k n ∧ T'.heap = h ∧ ∀ t, Steps B.p.tables B.e B.below (T'.setTop (mkF B.m pc' L' st')) t → Steps B.p.tables B.e B.below (T.setTop (mkF B.m pc L st)) t) (go : Go B n0 Q h k n pc' L' st') : Go B n0 Q h k n pc L st := fun T locs X N eT => by
  obtain ⟨T', X', e', f'⟩ := f T locs X eT
  obtain ⟨t, o, a, r⟩ := go T' locs X' N e'
  exact ⟨t, o, f' t a, r⟩
theorem Go.eqs {st2 : List Value} (go : Go B n0 Q h k n pc L st2) (e : st = st2) : Go B n0 Q h k n pc L st := e ▸ go
theorem Go.eqh {h2 : Heap} (go : Go B n0 Q h2 k n pc L st) (e : h = h2) : Go B n0 Q h k n pc L st := e ▸ go
theorem g_iload_n (C : Ctx B l rm bytes own nm maxL ret Z) {i : Fin 4} {v : Int32} (hd : decode bytes pc = .ok (.iload_n i, 1)) (hl : L[i.val]? = some (.val (.int v))) (hpc : pc + 1 = pc') (go : Go B n0 Q h k n pc' L (.int v :: st)) : Go B n0 Q h k n pc L st := go.step fun T locs X eT t q => Jvm.Free.XS.iloadN X.here C.2.2.1 rfl (hb C.2.2.2.1 hd) hl (by subst hpc; exact q)
theorem g_iload (C : Ctx B l rm bytes own nm maxL ret Z) {i : Nat} {v : Int32} (hd : decode bytes pc = .ok (.iload i, 2)) (hl : L[i]? = some (.val (.int v))) (hpc : pc + 2 = pc') (go : Go B n0 Q h k n pc' L (.int v :: st)) : Go B n0 Q h k n pc L st := go.step fun T locs X eT t q => Jvm.Free.XS.iload X.here C.2.2.1 rfl (hb C.2.2.2.1 hd) hl (by subst hpc; exact q)
theorem g_lload_n (C : Ctx B l rm bytes own nm maxL ret Z) {i : Fin 4} {v : Int64} (hd : decode bytes pc = .ok (.lload_n i, 1)) (hl : L[i.val]? = some (.val (.long v))) (hpc : pc + 1 = pc') (go : Go B n0 Q h k n pc' L (.long v :: st)) : Go B n0 Q h k n pc L st := go.step fun T locs X eT t q => Jvm.Free.XT.lloadN X.here C.2.2.1 rfl (hb C.2.2.2.1 hd) hl (by subst hpc; exact q)
theorem g_lload (C : Ctx B l rm bytes own nm maxL ret Z) {i : Nat} {v : Int64} (hd : decode bytes pc = .ok (.lload i, 2)) (hl : L[i]? = some (.val (.long v))) (hpc : pc + 2 = pc') (go : Go B n0 Q h k n pc' L (.long v :: st)) : Go B n0 Q h k n pc L st := go.step fun T locs X eT t q => Jvm.Free.XT.lload X.here C.2.2.1 rfl (hb C.2.2.2.1 hd) hl (by subst hpc; exact q)
theorem g_aload_n (C : Ctx B l rm bytes own nm maxL ret Z) {i : Fin 4} {v : Value} (hd : decode bytes pc = .ok (.aload_n i, 1)) (hl : L[i.val]? = some (.val v)) (hv : v.isRef = true) (hpc : pc + 1 = pc') (go : Go B n0 Q h k n pc' L (v :: st)) : Go B n0 Q h k n pc L st := go.step fun T locs X eT t q => Jvm.Free.XS.aloadN X.here C.2.2.1 rfl (hb C.2.2.2.1 hd) hl hv (by subst hpc; exact q)
theorem g_aload (C : Ctx B l rm bytes own nm maxL ret Z) {i : Nat} {v : Value} (hd : decode bytes pc = .ok (.aload i, 2)) (hl : L[i]? = some (.val v)) (hv : v.isRef = true) (hpc : pc + 2 = pc') (go : Go B n0 Q h k n pc' L (v :: st)) : Go B n0 Q h k n pc L st := go.step fun T locs X eT t q => Jvm.Free.XS.aload X.here C.2.2.1 rfl (hb C.2.2.2.1 hd) hl hv (by subst hpc; exact q)
theorem g_istore_n (C : Ctx B l rm bytes own nm maxL ret Z) {i : Fin 4} {v : Int32} (hd : decode bytes pc = .ok (.istore_n i, 1)) (hl : storeLocals L i.val (.int v) = some L') (hpc : pc + 1 = pc') (go : Go B n0 Q h k n pc' L' st) : Go B n0 Q h k n pc L (.int v :: st) := go.step fun T locs X eT t q => Jvm.Free.XS.istoreN X.here C.2.2.1 rfl (hb C.2.2.2.1 hd) rfl hl (by subst hpc; exact q)
theorem g_istore (C : Ctx B l rm bytes own nm maxL ret Z) {i : Nat} {v : Int32} (hd : decode bytes pc = .ok (.istore i, 2)) (hl : storeLocals L i (.int v) = some L') (hpc : pc + 2 = pc') (go : Go B n0 Q h k n pc' L' st) : Go B n0 Q h k n pc L (.int v :: st) := go.step fun T locs X eT t q => Jvm.Free.XS.istore X.here C.2.2.1 rfl (hb C.2.2.2.1 hd) rfl hl (by subst hpc; exact q)
theorem g_lstore_n (C : Ctx B l rm bytes own nm maxL ret Z) {i : Fin 4} {v : Int64} (hd : decode bytes pc = .ok (.lstore_n i, 1)) (hl : storeLocals L i.val (.long v) = some L') (hpc : pc + 1 = pc') (go : Go B n0 Q h k n pc' L' st) : Go B n0 Q h k n pc L (.long v :: st) := go.step fun T locs X eT t q => Jvm.Free.XT.lstoreN X.here C.2.2.1 rfl (hb C.2.2.2.1 hd) rfl hl (by subst hpc; exact q)
theorem g_lstore (C : Ctx B l rm bytes own nm maxL ret Z) {i : Nat} {v : Int64} (hd : decode bytes pc = .ok (.lstore i, 2)) (hl : storeLocals L i (.long v) = some L') (hpc : pc + 2 = pc') (go : Go B n0 Q h k n pc' L' st) : Go B n0 Q h k n pc L (.long v :: st) := go.step fun T locs X eT t q => Jvm.Free.XT.lstore X.here C.2.2.1 rfl (hb C.2.2.2.1 hd) rfl hl (by subst hpc; exact q)
theorem g_astore_n (C : Ctx B l rm bytes own nm maxL ret Z) {i : Fin 4} {v : Value} (hd : decode bytes pc = .ok (.astore_n i, 1)) (hl : storeLocals L i.val v = some L') (hv : v.isRef = true) (hpc : pc + 1 = pc') (go : Go B n0 Q h k n pc' L' st) : Go B n0 Q h k n pc L (v :: st) := go.step fun T locs X eT t q => Jvm.Free.XS.astoreN X.here C.2.2.1 rfl (hb C.2.2.2.1 hd) rfl hv hl (by subst hpc; exact q)
theorem g_astore (C : Ctx B l rm bytes own nm maxL ret Z) {i : Nat} {v : Value} (hd : decode bytes pc = .ok (.astore i, 2)) (hl : storeLocals L i v = some L') (hv : v.isRef = true) (hpc : pc + 2 = pc') (go : Go B n0 Q h k n pc' L' st) : Go B n0 Q h k n pc L (v :: st) := go.step fun T locs X eT t q => Jvm.Free.XS.astore X.here C.2.2.1 rfl (hb C.2.2.2.1 hd) rfl hv hl (by subst hpc; exact q)
theorem g_iinc (C : Ctx B l rm bytes own nm maxL ret Z) {i : Nat} {z : Int} {v w : Int32} (hd : decode bytes pc = .ok (.iinc i z, 3)) (hl : L[i]? = some (.val (.int v))) (hw : v + Int32.ofInt z = w) (hl' : storeLocals L i (.int w) = some L') (hpc : pc + 3 = pc') (go : Go B n0 Q h k n pc' L' st) : Go B n0 Q h k n pc L st := go.step fun T locs X eT t q => Jvm.Free.XS.iinc X.here C.2.2.1 rfl (hb C.2.2.2.1 hd) hl (by rw [hw]; exact hl') (by subst hpc; exact q)
theorem g_iconst (C : Ctx B l rm bytes own nm maxL ret Z) {z : Int} {v : Int32} (hd : decode bytes pc = .ok (.iconst z, 1)) (hv : Int32.ofInt z = v) (hpc : pc + 1 = pc') (go : Go B n0 Q h k n pc' L (.int v :: st)) : Go B n0 Q h k n pc L st := go.step fun T locs X eT t q => Jvm.Free.XS.iconst X.here C.2.2.1 rfl (hb C.2.2.2.1 hd) (by subst hpc hv; exact q)
theorem g_bipush (C : Ctx B l rm bytes own nm maxL ret Z) {z : Int} {v : Int32} (hd : decode bytes pc = .ok (.bipush z, 2)) (hv : (Int8.ofInt z).toInt32 = v) (hpc : pc + 2 = pc') (go : Go B n0 Q h k n pc' L (.int v :: st)) : Go B n0 Q h k n pc L st := go.step fun T locs X eT t q => Jvm.Free.XS.bipush X.here C.2.2.1 rfl (hb C.2.2.2.1 hd) (by subst hpc hv; exact q)
theorem g_lconst (C : Ctx B l rm bytes own nm maxL ret Z) {i : Fin 2} {v : Int64} (hd : decode bytes pc = .ok (.lconst i, 1)) (hv : Int64.ofNat i = v) (hpc : pc + 1 = pc') (go : Go B n0 Q h k n pc' L (.long v :: st)) : Go B n0 Q h k n pc L st := go.step fun T locs X eT t q => Jvm.Free.XT.lconst X.here C.2.2.1 rfl (hb C.2.2.2.1 hd) (by subst hpc hv; exact q)
theorem g_aconst_null (C : Ctx B l rm bytes own nm maxL ret Z)  (hd : decode bytes pc = .ok (.aconst_null, 1))  (hpc : pc + 1 = pc') (go : Go B n0 Q h k n pc' L (.null :: st)) : Go B n0 Q h k n pc L st := go.step fun T locs X eT t q => Jvm.Free.XS.aconstNull X.here C.2.2.1 rfl (hb C.2.2.2.1 hd)  (by subst hpc; exact q)
theorem g_iadd (C : Ctx B l rm bytes own nm maxL ret Z) {x y : Int32} (hd : decode bytes pc = .ok (.iadd, 1))  (hpc : pc + 1 = pc') (go : Go B n0 Q h k n pc' L (.int (x + y) :: st)) : Go B n0 Q h k n pc L (.int y :: .int x :: st) := go.step fun T locs X eT t q => Jvm.Free.XS.iadd X.here C.2.2.1 rfl (hb C.2.2.2.1 hd) rfl (by subst hpc; exact q)
theorem g_isub (C : Ctx B l rm bytes own nm maxL ret Z) {x y : Int32} (hd : decode bytes pc = .ok (.isub, 1))  (hpc : pc + 1 = pc') (go : Go B n0 Q h k n pc' L (.int (x - y) :: st)) : Go B n0 Q h k n pc L (.int y :: .int x :: st) := go.step fun T locs X eT t q => Jvm.Free.XS.isub X.here C.2.2.1 rfl (hb C.2.2.2.1 hd) rfl (by subst hpc; exact q)
theorem g_iand (C : Ctx B l rm bytes own nm maxL ret Z) {x y : Int32} (hd : decode bytes pc = .ok (.iand, 1))  (hpc : pc + 1 = pc') (go : Go B n0 Q h k n pc' L (.int (x &&& y) :: st)) : Go B n0 Q h k n pc L (.int y :: .int x :: st) := go.step fun T locs X eT t q => Jvm.Free.XS.iand X.here C.2.2.1 rfl (hb C.2.2.2.1 hd) rfl (by subst hpc; exact q)
theorem g_imul (C : Ctx B l rm bytes own nm maxL ret Z) {x y : Int32} (hd : decode bytes pc = .ok (.imul, 1))  (hpc : pc + 1 = pc') (go : Go B n0 Q h k n pc' L (.int (x * y) :: st)) : Go B n0 Q h k n pc L (.int y :: .int x :: st) := go.step fun T locs X eT t q => Jvm.Free.XS.imul X.here C.2.2.1 rfl (hb C.2.2.2.1 hd) rfl (by subst hpc; exact q)
theorem g_ixor (C : Ctx B l rm bytes own nm maxL ret Z) {x y : Int32} (hd : decode bytes pc = .ok (.ixor, 1))  (hpc : pc + 1 = pc') (go : Go B n0 Q h k n pc' L (.int (x ^^^ y) :: st)) : Go B n0 Q h k n pc L (.int y :: .int x :: st) := go.step fun T locs X eT t q => Jvm.Free.XT.ixor X.here C.2.2.1 rfl (hb C.2.2.2.1 hd) rfl (by subst hpc; exact q)
theorem g_ior (C : Ctx B l rm bytes own nm maxL ret Z) {x y : Int32} (hd : decode bytes pc = .ok (.ior, 1))  (hpc : pc + 1 = pc') (go : Go B n0 Q h k n pc' L (.int (x ||| y) :: st)) : Go B n0 Q h k n pc L (.int y :: .int x :: st) := go.step fun T locs X eT t q => Jvm.Free.XT.ior X.here C.2.2.1 rfl (hb C.2.2.2.1 hd) rfl (by subst hpc; exact q)
theorem g_ishl (C : Ctx B l rm bytes own nm maxL ret Z) {x y : Int32} (hd : decode bytes pc = .ok (.ishl, 1))  (hpc : pc + 1 = pc') (go : Go B n0 Q h k n pc' L (.int (x <<< (y &&& 31)) :: st)) : Go B n0 Q h k n pc L (.int y :: .int x :: st) := go.step fun T locs X eT t q => Jvm.Free.XT.ishl X.here C.2.2.1 rfl (hb C.2.2.2.1 hd) rfl (by subst hpc; exact q)
theorem g_ishr (C : Ctx B l rm bytes own nm maxL ret Z) {x y : Int32} (hd : decode bytes pc = .ok (.ishr, 1))  (hpc : pc + 1 = pc') (go : Go B n0 Q h k n pc' L (.int (x >>> (y &&& 31)) :: st)) : Go B n0 Q h k n pc L (.int y :: .int x :: st) := go.step fun T locs X eT t q => Jvm.Free.XT.ishr X.here C.2.2.1 rfl (hb C.2.2.2.1 hd) rfl (by subst hpc; exact q)
theorem g_iushr (C : Ctx B l rm bytes own nm maxL ret Z) {x y : Int32} (hd : decode bytes pc = .ok (.iushr, 1))  (hpc : pc + 1 = pc') (go : Go B n0 Q h k n pc' L (.int (Jvm.Free.XT.ushr x y) :: st)) : Go B n0 Q h k n pc L (.int y :: .int x :: st) := go.step fun T locs X eT t q => Jvm.Free.XT.iushr X.here C.2.2.1 rfl (hb C.2.2.2.1 hd) rfl (by subst hpc; exact q)
theorem g_idiv (C : Ctx B l rm bytes own nm maxL ret Z) {x y : Int32} (hd : decode bytes pc = .ok (.idiv, 1)) (hy : y ≠ 0) (hpc : pc + 1 = pc') (go : Go B n0 Q h k n pc' L (.int (x / y) :: st)) : Go B n0 Q h k n pc L (.int y :: .int x :: st) := go.step fun T locs X eT t q => Jvm.Free.XS.idiv X.here C.2.2.1 rfl (hb C.2.2.2.1 hd) rfl hy (by subst hpc; exact q)
theorem g_irem (C : Ctx B l rm bytes own nm maxL ret Z) {x y : Int32} (hd : decode bytes pc = .ok (.irem, 1)) (hy : y ≠ 0) (hpc : pc + 1 = pc') (go : Go B n0 Q h k n pc' L (.int (x - (x / y) * y) :: st)) : Go B n0 Q h k n pc L (.int y :: .int x :: st) := go.step fun T locs X eT t q => Jvm.Free.XS.irem X.here C.2.2.1 rfl (hb C.2.2.2.1 hd) rfl hy (by subst hpc; exact q)
theorem g_ineg (C : Ctx B l rm bytes own nm maxL ret Z) {x : Int32} (hd : decode bytes pc = .ok (.ineg, 1))  (hpc : pc + 1 = pc') (go : Go B n0 Q h k n pc' L (.int (-x) :: st)) : Go B n0 Q h k n pc L (.int x :: st) := go.step fun T locs X eT t q => Jvm.Free.XS.ineg X.here C.2.2.1 rfl (hb C.2.2.2.1 hd) rfl (by subst hpc; exact q)
theorem g_ladd (C : Ctx B l rm bytes own nm maxL ret Z) {x y : Int64} (hd : decode bytes pc = .ok (.ladd, 1))  (hpc : pc + 1 = pc') (go : Go B n0 Q h k n pc' L (.long (x + y) :: st)) : Go B n0 Q h k n pc L (.long y :: .long x :: st) := go.step fun T locs X eT t q => Jvm.Free.XT.ladd X.here C.2.2.1 rfl (hb C.2.2.2.1 hd) rfl (by subst hpc; exact q)
theorem g_lsub (C : Ctx B l rm bytes own nm maxL ret Z) {x y : Int64} (hd : decode bytes pc = .ok (.lsub, 1))  (hpc : pc + 1 = pc') (go : Go B n0 Q h k n pc' L (.long (x - y) :: st)) : Go B n0 Q h k n pc L (.long y :: .long x :: st) := go.step fun T locs X eT t q => Jvm.Free.XT.lsub X.here C.2.2.1 rfl (hb C.2.2.2.1 hd) rfl (by subst hpc; exact q)
theorem g_lmul (C : Ctx B l rm bytes own nm maxL ret Z) {x y : Int64} (hd : decode bytes pc = .ok (.lmul, 1))  (hpc : pc + 1 = pc') (go : Go B n0 Q h k n pc' L (.long (x * y) :: st)) : Go B n0 Q h k n pc L (.long y :: .long x :: st) := go.step fun T locs X eT t q => Jvm.Free.XT.lmul X.here C.2.2.1 rfl (hb C.2.2.2.1 hd) rfl (by subst hpc; exact q)
theorem g_land (C : Ctx B l rm bytes own nm maxL ret Z) {x y : Int64} (hd : decode bytes pc = .ok (.land, 1))  (hpc : pc + 1 = pc') (go : Go B n0 Q h k n pc' L (.long (x &&& y) :: st)) : Go B n0 Q h k n pc L (.long y :: .long x :: st) := go.step fun T locs X eT t q => Jvm.Free.XT.land X.here C.2.2.1 rfl (hb C.2.2.2.1 hd) rfl (by subst hpc; exact q)
theorem g_lor (C : Ctx B l rm bytes own nm maxL ret Z) {x y : Int64} (hd : decode bytes pc = .ok (.lor, 1))  (hpc : pc + 1 = pc') (go : Go B n0 Q h k n pc' L (.long (x ||| y) :: st)) : Go B n0 Q h k n pc L (.long y :: .long x :: st) := go.step fun T locs X eT t q => Jvm.Free.XT.lor X.here C.2.2.1 rfl (hb C.2.2.2.1 hd) rfl (by subst hpc; exact q)
theorem g_lxor (C : Ctx B l rm bytes own nm maxL ret Z) {x y : Int64} (hd : decode bytes pc = .ok (.lxor, 1))  (hpc : pc + 1 = pc') (go : Go B n0 Q h k n pc' L (.long (x ^^^ y) :: st)) : Go B n0 Q h k n pc L (.long y :: .long x :: st) := go.step fun T locs X eT t q => Jvm.Free.XT.lxor X.here C.2.2.1 rfl (hb C.2.2.2.1 hd) rfl (by subst hpc; exact q)
theorem g_ldiv (C : Ctx B l rm bytes own nm maxL ret Z) {x y : Int64} (hd : decode bytes pc = .ok (.ldiv, 1)) (hy : y ≠ 0) (hpc : pc + 1 = pc') (go : Go B n0 Q h k n pc' L (.long (x / y) :: st)) : Go B n0 Q h k n pc L (.long y :: .long x :: st) := go.step fun T locs X eT t q => Jvm.Free.XT.ldiv X.here C.2.2.1 rfl (hb C.2.2.2.1 hd) rfl hy (by subst hpc; exact q)
theorem g_lrem (C : Ctx B l rm bytes own nm maxL ret Z) {x y : Int64} (hd : decode bytes pc = .ok (.lrem, 1)) (hy : y ≠ 0) (hpc : pc + 1 = pc') (go : Go B n0 Q h k n pc' L (.long (x - (x / y) * y) :: st)) : Go B n0 Q h k n pc L (.long y :: .long x :: st) := go.step fun T locs X eT t q => Jvm.Free.XT.lrem X.here C.2.2.1 rfl (hb C.2.2.2.1 hd) rfl hy (by subst hpc; exact q)
theorem g_lneg (C : Ctx B l rm bytes own nm maxL ret Z) {x : Int64} (hd : decode bytes pc = .ok (.lneg, 1))  (hpc : pc + 1 = pc') (go : Go B n0 Q h k n pc' L (.long (-x) :: st)) : Go B n0 Q h k n pc L (.long x :: st) := go.step fun T locs X eT t q => Jvm.Free.XT.lneg X.here C.2.2.1 rfl (hb C.2.2.2.1 hd) rfl (by subst hpc; exact q)
theorem g_lshl (C : Ctx B l rm bytes own nm maxL ret Z) {x : Int64} {y : Int32} (hd : decode bytes pc = .ok (.lshl, 1))  (hpc : pc + 1 = pc') (go : Go B n0 Q h k n pc' L (.long (x <<< (y.toInt64 &&& 63)) :: st)) : Go B n0 Q h k n pc L (.int y :: .long x :: st) := go.step fun T locs X eT t q => Jvm.Free.XT.lshl X.here C.2.2.1 rfl (hb C.2.2.2.1 hd) rfl (by subst hpc; exact q)
theorem g_lshr (C : Ctx B l rm bytes own nm maxL ret Z) {x : Int64} {y : Int32} (hd : decode bytes pc = .ok (.lshr, 1))  (hpc : pc + 1 = pc') (go : Go B n0 Q h k n pc' L (.long (x >>> (y.toInt64 &&& 63)) :: st)) : Go B n0 Q h k n pc L (.int y :: .long x :: st) := go.step fun T locs X eT t q => Jvm.Free.XT.lshr X.here C.2.2.1 rfl (hb C.2.2.2.1 hd) rfl (by subst hpc; exact q)
theorem g_lushr (C : Ctx B l rm bytes own nm maxL ret Z) {x : Int64} {y : Int32} (hd : decode bytes pc = .ok (.lushr, 1))  (hpc : pc + 1 = pc') (go : Go B n0 Q h k n pc' L (.long (Jvm.Free.XT.ushrL x y) :: st)) : Go B n0 Q h k n pc L (.int y :: .long x :: st) := go.step fun T locs X eT t q => Jvm.Free.XT.lushr X.here C.2.2.1 rfl (hb C.2.2.2.1 hd) rfl (by subst hpc; exact q)
theorem g_lcmp (C : Ctx B l rm bytes own nm maxL ret Z) {x y : Int64} (hd : decode bytes pc = .ok (.lcmp, 1))  (hpc : pc + 1 = pc') (go : Go B n0 Q h k n pc' L (.int (Jvm.Free.XT.cmpL x y) :: st)) : Go B n0 Q h k n pc L (.long y :: .long x :: st) := go.step fun T locs X eT t q => Jvm.Free.XT.lcmp X.here C.2.2.1 rfl (hb C.2.2.2.1 hd) rfl (by subst hpc; exact q)
theorem g_i2l (C : Ctx B l rm bytes own nm maxL ret Z) {x : Int32} (hd : decode bytes pc = .ok (.i2l, 1))  (hpc : pc + 1 = pc') (go : Go B n0 Q h k n pc' L (.long (x.toInt64) :: st)) : Go B n0 Q h k n pc L (.int x :: st) := go.step fun T locs X eT t q => Jvm.Free.XT.i2l X.here C.2.2.1 rfl (hb C.2.2.2.1 hd) rfl (by subst hpc; exact q)
theorem g_l2i (C : Ctx B l rm bytes own nm maxL ret Z) {x : Int64} (hd : decode bytes pc = .ok (.l2i, 1))  (hpc : pc + 1 = pc') (go : Go B n0 Q h k n pc' L (.int (x.toInt32) :: st)) : Go B n0 Q h k n pc L (.long x :: st) := go.step fun T locs X eT t q => Jvm.Free.XT.l2i X.here C.2.2.1 rfl (hb C.2.2.2.1 hd) rfl (by subst hpc; exact q)
theorem g_i2b (C : Ctx B l rm bytes own nm maxL ret Z) {x : Int32} (hd : decode bytes pc = .ok (.i2b, 1))  (hpc : pc + 1 = pc') (go : Go B n0 Q h k n pc' L (.int (x.toInt8.toInt32) :: st)) : Go B n0 Q h k n pc L (.int x :: st) := go.step fun T locs X eT t q => Jvm.Free.XT.i2b X.here C.2.2.1 rfl (hb C.2.2.2.1 hd) rfl (by subst hpc; exact q)
theorem g_i2c (C : Ctx B l rm bytes own nm maxL ret Z) {x : Int32} (hd : decode bytes pc = .ok (.i2c, 1))  (hpc : pc + 1 = pc') (go : Go B n0 Q h k n pc' L (.int (x.toUInt32.toUInt16.toUInt32.toInt32) :: st)) : Go B n0 Q h k n pc L (.int x :: st) := go.step fun T locs X eT t q => Jvm.Free.XT.i2c X.here C.2.2.1 rfl (hb C.2.2.2.1 hd) rfl (by subst hpc; exact q)
theorem g_i2s (C : Ctx B l rm bytes own nm maxL ret Z) {x : Int32} (hd : decode bytes pc = .ok (.i2s, 1))  (hpc : pc + 1 = pc') (go : Go B n0 Q h k n pc' L (.int (x.toInt16.toInt32) :: st)) : Go B n0 Q h k n pc L (.int x :: st) := go.step fun T locs X eT t q => Jvm.Free.XT.i2s X.here C.2.2.1 rfl (hb C.2.2.2.1 hd) rfl (by subst hpc; exact q)
theorem g_dup (C : Ctx B l rm bytes own nm maxL ret Z) {x : Value} (hd : decode bytes pc = .ok (.dup, 1)) (hc : x.category = 1) (hpc : pc + 1 = pc') (go : Go B n0 Q h k n pc' L (x :: x :: st)) : Go B n0 Q h k n pc L (x :: st) := go.step fun T locs X eT t q => Jvm.Free.XS.dup X.here C.2.2.1 rfl (hb C.2.2.2.1 hd) rfl hc (by subst hpc; exact q)
theorem g_pop (C : Ctx B l rm bytes own nm maxL ret Z) {x : Value} (hd : decode bytes pc = .ok (.pop, 1)) (hc : x.category = 1) (hpc : pc + 1 = pc') (go : Go B n0 Q h k n pc' L st) : Go B n0 Q h k n pc L (x :: st) := go.step fun T locs X eT t q => Jvm.Free.XT.pop X.here C.2.2.1 rfl (hb C.2.2.2.1 hd) rfl hc (by subst hpc; exact q)
theorem g_dup_x1 (C : Ctx B l rm bytes own nm maxL ret Z) {x y : Value} (hd : decode bytes pc = .ok (.dup_x1, 1)) (hc : x.category = 1) (hc' : y.category = 1) (hpc : pc + 1 = pc') (go : Go B n0 Q h k n pc' L (x :: y :: x :: st)) : Go B n0 Q h k n pc L (x :: y :: st) := go.step fun T locs X eT t q => Jvm.Free.XT.dupX1 X.here C.2.2.1 rfl (hb C.2.2.2.1 hd) rfl hc hc' (by subst hpc; exact q)
theorem g_dup2 (C : Ctx B l rm bytes own nm maxL ret Z) {x y : Value} (hd : decode bytes pc = .ok (.dup2, 1)) (hc : x.category = 1) (hc' : y.category = 1) (hpc : pc + 1 = pc') (go : Go B n0 Q h k n pc' L (x :: y :: x :: y :: st)) : Go B n0 Q h k n pc L (x :: y :: st) := go.step fun T locs X eT t q => Jvm.Free.XT.dup2 X.here C.2.2.1 rfl (hb C.2.2.2.1 hd) rfl hc hc' (by subst hpc; exact q)
theorem g_dup2L (C : Ctx B l rm bytes own nm maxL ret Z) {x : Int64} (hd : decode bytes pc = .ok (.dup2, 1))  (hpc : pc + 1 = pc') (go : Go B n0 Q h k n pc' L (.long x :: .long x :: st)) : Go B n0 Q h k n pc L (.long x :: st) := go.step fun T locs X eT t q => Jvm.Free.XT.dup2L X.here C.2.2.1 rfl (hb C.2.2.2.1 hd) rfl (by subst hpc; exact q)
theorem g_goto (C : Ctx B l rm bytes own nm maxL ret Z) {o : Int} (hd : decode bytes pc = .ok (.goto o, 3)) (ho : 0 ≤ (pc : Int) + o) (hp : ((pc : Int) + o).toNat = pc') (go : Go B n0 Q h k n pc' L st) : Go B n0 Q h k n pc L st := go.step fun T locs X eT t q => Jvm.Free.XS.goto X.here C.2.2.1 rfl rfl (hb C.2.2.2.1 hd) ho hp q
theorem g_if_y (C : Ctx B l rm bytes own nm maxL ret Z) {cd : ClassFile.Cond} {x : Int32} {o : Int} (hd : decode bytes pc = .ok (.ifCond cd o, 3)) (hc : ifCond.holds cd x = true) (ho : 0 ≤ (pc : Int) + o) (hp : ((pc : Int) + o).toNat = pc') (go : Go B n0 Q h k n pc' L st) : Go B n0 Q h k n pc L (.int x :: st) := go.step fun T locs X eT t q => Jvm.Free.XS.ifYes X.here C.2.2.1 rfl rfl (hb C.2.2.2.1 hd) rfl hc ho hp q
theorem g_if_n (C : Ctx B l rm bytes own nm maxL ret Z) {cd : ClassFile.Cond} {x : Int32} {o : Int} (hd : decode bytes pc = .ok (.ifCond cd o, 3)) (hc : ifCond.holds cd x = false) (hpc : pc + 3 = pc') (go : Go B n0 Q h k n pc' L st) : Go B n0 Q h k n pc L (.int x :: st) := go.step fun T locs X eT t q => Jvm.Free.XS.ifNo X.here C.2.2.1 rfl (hb C.2.2.2.1 hd) rfl hc (by subst hpc; exact q)
theorem g_icmp_y (C : Ctx B l rm bytes own nm maxL ret Z) {cd : ClassFile.Cond} {x y : Int32} {o : Int} (hd : decode bytes pc = .ok (.if_icmp cd o, 3)) (hc : if_icmp.holds cd x y = true) (ho : 0 ≤ (pc : Int) + o) (hp : ((pc : Int) + o).toNat = pc') (go : Go B n0 Q h k n pc' L st) : Go B n0 Q h k n pc L (.int y :: .int x :: st) := go.step fun T locs X eT t q => Jvm.Free.XS.icmpYes X.here C.2.2.1 rfl rfl (hb C.2.2.2.1 hd) rfl hc ho hp q
theorem g_icmp_n (C : Ctx B l rm bytes own nm maxL ret Z) {cd : ClassFile.Cond} {x y : Int32} {o : Int} (hd : decode bytes pc = .ok (.if_icmp cd o, 3)) (hc : if_icmp.holds cd x y = false) (hpc : pc + 3 = pc') (go : Go B n0 Q h k n pc' L st) : Go B n0 Q h k n pc L (.int y :: .int x :: st) := go.step fun T locs X eT t q => Jvm.Free.XS.icmpNo X.here C.2.2.1 rfl (hb C.2.2.2.1 hd) rfl hc (by subst hpc; exact q)
theorem g_acmp_y (C : Ctx B l rm bytes own nm maxL ret Z) {cd : ClassFile.ACond} {x y : Value} {o : Int} (hd : decode bytes pc = .ok (.if_acmp cd o, 3)) (hc1 : x.isRef = true) (hc2 : y.isRef = true) (hc : Jvm.Free.XT.acmp cd x y = true) (ho : 0 ≤ (pc : Int) + o) (hp : ((pc : Int) + o).toNat = pc') (go : Go B n0 Q h k n pc' L st) : Go B n0 Q h k n pc L (y :: x :: st) := go.step fun T locs X eT t q => Jvm.Free.XT.acmpYes X.here C.2.2.1 rfl rfl (hb C.2.2.2.1 hd) rfl hc1 hc2 hc ho hp q
theorem g_acmp_n (C : Ctx B l rm bytes own nm maxL ret Z) {cd : ClassFile.ACond} {x y : Value} {o : Int} (hd : decode bytes pc = .ok (.if_acmp cd o, 3)) (hc1 : x.isRef = true) (hc2 : y.isRef = true) (hc : Jvm.Free.XT.acmp cd x y = false) (hpc : pc + 3 = pc') (go : Go B n0 Q h k n pc' L st) : Go B n0 Q h k n pc L (y :: x :: st) := go.step fun T locs X eT t q => Jvm.Free.XT.acmpNo X.here C.2.2.1 rfl (hb C.2.2.2.1 hd) rfl hc1 hc2 hc (by subst hpc; exact q)
theorem g_ifnull_y (C : Ctx B l rm bytes own nm maxL ret Z) {o : Int} (hd : decode bytes pc = .ok (.ifnull o, 3)) (ho : 0 ≤ (pc : Int) + o) (hp : ((pc : Int) + o).toNat = pc') (go : Go B n0 Q h k n pc' L st) : Go B n0 Q h k n pc L (.null :: st) := go.step fun T locs X eT t q => Jvm.Free.XS.ifnullYes X.here C.2.2.1 rfl rfl (hb C.2.2.2.1 hd) rfl ho hp q
theorem g_ifnull_n (C : Ctx B l rm bytes own nm maxL ret Z) {o : Int} {b : Addr} (hd : decode bytes pc = .ok (.ifnull o, 3)) (hpc : pc + 3 = pc') (go : Go B n0 Q h k n pc' L st) : Go B n0 Q h k n pc L (.ref b :: st) := go.step fun T locs X eT t q => Jvm.Free.XS.ifnullNo X.here C.2.2.1 rfl (hb C.2.2.2.1 hd) rfl (by subst hpc; exact q)
theorem g_ifnonnull_y (C : Ctx B l rm bytes own nm maxL ret Z) {o : Int} {b : Addr} (hd : decode bytes pc = .ok (.ifnonnull o, 3)) (ho : 0 ≤ (pc : Int) + o) (hp : ((pc : Int) + o).toNat = pc') (go : Go B n0 Q h k n pc' L st) : Go B n0 Q h k n pc L (.ref b :: st) := go.step fun T locs X eT t q => Jvm.Free.XT.ifnonnullYes X.here C.2.2.1 rfl rfl (hb C.2.2.2.1 hd) rfl ho hp q
theorem g_ifnonnull_n (C : Ctx B l rm bytes own nm maxL ret Z) {o : Int} (hd : decode bytes pc = .ok (.ifnonnull o, 3)) (hpc : pc + 3 = pc') (go : Go B n0 Q h k n pc' L st) : Go B n0 Q h k n pc L (.null :: st) := go.step fun T locs X eT t q => Jvm.Free.XT.ifnonnullNo X.here C.2.2.1 rfl (hb C.2.2.2.1 hd) rfl (by subst hpc; exact q)
theorem g_ldc (C : Ctx B l rm bytes own nm maxL ret Z) {i : Nat} {v : Int32} (w : (Jvm.Cond.constant own i v).before a0 Z = true) (hd : decode bytes pc = .ok (.ldc i, 2)) (hpc : pc + 2 = pc') (go : Go B n0 Q h k n pc' L (.int v :: st)) : Go B n0 Q h k n pc L st := go.step fun T locs X eT t q => X.ldcInt C.2.2.1 C.2.2.2.2.2.1 (mvT C.2.2.2.2.1 w) (g := mkF B.m pc L st) rfl (hb C.2.2.2.1 hd) t (by subst hpc; exact q)
theorem g_ldc_w (C : Ctx B l rm bytes own nm maxL ret Z) {i : Nat} {v : Int32} (w : (Jvm.Cond.constant own i v).before a0 Z = true) (hd : decode bytes pc = .ok (.ldc_w i, 3)) (hpc : pc + 3 = pc') (go : Go B n0 Q h k n pc' L (.int v :: st)) : Go B n0 Q h k n pc L st := go.step fun T locs X eT t q => X.ldcwInt C.2.2.1 C.2.2.2.2.2.1 (mvT C.2.2.2.2.1 w) (g := mkF B.m pc L st) rfl (hb C.2.2.2.1 hd) t (by subst hpc; exact q)
theorem g_ldc2_w (C : Ctx B l rm bytes own nm maxL ret Z) {i : Nat} {v : Int64} (w : (Jvm.Cond.constantLong own i v).before a0 Z = true) (hd : decode bytes pc = .ok (.ldc2_w i, 3)) (hpc : pc + 3 = pc') (go : Go B n0 Q h k n pc' L (.long v :: st)) : Go B n0 Q h k n pc L st := go.step fun T locs X eT t q => X.ldc2Long C.2.2.1 C.2.2.2.2.2.1 (mvT C.2.2.2.2.1 w) (g := mkF B.m pc L st) rfl (hb C.2.2.2.1 hd) t (by subst hpc; exact q)
theorem g_getfield (C : Ctx B l rm bytes own nm maxL ret Z) {i : Nat} {R0 O fn d host : String} {a : Addr} {v : Value} (w : (Jvm.Cond.fieldLink own i R0 fn d).before a0 Z = true ∨ (Jvm.Cond.fieldLinkNest own i R0 fn d host).before a0 Z = true) (via : Via Z R0 O fn d) (F : Fld Z h a O fn d v) (hd : decode bytes pc = .ok (.getfield i, 3)) (hpc : pc + 3 = pc') (go : Go B n0 Q h k n pc' L (v :: st)) : Go B n0 Q h k n pc L (.ref a :: st) := go.move fun T locs X eT => by
  obtain ⟨T', X', e', f⟩ := getF X C.2.2.1 C.2.2.2.2.1 C.2.2.2.2.2.1 w via eT F (g := mkF B.m pc L (.ref a :: st)) rfl rfl (hb C.2.2.2.1 hd)
  subst hpc; exact ⟨T', X', e', f⟩
theorem g_getstatic (C : Ctx B l rm bytes own nm maxL ret Z) {i : Nat} {R0 O fn d host : String} {v : Value} (w : (Jvm.Cond.fieldLink own i R0 fn d).before a0 Z = true ∨ (Jvm.Cond.fieldLinkNest own i R0 fn d host).before a0 Z = true) (via : Via Z R0 O fn d) (F : Sta Z h O fn d v) (hd : decode bytes pc = .ok (.getstatic i, 3)) (hpc : pc + 3 = pc') (go : Go B n0 Q h k n pc' L (v :: st)) : Go B n0 Q h k n pc L st := go.move fun T locs X eT => by
  obtain ⟨T', X', e', f⟩ := getS2 X C.2.2.1 C.2.2.2.2.1 C.2.2.2.2.2.1 w via eT F (g := mkF B.m pc L st) rfl (hb C.2.2.2.1 hd)
  subst hpc; exact ⟨T', X', e', f⟩
theorem g_checkcast (C : Ctx B l rm bytes own nm maxL ret Z) {i : Nat} {K : String} {a : Addr} (w : (Jvm.Cond.classLink own i K).before a0 Z = true) (F : Ins Z h a K true) (hd : decode bytes pc = .ok (.checkcast i, 3)) (hpc : pc + 3 = pc') (go : Go B n0 Q h k n pc' L (.ref a :: st)) : Go B n0 Q h k n pc L (.ref a :: st) := go.move fun T locs X eT => by
  obtain ⟨T', X', e', f⟩ := castY X C.2.2.1 C.2.2.2.2.1 C.2.2.2.2.2.1 w eT F (g := mkF B.m pc L (.ref a :: st)) rfl rfl (hb C.2.2.2.1 hd)
  subst hpc; exact ⟨T', X', e', f⟩
theorem g_instanceof_y (C : Ctx B l rm bytes own nm maxL ret Z) {i : Nat} {K : String} {a : Addr} (w : (Jvm.Cond.classLink own i K).before a0 Z = true) (F : Ins Z h a K true) (hd : decode bytes pc = .ok (.instanceof i, 3)) (hpc : pc + 3 = pc') (go : Go B n0 Q h k n pc' L (.int 1 :: st)) : Go B n0 Q h k n pc L (.ref a :: st) := go.move fun T locs X eT => by
  obtain ⟨T', X', e', f⟩ := instY X C.2.2.1 C.2.2.2.2.1 C.2.2.2.2.2.1 w eT F (g := mkF B.m pc L (.ref a :: st)) rfl rfl (hb C.2.2.2.1 hd)
  subst hpc; exact ⟨T', X', e', f⟩
theorem g_instanceof_n (C : Ctx B l rm bytes own nm maxL ret Z) {i : Nat} {K K' : String} {a : Addr} (w : (Jvm.Cond.classLink own i K).before a0 Z = true) (E : Exa Z h a K') (F : ∃ c t, Z.vm.findClass K' = some c ∧ Z.vm.findClass K = some t ∧ Z.vm.assignable c t = false) (hd : decode bytes pc = .ok (.instanceof i, 3)) (hpc : pc + 3 = pc') (go : Go B n0 Q h k n pc' L (.int 0 :: st)) : Go B n0 Q h k n pc L (.ref a :: st) := go.move fun T locs X eT => by
  obtain ⟨T', X', e', f⟩ := instNo X C.2.2.1 C.2.2.2.2.1 C.2.2.2.2.2.1 w eT E F (g := mkF B.m pc L (.ref a :: st)) rfl rfl (hb C.2.2.2.1 hd)
  subst hpc; exact ⟨T', X', e', f⟩
theorem g_putfield (C : Ctx B l rm bytes own nm maxL ret Z) {i kk : Nat} {R0 O fn d host K : String} {ty : FieldType} {a : Addr} {v old : Value} (w : (Jvm.Cond.fieldLink own i R0 fn d).before a0 Z = true ∨ (Jvm.Cond.fieldLinkNest own i R0 fn d host).before a0 Z = true) (via : Via Z R0 O fn d) (F : Fld Z h a O fn d old) (E : Exa Z h a K) (Ly : (Jvm.Cond.lays K O fn d).before a0 Z = true ∨ ((Jvm.Cond.laysFinal K O fn d).before a0 Z = true ∧ own = O ∧ nm = "<init>")) (wi : (Jvm.Cond.instantiable K kk).before a0 Z = true) (hty : parseFieldDescriptor d = some ty) (hn : narrow ty v = v) (hf : fits ty v = true) (ge : n0 ≤ a) (hd : decode bytes pc = .ok (.putfield i, 3)) (hpc : pc + 3 = pc') (go : ∀ h', Wr h h' a (Jvm.RoadKit.slotOf Z O fn d) v → Go B n0 Q h' k n pc' L st) : Go B n0 Q h k n pc L (v :: .ref a :: st) := fun T locs X N eT => by
  obtain ⟨T', h', X', e', W, f⟩ := putF X C.2.2.1 C.2.2.2.2.1 C.2.2.2.2.2.1 w via eT F E (Ly.imp id fun q => ⟨q.1, q.2.1, by rw [C.2.2.2.2.2.2.1]; exact q.2.2⟩) wi hty hn hf (g := mkF B.m pc L (v :: .ref a :: st)) rfl rfl (hb C.2.2.2.1 hd)
  obtain ⟨t, o, q, r⟩ := go h' W T' _ X' (Fr.snoc X' N ge) e'
  subst hpc
  exact ⟨t, o, f t q, r⟩
theorem g_new (C : Ctx B l rm bytes own nm maxL ret Z) {i nn : Nat} {K : String} (w : (Jvm.Cond.classLink own i K).before a0 Z = true) (wi : (Jvm.Cond.instantiable K nn).before a0 Z = true) (wz : (Jvm.Cond.initialized K).before a0 Z = true) (hc : k + 1 ≤ rm.cells) (hl : n + nn ≤ rm.slots) (hd : decode bytes pc = .ok (.new i, 3)) (hpc : pc + 3 = pc') (go : ∀ h' a, a = h.size → Ext h h' → Exa Z h' a K → (∀ {O fn d : String} {ty : FieldType}, Laid Z a0 K O fn d → parseFieldDescriptor d = some ty → Fld Z h' a O fn d (defaultValue ty)) → Go B n0 Q h' (k + 1) (n + nn) pc' L (.ref a :: st)) : Go B n0 Q h k n pc L st := fun T locs X N eT => by
  obtain ⟨T', h', X', e', E, A, D, -, f⟩ := newO X C.2.2.1 C.2.2.2.2.1 C.2.2.2.2.2.1 w wi wz eT (g := mkF B.m pc L st) rfl (hb C.2.2.2.1 hd) (by rw [C.2.1]; exact hc) (by rw [C.2.1]; exact hl)
  obtain ⟨t, o, q, r⟩ := go h' _ rfl E A D T' _ X' N e'
  subst hpc
  exact ⟨t, o, f t q, r⟩
theorem g_initObj (C : Ctx B l rm bytes own nm maxL ret Z) {i : Nat} {a : Addr} (w1 : (Jvm.Cond.methodLink own i Lib.objectInit).before a0 Z = true) (w2 : (Jvm.Cond.instanceMethod Lib.objectInit).before a0 Z = true) (w3 : (Jvm.Cond.code Lib.objectInit ⟨#[0xb1]⟩ 1 none).before a0 Z = true) (hsz : L.size = maxL) (hf : 1 ≤ rm.frames) {W : Nat} (hW : (st.map fun v => v.category).sum ≤ W) (hl : W + 12 ≤ rm.locals) (hd : decode bytes pc = .ok (.invokespecial i, 3)) (hpc : pc + 3 = pc') (go : Go B n0 Q h k n pc' L st) : Go B n0 Q h k n pc L (.ref a :: st) := fun T locs X N eT => by
  obtain ⟨T', X', e', f⟩ := initO X C.2.2.1 C.2.2.2.2.1 C.2.2.2.2.2.1 w1 w2 w3 eT (g := mkF B.m pc L (.ref a :: st)) rfl (by rw [C.2.2.2.2.2.2.2.1]; exact hsz) rfl (hb C.2.2.2.1 hd) (by rw [C.2.1]; exact hf) (W := W) (by show 2 * 0 + _ ≤ _; omega) (by rw [C.2.1]; exact hl)
  obtain ⟨t, o, q, r⟩ := go T' _ X' N e'
  subst hpc
  exact ⟨t, o, f t q, r⟩
theorem g_static (C : Ctx B l rm bytes own nm maxL ret Z) {i : Nat} {y : MethodName} {b' : ByteArray} {mx : Nat} {rt : Option FieldType} {rm' : Room} {as' : Array Value} {Q' : Option Value → Heap → Prop} (w1 : (Jvm.Cond.methodLink own i y).before a0 Z = true) (w2 : (Jvm.Cond.static y).before a0 Z = true) (wz : (Jvm.Cond.initialized y.cls).before a0 Z = true) (wc : (Jvm.Cond.code y b' mx rt).before a0 Z = true) (hy : y.cls ≠ "java/lang/invoke/MethodHandle" ∧ y.cls ≠ "java/lang/invoke/VarHandle") (K : Met1 l Z y b' mx rt rm' n0 as' h Q') (argsL : List Value) {stk : List Value} (hst : stk = argsL.reverse ++ st) (has : as' = argsL.toArray) {ps : List FieldType} {r' : Option FieldType} (pd : parseMethodDescriptor y.desc = some ⟨ps, r'⟩) (hlen : argsL.length = ps.length) (hsz : L.size = maxL) (hf : rm'.frames + 1 ≤ rm.frames) {W : Nat} (hW : (st.map fun v => v.category).sum ≤ W) (hlo : W + (mx + 11) + rm'.locals ≤ rm.locals) (hc : k + rm'.cells ≤ rm.cells) (hs : n + rm'.slots ≤ rm.slots) (hd : decode bytes pc = .ok (.invokestatic i, 3)) (hpc : pc + 3 = pc') (go : ∀ v h', Q' v h' → Go B n0 Q h' (k + rm'.cells) (n + rm'.slots) pc' L (v.toList ++ st)) : Go B n0 Q h k n pc L stk := fun T locs X N eT => by
  subst hst has
  obtain ⟨v, _, ⟨T', L1, k1, n1⟩, -, X', ⟨L2, ⟨N', hq⟩, l1, l2, l3⟩, f⟩ := Jvm.LawKit.callS X C.2.2.1 (y := y) C.2.2.2.2.2.1 (mvT C.2.2.2.2.1 w1) (mvT C.2.2.2.2.1 w2) (mvT C.2.2.2.2.1 wz) (mvT C.2.2.2.2.1 wc) hy (backOf (W := W) (Q := fun v h L => Fr n0 L ∧ Q' v h) (C.1 ▸ K []) C.2.2.2.2.1 wc wz (by rw [C.2.1]; exact hf) (by rw [C.2.1]; exact hlo)) (g := mkF B.m pc L (argsL.reverse ++ st)) rfl (by rw [C.2.2.2.2.2.2.2.1]; exact hsz) (argsL := argsL) (rest := st) (lenOf pd hlen) rfl (by show 2 * 0 + _ ≤ _; omega) (hb C.2.2.2.1 hd) (fun _ _ => ⟨rfl, eT, by rw [C.2.1]; exact hc, by rw [C.2.1]; exact hs⟩)
  dsimp only [Pt.U, Pt.locs, Pt.cells, Pt.slots] at X' l1 l2 l3 f hq
  subst l1 l2 l3
  obtain ⟨t, o, q, r⟩ := go v _ hq T' _ X' (Fr.app N N') rfl
  subst hpc
  exact ⟨t, o, f t q, r⟩
theorem g_special (C : Ctx B l rm bytes own nm maxL ret Z) {i : Nat} {y : MethodName} {b' : ByteArray} {mx : Nat} {rm' : Room} {as' : Array Value} {Q' : Option Value → Heap → Prop} {a : Addr} (hy1 : y.name = "<init>") (w1 : (Jvm.Cond.methodLink own i y).before a0 Z = true) (w2 : (Jvm.Cond.instanceMethod y).before a0 Z = true) (wz : (Jvm.Cond.initialized y.cls).before a0 Z = true) (wc : (Jvm.Cond.code y b' mx none).before a0 Z = true) (hy : y.cls ≠ "java/lang/invoke/MethodHandle" ∧ y.cls ≠ "java/lang/invoke/VarHandle") (K : Met1 l Z y b' mx none rm' n0 as' h Q') (argsL : List Value) {stk : List Value} (hst : stk = argsL.reverse ++ .ref a :: st) (has : as' = (Value.ref a :: argsL).toArray) {ps : List FieldType} {r' : Option FieldType} (pd : parseMethodDescriptor y.desc = some ⟨ps, r'⟩) (hlen : argsL.length = ps.length) (hsz : L.size = maxL) (hf : rm'.frames + 1 ≤ rm.frames) {W : Nat} (hW : (st.map fun v => v.category).sum ≤ W) (hlo : W + (mx + 11) + rm'.locals ≤ rm.locals) (hc : k + rm'.cells ≤ rm.cells) (hs : n + rm'.slots ≤ rm.slots) (hd : decode bytes pc = .ok (.invokespecial i, 3)) (hpc : pc + 3 = pc') (go : ∀ v h', Q' v h' → Go B n0 Q h' (k + rm'.cells) (n + rm'.slots) pc' L (v.toList ++ st)) : Go B n0 Q h k n pc L stk := fun T locs X N eT => by
  subst hst has
  obtain ⟨v, _, ⟨T', L1, k1, n1⟩, -, X', ⟨L2, ⟨N', hq⟩, l1, l2, l3⟩, f⟩ := X.specialBack C.2.2.1 (y := y) hy1 C.2.2.2.2.2.1 (mvT C.2.2.2.2.1 w1) (mvT C.2.2.2.2.1 w2) (mvT C.2.2.2.2.1 wc) hy (backOf (W := W) (Q := fun v h L => Fr n0 L ∧ Q' v h) (C.1 ▸ K []) C.2.2.2.2.1 wc wz (by rw [C.2.1]; exact hf) (by rw [C.2.1]; exact hlo)) (g := mkF B.m pc L (argsL.reverse ++ .ref a :: st)) rfl (by rw [C.2.2.2.2.2.2.2.1]; exact hsz) (Steps.refl _) (a := a) (argsL := argsL) (rest := st) (lenOf pd hlen) rfl (by show 2 * 0 + _ ≤ _; omega) (hb C.2.2.2.1 hd) (fun _ _ => ⟨rfl, eT, by rw [C.2.1]; exact hc, by rw [C.2.1]; exact hs⟩)
  dsimp only [Pt.U, Pt.locs, Pt.cells, Pt.slots] at X' l1 l2 l3 f hq
  subst l1 l2 l3
  obtain ⟨t, o, q, r⟩ := go v _ hq T' _ X' (Fr.app N N') rfl
  subst hpc
  exact ⟨t, o, f.trans q, r⟩
theorem g_virtual (C : Ctx B l rm bytes own nm maxL ret Z) {i : Nat} {y : MethodName} {b' : ByteArray} {mx : Nat} {rt : Option FieldType} {rm' : Room} {as' : Array Value} {Q' : Option Value → Heap → Prop} {a : Addr} {K' : String} {y0 : MethodName} (w1 : (Jvm.Cond.methodLink own i y0).before a0 Z = true) (w2 : (Jvm.Cond.declares y0).before a0 Z = true) (w3 : (Jvm.Cond.selects K' y0 y).before a0 Z = true) (w4 : (Jvm.Cond.instanceMethod y).before a0 Z = true) (wz : (Jvm.Cond.initialized y.cls).before a0 Z = true) (wc : (Jvm.Cond.code y b' mx rt).before a0 Z = true) (nf : NotFace B.s y0) (hy : y0.cls ≠ "java/lang/invoke/MethodHandle" ∧ y0.cls ≠ "java/lang/invoke/VarHandle") (E : Exa Z h a K') (K : Met1 l Z y b' mx rt rm' n0 as' h Q') (argsL : List Value) {stk : List Value} (hst : stk = argsL.reverse ++ .ref a :: st) (has : as' = (Value.ref a :: argsL).toArray) {ps : List FieldType} {r' : Option FieldType} (pd : parseMethodDescriptor y0.desc = some ⟨ps, r'⟩) (hlen : argsL.length = ps.length) (hsz : L.size = maxL) (hf : rm'.frames + 1 ≤ rm.frames) {W : Nat} (hW : (st.map fun v => v.category).sum ≤ W) (hlo : W + (mx + 11) + rm'.locals ≤ rm.locals) (hc : k + rm'.cells ≤ rm.cells) (hs : n + rm'.slots ≤ rm.slots) (hd : decode bytes pc = .ok (.invokevirtual i, 3)) (hpc : pc + 3 = pc') (go : ∀ v h', Q' v h' → Go B n0 Q h' (k + rm'.cells) (n + rm'.slots) pc' L (v.toList ++ st)) : Go B n0 Q h k n pc L stk := fun T locs X N eT => by
  subst hst has
  obtain ⟨cq, kq, qa, qb, qc⟩ := isOf C.2.2.2.2.1 eT E
  obtain ⟨v, _, ⟨T', L1, k1, n1⟩, -, X', ⟨L2, ⟨N', hq⟩, l1, l2, l3⟩, f⟩ := X.virtualBack C.2.2.1 (y := y0) (z := y) C.2.2.2.2.2.1 (mvT C.2.2.2.2.1 w1) (mvT C.2.2.2.2.1 w2) nf (mvT C.2.2.2.2.1 w3) (mvT C.2.2.2.2.1 w4) hy (backOf (W := W) (Q := fun v h L => Fr n0 L ∧ Q' v h) (C.1 ▸ K []) C.2.2.2.2.1 wc wz (by rw [C.2.1]; exact hf) (by rw [C.2.1]; exact hlo)) qa qc (g := mkF B.m pc L (argsL.reverse ++ .ref a :: st)) rfl (by rw [C.2.2.2.2.2.2.2.1]; exact hsz) (Steps.refl _) (argsL := argsL) (rest := st) (lenOf pd hlen) rfl (by show 2 * 0 + _ ≤ _; omega) (hb C.2.2.2.1 hd) (fun _ _ => ⟨rfl, eT, by rw [C.2.1]; exact hc, by rw [C.2.1]; exact hs⟩)
  dsimp only [Pt.U, Pt.locs, Pt.cells, Pt.slots] at X' l1 l2 l3 f hq
  subst l1 l2 l3
  obtain ⟨t, o, q, r⟩ := go v _ hq T' _ X' (Fr.app N N') rfl
  subst hpc
  exact ⟨t, o, f.trans q, r⟩
theorem g_ret (C : Ctx B l rm bytes own nm maxL ret Z) {v : Value} {ty : FieldType} {i : Instr} (hret : ret = some ty) (hn : narrow ty v = v)
    (hi : (i = .ireturn ∧ (ty = .int ∨ ty = .boolean ∨ ty = .byte ∨ ty = .char ∨ ty = .short) ∧ ∃ z, v = .int z) ∨ (i = .lreturn ∧ ty = .long ∧ ∃ z, v = .long z) ∨ (i = .dreturn ∧ ty = .double ∧ ∃ z, v = .double z) ∨ (i = .freturn ∧ ty = .float ∧ ∃ z, v = .float z) ∨ (i = .areturn ∧ ty.isReference = true ∧ v.isRef = true))
    (hd : decode bytes pc = .ok (i, 1)) (hk : k ≤ rm.cells) (hs : n ≤ rm.slots) (go : Q (some v) h) : Go B n0 Q h k n pc L (v :: st) := fun T locs X N eT => by
  have hr0 : B.meth.sig.returnType = some ty := C.2.2.2.2.2.2.2.2.1.trans hret
  obtain ⟨fs, hr, hrun, hended, hW, hsame⟩ := X.leave (v := some v) (fun q => by rw [hr0] at q; cases q) C.2.2.2.2.2.2.2.2.2
  exact ⟨_, _, retOut X C.2.2.1 hr0 hn hi (hb C.2.2.2.1 hd) hr, hrun, hended, _, _, rfl, ⟨N, by show Q _ T.heap; rw [eT]; exact go⟩, ⟨_, rfl⟩, hW, hsame.mono (by rw [C.2.1]; exact hk) (by rw [C.2.1]; exact hs)⟩
theorem g_return (C : Ctx B l rm bytes own nm maxL ret Z) (hret : ret = none) (hd : decode bytes pc = .ok (.return_, 1)) (hk : k ≤ rm.cells) (hs : n ≤ rm.slots) (go : Q none h) : Go B n0 Q h k n pc L [] := fun T locs X N eT => by
  have hr0 : B.meth.sig.returnType = none := C.2.2.2.2.2.2.2.2.1.trans hret
  obtain ⟨fs, hr, hrun, hended, hW, hsame⟩ := X.leave (v := none) (fun _ => rfl) C.2.2.2.2.2.2.2.2.2
  exact ⟨_, _, X.returnOut C.2.2.1 hr0 (hb C.2.2.2.1 hd) hr, hrun, hended, _, _, rfl, ⟨N, by show Q _ T.heap; rw [eT]; exact go⟩, ⟨_, rfl⟩, hW, hsame.mono (by rw [C.2.1]; exact hk) (by rw [C.2.1]; exact hs)⟩
end Base
/-! arrays made on the road -/
section Arrays
variable {Z : State} {h h' : Heap} {a b : Addr} {ty : FieldType} {vs : List Value} {ws : List Addr} {sl : Nat} {v : Value} {K : String}
def Ary (Z : State) (h : Heap) (a : Addr) (ty : FieldType) (vs : List Value) : Prop := ∃ c : Cell, Arr Z h a c ty ∧ c.slots.toList = vs ∧ vs.length < 2 ^ 31
def AryR (Z : State) (h : Heap) (a : Addr) (K : String) (vs : List Value) : Prop := ∃ c : Cell, Arr Z h a c (.object K) ∧ Ovr Z c.cls K ∧ c.slots.toList = vs ∧ vs.length < 2 ^ 31
theorem AryR.ary (F : AryR Z h a K vs) : Ary Z h a (.object K) vs := by obtain ⟨c, A, -, r⟩ := F; exact ⟨c, A, r⟩
theorem Ary.lt (F : Ary Z h a ty vs) : a < h.size := by obtain ⟨c, A, -⟩ := F; exact A.lt
theorem AryR.lt (F : AryR Z h a K vs) : a < h.size := F.ary.lt
theorem Ary.ext (F : Ary Z h a ty vs) (E : Ext h h') : Ary Z h' a ty vs := by obtain ⟨c, A, r⟩ := F; exact ⟨c, A.ext E, r⟩
theorem AryR.ext (F : AryR Z h a K vs) (E : Ext h h') : AryR Z h' a K vs := by obtain ⟨c, A, r⟩ := F; exact ⟨c, A.ext E, r⟩
theorem Ary.keep (F : Ary Z h a ty vs) (K : Keep h h' ws) (q : a ∉ ws) : Ary Z h' a ty vs := by obtain ⟨c, A, r⟩ := F; exact ⟨c, ⟨K.2.1 a c A.1 q, A.2⟩, r⟩
theorem AryR.keep (F : AryR Z h a K vs) (Kp : Keep h h' ws) (q : a ∉ ws) : AryR Z h' a K vs := by obtain ⟨c, A, r⟩ := F; exact ⟨c, ⟨Kp.2.1 a c A.1 q, A.2⟩, r⟩
theorem set_list (c : Cell) (i : Nat) (v : Value) : (c.setSlot i v).slots.toList = c.slots.toList.set i v := by simp [Cell.setSlot]
theorem keep_ext (E : Ext h h') : Keep h h' [] := (Keep.refl h []).ext E
theorem ne_new {c : Nat} (q : a < c) (e : b = c) : a ≠ b := fun z => absurd q (by rw [z, e]; exact Nat.lt_irrefl _)
theorem ne_newL {c : Nat} (q : a < c) (e : b = c) : b ≠ a := fun z => absurd q (by rw [← z, e]; exact Nat.lt_irrefl _)
theorem ne_ge {c : Nat} (q : a < c) (e : c ≤ b) : a ≠ b := fun z => absurd q (Nat.not_lt.mpr (z ▸ e))
theorem nin1 (q : a ≠ b) : a ∉ [b] := ninS q nin0
theorem in_b {j : Int32} {c : Cell} {i : Nat} (h0 : ¬ j < 0) (hj : j.toNatClampNeg = i) (hi : i < c.slots.size) : ¬ (j < 0 ∨ c.slots.size ≤ j.toNatClampNeg) := fun q => q.elim h0 fun q => by omega
end Arrays
section ArraySteps
variable {B : Bod} {l : Launch} {rm : Room} {bytes : ByteArray} {own nm : String} {maxL : Nat} {ret : Option FieldType} {Z : State} {n0 : Nat} {Q : Option Value → Heap → Prop} {h : Heap} {k n pc pc' : Nat} {L L' : Array Slot} {st st' : List Value} {a0 : Array Value}
theorem g_iaload (C : Ctx B l rm bytes own nm maxL ret Z) {a : Addr} {vs : List Value} {j : Int32} {i : Nat} {v : Int32} (F : Ary Z h a .int vs) (h0 : ¬ j < 0) (hj : j.toNatClampNeg = i) (hv : vs[i]? = some (.int v)) (hd : decode bytes pc = .ok (.iaload, 1)) (hpc : pc + 1 = pc') (go : Go B n0 Q h k n pc' L (.int v :: st)) : Go B n0 Q h k n pc L (.int j :: .ref a :: st) := go.step fun T locs X eT t q => by
  obtain ⟨c, A, rfl, hl⟩ := F
  have hi := (List.getElem?_eq_some_iff.mp hv).1
  rw [Array.length_toList] at hi
  rw [Array.getElem?_toList, ← hj] at hv
  exact X.iaload C.2.2.1 (by rw [eT]; exact A.1) (State.isArrayOf_alike C.2.2.2.2.1.alike A.2.1)  A.2.2 (in_b h0 hj hi) hv (g := mkF B.m pc L (.int j :: .ref a :: st)) rfl rfl (hb C.2.2.2.1 hd) t (by subst hpc; exact q)
theorem g_laload (C : Ctx B l rm bytes own nm maxL ret Z) {a : Addr} {vs : List Value} {j : Int32} {i : Nat} {v : Int64} (F : Ary Z h a .long vs) (h0 : ¬ j < 0) (hj : j.toNatClampNeg = i) (hv : vs[i]? = some (.long v)) (hd : decode bytes pc = .ok (.laload, 1)) (hpc : pc + 1 = pc') (go : Go B n0 Q h k n pc' L (.long v :: st)) : Go B n0 Q h k n pc L (.int j :: .ref a :: st) := go.step fun T locs X eT t q => by
  obtain ⟨c, A, rfl, hl⟩ := F
  have hi := (List.getElem?_eq_some_iff.mp hv).1
  rw [Array.length_toList] at hi
  rw [Array.getElem?_toList, ← hj] at hv
  exact X.laload C.2.2.1 (by rw [eT]; exact A.1) (State.isArrayOf_alike C.2.2.2.2.1.alike A.2.1)  A.2.2 (in_b h0 hj hi) hv (g := mkF B.m pc L (.int j :: .ref a :: st)) rfl rfl (hb C.2.2.2.1 hd) t (by subst hpc; exact q)
theorem g_caload (C : Ctx B l rm bytes own nm maxL ret Z) {a : Addr} {vs : List Value} {j : Int32} {i : Nat} {v : Int32} (F : Ary Z h a .char vs) (h0 : ¬ j < 0) (hj : j.toNatClampNeg = i) (hv : vs[i]? = some (.int v)) (hd : decode bytes pc = .ok (.caload, 1)) (hpc : pc + 1 = pc') (go : Go B n0 Q h k n pc' L (.int v :: st)) : Go B n0 Q h k n pc L (.int j :: .ref a :: st) := go.step fun T locs X eT t q => by
  obtain ⟨c, A, rfl, hl⟩ := F
  have hi := (List.getElem?_eq_some_iff.mp hv).1
  rw [Array.length_toList] at hi
  rw [Array.getElem?_toList, ← hj] at hv
  exact X.caload C.2.2.1 (by rw [eT]; exact A.1) (State.isArrayOf_alike C.2.2.2.2.1.alike A.2.1)  A.2.2 (in_b h0 hj hi) hv (g := mkF B.m pc L (.int j :: .ref a :: st)) rfl rfl (hb C.2.2.2.1 hd) t (by subst hpc; exact q)
theorem g_baloadB (C : Ctx B l rm bytes own nm maxL ret Z) {a : Addr} {vs : List Value} {j : Int32} {i : Nat} {v : Int32} (F : Ary Z h a .byte vs) (h0 : ¬ j < 0) (hj : j.toNatClampNeg = i) (hv : vs[i]? = some (.int v)) (hd : decode bytes pc = .ok (.baload, 1)) (hpc : pc + 1 = pc') (go : Go B n0 Q h k n pc' L (.int v :: st)) : Go B n0 Q h k n pc L (.int j :: .ref a :: st) := go.step fun T locs X eT t q => by
  obtain ⟨c, A, rfl, hl⟩ := F
  have hi := (List.getElem?_eq_some_iff.mp hv).1
  rw [Array.length_toList] at hi
  rw [Array.getElem?_toList, ← hj] at hv
  exact X.baloadBytes C.2.2.1 (by rw [eT]; exact A.1) (State.isArrayOf_alike C.2.2.2.2.1.alike A.2.1)  A.2.2 (in_b h0 hj hi) hv (g := mkF B.m pc L (.int j :: .ref a :: st)) rfl rfl (hb C.2.2.2.1 hd) t (by subst hpc; exact q)
theorem g_baloadZ (C : Ctx B l rm bytes own nm maxL ret Z) {a : Addr} {vs : List Value} {j : Int32} {i : Nat} {v : Int32} (F : Ary Z h a .boolean vs) (h0 : ¬ j < 0) (hj : j.toNatClampNeg = i) (hv : vs[i]? = some (.int v)) (hd : decode bytes pc = .ok (.baload, 1)) (hpc : pc + 1 = pc') (go : Go B n0 Q h k n pc' L (.int v :: st)) : Go B n0 Q h k n pc L (.int j :: .ref a :: st) := go.step fun T locs X eT t q => by
  obtain ⟨c, A, rfl, hl⟩ := F
  have hi := (List.getElem?_eq_some_iff.mp hv).1
  rw [Array.length_toList] at hi
  rw [Array.getElem?_toList, ← hj] at hv
  exact X.baloadBooleans C.2.2.1 (by rw [eT]; exact A.1) (State.isArrayOf_alike C.2.2.2.2.1.alike A.2.1)  A.2.2 (in_b h0 hj hi) hv (g := mkF B.m pc L (.int j :: .ref a :: st)) rfl rfl (hb C.2.2.2.1 hd) t (by subst hpc; exact q)
theorem g_aaload (C : Ctx B l rm bytes own nm maxL ret Z) {a : Addr} {vs : List Value} {j : Int32} {i : Nat} {v : Value} {ty : FieldType} (F : Ary Z h a ty vs) (hty : ty.isReference = true) (h0 : ¬ j < 0) (hj : j.toNatClampNeg = i) (hv : vs[i]? = some v) (hd : decode bytes pc = .ok (.aaload, 1)) (hpc : pc + 1 = pc') (go : Go B n0 Q h k n pc' L (v :: st)) : Go B n0 Q h k n pc L (.int j :: .ref a :: st) := go.step fun T locs X eT t q => by
  obtain ⟨c, A, rfl, hl⟩ := F
  have hi := (List.getElem?_eq_some_iff.mp hv).1
  rw [Array.length_toList] at hi
  rw [Array.getElem?_toList, ← hj] at hv
  exact X.aaload C.2.2.1 (by rw [eT]; exact A.1) (State.isArrayOf_alike C.2.2.2.2.1.alike A.2.1) hty A.2.2 (in_b h0 hj hi) hv (g := mkF B.m pc L (.int j :: .ref a :: st)) rfl rfl (hb C.2.2.2.1 hd) t (by subst hpc; exact q)
theorem g_arraylength (C : Ctx B l rm bytes own nm maxL ret Z) {a : Addr} {vs : List Value} {ty : FieldType} {z : Int32} (F : Ary Z h a ty vs) (hz : vs.length.toInt32 = z) (hd : decode bytes pc = .ok (.arraylength, 1)) (hpc : pc + 1 = pc') (go : Go B n0 Q h k n pc' L (.int z :: st)) : Go B n0 Q h k n pc L (.ref a :: st) := go.step fun T locs X eT t q => by
  obtain ⟨c, A, rfl, hl⟩ := F
  rw [Array.length_toList] at hz
  exact X.arraylength C.2.2.1 (by rw [eT]; exact A.1) (State.isArrayOf_alike C.2.2.2.2.1.alike A.2.1) (g := mkF B.m pc L (.ref a :: st)) rfl rfl (hb C.2.2.2.1 hd) t (by subst hpc hz; exact q)
theorem g_iastore (C : Ctx B l rm bytes own nm maxL ret Z) {a : Addr} {vs : List Value} {j : Int32} {i : Nat} {v : Int32} {w : Value} (F : Ary Z h a .int vs) (h0 : ¬ j < 0) (hj : j.toNatClampNeg = i) (hi : i < vs.length) (hw : Value.int v = w) (ge : n0 ≤ a) (hd : decode bytes pc = .ok (.iastore, 1)) (hpc : pc + 1 = pc') (go : ∀ h', Keep h h' [a] → Ary Z h' a .int (vs.set i w) → Go B n0 Q h' k n pc' L st) : Go B n0 Q h k n pc L (.int v :: .int j :: .ref a :: st) := fun T locs X N eT => by
  obtain ⟨c, A, rfl, hl⟩ := F
  have hi' := hi
  rw [Array.length_toList] at hi'
  obtain ⟨T', h', X', e', W, f⟩ := stI X C.2.2.1 C.2.2.2.2.1 eT A (in_b h0 hj hi') (g := mkF B.m pc L (.int v :: .int j :: .ref a :: st)) rfl rfl (hb C.2.2.2.1 hd)
  rw [hj, hw] at W
  obtain ⟨t, o, q, r⟩ := go h' (Keep.of_wr W) ⟨_, A.same W, set_list c i w, by rw [List.length_set]; exact hl⟩ T' _ X' (Fr.snoc X' N ge) e'
  subst hpc
  exact ⟨t, o, f t q, r⟩
theorem g_lastore (C : Ctx B l rm bytes own nm maxL ret Z) {a : Addr} {vs : List Value} {j : Int32} {i : Nat} {v : Int64} {w : Value} (F : Ary Z h a .long vs) (h0 : ¬ j < 0) (hj : j.toNatClampNeg = i) (hi : i < vs.length) (hw : Value.long v = w) (ge : n0 ≤ a) (hd : decode bytes pc = .ok (.lastore, 1)) (hpc : pc + 1 = pc') (go : ∀ h', Keep h h' [a] → Ary Z h' a .long (vs.set i w) → Go B n0 Q h' k n pc' L st) : Go B n0 Q h k n pc L (.long v :: .int j :: .ref a :: st) := fun T locs X N eT => by
  obtain ⟨c, A, rfl, hl⟩ := F
  have hi' := hi
  rw [Array.length_toList] at hi'
  obtain ⟨T', h', X', e', W, f⟩ := stJ X C.2.2.1 C.2.2.2.2.1 eT A (in_b h0 hj hi') (g := mkF B.m pc L (.long v :: .int j :: .ref a :: st)) rfl rfl (hb C.2.2.2.1 hd)
  rw [hj, hw] at W
  obtain ⟨t, o, q, r⟩ := go h' (Keep.of_wr W) ⟨_, A.same W, set_list c i w, by rw [List.length_set]; exact hl⟩ T' _ X' (Fr.snoc X' N ge) e'
  subst hpc
  exact ⟨t, o, f t q, r⟩
theorem g_castore (C : Ctx B l rm bytes own nm maxL ret Z) {a : Addr} {vs : List Value} {j : Int32} {i : Nat} {v : Int32} {w : Value} (F : Ary Z h a .char vs) (h0 : ¬ j < 0) (hj : j.toNatClampNeg = i) (hi : i < vs.length) (hw : Value.int (nar .char v) = w) (ge : n0 ≤ a) (hd : decode bytes pc = .ok (.castore, 1)) (hpc : pc + 1 = pc') (go : ∀ h', Keep h h' [a] → Ary Z h' a .char (vs.set i w) → Go B n0 Q h' k n pc' L st) : Go B n0 Q h k n pc L (.int v :: .int j :: .ref a :: st) := fun T locs X N eT => by
  obtain ⟨c, A, rfl, hl⟩ := F
  have hi' := hi
  rw [Array.length_toList] at hi'
  obtain ⟨T', h', X', e', W, f⟩ := stC X C.2.2.1 C.2.2.2.2.1 eT A (in_b h0 hj hi') (g := mkF B.m pc L (.int v :: .int j :: .ref a :: st)) rfl rfl (hb C.2.2.2.1 hd)
  rw [hj, hw] at W
  obtain ⟨t, o, q, r⟩ := go h' (Keep.of_wr W) ⟨_, A.same W, set_list c i w, by rw [List.length_set]; exact hl⟩ T' _ X' (Fr.snoc X' N ge) e'
  subst hpc
  exact ⟨t, o, f t q, r⟩
theorem g_bastoreB (C : Ctx B l rm bytes own nm maxL ret Z) {a : Addr} {vs : List Value} {j : Int32} {i : Nat} {v : Int32} {w : Value} (F : Ary Z h a .byte vs) (h0 : ¬ j < 0) (hj : j.toNatClampNeg = i) (hi : i < vs.length) (hw : Value.int (nar .byte v) = w) (ge : n0 ≤ a) (hd : decode bytes pc = .ok (.bastore, 1)) (hpc : pc + 1 = pc') (go : ∀ h', Keep h h' [a] → Ary Z h' a .byte (vs.set i w) → Go B n0 Q h' k n pc' L st) : Go B n0 Q h k n pc L (.int v :: .int j :: .ref a :: st) := fun T locs X N eT => by
  obtain ⟨c, A, rfl, hl⟩ := F
  have hi' := hi
  rw [Array.length_toList] at hi'
  obtain ⟨T', h', X', e', W, f⟩ := stB X C.2.2.1 C.2.2.2.2.1 eT A (in_b h0 hj hi') (g := mkF B.m pc L (.int v :: .int j :: .ref a :: st)) rfl rfl (hb C.2.2.2.1 hd)
  rw [hj, hw] at W
  obtain ⟨t, o, q, r⟩ := go h' (Keep.of_wr W) ⟨_, A.same W, set_list c i w, by rw [List.length_set]; exact hl⟩ T' _ X' (Fr.snoc X' N ge) e'
  subst hpc
  exact ⟨t, o, f t q, r⟩
theorem g_bastoreZ (C : Ctx B l rm bytes own nm maxL ret Z) {a : Addr} {vs : List Value} {j : Int32} {i : Nat} {v : Int32} {w : Value} (F : Ary Z h a .boolean vs) (h0 : ¬ j < 0) (hj : j.toNatClampNeg = i) (hi : i < vs.length) (hw : Value.int (nar .boolean v) = w) (ge : n0 ≤ a) (hd : decode bytes pc = .ok (.bastore, 1)) (hpc : pc + 1 = pc') (go : ∀ h', Keep h h' [a] → Ary Z h' a .boolean (vs.set i w) → Go B n0 Q h' k n pc' L st) : Go B n0 Q h k n pc L (.int v :: .int j :: .ref a :: st) := fun T locs X N eT => by
  obtain ⟨c, A, rfl, hl⟩ := F
  have hi' := hi
  rw [Array.length_toList] at hi'
  obtain ⟨T', h', X', e', W, f⟩ := stZ X C.2.2.1 C.2.2.2.2.1 eT A (in_b h0 hj hi') (g := mkF B.m pc L (.int v :: .int j :: .ref a :: st)) rfl rfl (hb C.2.2.2.1 hd)
  rw [hj, hw] at W
  obtain ⟨t, o, q, r⟩ := go h' (Keep.of_wr W) ⟨_, A.same W, set_list c i w, by rw [List.length_set]; exact hl⟩ T' _ X' (Fr.snoc X' N ge) e'
  subst hpc
  exact ⟨t, o, f t q, r⟩
theorem g_aastore (C : Ctx B l rm bytes own nm maxL ret Z) {a y : Addr} {K : String} {vs : List Value} {j : Int32} {i : Nat} (F : AryR Z h a K vs) (I : Ins Z h y K true) (h0 : ¬ j < 0) (hj : j.toNatClampNeg = i) (hi : i < vs.length) (ge : n0 ≤ a) (hd : decode bytes pc = .ok (.aastore, 1)) (hpc : pc + 1 = pc') (go : ∀ h', Keep h h' [a] → AryR Z h' a K (vs.set i (.ref y)) → Go B n0 Q h' k n pc' L st) : Go B n0 Q h k n pc L (.ref y :: .int j :: .ref a :: st) := fun T locs X N eT => by
  obtain ⟨c, A, O, rfl, hl⟩ := F
  have hi' := hi
  rw [Array.length_toList] at hi'
  obtain ⟨T', h', X', e', W, f⟩ := stR X C.2.2.1 C.2.2.2.2.1 eT A (in_b h0 hj hi') rfl (Sto.of A O I) (g := mkF B.m pc L (.ref y :: .int j :: .ref a :: st)) rfl rfl (hb C.2.2.2.1 hd)
  rw [hj] at W
  obtain ⟨t, o, q, r⟩ := go h' (Keep.of_wr W) ⟨_, A.same W, O, set_list c i _, by rw [List.length_set]; exact hl⟩ T' _ X' (Fr.snoc X' N ge) e'
  subst hpc
  exact ⟨t, o, f t q, r⟩
theorem g_newarray (C : Ctx B l rm bytes own nm maxL ret Z) {aty : ArrayType} {z : Int32} {cap : Nat} {ty : FieldType} (w : (Jvm.Cond.arrayClass (newarray.typeOf aty)).before a0 Z = true) (hty : newarray.typeOf aty = ty) (hz : ¬ z < 0) (hcap : z.toNatClampNeg = cap) (hcb : cap * 8 ≤ 536870912) (hc : k + 1 ≤ rm.cells) (hl : n + cap ≤ rm.slots) (hd : decode bytes pc = .ok (.newarray aty, 2)) (hpc : pc + 2 = pc') (go : ∀ h' a, a = h.size → Ext h h' → Ary Z h' a ty (List.replicate cap (defaultValue ty)) → Go B n0 Q h' (k + 1) (n + cap) pc' L (.ref a :: st)) : Go B n0 Q h k n pc L (.int z :: st) := fun T locs X N eT => by
  subst hty
  obtain ⟨T', h', cA, X', e', E, A, f⟩ := newP X C.2.2.1 C.2.2.2.2.1 w eT (g := mkF B.m pc L (.int z :: st)) rfl (hb C.2.2.2.1 hd) rfl hz (cap := cap) (Nat.le_of_eq hcap) hcb (by rw [C.2.1]; exact hc) (by rw [C.2.1]; exact hl)
  obtain ⟨t, o, q, r⟩ := go h' _ rfl E ⟨_, A, by rw [← hcap]; simp [newA], by rw [List.length_replicate]; omega⟩ T' _ X' N e'
  subst hpc
  exact ⟨t, o, f t q, r⟩
theorem g_newarrayUpTo (C : Ctx B l rm bytes own nm maxL ret Z) {aty : ArrayType} {z : Int32} {len cap : Nat} {ty : FieldType} (w : (Jvm.Cond.arrayClass (newarray.typeOf aty)).before a0 Z = true) (hty : newarray.typeOf aty = ty) (hz : ¬ z < 0) (hlen : z.toNatClampNeg = len) (hcap : len ≤ cap) (hcb : cap * 8 ≤ 536870912) (hc : k + 1 ≤ rm.cells) (hl : n + cap ≤ rm.slots) (hd : decode bytes pc = .ok (.newarray aty, 2)) (hpc : pc + 2 = pc') (go : ∀ h' a, a = h.size → Ext h h' → Ary Z h' a ty (List.replicate len (defaultValue ty)) → Go B n0 Q h' (k + 1) (n + cap) pc' L (.ref a :: st)) : Go B n0 Q h k n pc L (.int z :: st) := fun T locs X N eT => by
  subst hty
  obtain ⟨T', h', cA, X', e', E, A, f⟩ := newP X C.2.2.1 C.2.2.2.2.1 w eT (g := mkF B.m pc L (.int z :: st)) rfl (hb C.2.2.2.1 hd) rfl hz (cap := cap) (by rw [hlen]; exact hcap) hcb (by rw [C.2.1]; exact hc) (by rw [C.2.1]; exact hl)
  obtain ⟨t, o, q, r⟩ := go h' _ rfl E ⟨_, A, by rw [← hlen]; simp [newA], by rw [List.length_replicate]; omega⟩ T' _ X' N e'
  subst hpc
  exact ⟨t, o, f t q, r⟩
theorem g_anewarray (C : Ctx B l rm bytes own nm maxL ret Z) {i : Nat} {K : String} {z : Int32} {cap : Nat} (w : (Jvm.Cond.classLink own i K).before a0 Z = true) (w2 : (Jvm.Cond.arrayOver (.object K)).before a0 Z = true) (hz : ¬ z < 0) (hcap : z.toNatClampNeg = cap) (hcb : cap * 8 ≤ 536870912) (hc : k + 1 ≤ rm.cells) (hl : n + cap ≤ rm.slots) (hd : decode bytes pc = .ok (.anewarray i, 3)) (hpc : pc + 3 = pc') (go : ∀ h' a, a = h.size → Ext h h' → AryR Z h' a K (List.replicate cap .null) → Go B n0 Q h' (k + 1) (n + cap) pc' L (.ref a :: st)) : Go B n0 Q h k n pc L (.int z :: st) := fun T locs X N eT => by
  obtain ⟨T', h', cA, X', e', E, A, O, f⟩ := newR X C.2.2.1 C.2.2.2.2.1 C.2.2.2.2.2.1 w w2 eT (g := mkF B.m pc L (.int z :: st)) rfl (hb C.2.2.2.1 hd) rfl hz (cap := cap) (Nat.le_of_eq hcap) hcb (by rw [C.2.1]; exact hc) (by rw [C.2.1]; exact hl)
  obtain ⟨t, o, q, r⟩ := go h' _ rfl E ⟨_, A, O, by rw [← hcap]; simp [newA, defaultValue], by rw [List.length_replicate]; omega⟩ T' _ X' N e'
  subst hpc
  exact ⟨t, o, f t q, r⟩
end ArraySteps
end Jvm.OwnKit
namespace Jvm.OwnKit
open Jvm Jvm.ClassFile Sem Op Lib Jvm.Stand Jvm.Free Jvm.LawKit Jvm.RoadKit
section More
variable {B : Bod} {l : Launch} {rm : Room} {bytes : ByteArray} {own nm : String} {maxL : Nat} {ret : Option FieldType} {Z : State} {n0 : Nat} {Q : Option Value → Heap → Prop} {h h' : Heap} {k n pc pc' : Nat} {L L' : Array Slot} {st st' : List Value} {a0 : Array Value} {a b : Addr} {ty : FieldType} {vs vd : List Value}
theorem g_sipush (C : Ctx B l rm bytes own nm maxL ret Z) {z : Int} {v : Int32} (hd : decode bytes pc = .ok (.sipush z, 3)) (hv : (Int16.ofInt z).toInt32 = v) (hpc : pc + 3 = pc') (go : Go B n0 Q h k n pc' L (.int v :: st)) : Go B n0 Q h k n pc L st := go.step fun T locs X eT t q => Jvm.Free.XS.sipush X.here C.2.2.1 rfl (hb C.2.2.2.1 hd) (by subst hpc hv; exact q)
theorem g_instanceof_null (C : Ctx B l rm bytes own nm maxL ret Z) {i : Nat} (hd : decode bytes pc = .ok (.instanceof i, 3)) (hpc : pc + 3 = pc') (go : Go B n0 Q h k n pc' L (.int 0 :: st)) : Go B n0 Q h k n pc L (.null :: st) := go.step fun T locs X eT t q => X.instanceofNull C.2.2.1 (g := mkF B.m pc L (.null :: st)) rfl rfl (hb C.2.2.2.1 hd) t (by subst hpc; exact q)
theorem g_checkcast_null (C : Ctx B l rm bytes own nm maxL ret Z) {i : Nat} (hd : decode bytes pc = .ok (.checkcast i, 3)) (hpc : pc + 3 = pc') (go : Go B n0 Q h k n pc' L (.null :: st)) : Go B n0 Q h k n pc L (.null :: st) := go.step fun T locs X eT t q => X.checkcastNull C.2.2.1 (g := mkF B.m pc L (.null :: st)) rfl rfl (hb C.2.2.2.1 hd) t (by subst hpc; exact q)
theorem g_private (C : Ctx B l rm bytes own nm maxL ret Z) {i nn : Nat} {y : MethodName} {b' : ByteArray} {mx : Nat} {rt : Option FieldType} {rm' : Room} {as' : Array Value} {Q' : Option Value → Heap → Prop} {K' : String} (w1 : (Jvm.Cond.methodLink own i y).before a0 Z = true) (w4 : (Jvm.Cond.instanceMethod y).before a0 Z = true) (wp : (Jvm.Cond.privateMethod y).before a0 Z = true) (wi : (Jvm.Cond.instantiable y.cls nn).before a0 Z = true) (wz : (Jvm.Cond.initialized y.cls).before a0 Z = true) (wc : (Jvm.Cond.code y b' mx rt).before a0 Z = true) (hy : y.cls ≠ "java/lang/invoke/MethodHandle" ∧ y.cls ≠ "java/lang/invoke/VarHandle") (E : Exa Z h a K') (K : Met1 l Z y b' mx rt rm' n0 as' h Q') (argsL : List Value) {stk : List Value} (hst : stk = argsL.reverse ++ .ref a :: st) (has : as' = (Value.ref a :: argsL).toArray) {ps : List FieldType} {r' : Option FieldType} (pd : parseMethodDescriptor y.desc = some ⟨ps, r'⟩) (hlen : argsL.length = ps.length) (hsz : L.size = maxL) (hf : rm'.frames + 1 ≤ rm.frames) {W : Nat} (hW : (st.map fun v => v.category).sum ≤ W) (hlo : W + (mx + 11) + rm'.locals ≤ rm.locals) (hc : k + rm'.cells ≤ rm.cells) (hs : n + rm'.slots ≤ rm.slots) (hd : decode bytes pc = .ok (.invokevirtual i, 3)) (hpc : pc + 3 = pc') (go : ∀ v h', Q' v h' → Go B n0 Q h' (k + rm'.cells) (n + rm'.slots) pc' L (v.toList ++ st)) : Go B n0 Q h k n pc L stk := fun T locs X N eT => by
  subst hst has
  obtain ⟨cq, kq, qa, qb, cellq, qc, qd, qe⟩ := isOf C.2.2.2.2.1 eT E
  obtain ⟨c9, k9, u1, u2, u3, u4, -⟩ := Cond.instantiable_spec (mvT (args := B.args) C.2.2.2.2.1 wi)
  have hni : k9.isInterface = false := by simp only [Bool.or_eq_false_iff] at u4; exact u4.1
  have hpr := Cond.privateMethod_at (mvP C.2.2.2.2.1 wp (args := B.args))
  have hsel := selects_self_of_private (args := B.args) u1 u2 hni hpr (mvT C.2.2.2.2.1 w4) hy
  obtain ⟨v, _, ⟨T', L1, k1, n1⟩, -, X', ⟨L2, ⟨N', hq⟩, l1, l2, l3⟩, f⟩ := X.privateBack C.2.2.1 (y := y) C.2.2.2.2.2.1 (mvT C.2.2.2.2.1 w1) (mvT C.2.2.2.2.1 w4) hsel hpr (mvT C.2.2.2.2.1 wc) hy (backOf (W := W) (Q := fun v h L => Fr n0 L ∧ Q' v h) (C.1 ▸ K []) C.2.2.2.2.1 wc wz (by rw [C.2.1]; exact hf) (by rw [C.2.1]; exact hlo)) (g := mkF B.m pc L (argsL.reverse ++ .ref a :: st)) rfl (by rw [C.2.2.2.2.2.2.2.1]; exact hsz) (Steps.refl _) (a := a) qc (fun z e => by rw [e] at qe; cases qe) (argsL := argsL) (rest := st) (lenOf pd hlen) rfl (by show 2 * 0 + _ ≤ _; omega) (hb C.2.2.2.1 hd) (fun _ _ => ⟨rfl, eT, by rw [C.2.1]; exact hc, by rw [C.2.1]; exact hs⟩)
  dsimp only [Pt.U, Pt.locs, Pt.cells, Pt.slots] at X' l1 l2 l3 f hq
  subst l1 l2 l3
  obtain ⟨t, o, q, r⟩ := go v _ hq T' _ X' (Fr.app N N') rfl
  subst hpc
  exact ⟨t, o, f.trans q, r⟩
theorem nat32 {m : Nat} (q : m < 2 ^ 31) : m.toInt32.toNatClampNeg = m := Int32.toNatClampNeg_ofNat_of_lt q
theorem nneg32 {m : Nat} (q : m < 2 ^ 31) : ¬ m.toInt32 < 0 := by
  have e := len_toInt q
  rw [Int32.lt_iff_toInt_lt, e]
  show ¬ (m : Int) < 0
  omega
theorem Ary.arv (F : Ary Z h a ty vs) (hf : ∀ v ∈ vs, fits ty v = true) (dv : Value) : ∃ kk, Arv Z h a kk ty vs.length.toInt32 vs dv := by
  obtain ⟨c, A, rfl, hl⟩ := F
  have hs : c.slots.toList.length = c.slots.size := Array.length_toList
  refine ⟨c.cls, c, A, rfl, ?_, nneg32 hl, fun i hi => ?_, fun i hi => ?_⟩
  · rw [nat32 hl, hs]
  · rw [List.getD_eq_getElem?_getD, Array.getElem?_toList, Array.getElem?_eq_getElem hi]; rfl
  · apply hf
    rw [List.getD_eq_getElem?_getD, Array.getElem?_toList, Array.getElem?_eq_getElem hi]
    exact Array.mem_toList_iff.mpr (Array.getElem_mem hi)
theorem Arv.ary {kk : ClassId} {z : Int32} {dv : Value} (F : Arv Z h a kk ty z vs dv) (hz : z.toNatClampNeg = vs.length) (hl : vs.length < 2 ^ 31) : Ary Z h a ty vs := by
  obtain ⟨c, A, -, S, -, H, -⟩ := F
  refine ⟨c, A, ?_, hl⟩
  apply List.ext_getElem?
  intro i
  by_cases hi : i < c.slots.size
  · rw [Array.getElem?_toList, H i hi, List.getD_eq_getElem?_getD, List.getElem?_eq_getElem (by omega)]; rfl
  · rw [List.getElem?_eq_none (by rw [Array.length_toList]; omega), List.getElem?_eq_none (by omega)]
theorem g_arraycopy (C : Ctx B l rm bytes own nm maxL ret Z) {i : Nat} {sp dp nn : Int32} {spN dpN nnN : Nat} (w1 : (Jvm.Cond.methodLink own i Jvm.Stand.acN).before a0 Z = true) (w2 : (Jvm.Cond.native Jvm.Stand.acN).before a0 Z = true) (w3 : (Jvm.Cond.static Jvm.Stand.acN).before a0 Z = true) (w4 : (Jvm.Cond.initialized "java/lang/System").before a0 Z = true) (F : Ary Z h a ty vs) (G : Ary Z h b ty vd) (hp : refKind ty = false) (hfa : ∀ v ∈ vs, fits ty v = true) (hfb : ∀ v ∈ vd, fits ty v = true) (h1 : ¬ sp < 0) (h2 : ¬ dp < 0) (h3 : ¬ nn < 0) (e1 : sp.toNatClampNeg = spN) (e2 : dp.toNatClampNeg = dpN) (e3 : nn.toNatClampNeg = nnN) (h4 : spN + nnN ≤ vs.length) (h5 : dpN + nnN ≤ vd.length) {out : List Value} (ho : vd.take dpN ++ (List.range nnN).map (fun j => vs.getD (spN + j) .null) ++ vd.drop (dpN + nnN) = out) (ge : n0 ≤ b) (hsz : L.size = maxL) (hf : 1 ≤ rm.frames) {W : Nat} (hW : (st.map fun v => v.category).sum ≤ W) (hlo : W + (nativeFrameWords "java/lang/System" "arraycopy" 5 + 11) ≤ rm.locals) (hd : decode bytes pc = .ok (.invokestatic i, 3)) (hpc : pc + 3 = pc') (go : ∀ h', Keep h h' [b] → Ary Z h' b ty out → Go B n0 Q h' k n pc' L st) : Go B n0 Q h k n pc L (.int nn :: .int dp :: .ref b :: .int sp :: .ref a :: st) := fun T locs X N eT => by
  obtain ⟨ka, A⟩ := F.arv hfa .null
  obtain ⟨kb, A'⟩ := G.arv hfb .null
  obtain ⟨-, -, -, hla⟩ := F
  have hlb : vd.length < 2 ^ 31 := by obtain ⟨-, -, -, q⟩ := G; exact q
  subst e1 e2 e3
  obtain ⟨T', h', L', X', e', N', Kp, R', f⟩ := cpA X C.2.2.1 C.2.2.2.2.1 C.2.2.2.2.2.1 w1 w2 w3 w4 eT A A' (us := (List.range nn.toNatClampNeg).map fun j => vs.getD (sp.toNatClampNeg + j) .null) (Or.inl ⟨rfl, hp⟩) h1 h2 h3 (by rw [nat32 hla]; exact h4) (by rw [nat32 hlb]; exact h5) rfl h5 N ge (g := mkF B.m pc L (.int nn :: .int dp :: .ref b :: .int sp :: .ref a :: st)) rfl (by rw [C.2.2.2.2.2.2.2.1]; exact hsz) rfl (hb C.2.2.2.1 hd) (by rw [C.2.1]; exact hf) (W := W) (by show 2 * 0 + _ ≤ _; omega) (by rw [C.2.1]; exact hlo)
  have ol : (vd.take dp.toNatClampNeg ++ (List.range nn.toNatClampNeg).map (fun j => vs.getD (sp.toNatClampNeg + j) .null) ++ vd.drop (dp.toNatClampNeg + nn.toNatClampNeg)).length = vd.length := by simp; omega
  obtain ⟨t, o, q, r⟩ := go h' Kp (ho ▸ Arv.ary R' (by rw [nat32 hlb, ol]) (by rw [ol]; exact hlb)) T' _ X' N' e'
  subst hpc
  exact ⟨t, o, f t q, r⟩
theorem g_newarrayE (C : Ctx B l rm bytes own nm maxL ret Z) {aty : ArrayType} {z : Int32} {cap : Nat} {ty : FieldType} {ad : String} (w : (Jvm.Cond.arrayClass (newarray.typeOf aty)).before a0 Z = true) (hty : newarray.typeOf aty = ty) (had : "[" ++ (newarray.typeOf aty).toString = ad) (hz : ¬ z < 0) (hcap : z.toNatClampNeg = cap) (hcb : cap * 8 ≤ 536870912) (hc : k + 1 ≤ rm.cells) (hl : n + cap ≤ rm.slots) (hd : decode bytes pc = .ok (.newarray aty, 2)) (hpc : pc + 2 = pc') (go : ∀ h' a, a = h.size → Ext h h' → Ary Z h' a ty (List.replicate cap (defaultValue ty)) → Exa Z h' a ad → Go B n0 Q h' (k + 1) (n + cap) pc' L (.ref a :: st)) : Go B n0 Q h k n pc L (.int z :: st) := fun T locs X N eT => by
  subst hty
  obtain ⟨T', h', cA, X', e', E, A, Ex, f⟩ := newPE X C.2.2.1 C.2.2.2.2.1 w eT (g := mkF B.m pc L (.int z :: st)) rfl (hb C.2.2.2.1 hd) rfl hz (cap := cap) (Nat.le_of_eq hcap) hcb (by rw [C.2.1]; exact hc) (by rw [C.2.1]; exact hl) had
  obtain ⟨t, o, q, r⟩ := go h' _ rfl E ⟨_, A, by rw [← hcap]; simp [newA], by rw [List.length_replicate]; omega⟩ Ex T' _ X' N e'
  subst hpc
  exact ⟨t, o, f t q, r⟩
theorem g_clone (C : Ctx B l rm bytes own nm maxL ret Z) {i cap : Nat} {ad : String} (w1 : (Jvm.Cond.methodLink own i ⟨ad, "clone", "()Ljava/lang/Object;"⟩).before a0 Z = true) (w2 : (Jvm.Cond.sameMethod ad "java/lang/Object" "clone" "()Ljava/lang/Object;").before a0 Z = true) (w3 : (Jvm.Cond.native ⟨"java/lang/Object", "clone", "()Ljava/lang/Object;"⟩).before a0 Z = true)
    (w4 : (Jvm.Cond.instanceMethod ⟨"java/lang/Object", "clone", "()Ljava/lang/Object;"⟩).before a0 Z = true) (w5 : (Jvm.Cond.selects ad ⟨ad, "clone", "()Ljava/lang/Object;"⟩ ⟨"java/lang/Object", "clone", "()Ljava/lang/Object;"⟩).before a0 Z = true) (w6 : (Jvm.Cond.castable ad "java/lang/Cloneable").before a0 Z = true)
    (F : Ary Z h a ty vs) (E : Exa Z h a ad) (hfa : ∀ v ∈ vs, fits ty v = true) (hsz : L.size = maxL) (hf : 1 ≤ rm.frames) {W : Nat} (hW : (st.map fun v => v.category).sum ≤ W) (hlo : W + 14 ≤ rm.locals) (hcap : vs.length ≤ cap) (hc : k + 1 ≤ rm.cells) (hl : n + cap ≤ rm.slots) (hd : decode bytes pc = .ok (.invokevirtual i, 3)) (hpc : pc + 3 = pc') (go : ∀ h' b, b = h.size → Ext h h' → Ary Z h' b ty vs → Exa Z h' b ad → Go B n0 Q h' (k + 1) (n + cap) pc' L (.ref b :: st)) : Go B n0 Q h k n pc L (.ref a :: st) := fun T locs X N eT => by
  obtain ⟨c, A, rfl, hlv⟩ := F
  have FC : FitC Z c := fitC_of A fun j hj v hv => hfa v (by rw [Array.mem_toList_iff]; exact Array.mem_of_getElem? hv)
  obtain ⟨T', h', X', e', Ex, A', E', f⟩ := cloneA X C.2.2.1 C.2.2.2.2.1 C.2.2.2.2.2.1 w1 w2 w3 w4 w5 w6 eT A E FC (g := mkF B.m pc L (.ref a :: st)) rfl (by rw [C.2.2.2.2.2.2.2.1]; exact hsz) rfl (hb C.2.2.2.1 hd) (by rw [C.2.1]; exact hf) (W := W) (cap := cap) (by show 2 * 0 + _ ≤ _; omega) (by rw [C.2.1]; exact hlo) (by rw [← Array.length_toList]; exact hcap) (by rw [C.2.1]; exact hc) (by rw [C.2.1]; exact hl)
  obtain ⟨t, o, q, r⟩ := go h' _ rfl Ex ⟨_, A', rfl, hlv⟩ E' T' _ X' N e'
  subst hpc
  exact ⟨t, o, f t q, r⟩
end More
end Jvm.OwnKit
namespace Jvm.Pilot.@@N@@
open Jvm Jvm.ClassFile Sem Op Lib Jvm.Free Jvm.Stand Jvm.LawKit Jvm.RoadKit Jvm.OwnKit Bundle Jvm.Pilot.@@N@@.Jvm.D
theorem own_w {a0 : Array Value} {Z : State} (hw : ∀ d ∈ tables_1, d.before a0 Z = true) (k : Nat) {d : Jvm.Cond} (e : tables_1[k]? = some d) : d.before a0 Z = true := hw _ (List.mem_of_getElem? e)
def Ens (Z : State) (e_WRITE e_READ : Addr) : Prop := (Sta Z Z.heap "com/example/vestalia/vestalia/model/Step$Kind" "WRITE" "Lcom/example/vestalia/vestalia/model/Step$Kind;" (.ref e_WRITE) ∧ Exa Z Z.heap e_WRITE "com/example/vestalia/vestalia/model/Step$Kind" ∧ Fld Z Z.heap e_WRITE "java/lang/Enum" "ordinal" "I" (.int (1 : Int32))) ∧ (Sta Z Z.heap "com/example/vestalia/vestalia/model/Step$Kind" "READ" "Lcom/example/vestalia/vestalia/model/Step$Kind;" (.ref e_READ) ∧ Exa Z Z.heap e_READ "com/example/vestalia/vestalia/model/Step$Kind" ∧ Fld Z Z.heap e_READ "java/lang/Enum" "ordinal" "I" (.int (0 : Int32)))
theorem own_const {args : Array Value} {s : State} {K K' n d : String} (hx : (Jvm.Cond.exactly (.static K n d) K').value args s none s [] = some true) (hi : (Jvm.Cond.initialized K).before args s = true) (hl : (Jvm.Cond.laysStatic K n d).before args s = true) : ∃ a, Sta s s.heap K n d (.ref a) ∧ Exa s s.heap a K' ∧ (Jvm.Term.static K n d).eval args s none [] s = some (.ref a) := by
  have hx' : (Jvm.Cond.exactly (.static K n d) K').before args s = true := Cond.before_iff.mpr hx
  obtain ⟨a, c, cell, k, e1, -⟩ := Cond.exactly_spec hx'
  exact ⟨a, Sta.start e1 (Or.inr ⟨hi, hl⟩), Exa.start e1 hx, e1⟩
theorem own_fint {args : Array Value} {s : State} {C n d : String} {t : Jvm.Term} {a : Addr} {z : Int32} (e1 : t.eval args s none [] s = some (.ref a)) (h : (Jvm.Cond.eq (.field t C n d) (.int z)).value args s none s [] = some true) : Fld s s.heap a C n d (.int z) :=
  Fld.start (by have q := Cond.eq_int (Cond.before_iff.mpr h) rfl; simpa [Jvm.Term.eval, e1] using q)
theorem own_fref {args : Array Value} {s : State} {C n d K : String} {t : Jvm.Term} {a : Addr} (e1 : t.eval args s none [] s = some (.ref a)) (h : (Jvm.Cond.exactly (.field t C n d) K).value args s none s [] = some true) : ∃ r, Fld s s.heap a C n d (.ref r) := by
  obtain ⟨r, c, cell, k, e2, -⟩ := Cond.exactly_spec (Cond.before_iff.mpr h)
  exact ⟨r, Fld.start (by simpa [Jvm.Term.eval, e1] using e2)⟩
theorem own_fnull {args : Array Value} {s : State} {C n d : String} {t : Jvm.Term} {a : Addr} (e1 : t.eval args s none [] s = some (.ref a)) (h : (Jvm.Cond.eq (.field t C n d) .null).value args s none s [] = some true) : Fld s s.heap a C n d .null := by
  refine Fld.start ?_
  cases q : s.fieldOf? a C n d with
  | none => simp [Jvm.Cond.value, Jvm.Term.eval, e1, q] at h
  | some v => cases v <;> simp_all [Jvm.Cond.value, Jvm.Term.eval]
def Dis (bk bs bv st en' bb : Addr) : Prop := bk ≠ bs ∧ bk ≠ bv ∧ bk ≠ st ∧ bk ≠ en' ∧ bk ≠ bb ∧ bs ≠ bv ∧ bs ≠ st ∧ bs ≠ en' ∧ bs ≠ bb ∧ bv ≠ st ∧ bv ≠ en' ∧ bv ≠ bb ∧ st ≠ en' ∧ st ≠ bb ∧ en' ≠ bb
/-- a StepTrace and its arrays -/
def Tr (Z : State) (h : Heap) (t bk bs bv st en' bb : Addr) (w len wh : Int32) (kv : Value) (s0 : Int32) (v0 : Int64) (ls le lb : List Value) : Prop :=
  Exa Z h t "com/example/vestalia/vestalia/locks/StepTrace" ∧ Fld Z h t "com/example/vestalia/vestalia/locks/StepTrace" "kinds" "[Lcom/example/vestalia/vestalia/model/Step$Kind;" (.ref bk) ∧ Fld Z h t "com/example/vestalia/vestalia/locks/StepTrace" "slots" "[I" (.ref bs) ∧ Fld Z h t "com/example/vestalia/vestalia/locks/StepTrace" "values" "[J" (.ref bv) ∧ Fld Z h t "com/example/vestalia/vestalia/locks/StepTrace" "width" "I" (.int w) ∧ Fld Z h t "com/example/vestalia/vestalia/locks/StepTrace" "start" "[J" (.ref st) ∧ Fld Z h t "com/example/vestalia/vestalia/locks/StepTrace" "end" "[J" (.ref en') ∧ Fld Z h t "com/example/vestalia/vestalia/locks/StepTrace" "before" "[J" (.ref bb) ∧ Fld Z h t "com/example/vestalia/vestalia/locks/StepTrace" "length" "I" (.int len) ∧ Fld Z h t "com/example/vestalia/vestalia/locks/StepTrace" "whole" "Z" (.int wh) ∧ (∃ r : Addr, Fld Z h t "com/example/vestalia/vestalia/locks/StepTrace" "written" "[I" (.ref r)) ∧
  AryR Z h bk "com/example/vestalia/vestalia/model/Step$Kind" [kv, .null, .null, .null, .null, .null, .null, .null] ∧ Ary Z h bs .int [.int s0, .int 0, .int 0, .int 0, .int 0, .int 0, .int 0, .int 0] ∧ Ary Z h bv .long [.long v0, .long 0, .long 0, .long 0, .long 0, .long 0, .long 0, .long 0] ∧ Ary Z h st .long ls ∧ Ary Z h en' .long le ∧ Ary Z h bb .long lb
def sf1 (x0 q0 : Int64) : Int32 := if x0 = q0 then 1 else 0
def sf2 (x0 x1 q0 q1 : Int64) : Int32 := if x0 = q0 then (if x1 = q1 then 1 else 0) else 0
theorem sf1_y {x0 q0 : Int64} (h : x0 = q0) : sf1 x0 q0 = 1 := by rw [sf1, if_pos h]
theorem sf1_n {x0 q0 : Int64} (h : ¬ x0 = q0) : sf1 x0 q0 = 0 := by rw [sf1, if_neg h]
theorem sf2_y {x0 x1 q0 q1 : Int64} (h : x0 = q0) (h' : x1 = q1) : sf2 x0 x1 q0 q1 = 1 := by rw [sf2, if_pos h, if_pos h']
theorem sf2_a {x0 x1 q0 q1 : Int64} (h : ¬ x0 = q0) : sf2 x0 x1 q0 q1 = 0 := by rw [sf2, if_neg h]
theorem sf2_b {x0 x1 q0 q1 : Int64} (h : ¬ x1 = q1) : sf2 x0 x1 q0 q1 = 0 := by rw [sf2, if_neg h]; split <;> rfl
theorem own_m3 (x : Int32) : 0 ≤ (x &&& (3 : Int32)).toInt := by
  have h := c_mask x (3 : Int32) 2 (by decide) (by decide)
  rw [h]; exact Int.emod_nonneg _ (by decide)
theorem own_nn (x : Int32) : 0 ≤ (x &&& (2147483647 : Int32)).toInt := by
  have h := c_mask x (2147483647 : Int32) 31 (by decide) (by decide)
  rw [h]; exact Int.emod_nonneg _ (by decide)
theorem own_rem3 {x : Int32} (hx : 0 ≤ x.toInt) : 0 ≤ (x - (x / (3 : Int32)) * (3 : Int32)).toInt ∧ (x - (x / (3 : Int32)) * (3 : Int32)).toInt < 3 := by
  have e : (3 : Int32).toInt = 3 := rfl
  have h1 := (c_idiv x (3 : Int32) 3 rfl (by decide)).1 hx
  have h2 := c_imul (x / (3 : Int32)) (3 : Int32)
  have h3 := c_isub x (x / (3 : Int32) * (3 : Int32))
  have r1 := rng32 x
  have r2 := rng32 (x - x / (3 : Int32) * (3 : Int32))
  rw [h1, e] at h2
  omega
theorem d10_0 : decode jdk_29_method_69_code 0 = .ok (.iload_n 0, 1) := by decide +kernel
theorem d10_1 : decode jdk_29_method_69_code 1 = .ok (.iload_n 1, 1) := by decide +kernel
theorem d10_2 : decode jdk_29_method_69_code 2 = .ok (.if_icmp .gt 7, 3) := by decide +kernel
theorem d10_9 : decode jdk_29_method_69_code 9 = .ok (.iload_n 1, 1) := by decide +kernel
theorem d10_10 : decode jdk_29_method_69_code 10 = .ok (.ireturn, 1) := by decide +kernel
set_option maxRecDepth 65536 in
set_option maxHeartbeats 40000000 in
theorem rm_min (l : Launch) (Z : State) (a0 : Array Value) (hw : ∀ d ∈ tables_1, d.before a0 Z = true) (n0 : Nat)  (h0 : Heap) (Z0 : n0 ≤ h0.size)  :
    Met1 l Z (⟨"java/lang/Math", "min", "(II)I"⟩ : MethodName) jdk_29_method_69_code 2 (some .int) ({ frames := 0, cells := 0, slots := 0, locals := 0 } : Room) n0 #[(.int (1 : Int32)), (.int (0 : Int32))] h0 (fun v h => v = some (.int (0 : Int32)) ∧ h0 = h) := by
  refine met_of (Jvm.Free.JP.mathPlain rfl (by decide +kernel)) (L0 := #[.val (.int (1 : Int32)), .val (.int (0 : Int32))]) (by first | (simp [argsToLocals, Value.category]; done) | rfl) ?_
  intro B C
  change Ctx B l _ _ "java/lang/Math" "min" _ _ Z at C
  refine g_iload_n C d10_0 (v := (1 : Int32)) rfl (pc' := 1) rfl ?_
  refine g_iload_n C d10_1 (v := (0 : Int32)) rfl (pc' := 2) rfl ?_
  refine g_icmp_y C d10_2 (Jvm.Free.XT.ii_gt_t (by decide)) (pc' := 9) (by decide) (by decide) ?_
  refine g_iload_n C d10_9 (v := (0 : Int32)) rfl (pc' := 10) rfl ?_
  refine g_ret C (v := (.int (0 : Int32))) (ty := .int) rfl rfl (Or.inl ⟨rfl, Or.inl rfl, _, rfl⟩) d10_10 (by decide) (by decide) ?_
  exact ⟨rfl, rfl⟩
theorem d6_0 : decode jdk_65_method_123_code 0 = .ok (.iload_n 1, 1) := by decide +kernel
theorem d6_1 : decode jdk_65_method_123_code 1 = .ok (.aload_n 0, 1) := by decide +kernel
theorem d6_2 : decode jdk_65_method_123_code 2 = .ok (.arraylength, 1) := by decide +kernel
theorem d6_3 : decode jdk_65_method_123_code 3 = .ok (.if_icmp .ne 11, 3) := by decide +kernel
theorem d6_6 : decode jdk_65_method_123_code 6 = .ok (.aload_n 0, 1) := by decide +kernel
theorem d6_7 : decode jdk_65_method_123_code 7 = .ok (.invokevirtual 316, 3) := by decide +kernel
theorem d6_10 : decode jdk_65_method_123_code 10 = .ok (.checkcast 317, 3) := by decide +kernel
theorem d6_13 : decode jdk_65_method_123_code 13 = .ok (.areturn, 1) := by decide +kernel
theorem own_pn_java_util_Arrays : plainName "java/util/Arrays" = true := by first | (simp [plainName, overriddenIn]; done) | decide +kernel
set_option maxRecDepth 65536 in
set_option maxHeartbeats 40000000 in
theorem rm_copyOf00 (l : Launch) (Z : State) (a0 : Array Value) (hw : ∀ d ∈ tables_1, d.before a0 Z = true) (n0 : Nat) (a1 : Addr) (x : Int32) (h0 : Heap) (Z0 : n0 ≤ h0.size) (A1 : Ary Z h0 a1 .int []) (E1 : Exa Z h0 a1 "[I") :
    Met1 l Z (⟨"java/util/Arrays", "copyOf", "([II)[I"⟩ : MethodName) jdk_65_method_123_code 3 (some (.array .int)) ({ frames := 1, cells := 1, slots := 0, locals := 14 } : Room) n0 #[(.ref a1), (.int (0 : Int32))] h0 (fun v h => ∃ b : Addr, v = some (.ref b) ∧ h0.size ≤ b ∧ Keep h0 h []) := by
  refine met_of (plainFor_of_name own_pn_java_util_Arrays) (L0 := #[.val (.ref a1), .val (.int (0 : Int32)), .unset]) (by first | (simp [argsToLocals, Value.category]; done) | rfl) ?_
  intro B C
  change Ctx B l _ _ "java/util/Arrays" "copyOf" _ _ Z at C
  refine g_iload_n C d6_0 (v := (0 : Int32)) rfl (pc' := 1) rfl ?_
  refine g_aload_n C d6_1 (v := (.ref a1)) rfl rfl (pc' := 2) rfl ?_
  refine g_arraylength C A1 (z := (0 : Int32)) rfl d6_2 (pc' := 3) rfl ?_
  refine g_icmp_n C d6_3 (Jvm.Free.XT.ii_ne_f (by decide)) (pc' := 6) rfl ?_
  refine g_aload_n C d6_6 (v := (.ref a1)) rfl rfl (pc' := 7) rfl ?_
  refine g_clone C (own_w hw 56 rfl) (own_w hw 57 rfl) (own_w hw 61 rfl) (own_w hw 59 rfl) (own_w hw 60 rfl) (own_w hw 62 rfl) A1 E1 (by simp [fits]) rfl (by decide) (W := 0) (Nat.le_of_eq rfl) (by decide) (cap := 0) (Nat.le_of_eq rfl) (by decide) (by decide) d6_7 (pc' := 10) rfl ?_
  intro h_1 a_2 g_3 E_4 A_5 E_6
  have ne_7 : a1 ≠ a_2 := ne_new A1.lt g_3
  have ge_a_2 : n0 ≤ a_2 := Nat.le_trans Z0 (Nat.le_of_eq g_3.symm)
  have gs_a_2 : h0.size ≤ a_2 := Nat.le_trans (Nat.le_refl h0.size) (Nat.le_of_eq g_3.symm)
  have f_8 : Ary Z h_1 a_2 .int [] := A_5
  show Go B n0 _ h_1 1 0 10 #[.val (.ref a1), .val (.int (0 : Int32)), .unset] [(.ref a_2)]
  refine g_checkcast C (own_w hw 63 rfl) (Ins.self E_6) d6_10 (pc' := 13) rfl ?_
  refine g_ret C (v := (.ref a_2)) (ty := (.array .int)) rfl rfl (Or.inr (Or.inr (Or.inr (Or.inr ⟨rfl, rfl, rfl⟩)))) d6_13 (by decide) (by decide) ?_
  exact ⟨a_2, rfl, gs_a_2, ((Keep.refl h0 []).ext E_4)⟩
set_option maxRecDepth 65536 in
set_option maxHeartbeats 40000000 in
theorem rm_copyOf11 (l : Launch) (Z : State) (a0 : Array Value) (hw : ∀ d ∈ tables_1, d.before a0 Z = true) (n0 : Nat) (a1 : Addr) (x : Int32) (h0 : Heap) (Z0 : n0 ≤ h0.size) (A1 : Ary Z h0 a1 .int [(.int x)]) (E1 : Exa Z h0 a1 "[I") :
    Met1 l Z (⟨"java/util/Arrays", "copyOf", "([II)[I"⟩ : MethodName) jdk_65_method_123_code 3 (some (.array .int)) ({ frames := 1, cells := 1, slots := 1, locals := 14 } : Room) n0 #[(.ref a1), (.int (1 : Int32))] h0 (fun v h => ∃ b : Addr, v = some (.ref b) ∧ h0.size ≤ b ∧ Keep h0 h []) := by
  refine met_of (plainFor_of_name own_pn_java_util_Arrays) (L0 := #[.val (.ref a1), .val (.int (1 : Int32)), .unset]) (by first | (simp [argsToLocals, Value.category]; done) | rfl) ?_
  intro B C
  change Ctx B l _ _ "java/util/Arrays" "copyOf" _ _ Z at C
  refine g_iload_n C d6_0 (v := (1 : Int32)) rfl (pc' := 1) rfl ?_
  refine g_aload_n C d6_1 (v := (.ref a1)) rfl rfl (pc' := 2) rfl ?_
  refine g_arraylength C A1 (z := (1 : Int32)) rfl d6_2 (pc' := 3) rfl ?_
  refine g_icmp_n C d6_3 (Jvm.Free.XT.ii_ne_f (by decide)) (pc' := 6) rfl ?_
  refine g_aload_n C d6_6 (v := (.ref a1)) rfl rfl (pc' := 7) rfl ?_
  refine g_clone C (own_w hw 56 rfl) (own_w hw 57 rfl) (own_w hw 61 rfl) (own_w hw 59 rfl) (own_w hw 60 rfl) (own_w hw 62 rfl) A1 E1 (by simp [fits]) rfl (by decide) (W := 0) (Nat.le_of_eq rfl) (by decide) (cap := 1) (Nat.le_of_eq rfl) (by decide) (by decide) d6_7 (pc' := 10) rfl ?_
  intro h_1 a_2 g_3 E_4 A_5 E_6
  have ne_7 : a1 ≠ a_2 := ne_new A1.lt g_3
  have ge_a_2 : n0 ≤ a_2 := Nat.le_trans Z0 (Nat.le_of_eq g_3.symm)
  have gs_a_2 : h0.size ≤ a_2 := Nat.le_trans (Nat.le_refl h0.size) (Nat.le_of_eq g_3.symm)
  have f_8 : Ary Z h_1 a_2 .int [(.int x)] := A_5
  show Go B n0 _ h_1 1 1 10 #[.val (.ref a1), .val (.int (1 : Int32)), .unset] [(.ref a_2)]
  refine g_checkcast C (own_w hw 63 rfl) (Ins.self E_6) d6_10 (pc' := 13) rfl ?_
  refine g_ret C (v := (.ref a_2)) (ty := (.array .int)) rfl rfl (Or.inr (Or.inr (Or.inr (Or.inr ⟨rfl, rfl, rfl⟩)))) d6_13 (by decide) (by decide) ?_
  exact ⟨a_2, rfl, gs_a_2, ((Keep.refl h0 []).ext E_4)⟩
theorem own_pd_2_min : parseMethodDescriptor "(II)I" = some ⟨[.int, .int], (some .int)⟩ := by decide +kernel
theorem d6_14 : decode jdk_65_method_123_code 14 = .ok (.iload_n 1, 1) := by decide +kernel
theorem d6_15 : decode jdk_65_method_123_code 15 = .ok (.newarray .int, 2) := by decide +kernel
theorem d6_17 : decode jdk_65_method_123_code 17 = .ok (.astore_n 2, 1) := by decide +kernel
theorem d6_18 : decode jdk_65_method_123_code 18 = .ok (.aload_n 0, 1) := by decide +kernel
theorem d6_19 : decode jdk_65_method_123_code 19 = .ok (.iconst 0, 1) := by decide +kernel
theorem d6_20 : decode jdk_65_method_123_code 20 = .ok (.aload_n 2, 1) := by decide +kernel
theorem d6_21 : decode jdk_65_method_123_code 21 = .ok (.iconst 0, 1) := by decide +kernel
theorem d6_22 : decode jdk_65_method_123_code 22 = .ok (.aload_n 0, 1) := by decide +kernel
theorem d6_23 : decode jdk_65_method_123_code 23 = .ok (.arraylength, 1) := by decide +kernel
theorem d6_24 : decode jdk_65_method_123_code 24 = .ok (.iload_n 1, 1) := by decide +kernel
theorem d6_25 : decode jdk_65_method_123_code 25 = .ok (.invokestatic 304, 3) := by decide +kernel
theorem d6_28 : decode jdk_65_method_123_code 28 = .ok (.invokestatic 150, 3) := by decide +kernel
theorem d6_31 : decode jdk_65_method_123_code 31 = .ok (.aload_n 2, 1) := by decide +kernel
theorem d6_32 : decode jdk_65_method_123_code 32 = .ok (.areturn, 1) := by decide +kernel
set_option maxRecDepth 65536 in
set_option maxHeartbeats 40000000 in
theorem rm_copyOf10 (l : Launch) (Z : State) (a0 : Array Value) (hw : ∀ d ∈ tables_1, d.before a0 Z = true) (n0 : Nat) (a1 : Addr) (x : Int32) (h0 : Heap) (Z0 : n0 ≤ h0.size) (A1 : Ary Z h0 a1 .int [(.int x)]) (E1 : Exa Z h0 a1 "[I") :
    Met1 l Z (⟨"java/util/Arrays", "copyOf", "([II)[I"⟩ : MethodName) jdk_65_method_123_code 3 (some (.array .int)) ({ frames := 1, cells := 1, slots := 0, locals := 18 } : Room) n0 #[(.ref a1), (.int (0 : Int32))] h0 (fun v h => ∃ b : Addr, v = some (.ref b) ∧ h0.size ≤ b ∧ Keep h0 h []) := by
  refine met_of (plainFor_of_name own_pn_java_util_Arrays) (L0 := #[.val (.ref a1), .val (.int (0 : Int32)), .unset]) (by first | (simp [argsToLocals, Value.category]; done) | rfl) ?_
  intro B C
  change Ctx B l _ _ "java/util/Arrays" "copyOf" _ _ Z at C
  refine g_iload_n C d6_0 (v := (0 : Int32)) rfl (pc' := 1) rfl ?_
  refine g_aload_n C d6_1 (v := (.ref a1)) rfl rfl (pc' := 2) rfl ?_
  refine g_arraylength C A1 (z := (1 : Int32)) rfl d6_2 (pc' := 3) rfl ?_
  refine g_icmp_y C d6_3 (Jvm.Free.XT.ii_ne_t (by decide)) (pc' := 14) (by decide) (by decide) ?_
  refine g_iload_n C d6_14 (v := (0 : Int32)) rfl (pc' := 15) rfl ?_
  refine g_newarrayE C (own_w hw 14 rfl) (ty := .int) rfl (ad := "[I") (by decide) (by decide) (cap := 0) (by decide) (by decide) (by decide) (by decide) d6_15 (pc' := 17) rfl ?_
  intro h_1 a_2 g_3 E_4 A_5 E_6
  have ne_7 : a1 ≠ a_2 := ne_new A1.lt g_3
  have ge_a_2 : n0 ≤ a_2 := Nat.le_trans Z0 (Nat.le_of_eq g_3.symm)
  have gs_a_2 : h0.size ≤ a_2 := Nat.le_trans (Nat.le_refl h0.size) (Nat.le_of_eq g_3.symm)
  have f_8 : Ary Z h_1 a_2 .int [] := A_5
  show Go B n0 _ h_1 1 0 17 #[.val (.ref a1), .val (.int (0 : Int32)), .unset] [(.ref a_2)]
  refine g_astore_n C d6_17 (v := (.ref a_2)) (L' := #[.val (.ref a1), .val (.int (0 : Int32)), .val (.ref a_2)]) rfl rfl (pc' := 18) rfl ?_
  refine g_aload_n C d6_18 (v := (.ref a1)) rfl rfl (pc' := 19) rfl ?_
  refine g_iconst C d6_19 (v := (0 : Int32)) rfl (pc' := 20) rfl ?_
  refine g_aload_n C d6_20 (v := (.ref a_2)) rfl rfl (pc' := 21) rfl ?_
  refine g_iconst C d6_21 (v := (0 : Int32)) rfl (pc' := 22) rfl ?_
  refine g_aload_n C d6_22 (v := (.ref a1)) rfl rfl (pc' := 23) rfl ?_
  have f_9 := (A1.ext E_4)
  refine g_arraylength C f_9 (z := (1 : Int32)) rfl d6_23 (pc' := 24) rfl ?_
  refine g_iload_n C d6_24 (v := (0 : Int32)) rfl (pc' := 25) rfl ?_
  have f_10 := (Nat.le_trans Z0 E_4.1)
  refine g_static C (own_w hw 85 rfl) (own_w hw 86 rfl) (own_w hw 87 rfl) (own_w hw 88 rfl) (by decide) (rm_min l Z a0 hw n0  h_1 f_10 ) (st := [(.int (0 : Int32)), (.ref a_2), (.int (0 : Int32)), (.ref a1)]) [(.int (1 : Int32)), (.int (0 : Int32))] rfl rfl own_pd_2_min rfl rfl (by decide) (W := 4) (Nat.le_of_eq rfl) (by decide) (by decide) (by decide) d6_25 (pc' := 28) rfl ?_
  intro v_13 h_11 q_12
  obtain ⟨rfl, rfl⟩ := q_12
  show Go B n0 _ h_1 1 0 28 #[.val (.ref a1), .val (.int (0 : Int32)), .val (.ref a_2)] [(.int (0 : Int32)), (.int (0 : Int32)), (.ref a_2), (.int (0 : Int32)), (.ref a1)]
  refine g_arraycopy C (own_w hw 89 rfl) (own_w hw 37 rfl) (own_w hw 35 rfl) (own_w hw 36 rfl) f_9 f_8 rfl (by simp [fits]) (by simp [fits]) (by decide) (by decide) (by decide) (spN := 0) (dpN := 0) (nnN := 0) (by decide) (by decide) (by decide) (show 0 + 0 ≤ 1 by decide) (show 0 + 0 ≤ 0 by decide) (out := []) rfl ge_a_2 rfl (by decide) (W := 0) (Nat.le_of_eq rfl) (by decide) d6_28 (pc' := 31) rfl ?_
  intro h_14 K_15 f_16
  show Go B n0 _ h_14 1 0 31 #[.val (.ref a1), .val (.int (0 : Int32)), .val (.ref a_2)] []
  refine g_aload_n C d6_31 (v := (.ref a_2)) rfl rfl (pc' := 32) rfl ?_
  refine g_ret C (v := (.ref a_2)) (ty := (.array .int)) rfl rfl (Or.inr (Or.inr (Or.inr (Or.inr ⟨rfl, rfl, rfl⟩)))) d6_32 (by decide) (by decide) ?_
  exact ⟨a_2, rfl, gs_a_2, (((Keep.refl h0 []).ext E_4).trans K_15 (allS (Or.inr gs_a_2) all0))⟩
theorem d9_0 : decode prog_31_method_7_code 0 = .ok (.iconst 0, 1) := by decide +kernel
theorem d9_1 : decode prog_31_method_7_code 1 = .ok (.istore_n 3, 1) := by decide +kernel
theorem d9_2 : decode prog_31_method_7_code 2 = .ok (.iload_n 3, 1) := by decide +kernel
theorem d9_3 : decode prog_31_method_7_code 3 = .ok (.iload_n 1, 1) := by decide +kernel
theorem d9_4 : decode prog_31_method_7_code 4 = .ok (.if_icmp .ge 18, 3) := by decide +kernel
theorem d9_22 : decode prog_31_method_7_code 22 = .ok (.iconst 0, 1) := by decide +kernel
theorem d9_23 : decode prog_31_method_7_code 23 = .ok (.ireturn, 1) := by decide +kernel
theorem own_pn_com_example_vestalia_vestalia_locks_SharedRegisters : plainName "com/example/vestalia/vestalia/locks/SharedRegisters" = true := by first | (simp [plainName, overriddenIn]; done) | decide +kernel
set_option maxRecDepth 65536 in
set_option maxHeartbeats 40000000 in
theorem rm_contains (l : Launch) (Z : State) (a0 : Array Value) (hw : ∀ d ∈ tables_1, d.before a0 Z = true) (n0 : Nat) (a1 : Addr) (y : Int32) (h0 : Heap) (Z0 : n0 ≤ h0.size)  :
    Met1 l Z (⟨"com/example/vestalia/vestalia/locks/SharedRegisters", "contains", "([III)Z"⟩ : MethodName) prog_31_method_7_code 4 (some .boolean) ({ frames := 0, cells := 0, slots := 0, locals := 0 } : Room) n0 #[(.ref a1), (.int (0 : Int32)), (.int y)] h0 (fun v h => v = some (.int (0 : Int32)) ∧ h0 = h) := by
  refine met_of (plainFor_of_name own_pn_com_example_vestalia_vestalia_locks_SharedRegisters) (L0 := #[.val (.ref a1), .val (.int (0 : Int32)), .val (.int y), .unset]) (by first | (simp [argsToLocals, Value.category]; done) | rfl) ?_
  intro B C
  change Ctx B l _ _ "com/example/vestalia/vestalia/locks/SharedRegisters" "contains" _ _ Z at C
  refine g_iconst C d9_0 (v := (0 : Int32)) rfl (pc' := 1) rfl ?_
  refine g_istore_n C d9_1 (v := (0 : Int32)) (L' := #[.val (.ref a1), .val (.int (0 : Int32)), .val (.int y), .val (.int (0 : Int32))]) rfl (pc' := 2) rfl ?_
  refine g_iload_n C d9_2 (v := (0 : Int32)) rfl (pc' := 3) rfl ?_
  refine g_iload_n C d9_3 (v := (0 : Int32)) rfl (pc' := 4) rfl ?_
  refine g_icmp_y C d9_4 (Jvm.Free.XT.ii_ge_t (by decide)) (pc' := 22) (by decide) (by decide) ?_
  refine g_iconst C d9_22 (v := (0 : Int32)) rfl (pc' := 23) rfl ?_
  refine g_ret C (v := (.int (0 : Int32))) (ty := .boolean) rfl rfl (Or.inl ⟨rfl, Or.inr (Or.inl rfl), _, rfl⟩) d9_23 (by decide) (by decide) ?_
  exact ⟨rfl, rfl⟩
theorem d1_0 : decode prog_32_method_1_code 0 = .ok (.aload_n 0, 1) := by decide +kernel
theorem d1_1 : decode prog_32_method_1_code 1 = .ok (.invokespecial 1, 3) := by decide +kernel
theorem d1_4 : decode prog_32_method_1_code 4 = .ok (.aload_n 0, 1) := by decide +kernel
theorem d1_5 : decode prog_32_method_1_code 5 = .ok (.bipush 8, 2) := by decide +kernel
theorem d1_7 : decode prog_32_method_1_code 7 = .ok (.anewarray 7, 3) := by decide +kernel
theorem d1_10 : decode prog_32_method_1_code 10 = .ok (.putfield 9, 3) := by decide +kernel
theorem d1_13 : decode prog_32_method_1_code 13 = .ok (.aload_n 0, 1) := by decide +kernel
theorem d1_14 : decode prog_32_method_1_code 14 = .ok (.bipush 8, 2) := by decide +kernel
theorem d1_16 : decode prog_32_method_1_code 16 = .ok (.newarray .int, 2) := by decide +kernel
theorem d1_18 : decode prog_32_method_1_code 18 = .ok (.putfield 15, 3) := by decide +kernel
theorem d1_21 : decode prog_32_method_1_code 21 = .ok (.aload_n 0, 1) := by decide +kernel
theorem d1_22 : decode prog_32_method_1_code 22 = .ok (.bipush 8, 2) := by decide +kernel
theorem d1_24 : decode prog_32_method_1_code 24 = .ok (.newarray .long, 2) := by decide +kernel
theorem d1_26 : decode prog_32_method_1_code 26 = .ok (.putfield 19, 3) := by decide +kernel
theorem d1_29 : decode prog_32_method_1_code 29 = .ok (.aload_n 0, 1) := by decide +kernel
theorem d1_30 : decode prog_32_method_1_code 30 = .ok (.iconst 0, 1) := by decide +kernel
theorem d1_31 : decode prog_32_method_1_code 31 = .ok (.newarray .int, 2) := by decide +kernel
theorem d1_33 : decode prog_32_method_1_code 33 = .ok (.putfield 23, 3) := by decide +kernel
theorem d1_36 : decode prog_32_method_1_code 36 = .ok (.aload_n 0, 1) := by decide +kernel
theorem d1_37 : decode prog_32_method_1_code 37 = .ok (.iload_n 1, 1) := by decide +kernel
theorem d1_38 : decode prog_32_method_1_code 38 = .ok (.putfield 26, 3) := by decide +kernel
theorem d1_41 : decode prog_32_method_1_code 41 = .ok (.aload_n 0, 1) := by decide +kernel
theorem d1_42 : decode prog_32_method_1_code 42 = .ok (.iload_n 1, 1) := by decide +kernel
theorem d1_43 : decode prog_32_method_1_code 43 = .ok (.newarray .long, 2) := by decide +kernel
theorem d1_45 : decode prog_32_method_1_code 45 = .ok (.putfield 30, 3) := by decide +kernel
theorem d1_48 : decode prog_32_method_1_code 48 = .ok (.aload_n 0, 1) := by decide +kernel
theorem d1_49 : decode prog_32_method_1_code 49 = .ok (.iload_n 1, 1) := by decide +kernel
theorem d1_50 : decode prog_32_method_1_code 50 = .ok (.newarray .long, 2) := by decide +kernel
theorem d1_52 : decode prog_32_method_1_code 52 = .ok (.putfield 33, 3) := by decide +kernel
theorem d1_55 : decode prog_32_method_1_code 55 = .ok (.aload_n 0, 1) := by decide +kernel
theorem d1_56 : decode prog_32_method_1_code 56 = .ok (.aload_n 0, 1) := by decide +kernel
theorem d1_57 : decode prog_32_method_1_code 57 = .ok (.getfield 9, 3) := by decide +kernel
theorem d1_60 : decode prog_32_method_1_code 60 = .ok (.arraylength, 1) := by decide +kernel
theorem d1_61 : decode prog_32_method_1_code 61 = .ok (.iload_n 1, 1) := by decide +kernel
theorem d1_62 : decode prog_32_method_1_code 62 = .ok (.imul, 1) := by decide +kernel
theorem d1_63 : decode prog_32_method_1_code 63 = .ok (.newarray .long, 2) := by decide +kernel
theorem d1_65 : decode prog_32_method_1_code 65 = .ok (.putfield 36, 3) := by decide +kernel
theorem d1_68 : decode prog_32_method_1_code 68 = .ok (.return_, 1) := by decide +kernel
theorem own_pn_com_example_vestalia_vestalia_locks_StepTrace : plainName "com/example/vestalia/vestalia/locks/StepTrace" = true := by first | (simp [plainName, overriddenIn]; done) | decide +kernel
set_option maxRecDepth 65536 in
set_option maxHeartbeats 40000000 in
theorem rm_init0 (l : Launch) (Z : State) (a0 : Array Value) (hw : ∀ d ∈ tables_1, d.before a0 Z = true) (n0 : Nat) (t : Addr) (h0 : Heap) (Z0 : n0 ≤ h0.size) (E0 : Exa Z h0 t "com/example/vestalia/vestalia/locks/StepTrace") (F_kinds : Fld Z h0 t "com/example/vestalia/vestalia/locks/StepTrace" "kinds" "[Lcom/example/vestalia/vestalia/model/Step$Kind;" .null) (F_slots : Fld Z h0 t "com/example/vestalia/vestalia/locks/StepTrace" "slots" "[I" .null) (F_values : Fld Z h0 t "com/example/vestalia/vestalia/locks/StepTrace" "values" "[J" .null) (F_written : Fld Z h0 t "com/example/vestalia/vestalia/locks/StepTrace" "written" "[I" .null) (F_width : Fld Z h0 t "com/example/vestalia/vestalia/locks/StepTrace" "width" "I" (.int (0 : Int32))) (F_start : Fld Z h0 t "com/example/vestalia/vestalia/locks/StepTrace" "start" "[J" .null) (F_end : Fld Z h0 t "com/example/vestalia/vestalia/locks/StepTrace" "end" "[J" .null) (F_before : Fld Z h0 t "com/example/vestalia/vestalia/locks/StepTrace" "before" "[J" .null) (F_length : Fld Z h0 t "com/example/vestalia/vestalia/locks/StepTrace" "length" "I" (.int (0 : Int32))) (F_whole : Fld Z h0 t "com/example/vestalia/vestalia/locks/StepTrace" "whole" "Z" (.int (0 : Int32))) (g0 : n0 ≤ t) :
    Met1 l Z (⟨"com/example/vestalia/vestalia/locks/StepTrace", "<init>", "(I)V"⟩ : MethodName) prog_32_method_1_code 2 none ({ frames := 1, cells := 7, slots := 24, locals := 12 } : Room) n0 #[(.ref t), (.int (0 : Int32))] h0 (fun v h => v = none ∧ Keep h0 h [t] ∧ ∃ bk bs bv st en' bb : Addr, (h0.size ≤ bk ∧ h0.size ≤ bs ∧ h0.size ≤ bv ∧ h0.size ≤ st ∧ h0.size ≤ en' ∧ h0.size ≤ bb) ∧ Dis bk bs bv st en' bb ∧ Tr Z h t bk bs bv st en' bb (0 : Int32) (0 : Int32) (0 : Int32) .null (0 : Int32) (0 : Int64) [] [] []) := by
  refine met_of (plainFor_of_name own_pn_com_example_vestalia_vestalia_locks_StepTrace) (L0 := #[.val (.ref t), .val (.int (0 : Int32))]) (by first | (simp [argsToLocals, Value.category]; done) | rfl) ?_
  intro B C
  change Ctx B l _ _ "com/example/vestalia/vestalia/locks/StepTrace" "<init>" _ _ Z at C
  refine g_aload_n C d1_0 (v := (.ref t)) rfl rfl (pc' := 1) rfl ?_
  refine g_initObj C (own_w hw 7 rfl) (own_w hw 8 rfl) (own_w hw 9 rfl) rfl (by decide) (W := 0) (Nat.le_of_eq rfl) (by decide) d1_1 (pc' := 4) rfl ?_
  refine g_aload_n C d1_4 (v := (.ref t)) rfl rfl (pc' := 5) rfl ?_
  refine g_bipush C d1_5 (v := (8 : Int32)) rfl (pc' := 7) rfl ?_
  refine g_anewarray C (own_w hw 10 rfl) (own_w hw 11 rfl) (by decide) (cap := 8) (by decide) (by decide) (by decide) (by decide) d1_7 (pc' := 10) rfl ?_
  intro h_1 a_2 g_3 E_4 A_5
  have ne_6 : t ≠ a_2 := ne_new E0.lt g_3
  have ge_a_2 : n0 ≤ a_2 := Nat.le_trans Z0 (Nat.le_of_eq g_3.symm)
  have gs_a_2 : h0.size ≤ a_2 := Nat.le_trans (Nat.le_refl h0.size) (Nat.le_of_eq g_3.symm)
  have f_7 : AryR Z h_1 a_2 "com/example/vestalia/vestalia/model/Step$Kind" [.null, .null, .null, .null, .null, .null, .null, .null] := A_5
  show Go B n0 _ h_1 1 8 10 #[.val (.ref t), .val (.int (0 : Int32))] [(.ref a_2), (.ref t)]
  have f_8 := (F_kinds.ext E_4)
  have f_9 := (E0.ext E_4)
  refine g_putfield C (host := "") (v := (.ref a_2)) (Or.inl (own_w hw 12 rfl)) Via.refl f_8 f_9 (Or.inl (own_w hw 13 rfl)) (own_w hw 2 rfl) (ty := (.array (.object "com/example/vestalia/vestalia/model/Step$Kind"))) (by decide) rfl rfl g0 d1_10 (pc' := 13) rfl ?_
  intro h_10 W_11
  have f_12 := f_8.same W_11
  refine g_aload_n C d1_13 (v := (.ref t)) rfl rfl (pc' := 14) rfl ?_
  refine g_bipush C d1_14 (v := (8 : Int32)) rfl (pc' := 16) rfl ?_
  have f_13 := (f_7.keep (Keep.of_wr W_11) (nin1 (Ne.symm ne_6)))
  have f_14 := (f_9.wr W_11)
  refine g_newarrayE C (own_w hw 14 rfl) (ty := .int) rfl (ad := "[I") (by decide) (by decide) (cap := 8) (by decide) (by decide) (by decide) (by decide) d1_16 (pc' := 18) rfl ?_
  intro h_15 a_16 g_17 E_18 A_19 E_20
  have ne_21 : a_2 ≠ a_16 := ne_new f_13.lt g_17
  have ne_22 : t ≠ a_16 := ne_new f_14.lt g_17
  have f_23 := (Nat.le_trans (Nat.le_trans Z0 E_4.1) (Keep.of_wr W_11).1)
  have ge_a_16 : n0 ≤ a_16 := Nat.le_trans f_23 (Nat.le_of_eq g_17.symm)
  have f_24 := (Nat.le_trans (Nat.le_trans (Nat.le_refl h0.size) E_4.1) (Keep.of_wr W_11).1)
  have gs_a_16 : h0.size ≤ a_16 := Nat.le_trans f_24 (Nat.le_of_eq g_17.symm)
  have f_25 : Ary Z h_15 a_16 .int [(.int (0 : Int32)), (.int (0 : Int32)), (.int (0 : Int32)), (.int (0 : Int32)), (.int (0 : Int32)), (.int (0 : Int32)), (.int (0 : Int32)), (.int (0 : Int32))] := A_19
  show Go B n0 _ h_15 2 16 18 #[.val (.ref t), .val (.int (0 : Int32))] [(.ref a_16), (.ref t)]
  have f_26 := (((F_slots.ext E_4).other W_11 (Or.inr (slot_ne (Or.inl (own_w hw 16 rfl)) (Or.inl (own_w hw 13 rfl)) (by decide) (t := (.array .int)) (t' := (.array (.object "com/example/vestalia/vestalia/model/Step$Kind"))) (by decide) (by decide)))).ext E_18)
  have f_27 := (f_14.ext E_18)
  refine g_putfield C (host := "") (v := (.ref a_16)) (Or.inl (own_w hw 15 rfl)) Via.refl f_26 f_27 (Or.inl (own_w hw 16 rfl)) (own_w hw 2 rfl) (ty := (.array .int)) (by decide) rfl rfl g0 d1_18 (pc' := 21) rfl ?_
  intro h_28 W_29
  have f_30 := f_26.same W_29
  refine g_aload_n C d1_21 (v := (.ref t)) rfl rfl (pc' := 22) rfl ?_
  refine g_bipush C d1_22 (v := (8 : Int32)) rfl (pc' := 24) rfl ?_
  have f_31 := (f_25.keep (Keep.of_wr W_29) (nin1 (Ne.symm ne_22)))
  have f_32 := ((f_13.ext E_18).keep (Keep.of_wr W_29) (nin1 (Ne.symm ne_6)))
  have f_33 := (f_27.wr W_29)
  refine g_newarray C (own_w hw 0 rfl) (ty := .long) rfl (by decide) (cap := 8) (by decide) (by decide) (by decide) (by decide) d1_24 (pc' := 26) rfl ?_
  intro h_34 a_35 g_36 E_37 A_38
  have ne_39 : a_16 ≠ a_35 := ne_new f_31.lt g_36
  have ne_40 : a_2 ≠ a_35 := ne_new f_32.lt g_36
  have ne_41 : t ≠ a_35 := ne_new f_33.lt g_36
  have f_42 := (Nat.le_trans (Nat.le_trans f_23 E_18.1) (Keep.of_wr W_29).1)
  have ge_a_35 : n0 ≤ a_35 := Nat.le_trans f_42 (Nat.le_of_eq g_36.symm)
  have f_43 := (Nat.le_trans (Nat.le_trans f_24 E_18.1) (Keep.of_wr W_29).1)
  have gs_a_35 : h0.size ≤ a_35 := Nat.le_trans f_43 (Nat.le_of_eq g_36.symm)
  have f_44 : Ary Z h_34 a_35 .long [(.long (0 : Int64)), (.long (0 : Int64)), (.long (0 : Int64)), (.long (0 : Int64)), (.long (0 : Int64)), (.long (0 : Int64)), (.long (0 : Int64)), (.long (0 : Int64))] := A_38
  show Go B n0 _ h_34 3 24 26 #[.val (.ref t), .val (.int (0 : Int32))] [(.ref a_35), (.ref t)]
  have f_45 := (((((F_values.ext E_4).other W_11 (Or.inr (slot_ne (Or.inl (own_w hw 18 rfl)) (Or.inl (own_w hw 13 rfl)) (by decide) (t := (.array .long)) (t' := (.array (.object "com/example/vestalia/vestalia/model/Step$Kind"))) (by decide) (by decide)))).ext E_18).other W_29 (Or.inr (slot_ne (Or.inl (own_w hw 18 rfl)) (Or.inl (own_w hw 16 rfl)) (by decide) (t := (.array .long)) (t' := (.array .int)) (by decide) (by decide)))).ext E_37)
  have f_46 := (f_33.ext E_37)
  refine g_putfield C (host := "") (v := (.ref a_35)) (Or.inl (own_w hw 17 rfl)) Via.refl f_45 f_46 (Or.inl (own_w hw 18 rfl)) (own_w hw 2 rfl) (ty := (.array .long)) (by decide) rfl rfl g0 d1_26 (pc' := 29) rfl ?_
  intro h_47 W_48
  have f_49 := f_45.same W_48
  refine g_aload_n C d1_29 (v := (.ref t)) rfl rfl (pc' := 30) rfl ?_
  refine g_iconst C d1_30 (v := (0 : Int32)) rfl (pc' := 31) rfl ?_
  have f_50 := ((f_31.ext E_37).keep (Keep.of_wr W_48) (nin1 (Ne.symm ne_22)))
  have f_51 := ((f_32.ext E_37).keep (Keep.of_wr W_48) (nin1 (Ne.symm ne_6)))
  have f_52 := (f_44.keep (Keep.of_wr W_48) (nin1 (Ne.symm ne_41)))
  have f_53 := (f_46.wr W_48)
  refine g_newarrayE C (own_w hw 14 rfl) (ty := .int) rfl (ad := "[I") (by decide) (by decide) (cap := 0) (by decide) (by decide) (by decide) (by decide) d1_31 (pc' := 33) rfl ?_
  intro h_54 a_55 g_56 E_57 A_58 E_59
  have ne_60 : a_16 ≠ a_55 := ne_new f_50.lt g_56
  have ne_61 : a_2 ≠ a_55 := ne_new f_51.lt g_56
  have ne_62 : a_35 ≠ a_55 := ne_new f_52.lt g_56
  have ne_63 : t ≠ a_55 := ne_new f_53.lt g_56
  have f_64 := (Nat.le_trans (Nat.le_trans f_42 E_37.1) (Keep.of_wr W_48).1)
  have ge_a_55 : n0 ≤ a_55 := Nat.le_trans f_64 (Nat.le_of_eq g_56.symm)
  have f_65 := (Nat.le_trans (Nat.le_trans f_43 E_37.1) (Keep.of_wr W_48).1)
  have gs_a_55 : h0.size ≤ a_55 := Nat.le_trans f_65 (Nat.le_of_eq g_56.symm)
  have f_66 : Ary Z h_54 a_55 .int [] := A_58
  show Go B n0 _ h_54 4 24 33 #[.val (.ref t), .val (.int (0 : Int32))] [(.ref a_55), (.ref t)]
  have f_67 := (((((((F_written.ext E_4).other W_11 (Or.inr (slot_ne (Or.inl (own_w hw 20 rfl)) (Or.inl (own_w hw 13 rfl)) (by decide) (t := (.array .int)) (t' := (.array (.object "com/example/vestalia/vestalia/model/Step$Kind"))) (by decide) (by decide)))).ext E_18).other W_29 (Or.inr (slot_ne (Or.inl (own_w hw 20 rfl)) (Or.inl (own_w hw 16 rfl)) (by decide) (t := (.array .int)) (t' := (.array .int)) (by decide) (by decide)))).ext E_37).other W_48 (Or.inr (slot_ne (Or.inl (own_w hw 20 rfl)) (Or.inl (own_w hw 18 rfl)) (by decide) (t := (.array .int)) (t' := (.array .long)) (by decide) (by decide)))).ext E_57)
  have f_68 := (f_53.ext E_57)
  refine g_putfield C (host := "") (v := (.ref a_55)) (Or.inl (own_w hw 19 rfl)) Via.refl f_67 f_68 (Or.inl (own_w hw 20 rfl)) (own_w hw 2 rfl) (ty := (.array .int)) (by decide) rfl rfl g0 d1_33 (pc' := 36) rfl ?_
  intro h_69 W_70
  have f_71 := f_67.same W_70
  refine g_aload_n C d1_36 (v := (.ref t)) rfl rfl (pc' := 37) rfl ?_
  refine g_iload_n C d1_37 (v := (0 : Int32)) rfl (pc' := 38) rfl ?_
  have f_72 := ((((((((F_width.ext E_4).other W_11 (Or.inr (slot_ne (Or.inr (own_w hw 22 rfl)) (Or.inl (own_w hw 13 rfl)) (by decide) (t := .int) (t' := (.array (.object "com/example/vestalia/vestalia/model/Step$Kind"))) (by decide) (by decide)))).ext E_18).other W_29 (Or.inr (slot_ne (Or.inr (own_w hw 22 rfl)) (Or.inl (own_w hw 16 rfl)) (by decide) (t := .int) (t' := (.array .int)) (by decide) (by decide)))).ext E_37).other W_48 (Or.inr (slot_ne (Or.inr (own_w hw 22 rfl)) (Or.inl (own_w hw 18 rfl)) (by decide) (t := .int) (t' := (.array .long)) (by decide) (by decide)))).ext E_57).other W_70 (Or.inr (slot_ne (Or.inr (own_w hw 22 rfl)) (Or.inl (own_w hw 20 rfl)) (by decide) (t := .int) (t' := (.array .int)) (by decide) (by decide))))
  have f_73 := (f_68.wr W_70)
  refine g_putfield C (host := "") (v := (.int (0 : Int32))) (Or.inl (own_w hw 21 rfl)) Via.refl f_72 f_73 (Or.inr ⟨(own_w hw 22 rfl), rfl, rfl⟩) (own_w hw 2 rfl) (ty := .int) (by decide) rfl rfl g0 d1_38 (pc' := 41) rfl ?_
  intro h_74 W_75
  have f_76 := f_72.same W_75
  refine g_aload_n C d1_41 (v := (.ref t)) rfl rfl (pc' := 42) rfl ?_
  refine g_iload_n C d1_42 (v := (0 : Int32)) rfl (pc' := 43) rfl ?_
  have f_77 := (((f_50.ext E_57).keep (Keep.of_wr W_70) (nin1 (Ne.symm ne_22))).keep (Keep.of_wr W_75) (nin1 (Ne.symm ne_22)))
  have f_78 := (((f_51.ext E_57).keep (Keep.of_wr W_70) (nin1 (Ne.symm ne_6))).keep (Keep.of_wr W_75) (nin1 (Ne.symm ne_6)))
  have f_79 := (((f_52.ext E_57).keep (Keep.of_wr W_70) (nin1 (Ne.symm ne_41))).keep (Keep.of_wr W_75) (nin1 (Ne.symm ne_41)))
  have f_80 := ((f_66.keep (Keep.of_wr W_70) (nin1 (Ne.symm ne_63))).keep (Keep.of_wr W_75) (nin1 (Ne.symm ne_63)))
  have f_81 := (f_73.wr W_75)
  refine g_newarray C (own_w hw 0 rfl) (ty := .long) rfl (by decide) (cap := 0) (by decide) (by decide) (by decide) (by decide) d1_43 (pc' := 45) rfl ?_
  intro h_82 a_83 g_84 E_85 A_86
  have ne_87 : a_16 ≠ a_83 := ne_new f_77.lt g_84
  have ne_88 : a_2 ≠ a_83 := ne_new f_78.lt g_84
  have ne_89 : a_35 ≠ a_83 := ne_new f_79.lt g_84
  have ne_90 : a_55 ≠ a_83 := ne_new f_80.lt g_84
  have ne_91 : t ≠ a_83 := ne_new f_81.lt g_84
  have f_92 := (Nat.le_trans (Nat.le_trans (Nat.le_trans f_64 E_57.1) (Keep.of_wr W_70).1) (Keep.of_wr W_75).1)
  have ge_a_83 : n0 ≤ a_83 := Nat.le_trans f_92 (Nat.le_of_eq g_84.symm)
  have f_93 := (Nat.le_trans (Nat.le_trans (Nat.le_trans f_65 E_57.1) (Keep.of_wr W_70).1) (Keep.of_wr W_75).1)
  have gs_a_83 : h0.size ≤ a_83 := Nat.le_trans f_93 (Nat.le_of_eq g_84.symm)
  have f_94 : Ary Z h_82 a_83 .long [] := A_86
  show Go B n0 _ h_82 5 24 45 #[.val (.ref t), .val (.int (0 : Int32))] [(.ref a_83), (.ref t)]
  have f_95 := ((((((((((F_start.ext E_4).other W_11 (Or.inr (slot_ne (Or.inr (own_w hw 24 rfl)) (Or.inl (own_w hw 13 rfl)) (by decide) (t := (.array .long)) (t' := (.array (.object "com/example/vestalia/vestalia/model/Step$Kind"))) (by decide) (by decide)))).ext E_18).other W_29 (Or.inr (slot_ne (Or.inr (own_w hw 24 rfl)) (Or.inl (own_w hw 16 rfl)) (by decide) (t := (.array .long)) (t' := (.array .int)) (by decide) (by decide)))).ext E_37).other W_48 (Or.inr (slot_ne (Or.inr (own_w hw 24 rfl)) (Or.inl (own_w hw 18 rfl)) (by decide) (t := (.array .long)) (t' := (.array .long)) (by decide) (by decide)))).ext E_57).other W_70 (Or.inr (slot_ne (Or.inr (own_w hw 24 rfl)) (Or.inl (own_w hw 20 rfl)) (by decide) (t := (.array .long)) (t' := (.array .int)) (by decide) (by decide)))).other W_75 (Or.inr (slot_ne (Or.inr (own_w hw 24 rfl)) (Or.inr (own_w hw 22 rfl)) (by decide) (t := (.array .long)) (t' := .int) (by decide) (by decide)))).ext E_85)
  have f_96 := (f_81.ext E_85)
  refine g_putfield C (host := "") (v := (.ref a_83)) (Or.inl (own_w hw 23 rfl)) Via.refl f_95 f_96 (Or.inr ⟨(own_w hw 24 rfl), rfl, rfl⟩) (own_w hw 2 rfl) (ty := (.array .long)) (by decide) rfl rfl g0 d1_45 (pc' := 48) rfl ?_
  intro h_97 W_98
  have f_99 := f_95.same W_98
  refine g_aload_n C d1_48 (v := (.ref t)) rfl rfl (pc' := 49) rfl ?_
  refine g_iload_n C d1_49 (v := (0 : Int32)) rfl (pc' := 50) rfl ?_
  have f_100 := ((f_77.ext E_85).keep (Keep.of_wr W_98) (nin1 (Ne.symm ne_22)))
  have f_101 := ((f_78.ext E_85).keep (Keep.of_wr W_98) (nin1 (Ne.symm ne_6)))
  have f_102 := ((f_79.ext E_85).keep (Keep.of_wr W_98) (nin1 (Ne.symm ne_41)))
  have f_103 := ((f_80.ext E_85).keep (Keep.of_wr W_98) (nin1 (Ne.symm ne_63)))
  have f_104 := (f_94.keep (Keep.of_wr W_98) (nin1 (Ne.symm ne_91)))
  have f_105 := (f_96.wr W_98)
  refine g_newarray C (own_w hw 0 rfl) (ty := .long) rfl (by decide) (cap := 0) (by decide) (by decide) (by decide) (by decide) d1_50 (pc' := 52) rfl ?_
  intro h_106 a_107 g_108 E_109 A_110
  have ne_111 : a_16 ≠ a_107 := ne_new f_100.lt g_108
  have ne_112 : a_2 ≠ a_107 := ne_new f_101.lt g_108
  have ne_113 : a_35 ≠ a_107 := ne_new f_102.lt g_108
  have ne_114 : a_55 ≠ a_107 := ne_new f_103.lt g_108
  have ne_115 : a_83 ≠ a_107 := ne_new f_104.lt g_108
  have ne_116 : t ≠ a_107 := ne_new f_105.lt g_108
  have f_117 := (Nat.le_trans (Nat.le_trans f_92 E_85.1) (Keep.of_wr W_98).1)
  have ge_a_107 : n0 ≤ a_107 := Nat.le_trans f_117 (Nat.le_of_eq g_108.symm)
  have f_118 := (Nat.le_trans (Nat.le_trans f_93 E_85.1) (Keep.of_wr W_98).1)
  have gs_a_107 : h0.size ≤ a_107 := Nat.le_trans f_118 (Nat.le_of_eq g_108.symm)
  have f_119 : Ary Z h_106 a_107 .long [] := A_110
  show Go B n0 _ h_106 6 24 52 #[.val (.ref t), .val (.int (0 : Int32))] [(.ref a_107), (.ref t)]
  have f_120 := ((((((((((((F_end.ext E_4).other W_11 (Or.inr (slot_ne (Or.inr (own_w hw 26 rfl)) (Or.inl (own_w hw 13 rfl)) (by decide) (t := (.array .long)) (t' := (.array (.object "com/example/vestalia/vestalia/model/Step$Kind"))) (by decide) (by decide)))).ext E_18).other W_29 (Or.inr (slot_ne (Or.inr (own_w hw 26 rfl)) (Or.inl (own_w hw 16 rfl)) (by decide) (t := (.array .long)) (t' := (.array .int)) (by decide) (by decide)))).ext E_37).other W_48 (Or.inr (slot_ne (Or.inr (own_w hw 26 rfl)) (Or.inl (own_w hw 18 rfl)) (by decide) (t := (.array .long)) (t' := (.array .long)) (by decide) (by decide)))).ext E_57).other W_70 (Or.inr (slot_ne (Or.inr (own_w hw 26 rfl)) (Or.inl (own_w hw 20 rfl)) (by decide) (t := (.array .long)) (t' := (.array .int)) (by decide) (by decide)))).other W_75 (Or.inr (slot_ne (Or.inr (own_w hw 26 rfl)) (Or.inr (own_w hw 22 rfl)) (by decide) (t := (.array .long)) (t' := .int) (by decide) (by decide)))).ext E_85).other W_98 (Or.inr (slot_ne (Or.inr (own_w hw 26 rfl)) (Or.inr (own_w hw 24 rfl)) (by decide) (t := (.array .long)) (t' := (.array .long)) (by decide) (by decide)))).ext E_109)
  have f_121 := (f_105.ext E_109)
  refine g_putfield C (host := "") (v := (.ref a_107)) (Or.inl (own_w hw 25 rfl)) Via.refl f_120 f_121 (Or.inr ⟨(own_w hw 26 rfl), rfl, rfl⟩) (own_w hw 2 rfl) (ty := (.array .long)) (by decide) rfl rfl g0 d1_52 (pc' := 55) rfl ?_
  intro h_122 W_123
  have f_124 := f_120.same W_123
  refine g_aload_n C d1_55 (v := (.ref t)) rfl rfl (pc' := 56) rfl ?_
  refine g_aload_n C d1_56 (v := (.ref t)) rfl rfl (pc' := 57) rfl ?_
  have f_125 := (((((((((((f_12.ext E_18).other W_29 (Or.inr (slot_ne (Or.inl (own_w hw 13 rfl)) (Or.inl (own_w hw 16 rfl)) (by decide) (t := (.array (.object "com/example/vestalia/vestalia/model/Step$Kind"))) (t' := (.array .int)) (by decide) (by decide)))).ext E_37).other W_48 (Or.inr (slot_ne (Or.inl (own_w hw 13 rfl)) (Or.inl (own_w hw 18 rfl)) (by decide) (t := (.array (.object "com/example/vestalia/vestalia/model/Step$Kind"))) (t' := (.array .long)) (by decide) (by decide)))).ext E_57).other W_70 (Or.inr (slot_ne (Or.inl (own_w hw 13 rfl)) (Or.inl (own_w hw 20 rfl)) (by decide) (t := (.array (.object "com/example/vestalia/vestalia/model/Step$Kind"))) (t' := (.array .int)) (by decide) (by decide)))).other W_75 (Or.inr (slot_ne (Or.inl (own_w hw 13 rfl)) (Or.inr (own_w hw 22 rfl)) (by decide) (t := (.array (.object "com/example/vestalia/vestalia/model/Step$Kind"))) (t' := .int) (by decide) (by decide)))).ext E_85).other W_98 (Or.inr (slot_ne (Or.inl (own_w hw 13 rfl)) (Or.inr (own_w hw 24 rfl)) (by decide) (t := (.array (.object "com/example/vestalia/vestalia/model/Step$Kind"))) (t' := (.array .long)) (by decide) (by decide)))).ext E_109).other W_123 (Or.inr (slot_ne (Or.inl (own_w hw 13 rfl)) (Or.inr (own_w hw 26 rfl)) (by decide) (t := (.array (.object "com/example/vestalia/vestalia/model/Step$Kind"))) (t' := (.array .long)) (by decide) (by decide))))
  refine g_getfield C (host := "") (v := (.ref a_2)) (Or.inl (own_w hw 12 rfl)) Via.refl f_125 d1_57 (pc' := 60) rfl ?_
  have f_126 := ((f_101.ext E_109).keep (Keep.of_wr W_123) (nin1 (Ne.symm ne_6)))
  refine g_arraylength C (AryR.ary f_126) (z := (8 : Int32)) rfl d1_60 (pc' := 61) rfl ?_
  refine g_iload_n C d1_61 (v := (0 : Int32)) rfl (pc' := 62) rfl ?_
  refine g_imul C (x := (8 : Int32)) (y := (0 : Int32)) d1_62  (pc' := 63) rfl ?_
  refine Go.eqs (st2 := [(.int (0 : Int32)), (.ref t)]) ?_ (by rfl)
  have f_127 := (f_119.keep (Keep.of_wr W_123) (nin1 (Ne.symm ne_116)))
  have f_128 := ((f_100.ext E_109).keep (Keep.of_wr W_123) (nin1 (Ne.symm ne_22)))
  have f_129 := ((f_102.ext E_109).keep (Keep.of_wr W_123) (nin1 (Ne.symm ne_41)))
  have f_130 := ((f_103.ext E_109).keep (Keep.of_wr W_123) (nin1 (Ne.symm ne_63)))
  have f_131 := ((f_104.ext E_109).keep (Keep.of_wr W_123) (nin1 (Ne.symm ne_91)))
  have f_132 := (f_121.wr W_123)
  refine g_newarray C (own_w hw 0 rfl) (ty := .long) rfl (by decide) (cap := 0) (by decide) (by decide) (by decide) (by decide) d1_63 (pc' := 65) rfl ?_
  intro h_133 a_134 g_135 E_136 A_137
  have ne_138 : a_107 ≠ a_134 := ne_new f_127.lt g_135
  have ne_139 : a_16 ≠ a_134 := ne_new f_128.lt g_135
  have ne_140 : a_2 ≠ a_134 := ne_new f_126.lt g_135
  have ne_141 : a_35 ≠ a_134 := ne_new f_129.lt g_135
  have ne_142 : a_55 ≠ a_134 := ne_new f_130.lt g_135
  have ne_143 : a_83 ≠ a_134 := ne_new f_131.lt g_135
  have ne_144 : t ≠ a_134 := ne_new f_132.lt g_135
  have f_145 := (Nat.le_trans (Nat.le_trans f_117 E_109.1) (Keep.of_wr W_123).1)
  have ge_a_134 : n0 ≤ a_134 := Nat.le_trans f_145 (Nat.le_of_eq g_135.symm)
  have f_146 := (Nat.le_trans (Nat.le_trans f_118 E_109.1) (Keep.of_wr W_123).1)
  have gs_a_134 : h0.size ≤ a_134 := Nat.le_trans f_146 (Nat.le_of_eq g_135.symm)
  have f_147 : Ary Z h_133 a_134 .long [] := A_137
  show Go B n0 _ h_133 7 24 65 #[.val (.ref t), .val (.int (0 : Int32))] [(.ref a_134), (.ref t)]
  have f_148 := ((((((((((((((F_before.ext E_4).other W_11 (Or.inr (slot_ne (Or.inl (own_w hw 28 rfl)) (Or.inl (own_w hw 13 rfl)) (by decide) (t := (.array .long)) (t' := (.array (.object "com/example/vestalia/vestalia/model/Step$Kind"))) (by decide) (by decide)))).ext E_18).other W_29 (Or.inr (slot_ne (Or.inl (own_w hw 28 rfl)) (Or.inl (own_w hw 16 rfl)) (by decide) (t := (.array .long)) (t' := (.array .int)) (by decide) (by decide)))).ext E_37).other W_48 (Or.inr (slot_ne (Or.inl (own_w hw 28 rfl)) (Or.inl (own_w hw 18 rfl)) (by decide) (t := (.array .long)) (t' := (.array .long)) (by decide) (by decide)))).ext E_57).other W_70 (Or.inr (slot_ne (Or.inl (own_w hw 28 rfl)) (Or.inl (own_w hw 20 rfl)) (by decide) (t := (.array .long)) (t' := (.array .int)) (by decide) (by decide)))).other W_75 (Or.inr (slot_ne (Or.inl (own_w hw 28 rfl)) (Or.inr (own_w hw 22 rfl)) (by decide) (t := (.array .long)) (t' := .int) (by decide) (by decide)))).ext E_85).other W_98 (Or.inr (slot_ne (Or.inl (own_w hw 28 rfl)) (Or.inr (own_w hw 24 rfl)) (by decide) (t := (.array .long)) (t' := (.array .long)) (by decide) (by decide)))).ext E_109).other W_123 (Or.inr (slot_ne (Or.inl (own_w hw 28 rfl)) (Or.inr (own_w hw 26 rfl)) (by decide) (t := (.array .long)) (t' := (.array .long)) (by decide) (by decide)))).ext E_136)
  have f_149 := (f_132.ext E_136)
  refine g_putfield C (host := "") (v := (.ref a_134)) (Or.inl (own_w hw 27 rfl)) Via.refl f_148 f_149 (Or.inl (own_w hw 28 rfl)) (own_w hw 2 rfl) (ty := (.array .long)) (by decide) rfl rfl g0 d1_65 (pc' := 68) rfl ?_
  intro h_150 W_151
  have f_152 := f_148.same W_151
  refine g_return C rfl d1_68 (by decide) (by decide) ?_
  have f_153 := ((f_126.ext E_136).keep (Keep.of_wr W_151) (nin1 (Ne.symm ne_6)))
  have f_154 := ((f_128.ext E_136).keep (Keep.of_wr W_151) (nin1 (Ne.symm ne_22)))
  have f_155 := ((f_129.ext E_136).keep (Keep.of_wr W_151) (nin1 (Ne.symm ne_41)))
  have f_156 := ((f_131.ext E_136).keep (Keep.of_wr W_151) (nin1 (Ne.symm ne_91)))
  have f_157 := ((f_127.ext E_136).keep (Keep.of_wr W_151) (nin1 (Ne.symm ne_116)))
  have f_158 := (f_147.keep (Keep.of_wr W_151) (nin1 (Ne.symm ne_144)))
  have f_159 := (f_149.wr W_151)
  have f_160 := ((f_125.ext E_136).other W_151 (Or.inr (slot_ne (Or.inl (own_w hw 13 rfl)) (Or.inl (own_w hw 28 rfl)) (by decide) (t := (.array (.object "com/example/vestalia/vestalia/model/Step$Kind"))) (t' := (.array .long)) (by decide) (by decide))))
  have f_161 := (((((((((((f_30.ext E_37).other W_48 (Or.inr (slot_ne (Or.inl (own_w hw 16 rfl)) (Or.inl (own_w hw 18 rfl)) (by decide) (t := (.array .int)) (t' := (.array .long)) (by decide) (by decide)))).ext E_57).other W_70 (Or.inr (slot_ne (Or.inl (own_w hw 16 rfl)) (Or.inl (own_w hw 20 rfl)) (by decide) (t := (.array .int)) (t' := (.array .int)) (by decide) (by decide)))).other W_75 (Or.inr (slot_ne (Or.inl (own_w hw 16 rfl)) (Or.inr (own_w hw 22 rfl)) (by decide) (t := (.array .int)) (t' := .int) (by decide) (by decide)))).ext E_85).other W_98 (Or.inr (slot_ne (Or.inl (own_w hw 16 rfl)) (Or.inr (own_w hw 24 rfl)) (by decide) (t := (.array .int)) (t' := (.array .long)) (by decide) (by decide)))).ext E_109).other W_123 (Or.inr (slot_ne (Or.inl (own_w hw 16 rfl)) (Or.inr (own_w hw 26 rfl)) (by decide) (t := (.array .int)) (t' := (.array .long)) (by decide) (by decide)))).ext E_136).other W_151 (Or.inr (slot_ne (Or.inl (own_w hw 16 rfl)) (Or.inl (own_w hw 28 rfl)) (by decide) (t := (.array .int)) (t' := (.array .long)) (by decide) (by decide))))
  have f_162 := (((((((((f_49.ext E_57).other W_70 (Or.inr (slot_ne (Or.inl (own_w hw 18 rfl)) (Or.inl (own_w hw 20 rfl)) (by decide) (t := (.array .long)) (t' := (.array .int)) (by decide) (by decide)))).other W_75 (Or.inr (slot_ne (Or.inl (own_w hw 18 rfl)) (Or.inr (own_w hw 22 rfl)) (by decide) (t := (.array .long)) (t' := .int) (by decide) (by decide)))).ext E_85).other W_98 (Or.inr (slot_ne (Or.inl (own_w hw 18 rfl)) (Or.inr (own_w hw 24 rfl)) (by decide) (t := (.array .long)) (t' := (.array .long)) (by decide) (by decide)))).ext E_109).other W_123 (Or.inr (slot_ne (Or.inl (own_w hw 18 rfl)) (Or.inr (own_w hw 26 rfl)) (by decide) (t := (.array .long)) (t' := (.array .long)) (by decide) (by decide)))).ext E_136).other W_151 (Or.inr (slot_ne (Or.inl (own_w hw 18 rfl)) (Or.inl (own_w hw 28 rfl)) (by decide) (t := (.array .long)) (t' := (.array .long)) (by decide) (by decide))))
  have f_163 := ((((((f_76.ext E_85).other W_98 (Or.inr (slot_ne (Or.inr (own_w hw 22 rfl)) (Or.inr (own_w hw 24 rfl)) (by decide) (t := .int) (t' := (.array .long)) (by decide) (by decide)))).ext E_109).other W_123 (Or.inr (slot_ne (Or.inr (own_w hw 22 rfl)) (Or.inr (own_w hw 26 rfl)) (by decide) (t := .int) (t' := (.array .long)) (by decide) (by decide)))).ext E_136).other W_151 (Or.inr (slot_ne (Or.inr (own_w hw 22 rfl)) (Or.inl (own_w hw 28 rfl)) (by decide) (t := .int) (t' := (.array .long)) (by decide) (by decide))))
  have f_164 := ((((f_99.ext E_109).other W_123 (Or.inr (slot_ne (Or.inr (own_w hw 24 rfl)) (Or.inr (own_w hw 26 rfl)) (by decide) (t := (.array .long)) (t' := (.array .long)) (by decide) (by decide)))).ext E_136).other W_151 (Or.inr (slot_ne (Or.inr (own_w hw 24 rfl)) (Or.inl (own_w hw 28 rfl)) (by decide) (t := (.array .long)) (t' := (.array .long)) (by decide) (by decide))))
  have f_165 := ((f_124.ext E_136).other W_151 (Or.inr (slot_ne (Or.inr (own_w hw 26 rfl)) (Or.inl (own_w hw 28 rfl)) (by decide) (t := (.array .long)) (t' := (.array .long)) (by decide) (by decide))))
  have f_166 := (((((((((((((((F_length.ext E_4).other W_11 (Or.inr (slot_ne (Or.inl (own_w hw 39 rfl)) (Or.inl (own_w hw 13 rfl)) (by decide) (t := .int) (t' := (.array (.object "com/example/vestalia/vestalia/model/Step$Kind"))) (by decide) (by decide)))).ext E_18).other W_29 (Or.inr (slot_ne (Or.inl (own_w hw 39 rfl)) (Or.inl (own_w hw 16 rfl)) (by decide) (t := .int) (t' := (.array .int)) (by decide) (by decide)))).ext E_37).other W_48 (Or.inr (slot_ne (Or.inl (own_w hw 39 rfl)) (Or.inl (own_w hw 18 rfl)) (by decide) (t := .int) (t' := (.array .long)) (by decide) (by decide)))).ext E_57).other W_70 (Or.inr (slot_ne (Or.inl (own_w hw 39 rfl)) (Or.inl (own_w hw 20 rfl)) (by decide) (t := .int) (t' := (.array .int)) (by decide) (by decide)))).other W_75 (Or.inr (slot_ne (Or.inl (own_w hw 39 rfl)) (Or.inr (own_w hw 22 rfl)) (by decide) (t := .int) (t' := .int) (by decide) (by decide)))).ext E_85).other W_98 (Or.inr (slot_ne (Or.inl (own_w hw 39 rfl)) (Or.inr (own_w hw 24 rfl)) (by decide) (t := .int) (t' := (.array .long)) (by decide) (by decide)))).ext E_109).other W_123 (Or.inr (slot_ne (Or.inl (own_w hw 39 rfl)) (Or.inr (own_w hw 26 rfl)) (by decide) (t := .int) (t' := (.array .long)) (by decide) (by decide)))).ext E_136).other W_151 (Or.inr (slot_ne (Or.inl (own_w hw 39 rfl)) (Or.inl (own_w hw 28 rfl)) (by decide) (t := .int) (t' := (.array .long)) (by decide) (by decide))))
  have f_167 := (((((((((((((((F_whole.ext E_4).other W_11 (Or.inr (slot_ne (Or.inl (own_w hw 41 rfl)) (Or.inl (own_w hw 13 rfl)) (by decide) (t := .boolean) (t' := (.array (.object "com/example/vestalia/vestalia/model/Step$Kind"))) (by decide) (by decide)))).ext E_18).other W_29 (Or.inr (slot_ne (Or.inl (own_w hw 41 rfl)) (Or.inl (own_w hw 16 rfl)) (by decide) (t := .boolean) (t' := (.array .int)) (by decide) (by decide)))).ext E_37).other W_48 (Or.inr (slot_ne (Or.inl (own_w hw 41 rfl)) (Or.inl (own_w hw 18 rfl)) (by decide) (t := .boolean) (t' := (.array .long)) (by decide) (by decide)))).ext E_57).other W_70 (Or.inr (slot_ne (Or.inl (own_w hw 41 rfl)) (Or.inl (own_w hw 20 rfl)) (by decide) (t := .boolean) (t' := (.array .int)) (by decide) (by decide)))).other W_75 (Or.inr (slot_ne (Or.inl (own_w hw 41 rfl)) (Or.inr (own_w hw 22 rfl)) (by decide) (t := .boolean) (t' := .int) (by decide) (by decide)))).ext E_85).other W_98 (Or.inr (slot_ne (Or.inl (own_w hw 41 rfl)) (Or.inr (own_w hw 24 rfl)) (by decide) (t := .boolean) (t' := (.array .long)) (by decide) (by decide)))).ext E_109).other W_123 (Or.inr (slot_ne (Or.inl (own_w hw 41 rfl)) (Or.inr (own_w hw 26 rfl)) (by decide) (t := .boolean) (t' := (.array .long)) (by decide) (by decide)))).ext E_136).other W_151 (Or.inr (slot_ne (Or.inl (own_w hw 41 rfl)) (Or.inl (own_w hw 28 rfl)) (by decide) (t := .boolean) (t' := (.array .long)) (by decide) (by decide))))
  have f_168 := (((((((f_71.other W_75 (Or.inr (slot_ne (Or.inl (own_w hw 20 rfl)) (Or.inr (own_w hw 22 rfl)) (by decide) (t := (.array .int)) (t' := .int) (by decide) (by decide)))).ext E_85).other W_98 (Or.inr (slot_ne (Or.inl (own_w hw 20 rfl)) (Or.inr (own_w hw 24 rfl)) (by decide) (t := (.array .int)) (t' := (.array .long)) (by decide) (by decide)))).ext E_109).other W_123 (Or.inr (slot_ne (Or.inl (own_w hw 20 rfl)) (Or.inr (own_w hw 26 rfl)) (by decide) (t := (.array .int)) (t' := (.array .long)) (by decide) (by decide)))).ext E_136).other W_151 (Or.inr (slot_ne (Or.inl (own_w hw 20 rfl)) (Or.inl (own_w hw 28 rfl)) (by decide) (t := (.array .int)) (t' := (.array .long)) (by decide) (by decide))))
  exact ⟨rfl, ((((((((((((((((Keep.refl h0 [t]).ext E_4).wr W_11 (Or.inl (List.mem_of_getElem? (i := 0) rfl))).ext E_18).wr W_29 (Or.inl (List.mem_of_getElem? (i := 0) rfl))).ext E_37).wr W_48 (Or.inl (List.mem_of_getElem? (i := 0) rfl))).ext E_57).wr W_70 (Or.inl (List.mem_of_getElem? (i := 0) rfl))).wr W_75 (Or.inl (List.mem_of_getElem? (i := 0) rfl))).ext E_85).wr W_98 (Or.inl (List.mem_of_getElem? (i := 0) rfl))).ext E_109).wr W_123 (Or.inl (List.mem_of_getElem? (i := 0) rfl))).ext E_136).wr W_151 (Or.inl (List.mem_of_getElem? (i := 0) rfl))), a_2, a_16, a_35, a_83, a_107, a_134, ⟨gs_a_2, gs_a_16, gs_a_35, gs_a_83, gs_a_107, gs_a_134⟩, ⟨ne_21, ne_40, ne_88, ne_112, ne_140, ne_39, ne_87, ne_111, ne_139, ne_89, ne_113, ne_141, ne_115, ne_143, ne_138⟩, ⟨f_159, f_160, f_161, f_162, f_163, f_164, f_165, f_152, f_166, f_167, ⟨a_55, f_168⟩, f_153, f_154, f_155, f_156, f_157, f_158⟩⟩
set_option maxRecDepth 65536 in
set_option maxHeartbeats 40000000 in
theorem rm_init1 (l : Launch) (Z : State) (a0 : Array Value) (hw : ∀ d ∈ tables_1, d.before a0 Z = true) (n0 : Nat) (t : Addr) (h0 : Heap) (Z0 : n0 ≤ h0.size) (E0 : Exa Z h0 t "com/example/vestalia/vestalia/locks/StepTrace") (F_kinds : Fld Z h0 t "com/example/vestalia/vestalia/locks/StepTrace" "kinds" "[Lcom/example/vestalia/vestalia/model/Step$Kind;" .null) (F_slots : Fld Z h0 t "com/example/vestalia/vestalia/locks/StepTrace" "slots" "[I" .null) (F_values : Fld Z h0 t "com/example/vestalia/vestalia/locks/StepTrace" "values" "[J" .null) (F_written : Fld Z h0 t "com/example/vestalia/vestalia/locks/StepTrace" "written" "[I" .null) (F_width : Fld Z h0 t "com/example/vestalia/vestalia/locks/StepTrace" "width" "I" (.int (0 : Int32))) (F_start : Fld Z h0 t "com/example/vestalia/vestalia/locks/StepTrace" "start" "[J" .null) (F_end : Fld Z h0 t "com/example/vestalia/vestalia/locks/StepTrace" "end" "[J" .null) (F_before : Fld Z h0 t "com/example/vestalia/vestalia/locks/StepTrace" "before" "[J" .null) (F_length : Fld Z h0 t "com/example/vestalia/vestalia/locks/StepTrace" "length" "I" (.int (0 : Int32))) (F_whole : Fld Z h0 t "com/example/vestalia/vestalia/locks/StepTrace" "whole" "Z" (.int (0 : Int32))) (g0 : n0 ≤ t) :
    Met1 l Z (⟨"com/example/vestalia/vestalia/locks/StepTrace", "<init>", "(I)V"⟩ : MethodName) prog_32_method_1_code 2 none ({ frames := 1, cells := 7, slots := 34, locals := 12 } : Room) n0 #[(.ref t), (.int (1 : Int32))] h0 (fun v h => v = none ∧ Keep h0 h [t] ∧ ∃ bk bs bv st en' bb : Addr, (h0.size ≤ bk ∧ h0.size ≤ bs ∧ h0.size ≤ bv ∧ h0.size ≤ st ∧ h0.size ≤ en' ∧ h0.size ≤ bb) ∧ Dis bk bs bv st en' bb ∧ Tr Z h t bk bs bv st en' bb (1 : Int32) (0 : Int32) (0 : Int32) .null (0 : Int32) (0 : Int64) [(.long (0 : Int64))] [(.long (0 : Int64))] [(.long (0 : Int64)), (.long (0 : Int64)), (.long (0 : Int64)), (.long (0 : Int64)), (.long (0 : Int64)), (.long (0 : Int64)), (.long (0 : Int64)), (.long (0 : Int64))]) := by
  refine met_of (plainFor_of_name own_pn_com_example_vestalia_vestalia_locks_StepTrace) (L0 := #[.val (.ref t), .val (.int (1 : Int32))]) (by first | (simp [argsToLocals, Value.category]; done) | rfl) ?_
  intro B C
  change Ctx B l _ _ "com/example/vestalia/vestalia/locks/StepTrace" "<init>" _ _ Z at C
  refine g_aload_n C d1_0 (v := (.ref t)) rfl rfl (pc' := 1) rfl ?_
  refine g_initObj C (own_w hw 7 rfl) (own_w hw 8 rfl) (own_w hw 9 rfl) rfl (by decide) (W := 0) (Nat.le_of_eq rfl) (by decide) d1_1 (pc' := 4) rfl ?_
  refine g_aload_n C d1_4 (v := (.ref t)) rfl rfl (pc' := 5) rfl ?_
  refine g_bipush C d1_5 (v := (8 : Int32)) rfl (pc' := 7) rfl ?_
  refine g_anewarray C (own_w hw 10 rfl) (own_w hw 11 rfl) (by decide) (cap := 8) (by decide) (by decide) (by decide) (by decide) d1_7 (pc' := 10) rfl ?_
  intro h_1 a_2 g_3 E_4 A_5
  have ne_6 : t ≠ a_2 := ne_new E0.lt g_3
  have ge_a_2 : n0 ≤ a_2 := Nat.le_trans Z0 (Nat.le_of_eq g_3.symm)
  have gs_a_2 : h0.size ≤ a_2 := Nat.le_trans (Nat.le_refl h0.size) (Nat.le_of_eq g_3.symm)
  have f_7 : AryR Z h_1 a_2 "com/example/vestalia/vestalia/model/Step$Kind" [.null, .null, .null, .null, .null, .null, .null, .null] := A_5
  show Go B n0 _ h_1 1 8 10 #[.val (.ref t), .val (.int (1 : Int32))] [(.ref a_2), (.ref t)]
  have f_8 := (F_kinds.ext E_4)
  have f_9 := (E0.ext E_4)
  refine g_putfield C (host := "") (v := (.ref a_2)) (Or.inl (own_w hw 12 rfl)) Via.refl f_8 f_9 (Or.inl (own_w hw 13 rfl)) (own_w hw 2 rfl) (ty := (.array (.object "com/example/vestalia/vestalia/model/Step$Kind"))) (by decide) rfl rfl g0 d1_10 (pc' := 13) rfl ?_
  intro h_10 W_11
  have f_12 := f_8.same W_11
  refine g_aload_n C d1_13 (v := (.ref t)) rfl rfl (pc' := 14) rfl ?_
  refine g_bipush C d1_14 (v := (8 : Int32)) rfl (pc' := 16) rfl ?_
  have f_13 := (f_7.keep (Keep.of_wr W_11) (nin1 (Ne.symm ne_6)))
  have f_14 := (f_9.wr W_11)
  refine g_newarrayE C (own_w hw 14 rfl) (ty := .int) rfl (ad := "[I") (by decide) (by decide) (cap := 8) (by decide) (by decide) (by decide) (by decide) d1_16 (pc' := 18) rfl ?_
  intro h_15 a_16 g_17 E_18 A_19 E_20
  have ne_21 : a_2 ≠ a_16 := ne_new f_13.lt g_17
  have ne_22 : t ≠ a_16 := ne_new f_14.lt g_17
  have f_23 := (Nat.le_trans (Nat.le_trans Z0 E_4.1) (Keep.of_wr W_11).1)
  have ge_a_16 : n0 ≤ a_16 := Nat.le_trans f_23 (Nat.le_of_eq g_17.symm)
  have f_24 := (Nat.le_trans (Nat.le_trans (Nat.le_refl h0.size) E_4.1) (Keep.of_wr W_11).1)
  have gs_a_16 : h0.size ≤ a_16 := Nat.le_trans f_24 (Nat.le_of_eq g_17.symm)
  have f_25 : Ary Z h_15 a_16 .int [(.int (0 : Int32)), (.int (0 : Int32)), (.int (0 : Int32)), (.int (0 : Int32)), (.int (0 : Int32)), (.int (0 : Int32)), (.int (0 : Int32)), (.int (0 : Int32))] := A_19
  show Go B n0 _ h_15 2 16 18 #[.val (.ref t), .val (.int (1 : Int32))] [(.ref a_16), (.ref t)]
  have f_26 := (((F_slots.ext E_4).other W_11 (Or.inr (slot_ne (Or.inl (own_w hw 16 rfl)) (Or.inl (own_w hw 13 rfl)) (by decide) (t := (.array .int)) (t' := (.array (.object "com/example/vestalia/vestalia/model/Step$Kind"))) (by decide) (by decide)))).ext E_18)
  have f_27 := (f_14.ext E_18)
  refine g_putfield C (host := "") (v := (.ref a_16)) (Or.inl (own_w hw 15 rfl)) Via.refl f_26 f_27 (Or.inl (own_w hw 16 rfl)) (own_w hw 2 rfl) (ty := (.array .int)) (by decide) rfl rfl g0 d1_18 (pc' := 21) rfl ?_
  intro h_28 W_29
  have f_30 := f_26.same W_29
  refine g_aload_n C d1_21 (v := (.ref t)) rfl rfl (pc' := 22) rfl ?_
  refine g_bipush C d1_22 (v := (8 : Int32)) rfl (pc' := 24) rfl ?_
  have f_31 := (f_25.keep (Keep.of_wr W_29) (nin1 (Ne.symm ne_22)))
  have f_32 := ((f_13.ext E_18).keep (Keep.of_wr W_29) (nin1 (Ne.symm ne_6)))
  have f_33 := (f_27.wr W_29)
  refine g_newarray C (own_w hw 0 rfl) (ty := .long) rfl (by decide) (cap := 8) (by decide) (by decide) (by decide) (by decide) d1_24 (pc' := 26) rfl ?_
  intro h_34 a_35 g_36 E_37 A_38
  have ne_39 : a_16 ≠ a_35 := ne_new f_31.lt g_36
  have ne_40 : a_2 ≠ a_35 := ne_new f_32.lt g_36
  have ne_41 : t ≠ a_35 := ne_new f_33.lt g_36
  have f_42 := (Nat.le_trans (Nat.le_trans f_23 E_18.1) (Keep.of_wr W_29).1)
  have ge_a_35 : n0 ≤ a_35 := Nat.le_trans f_42 (Nat.le_of_eq g_36.symm)
  have f_43 := (Nat.le_trans (Nat.le_trans f_24 E_18.1) (Keep.of_wr W_29).1)
  have gs_a_35 : h0.size ≤ a_35 := Nat.le_trans f_43 (Nat.le_of_eq g_36.symm)
  have f_44 : Ary Z h_34 a_35 .long [(.long (0 : Int64)), (.long (0 : Int64)), (.long (0 : Int64)), (.long (0 : Int64)), (.long (0 : Int64)), (.long (0 : Int64)), (.long (0 : Int64)), (.long (0 : Int64))] := A_38
  show Go B n0 _ h_34 3 24 26 #[.val (.ref t), .val (.int (1 : Int32))] [(.ref a_35), (.ref t)]
  have f_45 := (((((F_values.ext E_4).other W_11 (Or.inr (slot_ne (Or.inl (own_w hw 18 rfl)) (Or.inl (own_w hw 13 rfl)) (by decide) (t := (.array .long)) (t' := (.array (.object "com/example/vestalia/vestalia/model/Step$Kind"))) (by decide) (by decide)))).ext E_18).other W_29 (Or.inr (slot_ne (Or.inl (own_w hw 18 rfl)) (Or.inl (own_w hw 16 rfl)) (by decide) (t := (.array .long)) (t' := (.array .int)) (by decide) (by decide)))).ext E_37)
  have f_46 := (f_33.ext E_37)
  refine g_putfield C (host := "") (v := (.ref a_35)) (Or.inl (own_w hw 17 rfl)) Via.refl f_45 f_46 (Or.inl (own_w hw 18 rfl)) (own_w hw 2 rfl) (ty := (.array .long)) (by decide) rfl rfl g0 d1_26 (pc' := 29) rfl ?_
  intro h_47 W_48
  have f_49 := f_45.same W_48
  refine g_aload_n C d1_29 (v := (.ref t)) rfl rfl (pc' := 30) rfl ?_
  refine g_iconst C d1_30 (v := (0 : Int32)) rfl (pc' := 31) rfl ?_
  have f_50 := ((f_31.ext E_37).keep (Keep.of_wr W_48) (nin1 (Ne.symm ne_22)))
  have f_51 := ((f_32.ext E_37).keep (Keep.of_wr W_48) (nin1 (Ne.symm ne_6)))
  have f_52 := (f_44.keep (Keep.of_wr W_48) (nin1 (Ne.symm ne_41)))
  have f_53 := (f_46.wr W_48)
  refine g_newarrayE C (own_w hw 14 rfl) (ty := .int) rfl (ad := "[I") (by decide) (by decide) (cap := 0) (by decide) (by decide) (by decide) (by decide) d1_31 (pc' := 33) rfl ?_
  intro h_54 a_55 g_56 E_57 A_58 E_59
  have ne_60 : a_16 ≠ a_55 := ne_new f_50.lt g_56
  have ne_61 : a_2 ≠ a_55 := ne_new f_51.lt g_56
  have ne_62 : a_35 ≠ a_55 := ne_new f_52.lt g_56
  have ne_63 : t ≠ a_55 := ne_new f_53.lt g_56
  have f_64 := (Nat.le_trans (Nat.le_trans f_42 E_37.1) (Keep.of_wr W_48).1)
  have ge_a_55 : n0 ≤ a_55 := Nat.le_trans f_64 (Nat.le_of_eq g_56.symm)
  have f_65 := (Nat.le_trans (Nat.le_trans f_43 E_37.1) (Keep.of_wr W_48).1)
  have gs_a_55 : h0.size ≤ a_55 := Nat.le_trans f_65 (Nat.le_of_eq g_56.symm)
  have f_66 : Ary Z h_54 a_55 .int [] := A_58
  show Go B n0 _ h_54 4 24 33 #[.val (.ref t), .val (.int (1 : Int32))] [(.ref a_55), (.ref t)]
  have f_67 := (((((((F_written.ext E_4).other W_11 (Or.inr (slot_ne (Or.inl (own_w hw 20 rfl)) (Or.inl (own_w hw 13 rfl)) (by decide) (t := (.array .int)) (t' := (.array (.object "com/example/vestalia/vestalia/model/Step$Kind"))) (by decide) (by decide)))).ext E_18).other W_29 (Or.inr (slot_ne (Or.inl (own_w hw 20 rfl)) (Or.inl (own_w hw 16 rfl)) (by decide) (t := (.array .int)) (t' := (.array .int)) (by decide) (by decide)))).ext E_37).other W_48 (Or.inr (slot_ne (Or.inl (own_w hw 20 rfl)) (Or.inl (own_w hw 18 rfl)) (by decide) (t := (.array .int)) (t' := (.array .long)) (by decide) (by decide)))).ext E_57)
  have f_68 := (f_53.ext E_57)
  refine g_putfield C (host := "") (v := (.ref a_55)) (Or.inl (own_w hw 19 rfl)) Via.refl f_67 f_68 (Or.inl (own_w hw 20 rfl)) (own_w hw 2 rfl) (ty := (.array .int)) (by decide) rfl rfl g0 d1_33 (pc' := 36) rfl ?_
  intro h_69 W_70
  have f_71 := f_67.same W_70
  refine g_aload_n C d1_36 (v := (.ref t)) rfl rfl (pc' := 37) rfl ?_
  refine g_iload_n C d1_37 (v := (1 : Int32)) rfl (pc' := 38) rfl ?_
  have f_72 := ((((((((F_width.ext E_4).other W_11 (Or.inr (slot_ne (Or.inr (own_w hw 22 rfl)) (Or.inl (own_w hw 13 rfl)) (by decide) (t := .int) (t' := (.array (.object "com/example/vestalia/vestalia/model/Step$Kind"))) (by decide) (by decide)))).ext E_18).other W_29 (Or.inr (slot_ne (Or.inr (own_w hw 22 rfl)) (Or.inl (own_w hw 16 rfl)) (by decide) (t := .int) (t' := (.array .int)) (by decide) (by decide)))).ext E_37).other W_48 (Or.inr (slot_ne (Or.inr (own_w hw 22 rfl)) (Or.inl (own_w hw 18 rfl)) (by decide) (t := .int) (t' := (.array .long)) (by decide) (by decide)))).ext E_57).other W_70 (Or.inr (slot_ne (Or.inr (own_w hw 22 rfl)) (Or.inl (own_w hw 20 rfl)) (by decide) (t := .int) (t' := (.array .int)) (by decide) (by decide))))
  have f_73 := (f_68.wr W_70)
  refine g_putfield C (host := "") (v := (.int (1 : Int32))) (Or.inl (own_w hw 21 rfl)) Via.refl f_72 f_73 (Or.inr ⟨(own_w hw 22 rfl), rfl, rfl⟩) (own_w hw 2 rfl) (ty := .int) (by decide) rfl rfl g0 d1_38 (pc' := 41) rfl ?_
  intro h_74 W_75
  have f_76 := f_72.same W_75
  refine g_aload_n C d1_41 (v := (.ref t)) rfl rfl (pc' := 42) rfl ?_
  refine g_iload_n C d1_42 (v := (1 : Int32)) rfl (pc' := 43) rfl ?_
  have f_77 := (((f_50.ext E_57).keep (Keep.of_wr W_70) (nin1 (Ne.symm ne_22))).keep (Keep.of_wr W_75) (nin1 (Ne.symm ne_22)))
  have f_78 := (((f_51.ext E_57).keep (Keep.of_wr W_70) (nin1 (Ne.symm ne_6))).keep (Keep.of_wr W_75) (nin1 (Ne.symm ne_6)))
  have f_79 := (((f_52.ext E_57).keep (Keep.of_wr W_70) (nin1 (Ne.symm ne_41))).keep (Keep.of_wr W_75) (nin1 (Ne.symm ne_41)))
  have f_80 := ((f_66.keep (Keep.of_wr W_70) (nin1 (Ne.symm ne_63))).keep (Keep.of_wr W_75) (nin1 (Ne.symm ne_63)))
  have f_81 := (f_73.wr W_75)
  refine g_newarray C (own_w hw 0 rfl) (ty := .long) rfl (by decide) (cap := 1) (by decide) (by decide) (by decide) (by decide) d1_43 (pc' := 45) rfl ?_
  intro h_82 a_83 g_84 E_85 A_86
  have ne_87 : a_16 ≠ a_83 := ne_new f_77.lt g_84
  have ne_88 : a_2 ≠ a_83 := ne_new f_78.lt g_84
  have ne_89 : a_35 ≠ a_83 := ne_new f_79.lt g_84
  have ne_90 : a_55 ≠ a_83 := ne_new f_80.lt g_84
  have ne_91 : t ≠ a_83 := ne_new f_81.lt g_84
  have f_92 := (Nat.le_trans (Nat.le_trans (Nat.le_trans f_64 E_57.1) (Keep.of_wr W_70).1) (Keep.of_wr W_75).1)
  have ge_a_83 : n0 ≤ a_83 := Nat.le_trans f_92 (Nat.le_of_eq g_84.symm)
  have f_93 := (Nat.le_trans (Nat.le_trans (Nat.le_trans f_65 E_57.1) (Keep.of_wr W_70).1) (Keep.of_wr W_75).1)
  have gs_a_83 : h0.size ≤ a_83 := Nat.le_trans f_93 (Nat.le_of_eq g_84.symm)
  have f_94 : Ary Z h_82 a_83 .long [(.long (0 : Int64))] := A_86
  show Go B n0 _ h_82 5 25 45 #[.val (.ref t), .val (.int (1 : Int32))] [(.ref a_83), (.ref t)]
  have f_95 := ((((((((((F_start.ext E_4).other W_11 (Or.inr (slot_ne (Or.inr (own_w hw 24 rfl)) (Or.inl (own_w hw 13 rfl)) (by decide) (t := (.array .long)) (t' := (.array (.object "com/example/vestalia/vestalia/model/Step$Kind"))) (by decide) (by decide)))).ext E_18).other W_29 (Or.inr (slot_ne (Or.inr (own_w hw 24 rfl)) (Or.inl (own_w hw 16 rfl)) (by decide) (t := (.array .long)) (t' := (.array .int)) (by decide) (by decide)))).ext E_37).other W_48 (Or.inr (slot_ne (Or.inr (own_w hw 24 rfl)) (Or.inl (own_w hw 18 rfl)) (by decide) (t := (.array .long)) (t' := (.array .long)) (by decide) (by decide)))).ext E_57).other W_70 (Or.inr (slot_ne (Or.inr (own_w hw 24 rfl)) (Or.inl (own_w hw 20 rfl)) (by decide) (t := (.array .long)) (t' := (.array .int)) (by decide) (by decide)))).other W_75 (Or.inr (slot_ne (Or.inr (own_w hw 24 rfl)) (Or.inr (own_w hw 22 rfl)) (by decide) (t := (.array .long)) (t' := .int) (by decide) (by decide)))).ext E_85)
  have f_96 := (f_81.ext E_85)
  refine g_putfield C (host := "") (v := (.ref a_83)) (Or.inl (own_w hw 23 rfl)) Via.refl f_95 f_96 (Or.inr ⟨(own_w hw 24 rfl), rfl, rfl⟩) (own_w hw 2 rfl) (ty := (.array .long)) (by decide) rfl rfl g0 d1_45 (pc' := 48) rfl ?_
  intro h_97 W_98
  have f_99 := f_95.same W_98
  refine g_aload_n C d1_48 (v := (.ref t)) rfl rfl (pc' := 49) rfl ?_
  refine g_iload_n C d1_49 (v := (1 : Int32)) rfl (pc' := 50) rfl ?_
  have f_100 := ((f_77.ext E_85).keep (Keep.of_wr W_98) (nin1 (Ne.symm ne_22)))
  have f_101 := ((f_78.ext E_85).keep (Keep.of_wr W_98) (nin1 (Ne.symm ne_6)))
  have f_102 := ((f_79.ext E_85).keep (Keep.of_wr W_98) (nin1 (Ne.symm ne_41)))
  have f_103 := ((f_80.ext E_85).keep (Keep.of_wr W_98) (nin1 (Ne.symm ne_63)))
  have f_104 := (f_94.keep (Keep.of_wr W_98) (nin1 (Ne.symm ne_91)))
  have f_105 := (f_96.wr W_98)
  refine g_newarray C (own_w hw 0 rfl) (ty := .long) rfl (by decide) (cap := 1) (by decide) (by decide) (by decide) (by decide) d1_50 (pc' := 52) rfl ?_
  intro h_106 a_107 g_108 E_109 A_110
  have ne_111 : a_16 ≠ a_107 := ne_new f_100.lt g_108
  have ne_112 : a_2 ≠ a_107 := ne_new f_101.lt g_108
  have ne_113 : a_35 ≠ a_107 := ne_new f_102.lt g_108
  have ne_114 : a_55 ≠ a_107 := ne_new f_103.lt g_108
  have ne_115 : a_83 ≠ a_107 := ne_new f_104.lt g_108
  have ne_116 : t ≠ a_107 := ne_new f_105.lt g_108
  have f_117 := (Nat.le_trans (Nat.le_trans f_92 E_85.1) (Keep.of_wr W_98).1)
  have ge_a_107 : n0 ≤ a_107 := Nat.le_trans f_117 (Nat.le_of_eq g_108.symm)
  have f_118 := (Nat.le_trans (Nat.le_trans f_93 E_85.1) (Keep.of_wr W_98).1)
  have gs_a_107 : h0.size ≤ a_107 := Nat.le_trans f_118 (Nat.le_of_eq g_108.symm)
  have f_119 : Ary Z h_106 a_107 .long [(.long (0 : Int64))] := A_110
  show Go B n0 _ h_106 6 26 52 #[.val (.ref t), .val (.int (1 : Int32))] [(.ref a_107), (.ref t)]
  have f_120 := ((((((((((((F_end.ext E_4).other W_11 (Or.inr (slot_ne (Or.inr (own_w hw 26 rfl)) (Or.inl (own_w hw 13 rfl)) (by decide) (t := (.array .long)) (t' := (.array (.object "com/example/vestalia/vestalia/model/Step$Kind"))) (by decide) (by decide)))).ext E_18).other W_29 (Or.inr (slot_ne (Or.inr (own_w hw 26 rfl)) (Or.inl (own_w hw 16 rfl)) (by decide) (t := (.array .long)) (t' := (.array .int)) (by decide) (by decide)))).ext E_37).other W_48 (Or.inr (slot_ne (Or.inr (own_w hw 26 rfl)) (Or.inl (own_w hw 18 rfl)) (by decide) (t := (.array .long)) (t' := (.array .long)) (by decide) (by decide)))).ext E_57).other W_70 (Or.inr (slot_ne (Or.inr (own_w hw 26 rfl)) (Or.inl (own_w hw 20 rfl)) (by decide) (t := (.array .long)) (t' := (.array .int)) (by decide) (by decide)))).other W_75 (Or.inr (slot_ne (Or.inr (own_w hw 26 rfl)) (Or.inr (own_w hw 22 rfl)) (by decide) (t := (.array .long)) (t' := .int) (by decide) (by decide)))).ext E_85).other W_98 (Or.inr (slot_ne (Or.inr (own_w hw 26 rfl)) (Or.inr (own_w hw 24 rfl)) (by decide) (t := (.array .long)) (t' := (.array .long)) (by decide) (by decide)))).ext E_109)
  have f_121 := (f_105.ext E_109)
  refine g_putfield C (host := "") (v := (.ref a_107)) (Or.inl (own_w hw 25 rfl)) Via.refl f_120 f_121 (Or.inr ⟨(own_w hw 26 rfl), rfl, rfl⟩) (own_w hw 2 rfl) (ty := (.array .long)) (by decide) rfl rfl g0 d1_52 (pc' := 55) rfl ?_
  intro h_122 W_123
  have f_124 := f_120.same W_123
  refine g_aload_n C d1_55 (v := (.ref t)) rfl rfl (pc' := 56) rfl ?_
  refine g_aload_n C d1_56 (v := (.ref t)) rfl rfl (pc' := 57) rfl ?_
  have f_125 := (((((((((((f_12.ext E_18).other W_29 (Or.inr (slot_ne (Or.inl (own_w hw 13 rfl)) (Or.inl (own_w hw 16 rfl)) (by decide) (t := (.array (.object "com/example/vestalia/vestalia/model/Step$Kind"))) (t' := (.array .int)) (by decide) (by decide)))).ext E_37).other W_48 (Or.inr (slot_ne (Or.inl (own_w hw 13 rfl)) (Or.inl (own_w hw 18 rfl)) (by decide) (t := (.array (.object "com/example/vestalia/vestalia/model/Step$Kind"))) (t' := (.array .long)) (by decide) (by decide)))).ext E_57).other W_70 (Or.inr (slot_ne (Or.inl (own_w hw 13 rfl)) (Or.inl (own_w hw 20 rfl)) (by decide) (t := (.array (.object "com/example/vestalia/vestalia/model/Step$Kind"))) (t' := (.array .int)) (by decide) (by decide)))).other W_75 (Or.inr (slot_ne (Or.inl (own_w hw 13 rfl)) (Or.inr (own_w hw 22 rfl)) (by decide) (t := (.array (.object "com/example/vestalia/vestalia/model/Step$Kind"))) (t' := .int) (by decide) (by decide)))).ext E_85).other W_98 (Or.inr (slot_ne (Or.inl (own_w hw 13 rfl)) (Or.inr (own_w hw 24 rfl)) (by decide) (t := (.array (.object "com/example/vestalia/vestalia/model/Step$Kind"))) (t' := (.array .long)) (by decide) (by decide)))).ext E_109).other W_123 (Or.inr (slot_ne (Or.inl (own_w hw 13 rfl)) (Or.inr (own_w hw 26 rfl)) (by decide) (t := (.array (.object "com/example/vestalia/vestalia/model/Step$Kind"))) (t' := (.array .long)) (by decide) (by decide))))
  refine g_getfield C (host := "") (v := (.ref a_2)) (Or.inl (own_w hw 12 rfl)) Via.refl f_125 d1_57 (pc' := 60) rfl ?_
  have f_126 := ((f_101.ext E_109).keep (Keep.of_wr W_123) (nin1 (Ne.symm ne_6)))
  refine g_arraylength C (AryR.ary f_126) (z := (8 : Int32)) rfl d1_60 (pc' := 61) rfl ?_
  refine g_iload_n C d1_61 (v := (1 : Int32)) rfl (pc' := 62) rfl ?_
  refine g_imul C (x := (8 : Int32)) (y := (1 : Int32)) d1_62  (pc' := 63) rfl ?_
  refine Go.eqs (st2 := [(.int (8 : Int32)), (.ref t)]) ?_ (by rfl)
  have f_127 := (f_119.keep (Keep.of_wr W_123) (nin1 (Ne.symm ne_116)))
  have f_128 := ((f_100.ext E_109).keep (Keep.of_wr W_123) (nin1 (Ne.symm ne_22)))
  have f_129 := ((f_102.ext E_109).keep (Keep.of_wr W_123) (nin1 (Ne.symm ne_41)))
  have f_130 := ((f_103.ext E_109).keep (Keep.of_wr W_123) (nin1 (Ne.symm ne_63)))
  have f_131 := ((f_104.ext E_109).keep (Keep.of_wr W_123) (nin1 (Ne.symm ne_91)))
  have f_132 := (f_121.wr W_123)
  refine g_newarray C (own_w hw 0 rfl) (ty := .long) rfl (by decide) (cap := 8) (by decide) (by decide) (by decide) (by decide) d1_63 (pc' := 65) rfl ?_
  intro h_133 a_134 g_135 E_136 A_137
  have ne_138 : a_107 ≠ a_134 := ne_new f_127.lt g_135
  have ne_139 : a_16 ≠ a_134 := ne_new f_128.lt g_135
  have ne_140 : a_2 ≠ a_134 := ne_new f_126.lt g_135
  have ne_141 : a_35 ≠ a_134 := ne_new f_129.lt g_135
  have ne_142 : a_55 ≠ a_134 := ne_new f_130.lt g_135
  have ne_143 : a_83 ≠ a_134 := ne_new f_131.lt g_135
  have ne_144 : t ≠ a_134 := ne_new f_132.lt g_135
  have f_145 := (Nat.le_trans (Nat.le_trans f_117 E_109.1) (Keep.of_wr W_123).1)
  have ge_a_134 : n0 ≤ a_134 := Nat.le_trans f_145 (Nat.le_of_eq g_135.symm)
  have f_146 := (Nat.le_trans (Nat.le_trans f_118 E_109.1) (Keep.of_wr W_123).1)
  have gs_a_134 : h0.size ≤ a_134 := Nat.le_trans f_146 (Nat.le_of_eq g_135.symm)
  have f_147 : Ary Z h_133 a_134 .long [(.long (0 : Int64)), (.long (0 : Int64)), (.long (0 : Int64)), (.long (0 : Int64)), (.long (0 : Int64)), (.long (0 : Int64)), (.long (0 : Int64)), (.long (0 : Int64))] := A_137
  show Go B n0 _ h_133 7 34 65 #[.val (.ref t), .val (.int (1 : Int32))] [(.ref a_134), (.ref t)]
  have f_148 := ((((((((((((((F_before.ext E_4).other W_11 (Or.inr (slot_ne (Or.inl (own_w hw 28 rfl)) (Or.inl (own_w hw 13 rfl)) (by decide) (t := (.array .long)) (t' := (.array (.object "com/example/vestalia/vestalia/model/Step$Kind"))) (by decide) (by decide)))).ext E_18).other W_29 (Or.inr (slot_ne (Or.inl (own_w hw 28 rfl)) (Or.inl (own_w hw 16 rfl)) (by decide) (t := (.array .long)) (t' := (.array .int)) (by decide) (by decide)))).ext E_37).other W_48 (Or.inr (slot_ne (Or.inl (own_w hw 28 rfl)) (Or.inl (own_w hw 18 rfl)) (by decide) (t := (.array .long)) (t' := (.array .long)) (by decide) (by decide)))).ext E_57).other W_70 (Or.inr (slot_ne (Or.inl (own_w hw 28 rfl)) (Or.inl (own_w hw 20 rfl)) (by decide) (t := (.array .long)) (t' := (.array .int)) (by decide) (by decide)))).other W_75 (Or.inr (slot_ne (Or.inl (own_w hw 28 rfl)) (Or.inr (own_w hw 22 rfl)) (by decide) (t := (.array .long)) (t' := .int) (by decide) (by decide)))).ext E_85).other W_98 (Or.inr (slot_ne (Or.inl (own_w hw 28 rfl)) (Or.inr (own_w hw 24 rfl)) (by decide) (t := (.array .long)) (t' := (.array .long)) (by decide) (by decide)))).ext E_109).other W_123 (Or.inr (slot_ne (Or.inl (own_w hw 28 rfl)) (Or.inr (own_w hw 26 rfl)) (by decide) (t := (.array .long)) (t' := (.array .long)) (by decide) (by decide)))).ext E_136)
  have f_149 := (f_132.ext E_136)
  refine g_putfield C (host := "") (v := (.ref a_134)) (Or.inl (own_w hw 27 rfl)) Via.refl f_148 f_149 (Or.inl (own_w hw 28 rfl)) (own_w hw 2 rfl) (ty := (.array .long)) (by decide) rfl rfl g0 d1_65 (pc' := 68) rfl ?_
  intro h_150 W_151
  have f_152 := f_148.same W_151
  refine g_return C rfl d1_68 (by decide) (by decide) ?_
  have f_153 := ((f_126.ext E_136).keep (Keep.of_wr W_151) (nin1 (Ne.symm ne_6)))
  have f_154 := ((f_128.ext E_136).keep (Keep.of_wr W_151) (nin1 (Ne.symm ne_22)))
  have f_155 := ((f_129.ext E_136).keep (Keep.of_wr W_151) (nin1 (Ne.symm ne_41)))
  have f_156 := ((f_131.ext E_136).keep (Keep.of_wr W_151) (nin1 (Ne.symm ne_91)))
  have f_157 := ((f_127.ext E_136).keep (Keep.of_wr W_151) (nin1 (Ne.symm ne_116)))
  have f_158 := (f_147.keep (Keep.of_wr W_151) (nin1 (Ne.symm ne_144)))
  have f_159 := (f_149.wr W_151)
  have f_160 := ((f_125.ext E_136).other W_151 (Or.inr (slot_ne (Or.inl (own_w hw 13 rfl)) (Or.inl (own_w hw 28 rfl)) (by decide) (t := (.array (.object "com/example/vestalia/vestalia/model/Step$Kind"))) (t' := (.array .long)) (by decide) (by decide))))
  have f_161 := (((((((((((f_30.ext E_37).other W_48 (Or.inr (slot_ne (Or.inl (own_w hw 16 rfl)) (Or.inl (own_w hw 18 rfl)) (by decide) (t := (.array .int)) (t' := (.array .long)) (by decide) (by decide)))).ext E_57).other W_70 (Or.inr (slot_ne (Or.inl (own_w hw 16 rfl)) (Or.inl (own_w hw 20 rfl)) (by decide) (t := (.array .int)) (t' := (.array .int)) (by decide) (by decide)))).other W_75 (Or.inr (slot_ne (Or.inl (own_w hw 16 rfl)) (Or.inr (own_w hw 22 rfl)) (by decide) (t := (.array .int)) (t' := .int) (by decide) (by decide)))).ext E_85).other W_98 (Or.inr (slot_ne (Or.inl (own_w hw 16 rfl)) (Or.inr (own_w hw 24 rfl)) (by decide) (t := (.array .int)) (t' := (.array .long)) (by decide) (by decide)))).ext E_109).other W_123 (Or.inr (slot_ne (Or.inl (own_w hw 16 rfl)) (Or.inr (own_w hw 26 rfl)) (by decide) (t := (.array .int)) (t' := (.array .long)) (by decide) (by decide)))).ext E_136).other W_151 (Or.inr (slot_ne (Or.inl (own_w hw 16 rfl)) (Or.inl (own_w hw 28 rfl)) (by decide) (t := (.array .int)) (t' := (.array .long)) (by decide) (by decide))))
  have f_162 := (((((((((f_49.ext E_57).other W_70 (Or.inr (slot_ne (Or.inl (own_w hw 18 rfl)) (Or.inl (own_w hw 20 rfl)) (by decide) (t := (.array .long)) (t' := (.array .int)) (by decide) (by decide)))).other W_75 (Or.inr (slot_ne (Or.inl (own_w hw 18 rfl)) (Or.inr (own_w hw 22 rfl)) (by decide) (t := (.array .long)) (t' := .int) (by decide) (by decide)))).ext E_85).other W_98 (Or.inr (slot_ne (Or.inl (own_w hw 18 rfl)) (Or.inr (own_w hw 24 rfl)) (by decide) (t := (.array .long)) (t' := (.array .long)) (by decide) (by decide)))).ext E_109).other W_123 (Or.inr (slot_ne (Or.inl (own_w hw 18 rfl)) (Or.inr (own_w hw 26 rfl)) (by decide) (t := (.array .long)) (t' := (.array .long)) (by decide) (by decide)))).ext E_136).other W_151 (Or.inr (slot_ne (Or.inl (own_w hw 18 rfl)) (Or.inl (own_w hw 28 rfl)) (by decide) (t := (.array .long)) (t' := (.array .long)) (by decide) (by decide))))
  have f_163 := ((((((f_76.ext E_85).other W_98 (Or.inr (slot_ne (Or.inr (own_w hw 22 rfl)) (Or.inr (own_w hw 24 rfl)) (by decide) (t := .int) (t' := (.array .long)) (by decide) (by decide)))).ext E_109).other W_123 (Or.inr (slot_ne (Or.inr (own_w hw 22 rfl)) (Or.inr (own_w hw 26 rfl)) (by decide) (t := .int) (t' := (.array .long)) (by decide) (by decide)))).ext E_136).other W_151 (Or.inr (slot_ne (Or.inr (own_w hw 22 rfl)) (Or.inl (own_w hw 28 rfl)) (by decide) (t := .int) (t' := (.array .long)) (by decide) (by decide))))
  have f_164 := ((((f_99.ext E_109).other W_123 (Or.inr (slot_ne (Or.inr (own_w hw 24 rfl)) (Or.inr (own_w hw 26 rfl)) (by decide) (t := (.array .long)) (t' := (.array .long)) (by decide) (by decide)))).ext E_136).other W_151 (Or.inr (slot_ne (Or.inr (own_w hw 24 rfl)) (Or.inl (own_w hw 28 rfl)) (by decide) (t := (.array .long)) (t' := (.array .long)) (by decide) (by decide))))
  have f_165 := ((f_124.ext E_136).other W_151 (Or.inr (slot_ne (Or.inr (own_w hw 26 rfl)) (Or.inl (own_w hw 28 rfl)) (by decide) (t := (.array .long)) (t' := (.array .long)) (by decide) (by decide))))
  have f_166 := (((((((((((((((F_length.ext E_4).other W_11 (Or.inr (slot_ne (Or.inl (own_w hw 39 rfl)) (Or.inl (own_w hw 13 rfl)) (by decide) (t := .int) (t' := (.array (.object "com/example/vestalia/vestalia/model/Step$Kind"))) (by decide) (by decide)))).ext E_18).other W_29 (Or.inr (slot_ne (Or.inl (own_w hw 39 rfl)) (Or.inl (own_w hw 16 rfl)) (by decide) (t := .int) (t' := (.array .int)) (by decide) (by decide)))).ext E_37).other W_48 (Or.inr (slot_ne (Or.inl (own_w hw 39 rfl)) (Or.inl (own_w hw 18 rfl)) (by decide) (t := .int) (t' := (.array .long)) (by decide) (by decide)))).ext E_57).other W_70 (Or.inr (slot_ne (Or.inl (own_w hw 39 rfl)) (Or.inl (own_w hw 20 rfl)) (by decide) (t := .int) (t' := (.array .int)) (by decide) (by decide)))).other W_75 (Or.inr (slot_ne (Or.inl (own_w hw 39 rfl)) (Or.inr (own_w hw 22 rfl)) (by decide) (t := .int) (t' := .int) (by decide) (by decide)))).ext E_85).other W_98 (Or.inr (slot_ne (Or.inl (own_w hw 39 rfl)) (Or.inr (own_w hw 24 rfl)) (by decide) (t := .int) (t' := (.array .long)) (by decide) (by decide)))).ext E_109).other W_123 (Or.inr (slot_ne (Or.inl (own_w hw 39 rfl)) (Or.inr (own_w hw 26 rfl)) (by decide) (t := .int) (t' := (.array .long)) (by decide) (by decide)))).ext E_136).other W_151 (Or.inr (slot_ne (Or.inl (own_w hw 39 rfl)) (Or.inl (own_w hw 28 rfl)) (by decide) (t := .int) (t' := (.array .long)) (by decide) (by decide))))
  have f_167 := (((((((((((((((F_whole.ext E_4).other W_11 (Or.inr (slot_ne (Or.inl (own_w hw 41 rfl)) (Or.inl (own_w hw 13 rfl)) (by decide) (t := .boolean) (t' := (.array (.object "com/example/vestalia/vestalia/model/Step$Kind"))) (by decide) (by decide)))).ext E_18).other W_29 (Or.inr (slot_ne (Or.inl (own_w hw 41 rfl)) (Or.inl (own_w hw 16 rfl)) (by decide) (t := .boolean) (t' := (.array .int)) (by decide) (by decide)))).ext E_37).other W_48 (Or.inr (slot_ne (Or.inl (own_w hw 41 rfl)) (Or.inl (own_w hw 18 rfl)) (by decide) (t := .boolean) (t' := (.array .long)) (by decide) (by decide)))).ext E_57).other W_70 (Or.inr (slot_ne (Or.inl (own_w hw 41 rfl)) (Or.inl (own_w hw 20 rfl)) (by decide) (t := .boolean) (t' := (.array .int)) (by decide) (by decide)))).other W_75 (Or.inr (slot_ne (Or.inl (own_w hw 41 rfl)) (Or.inr (own_w hw 22 rfl)) (by decide) (t := .boolean) (t' := .int) (by decide) (by decide)))).ext E_85).other W_98 (Or.inr (slot_ne (Or.inl (own_w hw 41 rfl)) (Or.inr (own_w hw 24 rfl)) (by decide) (t := .boolean) (t' := (.array .long)) (by decide) (by decide)))).ext E_109).other W_123 (Or.inr (slot_ne (Or.inl (own_w hw 41 rfl)) (Or.inr (own_w hw 26 rfl)) (by decide) (t := .boolean) (t' := (.array .long)) (by decide) (by decide)))).ext E_136).other W_151 (Or.inr (slot_ne (Or.inl (own_w hw 41 rfl)) (Or.inl (own_w hw 28 rfl)) (by decide) (t := .boolean) (t' := (.array .long)) (by decide) (by decide))))
  have f_168 := (((((((f_71.other W_75 (Or.inr (slot_ne (Or.inl (own_w hw 20 rfl)) (Or.inr (own_w hw 22 rfl)) (by decide) (t := (.array .int)) (t' := .int) (by decide) (by decide)))).ext E_85).other W_98 (Or.inr (slot_ne (Or.inl (own_w hw 20 rfl)) (Or.inr (own_w hw 24 rfl)) (by decide) (t := (.array .int)) (t' := (.array .long)) (by decide) (by decide)))).ext E_109).other W_123 (Or.inr (slot_ne (Or.inl (own_w hw 20 rfl)) (Or.inr (own_w hw 26 rfl)) (by decide) (t := (.array .int)) (t' := (.array .long)) (by decide) (by decide)))).ext E_136).other W_151 (Or.inr (slot_ne (Or.inl (own_w hw 20 rfl)) (Or.inl (own_w hw 28 rfl)) (by decide) (t := (.array .int)) (t' := (.array .long)) (by decide) (by decide))))
  exact ⟨rfl, ((((((((((((((((Keep.refl h0 [t]).ext E_4).wr W_11 (Or.inl (List.mem_of_getElem? (i := 0) rfl))).ext E_18).wr W_29 (Or.inl (List.mem_of_getElem? (i := 0) rfl))).ext E_37).wr W_48 (Or.inl (List.mem_of_getElem? (i := 0) rfl))).ext E_57).wr W_70 (Or.inl (List.mem_of_getElem? (i := 0) rfl))).wr W_75 (Or.inl (List.mem_of_getElem? (i := 0) rfl))).ext E_85).wr W_98 (Or.inl (List.mem_of_getElem? (i := 0) rfl))).ext E_109).wr W_123 (Or.inl (List.mem_of_getElem? (i := 0) rfl))).ext E_136).wr W_151 (Or.inl (List.mem_of_getElem? (i := 0) rfl))), a_2, a_16, a_35, a_83, a_107, a_134, ⟨gs_a_2, gs_a_16, gs_a_35, gs_a_83, gs_a_107, gs_a_134⟩, ⟨ne_21, ne_40, ne_88, ne_112, ne_140, ne_39, ne_87, ne_111, ne_139, ne_89, ne_113, ne_141, ne_115, ne_143, ne_138⟩, ⟨f_159, f_160, f_161, f_162, f_163, f_164, f_165, f_152, f_166, f_167, ⟨a_55, f_168⟩, f_153, f_154, f_155, f_156, f_157, f_158⟩⟩
set_option maxRecDepth 65536 in
set_option maxHeartbeats 40000000 in
theorem rm_init2 (l : Launch) (Z : State) (a0 : Array Value) (hw : ∀ d ∈ tables_1, d.before a0 Z = true) (n0 : Nat) (t : Addr) (h0 : Heap) (Z0 : n0 ≤ h0.size) (E0 : Exa Z h0 t "com/example/vestalia/vestalia/locks/StepTrace") (F_kinds : Fld Z h0 t "com/example/vestalia/vestalia/locks/StepTrace" "kinds" "[Lcom/example/vestalia/vestalia/model/Step$Kind;" .null) (F_slots : Fld Z h0 t "com/example/vestalia/vestalia/locks/StepTrace" "slots" "[I" .null) (F_values : Fld Z h0 t "com/example/vestalia/vestalia/locks/StepTrace" "values" "[J" .null) (F_written : Fld Z h0 t "com/example/vestalia/vestalia/locks/StepTrace" "written" "[I" .null) (F_width : Fld Z h0 t "com/example/vestalia/vestalia/locks/StepTrace" "width" "I" (.int (0 : Int32))) (F_start : Fld Z h0 t "com/example/vestalia/vestalia/locks/StepTrace" "start" "[J" .null) (F_end : Fld Z h0 t "com/example/vestalia/vestalia/locks/StepTrace" "end" "[J" .null) (F_before : Fld Z h0 t "com/example/vestalia/vestalia/locks/StepTrace" "before" "[J" .null) (F_length : Fld Z h0 t "com/example/vestalia/vestalia/locks/StepTrace" "length" "I" (.int (0 : Int32))) (F_whole : Fld Z h0 t "com/example/vestalia/vestalia/locks/StepTrace" "whole" "Z" (.int (0 : Int32))) (g0 : n0 ≤ t) :
    Met1 l Z (⟨"com/example/vestalia/vestalia/locks/StepTrace", "<init>", "(I)V"⟩ : MethodName) prog_32_method_1_code 2 none ({ frames := 1, cells := 7, slots := 44, locals := 12 } : Room) n0 #[(.ref t), (.int (2 : Int32))] h0 (fun v h => v = none ∧ Keep h0 h [t] ∧ ∃ bk bs bv st en' bb : Addr, (h0.size ≤ bk ∧ h0.size ≤ bs ∧ h0.size ≤ bv ∧ h0.size ≤ st ∧ h0.size ≤ en' ∧ h0.size ≤ bb) ∧ Dis bk bs bv st en' bb ∧ Tr Z h t bk bs bv st en' bb (2 : Int32) (0 : Int32) (0 : Int32) .null (0 : Int32) (0 : Int64) [(.long (0 : Int64)), (.long (0 : Int64))] [(.long (0 : Int64)), (.long (0 : Int64))] [(.long (0 : Int64)), (.long (0 : Int64)), (.long (0 : Int64)), (.long (0 : Int64)), (.long (0 : Int64)), (.long (0 : Int64)), (.long (0 : Int64)), (.long (0 : Int64)), (.long (0 : Int64)), (.long (0 : Int64)), (.long (0 : Int64)), (.long (0 : Int64)), (.long (0 : Int64)), (.long (0 : Int64)), (.long (0 : Int64)), (.long (0 : Int64))]) := by
  refine met_of (plainFor_of_name own_pn_com_example_vestalia_vestalia_locks_StepTrace) (L0 := #[.val (.ref t), .val (.int (2 : Int32))]) (by first | (simp [argsToLocals, Value.category]; done) | rfl) ?_
  intro B C
  change Ctx B l _ _ "com/example/vestalia/vestalia/locks/StepTrace" "<init>" _ _ Z at C
  refine g_aload_n C d1_0 (v := (.ref t)) rfl rfl (pc' := 1) rfl ?_
  refine g_initObj C (own_w hw 7 rfl) (own_w hw 8 rfl) (own_w hw 9 rfl) rfl (by decide) (W := 0) (Nat.le_of_eq rfl) (by decide) d1_1 (pc' := 4) rfl ?_
  refine g_aload_n C d1_4 (v := (.ref t)) rfl rfl (pc' := 5) rfl ?_
  refine g_bipush C d1_5 (v := (8 : Int32)) rfl (pc' := 7) rfl ?_
  refine g_anewarray C (own_w hw 10 rfl) (own_w hw 11 rfl) (by decide) (cap := 8) (by decide) (by decide) (by decide) (by decide) d1_7 (pc' := 10) rfl ?_
  intro h_1 a_2 g_3 E_4 A_5
  have ne_6 : t ≠ a_2 := ne_new E0.lt g_3
  have ge_a_2 : n0 ≤ a_2 := Nat.le_trans Z0 (Nat.le_of_eq g_3.symm)
  have gs_a_2 : h0.size ≤ a_2 := Nat.le_trans (Nat.le_refl h0.size) (Nat.le_of_eq g_3.symm)
  have f_7 : AryR Z h_1 a_2 "com/example/vestalia/vestalia/model/Step$Kind" [.null, .null, .null, .null, .null, .null, .null, .null] := A_5
  show Go B n0 _ h_1 1 8 10 #[.val (.ref t), .val (.int (2 : Int32))] [(.ref a_2), (.ref t)]
  have f_8 := (F_kinds.ext E_4)
  have f_9 := (E0.ext E_4)
  refine g_putfield C (host := "") (v := (.ref a_2)) (Or.inl (own_w hw 12 rfl)) Via.refl f_8 f_9 (Or.inl (own_w hw 13 rfl)) (own_w hw 2 rfl) (ty := (.array (.object "com/example/vestalia/vestalia/model/Step$Kind"))) (by decide) rfl rfl g0 d1_10 (pc' := 13) rfl ?_
  intro h_10 W_11
  have f_12 := f_8.same W_11
  refine g_aload_n C d1_13 (v := (.ref t)) rfl rfl (pc' := 14) rfl ?_
  refine g_bipush C d1_14 (v := (8 : Int32)) rfl (pc' := 16) rfl ?_
  have f_13 := (f_7.keep (Keep.of_wr W_11) (nin1 (Ne.symm ne_6)))
  have f_14 := (f_9.wr W_11)
  refine g_newarrayE C (own_w hw 14 rfl) (ty := .int) rfl (ad := "[I") (by decide) (by decide) (cap := 8) (by decide) (by decide) (by decide) (by decide) d1_16 (pc' := 18) rfl ?_
  intro h_15 a_16 g_17 E_18 A_19 E_20
  have ne_21 : a_2 ≠ a_16 := ne_new f_13.lt g_17
  have ne_22 : t ≠ a_16 := ne_new f_14.lt g_17
  have f_23 := (Nat.le_trans (Nat.le_trans Z0 E_4.1) (Keep.of_wr W_11).1)
  have ge_a_16 : n0 ≤ a_16 := Nat.le_trans f_23 (Nat.le_of_eq g_17.symm)
  have f_24 := (Nat.le_trans (Nat.le_trans (Nat.le_refl h0.size) E_4.1) (Keep.of_wr W_11).1)
  have gs_a_16 : h0.size ≤ a_16 := Nat.le_trans f_24 (Nat.le_of_eq g_17.symm)
  have f_25 : Ary Z h_15 a_16 .int [(.int (0 : Int32)), (.int (0 : Int32)), (.int (0 : Int32)), (.int (0 : Int32)), (.int (0 : Int32)), (.int (0 : Int32)), (.int (0 : Int32)), (.int (0 : Int32))] := A_19
  show Go B n0 _ h_15 2 16 18 #[.val (.ref t), .val (.int (2 : Int32))] [(.ref a_16), (.ref t)]
  have f_26 := (((F_slots.ext E_4).other W_11 (Or.inr (slot_ne (Or.inl (own_w hw 16 rfl)) (Or.inl (own_w hw 13 rfl)) (by decide) (t := (.array .int)) (t' := (.array (.object "com/example/vestalia/vestalia/model/Step$Kind"))) (by decide) (by decide)))).ext E_18)
  have f_27 := (f_14.ext E_18)
  refine g_putfield C (host := "") (v := (.ref a_16)) (Or.inl (own_w hw 15 rfl)) Via.refl f_26 f_27 (Or.inl (own_w hw 16 rfl)) (own_w hw 2 rfl) (ty := (.array .int)) (by decide) rfl rfl g0 d1_18 (pc' := 21) rfl ?_
  intro h_28 W_29
  have f_30 := f_26.same W_29
  refine g_aload_n C d1_21 (v := (.ref t)) rfl rfl (pc' := 22) rfl ?_
  refine g_bipush C d1_22 (v := (8 : Int32)) rfl (pc' := 24) rfl ?_
  have f_31 := (f_25.keep (Keep.of_wr W_29) (nin1 (Ne.symm ne_22)))
  have f_32 := ((f_13.ext E_18).keep (Keep.of_wr W_29) (nin1 (Ne.symm ne_6)))
  have f_33 := (f_27.wr W_29)
  refine g_newarray C (own_w hw 0 rfl) (ty := .long) rfl (by decide) (cap := 8) (by decide) (by decide) (by decide) (by decide) d1_24 (pc' := 26) rfl ?_
  intro h_34 a_35 g_36 E_37 A_38
  have ne_39 : a_16 ≠ a_35 := ne_new f_31.lt g_36
  have ne_40 : a_2 ≠ a_35 := ne_new f_32.lt g_36
  have ne_41 : t ≠ a_35 := ne_new f_33.lt g_36
  have f_42 := (Nat.le_trans (Nat.le_trans f_23 E_18.1) (Keep.of_wr W_29).1)
  have ge_a_35 : n0 ≤ a_35 := Nat.le_trans f_42 (Nat.le_of_eq g_36.symm)
  have f_43 := (Nat.le_trans (Nat.le_trans f_24 E_18.1) (Keep.of_wr W_29).1)
  have gs_a_35 : h0.size ≤ a_35 := Nat.le_trans f_43 (Nat.le_of_eq g_36.symm)
  have f_44 : Ary Z h_34 a_35 .long [(.long (0 : Int64)), (.long (0 : Int64)), (.long (0 : Int64)), (.long (0 : Int64)), (.long (0 : Int64)), (.long (0 : Int64)), (.long (0 : Int64)), (.long (0 : Int64))] := A_38
  show Go B n0 _ h_34 3 24 26 #[.val (.ref t), .val (.int (2 : Int32))] [(.ref a_35), (.ref t)]
  have f_45 := (((((F_values.ext E_4).other W_11 (Or.inr (slot_ne (Or.inl (own_w hw 18 rfl)) (Or.inl (own_w hw 13 rfl)) (by decide) (t := (.array .long)) (t' := (.array (.object "com/example/vestalia/vestalia/model/Step$Kind"))) (by decide) (by decide)))).ext E_18).other W_29 (Or.inr (slot_ne (Or.inl (own_w hw 18 rfl)) (Or.inl (own_w hw 16 rfl)) (by decide) (t := (.array .long)) (t' := (.array .int)) (by decide) (by decide)))).ext E_37)
  have f_46 := (f_33.ext E_37)
  refine g_putfield C (host := "") (v := (.ref a_35)) (Or.inl (own_w hw 17 rfl)) Via.refl f_45 f_46 (Or.inl (own_w hw 18 rfl)) (own_w hw 2 rfl) (ty := (.array .long)) (by decide) rfl rfl g0 d1_26 (pc' := 29) rfl ?_
  intro h_47 W_48
  have f_49 := f_45.same W_48
  refine g_aload_n C d1_29 (v := (.ref t)) rfl rfl (pc' := 30) rfl ?_
  refine g_iconst C d1_30 (v := (0 : Int32)) rfl (pc' := 31) rfl ?_
  have f_50 := ((f_31.ext E_37).keep (Keep.of_wr W_48) (nin1 (Ne.symm ne_22)))
  have f_51 := ((f_32.ext E_37).keep (Keep.of_wr W_48) (nin1 (Ne.symm ne_6)))
  have f_52 := (f_44.keep (Keep.of_wr W_48) (nin1 (Ne.symm ne_41)))
  have f_53 := (f_46.wr W_48)
  refine g_newarrayE C (own_w hw 14 rfl) (ty := .int) rfl (ad := "[I") (by decide) (by decide) (cap := 0) (by decide) (by decide) (by decide) (by decide) d1_31 (pc' := 33) rfl ?_
  intro h_54 a_55 g_56 E_57 A_58 E_59
  have ne_60 : a_16 ≠ a_55 := ne_new f_50.lt g_56
  have ne_61 : a_2 ≠ a_55 := ne_new f_51.lt g_56
  have ne_62 : a_35 ≠ a_55 := ne_new f_52.lt g_56
  have ne_63 : t ≠ a_55 := ne_new f_53.lt g_56
  have f_64 := (Nat.le_trans (Nat.le_trans f_42 E_37.1) (Keep.of_wr W_48).1)
  have ge_a_55 : n0 ≤ a_55 := Nat.le_trans f_64 (Nat.le_of_eq g_56.symm)
  have f_65 := (Nat.le_trans (Nat.le_trans f_43 E_37.1) (Keep.of_wr W_48).1)
  have gs_a_55 : h0.size ≤ a_55 := Nat.le_trans f_65 (Nat.le_of_eq g_56.symm)
  have f_66 : Ary Z h_54 a_55 .int [] := A_58
  show Go B n0 _ h_54 4 24 33 #[.val (.ref t), .val (.int (2 : Int32))] [(.ref a_55), (.ref t)]
  have f_67 := (((((((F_written.ext E_4).other W_11 (Or.inr (slot_ne (Or.inl (own_w hw 20 rfl)) (Or.inl (own_w hw 13 rfl)) (by decide) (t := (.array .int)) (t' := (.array (.object "com/example/vestalia/vestalia/model/Step$Kind"))) (by decide) (by decide)))).ext E_18).other W_29 (Or.inr (slot_ne (Or.inl (own_w hw 20 rfl)) (Or.inl (own_w hw 16 rfl)) (by decide) (t := (.array .int)) (t' := (.array .int)) (by decide) (by decide)))).ext E_37).other W_48 (Or.inr (slot_ne (Or.inl (own_w hw 20 rfl)) (Or.inl (own_w hw 18 rfl)) (by decide) (t := (.array .int)) (t' := (.array .long)) (by decide) (by decide)))).ext E_57)
  have f_68 := (f_53.ext E_57)
  refine g_putfield C (host := "") (v := (.ref a_55)) (Or.inl (own_w hw 19 rfl)) Via.refl f_67 f_68 (Or.inl (own_w hw 20 rfl)) (own_w hw 2 rfl) (ty := (.array .int)) (by decide) rfl rfl g0 d1_33 (pc' := 36) rfl ?_
  intro h_69 W_70
  have f_71 := f_67.same W_70
  refine g_aload_n C d1_36 (v := (.ref t)) rfl rfl (pc' := 37) rfl ?_
  refine g_iload_n C d1_37 (v := (2 : Int32)) rfl (pc' := 38) rfl ?_
  have f_72 := ((((((((F_width.ext E_4).other W_11 (Or.inr (slot_ne (Or.inr (own_w hw 22 rfl)) (Or.inl (own_w hw 13 rfl)) (by decide) (t := .int) (t' := (.array (.object "com/example/vestalia/vestalia/model/Step$Kind"))) (by decide) (by decide)))).ext E_18).other W_29 (Or.inr (slot_ne (Or.inr (own_w hw 22 rfl)) (Or.inl (own_w hw 16 rfl)) (by decide) (t := .int) (t' := (.array .int)) (by decide) (by decide)))).ext E_37).other W_48 (Or.inr (slot_ne (Or.inr (own_w hw 22 rfl)) (Or.inl (own_w hw 18 rfl)) (by decide) (t := .int) (t' := (.array .long)) (by decide) (by decide)))).ext E_57).other W_70 (Or.inr (slot_ne (Or.inr (own_w hw 22 rfl)) (Or.inl (own_w hw 20 rfl)) (by decide) (t := .int) (t' := (.array .int)) (by decide) (by decide))))
  have f_73 := (f_68.wr W_70)
  refine g_putfield C (host := "") (v := (.int (2 : Int32))) (Or.inl (own_w hw 21 rfl)) Via.refl f_72 f_73 (Or.inr ⟨(own_w hw 22 rfl), rfl, rfl⟩) (own_w hw 2 rfl) (ty := .int) (by decide) rfl rfl g0 d1_38 (pc' := 41) rfl ?_
  intro h_74 W_75
  have f_76 := f_72.same W_75
  refine g_aload_n C d1_41 (v := (.ref t)) rfl rfl (pc' := 42) rfl ?_
  refine g_iload_n C d1_42 (v := (2 : Int32)) rfl (pc' := 43) rfl ?_
  have f_77 := (((f_50.ext E_57).keep (Keep.of_wr W_70) (nin1 (Ne.symm ne_22))).keep (Keep.of_wr W_75) (nin1 (Ne.symm ne_22)))
  have f_78 := (((f_51.ext E_57).keep (Keep.of_wr W_70) (nin1 (Ne.symm ne_6))).keep (Keep.of_wr W_75) (nin1 (Ne.symm ne_6)))
  have f_79 := (((f_52.ext E_57).keep (Keep.of_wr W_70) (nin1 (Ne.symm ne_41))).keep (Keep.of_wr W_75) (nin1 (Ne.symm ne_41)))
  have f_80 := ((f_66.keep (Keep.of_wr W_70) (nin1 (Ne.symm ne_63))).keep (Keep.of_wr W_75) (nin1 (Ne.symm ne_63)))
  have f_81 := (f_73.wr W_75)
  refine g_newarray C (own_w hw 0 rfl) (ty := .long) rfl (by decide) (cap := 2) (by decide) (by decide) (by decide) (by decide) d1_43 (pc' := 45) rfl ?_
  intro h_82 a_83 g_84 E_85 A_86
  have ne_87 : a_16 ≠ a_83 := ne_new f_77.lt g_84
  have ne_88 : a_2 ≠ a_83 := ne_new f_78.lt g_84
  have ne_89 : a_35 ≠ a_83 := ne_new f_79.lt g_84
  have ne_90 : a_55 ≠ a_83 := ne_new f_80.lt g_84
  have ne_91 : t ≠ a_83 := ne_new f_81.lt g_84
  have f_92 := (Nat.le_trans (Nat.le_trans (Nat.le_trans f_64 E_57.1) (Keep.of_wr W_70).1) (Keep.of_wr W_75).1)
  have ge_a_83 : n0 ≤ a_83 := Nat.le_trans f_92 (Nat.le_of_eq g_84.symm)
  have f_93 := (Nat.le_trans (Nat.le_trans (Nat.le_trans f_65 E_57.1) (Keep.of_wr W_70).1) (Keep.of_wr W_75).1)
  have gs_a_83 : h0.size ≤ a_83 := Nat.le_trans f_93 (Nat.le_of_eq g_84.symm)
  have f_94 : Ary Z h_82 a_83 .long [(.long (0 : Int64)), (.long (0 : Int64))] := A_86
  show Go B n0 _ h_82 5 26 45 #[.val (.ref t), .val (.int (2 : Int32))] [(.ref a_83), (.ref t)]
  have f_95 := ((((((((((F_start.ext E_4).other W_11 (Or.inr (slot_ne (Or.inr (own_w hw 24 rfl)) (Or.inl (own_w hw 13 rfl)) (by decide) (t := (.array .long)) (t' := (.array (.object "com/example/vestalia/vestalia/model/Step$Kind"))) (by decide) (by decide)))).ext E_18).other W_29 (Or.inr (slot_ne (Or.inr (own_w hw 24 rfl)) (Or.inl (own_w hw 16 rfl)) (by decide) (t := (.array .long)) (t' := (.array .int)) (by decide) (by decide)))).ext E_37).other W_48 (Or.inr (slot_ne (Or.inr (own_w hw 24 rfl)) (Or.inl (own_w hw 18 rfl)) (by decide) (t := (.array .long)) (t' := (.array .long)) (by decide) (by decide)))).ext E_57).other W_70 (Or.inr (slot_ne (Or.inr (own_w hw 24 rfl)) (Or.inl (own_w hw 20 rfl)) (by decide) (t := (.array .long)) (t' := (.array .int)) (by decide) (by decide)))).other W_75 (Or.inr (slot_ne (Or.inr (own_w hw 24 rfl)) (Or.inr (own_w hw 22 rfl)) (by decide) (t := (.array .long)) (t' := .int) (by decide) (by decide)))).ext E_85)
  have f_96 := (f_81.ext E_85)
  refine g_putfield C (host := "") (v := (.ref a_83)) (Or.inl (own_w hw 23 rfl)) Via.refl f_95 f_96 (Or.inr ⟨(own_w hw 24 rfl), rfl, rfl⟩) (own_w hw 2 rfl) (ty := (.array .long)) (by decide) rfl rfl g0 d1_45 (pc' := 48) rfl ?_
  intro h_97 W_98
  have f_99 := f_95.same W_98
  refine g_aload_n C d1_48 (v := (.ref t)) rfl rfl (pc' := 49) rfl ?_
  refine g_iload_n C d1_49 (v := (2 : Int32)) rfl (pc' := 50) rfl ?_
  have f_100 := ((f_77.ext E_85).keep (Keep.of_wr W_98) (nin1 (Ne.symm ne_22)))
  have f_101 := ((f_78.ext E_85).keep (Keep.of_wr W_98) (nin1 (Ne.symm ne_6)))
  have f_102 := ((f_79.ext E_85).keep (Keep.of_wr W_98) (nin1 (Ne.symm ne_41)))
  have f_103 := ((f_80.ext E_85).keep (Keep.of_wr W_98) (nin1 (Ne.symm ne_63)))
  have f_104 := (f_94.keep (Keep.of_wr W_98) (nin1 (Ne.symm ne_91)))
  have f_105 := (f_96.wr W_98)
  refine g_newarray C (own_w hw 0 rfl) (ty := .long) rfl (by decide) (cap := 2) (by decide) (by decide) (by decide) (by decide) d1_50 (pc' := 52) rfl ?_
  intro h_106 a_107 g_108 E_109 A_110
  have ne_111 : a_16 ≠ a_107 := ne_new f_100.lt g_108
  have ne_112 : a_2 ≠ a_107 := ne_new f_101.lt g_108
  have ne_113 : a_35 ≠ a_107 := ne_new f_102.lt g_108
  have ne_114 : a_55 ≠ a_107 := ne_new f_103.lt g_108
  have ne_115 : a_83 ≠ a_107 := ne_new f_104.lt g_108
  have ne_116 : t ≠ a_107 := ne_new f_105.lt g_108
  have f_117 := (Nat.le_trans (Nat.le_trans f_92 E_85.1) (Keep.of_wr W_98).1)
  have ge_a_107 : n0 ≤ a_107 := Nat.le_trans f_117 (Nat.le_of_eq g_108.symm)
  have f_118 := (Nat.le_trans (Nat.le_trans f_93 E_85.1) (Keep.of_wr W_98).1)
  have gs_a_107 : h0.size ≤ a_107 := Nat.le_trans f_118 (Nat.le_of_eq g_108.symm)
  have f_119 : Ary Z h_106 a_107 .long [(.long (0 : Int64)), (.long (0 : Int64))] := A_110
  show Go B n0 _ h_106 6 28 52 #[.val (.ref t), .val (.int (2 : Int32))] [(.ref a_107), (.ref t)]
  have f_120 := ((((((((((((F_end.ext E_4).other W_11 (Or.inr (slot_ne (Or.inr (own_w hw 26 rfl)) (Or.inl (own_w hw 13 rfl)) (by decide) (t := (.array .long)) (t' := (.array (.object "com/example/vestalia/vestalia/model/Step$Kind"))) (by decide) (by decide)))).ext E_18).other W_29 (Or.inr (slot_ne (Or.inr (own_w hw 26 rfl)) (Or.inl (own_w hw 16 rfl)) (by decide) (t := (.array .long)) (t' := (.array .int)) (by decide) (by decide)))).ext E_37).other W_48 (Or.inr (slot_ne (Or.inr (own_w hw 26 rfl)) (Or.inl (own_w hw 18 rfl)) (by decide) (t := (.array .long)) (t' := (.array .long)) (by decide) (by decide)))).ext E_57).other W_70 (Or.inr (slot_ne (Or.inr (own_w hw 26 rfl)) (Or.inl (own_w hw 20 rfl)) (by decide) (t := (.array .long)) (t' := (.array .int)) (by decide) (by decide)))).other W_75 (Or.inr (slot_ne (Or.inr (own_w hw 26 rfl)) (Or.inr (own_w hw 22 rfl)) (by decide) (t := (.array .long)) (t' := .int) (by decide) (by decide)))).ext E_85).other W_98 (Or.inr (slot_ne (Or.inr (own_w hw 26 rfl)) (Or.inr (own_w hw 24 rfl)) (by decide) (t := (.array .long)) (t' := (.array .long)) (by decide) (by decide)))).ext E_109)
  have f_121 := (f_105.ext E_109)
  refine g_putfield C (host := "") (v := (.ref a_107)) (Or.inl (own_w hw 25 rfl)) Via.refl f_120 f_121 (Or.inr ⟨(own_w hw 26 rfl), rfl, rfl⟩) (own_w hw 2 rfl) (ty := (.array .long)) (by decide) rfl rfl g0 d1_52 (pc' := 55) rfl ?_
  intro h_122 W_123
  have f_124 := f_120.same W_123
  refine g_aload_n C d1_55 (v := (.ref t)) rfl rfl (pc' := 56) rfl ?_
  refine g_aload_n C d1_56 (v := (.ref t)) rfl rfl (pc' := 57) rfl ?_
  have f_125 := (((((((((((f_12.ext E_18).other W_29 (Or.inr (slot_ne (Or.inl (own_w hw 13 rfl)) (Or.inl (own_w hw 16 rfl)) (by decide) (t := (.array (.object "com/example/vestalia/vestalia/model/Step$Kind"))) (t' := (.array .int)) (by decide) (by decide)))).ext E_37).other W_48 (Or.inr (slot_ne (Or.inl (own_w hw 13 rfl)) (Or.inl (own_w hw 18 rfl)) (by decide) (t := (.array (.object "com/example/vestalia/vestalia/model/Step$Kind"))) (t' := (.array .long)) (by decide) (by decide)))).ext E_57).other W_70 (Or.inr (slot_ne (Or.inl (own_w hw 13 rfl)) (Or.inl (own_w hw 20 rfl)) (by decide) (t := (.array (.object "com/example/vestalia/vestalia/model/Step$Kind"))) (t' := (.array .int)) (by decide) (by decide)))).other W_75 (Or.inr (slot_ne (Or.inl (own_w hw 13 rfl)) (Or.inr (own_w hw 22 rfl)) (by decide) (t := (.array (.object "com/example/vestalia/vestalia/model/Step$Kind"))) (t' := .int) (by decide) (by decide)))).ext E_85).other W_98 (Or.inr (slot_ne (Or.inl (own_w hw 13 rfl)) (Or.inr (own_w hw 24 rfl)) (by decide) (t := (.array (.object "com/example/vestalia/vestalia/model/Step$Kind"))) (t' := (.array .long)) (by decide) (by decide)))).ext E_109).other W_123 (Or.inr (slot_ne (Or.inl (own_w hw 13 rfl)) (Or.inr (own_w hw 26 rfl)) (by decide) (t := (.array (.object "com/example/vestalia/vestalia/model/Step$Kind"))) (t' := (.array .long)) (by decide) (by decide))))
  refine g_getfield C (host := "") (v := (.ref a_2)) (Or.inl (own_w hw 12 rfl)) Via.refl f_125 d1_57 (pc' := 60) rfl ?_
  have f_126 := ((f_101.ext E_109).keep (Keep.of_wr W_123) (nin1 (Ne.symm ne_6)))
  refine g_arraylength C (AryR.ary f_126) (z := (8 : Int32)) rfl d1_60 (pc' := 61) rfl ?_
  refine g_iload_n C d1_61 (v := (2 : Int32)) rfl (pc' := 62) rfl ?_
  refine g_imul C (x := (8 : Int32)) (y := (2 : Int32)) d1_62  (pc' := 63) rfl ?_
  refine Go.eqs (st2 := [(.int (16 : Int32)), (.ref t)]) ?_ (by rfl)
  have f_127 := (f_119.keep (Keep.of_wr W_123) (nin1 (Ne.symm ne_116)))
  have f_128 := ((f_100.ext E_109).keep (Keep.of_wr W_123) (nin1 (Ne.symm ne_22)))
  have f_129 := ((f_102.ext E_109).keep (Keep.of_wr W_123) (nin1 (Ne.symm ne_41)))
  have f_130 := ((f_103.ext E_109).keep (Keep.of_wr W_123) (nin1 (Ne.symm ne_63)))
  have f_131 := ((f_104.ext E_109).keep (Keep.of_wr W_123) (nin1 (Ne.symm ne_91)))
  have f_132 := (f_121.wr W_123)
  refine g_newarray C (own_w hw 0 rfl) (ty := .long) rfl (by decide) (cap := 16) (by decide) (by decide) (by decide) (by decide) d1_63 (pc' := 65) rfl ?_
  intro h_133 a_134 g_135 E_136 A_137
  have ne_138 : a_107 ≠ a_134 := ne_new f_127.lt g_135
  have ne_139 : a_16 ≠ a_134 := ne_new f_128.lt g_135
  have ne_140 : a_2 ≠ a_134 := ne_new f_126.lt g_135
  have ne_141 : a_35 ≠ a_134 := ne_new f_129.lt g_135
  have ne_142 : a_55 ≠ a_134 := ne_new f_130.lt g_135
  have ne_143 : a_83 ≠ a_134 := ne_new f_131.lt g_135
  have ne_144 : t ≠ a_134 := ne_new f_132.lt g_135
  have f_145 := (Nat.le_trans (Nat.le_trans f_117 E_109.1) (Keep.of_wr W_123).1)
  have ge_a_134 : n0 ≤ a_134 := Nat.le_trans f_145 (Nat.le_of_eq g_135.symm)
  have f_146 := (Nat.le_trans (Nat.le_trans f_118 E_109.1) (Keep.of_wr W_123).1)
  have gs_a_134 : h0.size ≤ a_134 := Nat.le_trans f_146 (Nat.le_of_eq g_135.symm)
  have f_147 : Ary Z h_133 a_134 .long [(.long (0 : Int64)), (.long (0 : Int64)), (.long (0 : Int64)), (.long (0 : Int64)), (.long (0 : Int64)), (.long (0 : Int64)), (.long (0 : Int64)), (.long (0 : Int64)), (.long (0 : Int64)), (.long (0 : Int64)), (.long (0 : Int64)), (.long (0 : Int64)), (.long (0 : Int64)), (.long (0 : Int64)), (.long (0 : Int64)), (.long (0 : Int64))] := A_137
  show Go B n0 _ h_133 7 44 65 #[.val (.ref t), .val (.int (2 : Int32))] [(.ref a_134), (.ref t)]
  have f_148 := ((((((((((((((F_before.ext E_4).other W_11 (Or.inr (slot_ne (Or.inl (own_w hw 28 rfl)) (Or.inl (own_w hw 13 rfl)) (by decide) (t := (.array .long)) (t' := (.array (.object "com/example/vestalia/vestalia/model/Step$Kind"))) (by decide) (by decide)))).ext E_18).other W_29 (Or.inr (slot_ne (Or.inl (own_w hw 28 rfl)) (Or.inl (own_w hw 16 rfl)) (by decide) (t := (.array .long)) (t' := (.array .int)) (by decide) (by decide)))).ext E_37).other W_48 (Or.inr (slot_ne (Or.inl (own_w hw 28 rfl)) (Or.inl (own_w hw 18 rfl)) (by decide) (t := (.array .long)) (t' := (.array .long)) (by decide) (by decide)))).ext E_57).other W_70 (Or.inr (slot_ne (Or.inl (own_w hw 28 rfl)) (Or.inl (own_w hw 20 rfl)) (by decide) (t := (.array .long)) (t' := (.array .int)) (by decide) (by decide)))).other W_75 (Or.inr (slot_ne (Or.inl (own_w hw 28 rfl)) (Or.inr (own_w hw 22 rfl)) (by decide) (t := (.array .long)) (t' := .int) (by decide) (by decide)))).ext E_85).other W_98 (Or.inr (slot_ne (Or.inl (own_w hw 28 rfl)) (Or.inr (own_w hw 24 rfl)) (by decide) (t := (.array .long)) (t' := (.array .long)) (by decide) (by decide)))).ext E_109).other W_123 (Or.inr (slot_ne (Or.inl (own_w hw 28 rfl)) (Or.inr (own_w hw 26 rfl)) (by decide) (t := (.array .long)) (t' := (.array .long)) (by decide) (by decide)))).ext E_136)
  have f_149 := (f_132.ext E_136)
  refine g_putfield C (host := "") (v := (.ref a_134)) (Or.inl (own_w hw 27 rfl)) Via.refl f_148 f_149 (Or.inl (own_w hw 28 rfl)) (own_w hw 2 rfl) (ty := (.array .long)) (by decide) rfl rfl g0 d1_65 (pc' := 68) rfl ?_
  intro h_150 W_151
  have f_152 := f_148.same W_151
  refine g_return C rfl d1_68 (by decide) (by decide) ?_
  have f_153 := ((f_126.ext E_136).keep (Keep.of_wr W_151) (nin1 (Ne.symm ne_6)))
  have f_154 := ((f_128.ext E_136).keep (Keep.of_wr W_151) (nin1 (Ne.symm ne_22)))
  have f_155 := ((f_129.ext E_136).keep (Keep.of_wr W_151) (nin1 (Ne.symm ne_41)))
  have f_156 := ((f_131.ext E_136).keep (Keep.of_wr W_151) (nin1 (Ne.symm ne_91)))
  have f_157 := ((f_127.ext E_136).keep (Keep.of_wr W_151) (nin1 (Ne.symm ne_116)))
  have f_158 := (f_147.keep (Keep.of_wr W_151) (nin1 (Ne.symm ne_144)))
  have f_159 := (f_149.wr W_151)
  have f_160 := ((f_125.ext E_136).other W_151 (Or.inr (slot_ne (Or.inl (own_w hw 13 rfl)) (Or.inl (own_w hw 28 rfl)) (by decide) (t := (.array (.object "com/example/vestalia/vestalia/model/Step$Kind"))) (t' := (.array .long)) (by decide) (by decide))))
  have f_161 := (((((((((((f_30.ext E_37).other W_48 (Or.inr (slot_ne (Or.inl (own_w hw 16 rfl)) (Or.inl (own_w hw 18 rfl)) (by decide) (t := (.array .int)) (t' := (.array .long)) (by decide) (by decide)))).ext E_57).other W_70 (Or.inr (slot_ne (Or.inl (own_w hw 16 rfl)) (Or.inl (own_w hw 20 rfl)) (by decide) (t := (.array .int)) (t' := (.array .int)) (by decide) (by decide)))).other W_75 (Or.inr (slot_ne (Or.inl (own_w hw 16 rfl)) (Or.inr (own_w hw 22 rfl)) (by decide) (t := (.array .int)) (t' := .int) (by decide) (by decide)))).ext E_85).other W_98 (Or.inr (slot_ne (Or.inl (own_w hw 16 rfl)) (Or.inr (own_w hw 24 rfl)) (by decide) (t := (.array .int)) (t' := (.array .long)) (by decide) (by decide)))).ext E_109).other W_123 (Or.inr (slot_ne (Or.inl (own_w hw 16 rfl)) (Or.inr (own_w hw 26 rfl)) (by decide) (t := (.array .int)) (t' := (.array .long)) (by decide) (by decide)))).ext E_136).other W_151 (Or.inr (slot_ne (Or.inl (own_w hw 16 rfl)) (Or.inl (own_w hw 28 rfl)) (by decide) (t := (.array .int)) (t' := (.array .long)) (by decide) (by decide))))
  have f_162 := (((((((((f_49.ext E_57).other W_70 (Or.inr (slot_ne (Or.inl (own_w hw 18 rfl)) (Or.inl (own_w hw 20 rfl)) (by decide) (t := (.array .long)) (t' := (.array .int)) (by decide) (by decide)))).other W_75 (Or.inr (slot_ne (Or.inl (own_w hw 18 rfl)) (Or.inr (own_w hw 22 rfl)) (by decide) (t := (.array .long)) (t' := .int) (by decide) (by decide)))).ext E_85).other W_98 (Or.inr (slot_ne (Or.inl (own_w hw 18 rfl)) (Or.inr (own_w hw 24 rfl)) (by decide) (t := (.array .long)) (t' := (.array .long)) (by decide) (by decide)))).ext E_109).other W_123 (Or.inr (slot_ne (Or.inl (own_w hw 18 rfl)) (Or.inr (own_w hw 26 rfl)) (by decide) (t := (.array .long)) (t' := (.array .long)) (by decide) (by decide)))).ext E_136).other W_151 (Or.inr (slot_ne (Or.inl (own_w hw 18 rfl)) (Or.inl (own_w hw 28 rfl)) (by decide) (t := (.array .long)) (t' := (.array .long)) (by decide) (by decide))))
  have f_163 := ((((((f_76.ext E_85).other W_98 (Or.inr (slot_ne (Or.inr (own_w hw 22 rfl)) (Or.inr (own_w hw 24 rfl)) (by decide) (t := .int) (t' := (.array .long)) (by decide) (by decide)))).ext E_109).other W_123 (Or.inr (slot_ne (Or.inr (own_w hw 22 rfl)) (Or.inr (own_w hw 26 rfl)) (by decide) (t := .int) (t' := (.array .long)) (by decide) (by decide)))).ext E_136).other W_151 (Or.inr (slot_ne (Or.inr (own_w hw 22 rfl)) (Or.inl (own_w hw 28 rfl)) (by decide) (t := .int) (t' := (.array .long)) (by decide) (by decide))))
  have f_164 := ((((f_99.ext E_109).other W_123 (Or.inr (slot_ne (Or.inr (own_w hw 24 rfl)) (Or.inr (own_w hw 26 rfl)) (by decide) (t := (.array .long)) (t' := (.array .long)) (by decide) (by decide)))).ext E_136).other W_151 (Or.inr (slot_ne (Or.inr (own_w hw 24 rfl)) (Or.inl (own_w hw 28 rfl)) (by decide) (t := (.array .long)) (t' := (.array .long)) (by decide) (by decide))))
  have f_165 := ((f_124.ext E_136).other W_151 (Or.inr (slot_ne (Or.inr (own_w hw 26 rfl)) (Or.inl (own_w hw 28 rfl)) (by decide) (t := (.array .long)) (t' := (.array .long)) (by decide) (by decide))))
  have f_166 := (((((((((((((((F_length.ext E_4).other W_11 (Or.inr (slot_ne (Or.inl (own_w hw 39 rfl)) (Or.inl (own_w hw 13 rfl)) (by decide) (t := .int) (t' := (.array (.object "com/example/vestalia/vestalia/model/Step$Kind"))) (by decide) (by decide)))).ext E_18).other W_29 (Or.inr (slot_ne (Or.inl (own_w hw 39 rfl)) (Or.inl (own_w hw 16 rfl)) (by decide) (t := .int) (t' := (.array .int)) (by decide) (by decide)))).ext E_37).other W_48 (Or.inr (slot_ne (Or.inl (own_w hw 39 rfl)) (Or.inl (own_w hw 18 rfl)) (by decide) (t := .int) (t' := (.array .long)) (by decide) (by decide)))).ext E_57).other W_70 (Or.inr (slot_ne (Or.inl (own_w hw 39 rfl)) (Or.inl (own_w hw 20 rfl)) (by decide) (t := .int) (t' := (.array .int)) (by decide) (by decide)))).other W_75 (Or.inr (slot_ne (Or.inl (own_w hw 39 rfl)) (Or.inr (own_w hw 22 rfl)) (by decide) (t := .int) (t' := .int) (by decide) (by decide)))).ext E_85).other W_98 (Or.inr (slot_ne (Or.inl (own_w hw 39 rfl)) (Or.inr (own_w hw 24 rfl)) (by decide) (t := .int) (t' := (.array .long)) (by decide) (by decide)))).ext E_109).other W_123 (Or.inr (slot_ne (Or.inl (own_w hw 39 rfl)) (Or.inr (own_w hw 26 rfl)) (by decide) (t := .int) (t' := (.array .long)) (by decide) (by decide)))).ext E_136).other W_151 (Or.inr (slot_ne (Or.inl (own_w hw 39 rfl)) (Or.inl (own_w hw 28 rfl)) (by decide) (t := .int) (t' := (.array .long)) (by decide) (by decide))))
  have f_167 := (((((((((((((((F_whole.ext E_4).other W_11 (Or.inr (slot_ne (Or.inl (own_w hw 41 rfl)) (Or.inl (own_w hw 13 rfl)) (by decide) (t := .boolean) (t' := (.array (.object "com/example/vestalia/vestalia/model/Step$Kind"))) (by decide) (by decide)))).ext E_18).other W_29 (Or.inr (slot_ne (Or.inl (own_w hw 41 rfl)) (Or.inl (own_w hw 16 rfl)) (by decide) (t := .boolean) (t' := (.array .int)) (by decide) (by decide)))).ext E_37).other W_48 (Or.inr (slot_ne (Or.inl (own_w hw 41 rfl)) (Or.inl (own_w hw 18 rfl)) (by decide) (t := .boolean) (t' := (.array .long)) (by decide) (by decide)))).ext E_57).other W_70 (Or.inr (slot_ne (Or.inl (own_w hw 41 rfl)) (Or.inl (own_w hw 20 rfl)) (by decide) (t := .boolean) (t' := (.array .int)) (by decide) (by decide)))).other W_75 (Or.inr (slot_ne (Or.inl (own_w hw 41 rfl)) (Or.inr (own_w hw 22 rfl)) (by decide) (t := .boolean) (t' := .int) (by decide) (by decide)))).ext E_85).other W_98 (Or.inr (slot_ne (Or.inl (own_w hw 41 rfl)) (Or.inr (own_w hw 24 rfl)) (by decide) (t := .boolean) (t' := (.array .long)) (by decide) (by decide)))).ext E_109).other W_123 (Or.inr (slot_ne (Or.inl (own_w hw 41 rfl)) (Or.inr (own_w hw 26 rfl)) (by decide) (t := .boolean) (t' := (.array .long)) (by decide) (by decide)))).ext E_136).other W_151 (Or.inr (slot_ne (Or.inl (own_w hw 41 rfl)) (Or.inl (own_w hw 28 rfl)) (by decide) (t := .boolean) (t' := (.array .long)) (by decide) (by decide))))
  have f_168 := (((((((f_71.other W_75 (Or.inr (slot_ne (Or.inl (own_w hw 20 rfl)) (Or.inr (own_w hw 22 rfl)) (by decide) (t := (.array .int)) (t' := .int) (by decide) (by decide)))).ext E_85).other W_98 (Or.inr (slot_ne (Or.inl (own_w hw 20 rfl)) (Or.inr (own_w hw 24 rfl)) (by decide) (t := (.array .int)) (t' := (.array .long)) (by decide) (by decide)))).ext E_109).other W_123 (Or.inr (slot_ne (Or.inl (own_w hw 20 rfl)) (Or.inr (own_w hw 26 rfl)) (by decide) (t := (.array .int)) (t' := (.array .long)) (by decide) (by decide)))).ext E_136).other W_151 (Or.inr (slot_ne (Or.inl (own_w hw 20 rfl)) (Or.inl (own_w hw 28 rfl)) (by decide) (t := (.array .int)) (t' := (.array .long)) (by decide) (by decide))))
  exact ⟨rfl, ((((((((((((((((Keep.refl h0 [t]).ext E_4).wr W_11 (Or.inl (List.mem_of_getElem? (i := 0) rfl))).ext E_18).wr W_29 (Or.inl (List.mem_of_getElem? (i := 0) rfl))).ext E_37).wr W_48 (Or.inl (List.mem_of_getElem? (i := 0) rfl))).ext E_57).wr W_70 (Or.inl (List.mem_of_getElem? (i := 0) rfl))).wr W_75 (Or.inl (List.mem_of_getElem? (i := 0) rfl))).ext E_85).wr W_98 (Or.inl (List.mem_of_getElem? (i := 0) rfl))).ext E_109).wr W_123 (Or.inl (List.mem_of_getElem? (i := 0) rfl))).ext E_136).wr W_151 (Or.inl (List.mem_of_getElem? (i := 0) rfl))), a_2, a_16, a_35, a_83, a_107, a_134, ⟨gs_a_2, gs_a_16, gs_a_35, gs_a_83, gs_a_107, gs_a_134⟩, ⟨ne_21, ne_40, ne_88, ne_112, ne_140, ne_39, ne_87, ne_111, ne_139, ne_89, ne_113, ne_141, ne_115, ne_143, ne_138⟩, ⟨f_159, f_160, f_161, f_162, f_163, f_164, f_165, f_152, f_166, f_167, ⟨a_55, f_168⟩, f_153, f_154, f_155, f_156, f_157, f_158⟩⟩
theorem d3_0 : decode prog_32_method_3_code 0 = .ok (.aload_n 1, 1) := by decide +kernel
theorem d3_1 : decode prog_32_method_3_code 1 = .ok (.iconst 0, 1) := by decide +kernel
theorem d3_2 : decode prog_32_method_3_code 2 = .ok (.aload_n 0, 1) := by decide +kernel
theorem d3_3 : decode prog_32_method_3_code 3 = .ok (.getfield 30, 3) := by decide +kernel
theorem d3_6 : decode prog_32_method_3_code 6 = .ok (.iconst 0, 1) := by decide +kernel
theorem d3_7 : decode prog_32_method_3_code 7 = .ok (.aload_n 0, 1) := by decide +kernel
theorem d3_8 : decode prog_32_method_3_code 8 = .ok (.getfield 26, 3) := by decide +kernel
theorem d3_11 : decode prog_32_method_3_code 11 = .ok (.invokestatic 43, 3) := by decide +kernel
theorem d3_14 : decode prog_32_method_3_code 14 = .ok (.aload_n 0, 1) := by decide +kernel
theorem d3_15 : decode prog_32_method_3_code 15 = .ok (.iconst 0, 1) := by decide +kernel
theorem d3_16 : decode prog_32_method_3_code 16 = .ok (.putfield 49, 3) := by decide +kernel
theorem d3_19 : decode prog_32_method_3_code 19 = .ok (.aload_n 0, 1) := by decide +kernel
theorem d3_20 : decode prog_32_method_3_code 20 = .ok (.iconst 0, 1) := by decide +kernel
theorem d3_21 : decode prog_32_method_3_code 21 = .ok (.putfield 39, 3) := by decide +kernel
theorem d3_24 : decode prog_32_method_3_code 24 = .ok (.return_, 1) := by decide +kernel
set_option maxRecDepth 65536 in
set_option maxHeartbeats 40000000 in
theorem rm_begin0 (l : Launch) (Z : State) (a0 : Array Value) (hw : ∀ d ∈ tables_1, d.before a0 Z = true) (n0 : Nat) (t bk bs bv st en' bb : Addr) (src : Addr) (ln wh : Int32) (kv : Value) (s0 : Int32) (v0 : Int64) (x0 x1 : Int64) (le lb : List Value) (h0 : Heap) (Z0 : n0 ≤ h0.size) (tr : Tr Z h0 t bk bs bv st en' bb (0 : Int32) ln wh kv s0 v0 [] le lb) (di : Dis bk bs bv st en' bb) (dt : t ≠ bk ∧ t ≠ bs ∧ t ≠ bv ∧ t ≠ st ∧ t ≠ en' ∧ t ≠ bb) (gg : n0 ≤ bk ∧ n0 ≤ bs ∧ n0 ≤ bv ∧ n0 ≤ st ∧ n0 ≤ en' ∧ n0 ≤ bb ∧ n0 ≤ t) (A_src : Ary Z h0 src .long [.long x0, .long x1]) (ns : src ≠ st) (nt : src ≠ t) :
    Met1 l Z (⟨"com/example/vestalia/vestalia/locks/StepTrace", "begin", "([J)V"⟩ : MethodName) prog_32_method_3_code 2 none ({ frames := 1, cells := 0, slots := 0, locals := 18 } : Room) n0 #[(.ref t), (.ref src)] h0 (fun v h => v = none ∧ Keep h0 h [t, st] ∧ Tr Z h t bk bs bv st en' bb (0 : Int32) (0 : Int32) (0 : Int32) kv s0 v0 [] le lb) := by
  refine met_of (plainFor_of_name own_pn_com_example_vestalia_vestalia_locks_StepTrace) (L0 := #[.val (.ref t), .val (.ref src)]) (by first | (simp [argsToLocals, Value.category]; done) | rfl) ?_
  intro B C
  change Ctx B l _ _ "com/example/vestalia/vestalia/locks/StepTrace" "begin" _ _ Z at C
  have tr' := tr
  obtain ⟨E_t, T_kinds, T_slots, T_values, T_width, T_start, T_end, T_before, T_length, T_whole, ⟨r_w, T_written⟩, A_kinds, A_slots, A_values, A_start, A_end, A_before⟩ := tr'
  have di' := di
  obtain ⟨d0, d1, d2, d3, d4, d5, d6, d7, d8, d9, d10, d11, d12, d13, d14⟩ := di'
  have dt' := dt
  obtain ⟨e0, e1, e2, e3, e4, e5⟩ := dt'
  have gg' := gg
  obtain ⟨gg0, gg1, gg2, gg3, gg4, gg5, gg6⟩ := gg'
  refine g_aload_n C d3_0 (v := (.ref src)) rfl rfl (pc' := 1) rfl ?_
  refine g_iconst C d3_1 (v := (0 : Int32)) rfl (pc' := 2) rfl ?_
  refine g_aload_n C d3_2 (v := (.ref t)) rfl rfl (pc' := 3) rfl ?_
  refine g_getfield C (host := "") (v := (.ref st)) (Or.inl (own_w hw 23 rfl)) Via.refl T_start d3_3 (pc' := 6) rfl ?_
  refine g_iconst C d3_6 (v := (0 : Int32)) rfl (pc' := 7) rfl ?_
  refine g_aload_n C d3_7 (v := (.ref t)) rfl rfl (pc' := 8) rfl ?_
  refine g_getfield C (host := "") (v := (.int (0 : Int32))) (Or.inl (own_w hw 21 rfl)) Via.refl T_width d3_8 (pc' := 11) rfl ?_
  refine g_arraycopy C (own_w hw 34 rfl) (own_w hw 37 rfl) (own_w hw 35 rfl) (own_w hw 36 rfl) A_src A_start rfl (by simp [fits]) (by simp [fits]) (by decide) (by decide) (by decide) (spN := 0) (dpN := 0) (nnN := 0) (by decide) (by decide) (by decide) (show 0 + 0 ≤ 2 by decide) (show 0 + 0 ≤ 0 by decide) (out := []) rfl gg3 rfl (by decide) (W := 0) (Nat.le_of_eq rfl) (by decide) d3_11 (pc' := 14) rfl ?_
  intro h_1 K_2 f_3
  show Go B n0 _ h_1 0 0 14 #[.val (.ref t), .val (.ref src)] []
  refine g_aload_n C d3_14 (v := (.ref t)) rfl rfl (pc' := 15) rfl ?_
  refine g_iconst C d3_15 (v := (0 : Int32)) rfl (pc' := 16) rfl ?_
  have f_4 := (T_length.keep K_2 (ninS e3 nin0))
  have f_5 := (E_t.keep K_2)
  refine g_putfield C (host := "") (v := (.int (0 : Int32))) (Or.inl (own_w hw 38 rfl)) Via.refl f_4 f_5 (Or.inl (own_w hw 39 rfl)) (own_w hw 2 rfl) (ty := .int) (by decide) rfl rfl gg6 d3_16 (pc' := 19) rfl ?_
  intro h_6 W_7
  have f_8 := f_4.same W_7
  refine g_aload_n C d3_19 (v := (.ref t)) rfl rfl (pc' := 20) rfl ?_
  refine g_iconst C d3_20 (v := (0 : Int32)) rfl (pc' := 21) rfl ?_
  have f_9 := ((T_whole.keep K_2 (ninS e3 nin0)).other W_7 (Or.inr (slot_ne (Or.inl (own_w hw 41 rfl)) (Or.inl (own_w hw 39 rfl)) (by decide) (t := .boolean) (t' := .int) (by decide) (by decide))))
  have f_10 := (f_5.wr W_7)
  refine g_putfield C (host := "") (v := (.int (0 : Int32))) (Or.inl (own_w hw 40 rfl)) Via.refl f_9 f_10 (Or.inl (own_w hw 41 rfl)) (own_w hw 2 rfl) (ty := .boolean) (by decide) rfl rfl gg6 d3_21 (pc' := 24) rfl ?_
  intro h_11 W_12
  have f_13 := f_9.same W_12
  refine g_return C rfl d3_24 (by decide) (by decide) ?_
  have f_14 := (((A_kinds.keep K_2 (ninS d2 nin0)).keep (Keep.of_wr W_7) (nin1 (Ne.symm e0))).keep (Keep.of_wr W_12) (nin1 (Ne.symm e0)))
  have f_15 := (((A_slots.keep K_2 (ninS d6 nin0)).keep (Keep.of_wr W_7) (nin1 (Ne.symm e1))).keep (Keep.of_wr W_12) (nin1 (Ne.symm e1)))
  have f_16 := (((A_values.keep K_2 (ninS d9 nin0)).keep (Keep.of_wr W_7) (nin1 (Ne.symm e2))).keep (Keep.of_wr W_12) (nin1 (Ne.symm e2)))
  have f_17 := ((f_3.keep (Keep.of_wr W_7) (nin1 (Ne.symm e3))).keep (Keep.of_wr W_12) (nin1 (Ne.symm e3)))
  have f_18 := (((A_end.keep K_2 (ninS (Ne.symm d12) nin0)).keep (Keep.of_wr W_7) (nin1 (Ne.symm e4))).keep (Keep.of_wr W_12) (nin1 (Ne.symm e4)))
  have f_19 := (((A_before.keep K_2 (ninS (Ne.symm d13) nin0)).keep (Keep.of_wr W_7) (nin1 (Ne.symm e5))).keep (Keep.of_wr W_12) (nin1 (Ne.symm e5)))
  have f_20 := (f_10.wr W_12)
  have f_21 := (((T_kinds.keep K_2 (ninS e3 nin0)).other W_7 (Or.inr (slot_ne (Or.inl (own_w hw 13 rfl)) (Or.inl (own_w hw 39 rfl)) (by decide) (t := (.array (.object "com/example/vestalia/vestalia/model/Step$Kind"))) (t' := .int) (by decide) (by decide)))).other W_12 (Or.inr (slot_ne (Or.inl (own_w hw 13 rfl)) (Or.inl (own_w hw 41 rfl)) (by decide) (t := (.array (.object "com/example/vestalia/vestalia/model/Step$Kind"))) (t' := .boolean) (by decide) (by decide))))
  have f_22 := (((T_slots.keep K_2 (ninS e3 nin0)).other W_7 (Or.inr (slot_ne (Or.inl (own_w hw 16 rfl)) (Or.inl (own_w hw 39 rfl)) (by decide) (t := (.array .int)) (t' := .int) (by decide) (by decide)))).other W_12 (Or.inr (slot_ne (Or.inl (own_w hw 16 rfl)) (Or.inl (own_w hw 41 rfl)) (by decide) (t := (.array .int)) (t' := .boolean) (by decide) (by decide))))
  have f_23 := (((T_values.keep K_2 (ninS e3 nin0)).other W_7 (Or.inr (slot_ne (Or.inl (own_w hw 18 rfl)) (Or.inl (own_w hw 39 rfl)) (by decide) (t := (.array .long)) (t' := .int) (by decide) (by decide)))).other W_12 (Or.inr (slot_ne (Or.inl (own_w hw 18 rfl)) (Or.inl (own_w hw 41 rfl)) (by decide) (t := (.array .long)) (t' := .boolean) (by decide) (by decide))))
  have f_24 := (((T_width.keep K_2 (ninS e3 nin0)).other W_7 (Or.inr (slot_ne (Or.inr (own_w hw 22 rfl)) (Or.inl (own_w hw 39 rfl)) (by decide) (t := .int) (t' := .int) (by decide) (by decide)))).other W_12 (Or.inr (slot_ne (Or.inr (own_w hw 22 rfl)) (Or.inl (own_w hw 41 rfl)) (by decide) (t := .int) (t' := .boolean) (by decide) (by decide))))
  have f_25 := (((T_start.keep K_2 (ninS e3 nin0)).other W_7 (Or.inr (slot_ne (Or.inr (own_w hw 24 rfl)) (Or.inl (own_w hw 39 rfl)) (by decide) (t := (.array .long)) (t' := .int) (by decide) (by decide)))).other W_12 (Or.inr (slot_ne (Or.inr (own_w hw 24 rfl)) (Or.inl (own_w hw 41 rfl)) (by decide) (t := (.array .long)) (t' := .boolean) (by decide) (by decide))))
  have f_26 := (((T_end.keep K_2 (ninS e3 nin0)).other W_7 (Or.inr (slot_ne (Or.inr (own_w hw 26 rfl)) (Or.inl (own_w hw 39 rfl)) (by decide) (t := (.array .long)) (t' := .int) (by decide) (by decide)))).other W_12 (Or.inr (slot_ne (Or.inr (own_w hw 26 rfl)) (Or.inl (own_w hw 41 rfl)) (by decide) (t := (.array .long)) (t' := .boolean) (by decide) (by decide))))
  have f_27 := (((T_before.keep K_2 (ninS e3 nin0)).other W_7 (Or.inr (slot_ne (Or.inl (own_w hw 28 rfl)) (Or.inl (own_w hw 39 rfl)) (by decide) (t := (.array .long)) (t' := .int) (by decide) (by decide)))).other W_12 (Or.inr (slot_ne (Or.inl (own_w hw 28 rfl)) (Or.inl (own_w hw 41 rfl)) (by decide) (t := (.array .long)) (t' := .boolean) (by decide) (by decide))))
  have f_28 := (f_8.other W_12 (Or.inr (slot_ne (Or.inl (own_w hw 39 rfl)) (Or.inl (own_w hw 41 rfl)) (by decide) (t := .int) (t' := .boolean) (by decide) (by decide))))
  have f_29 := (((T_written.keep K_2 (ninS e3 nin0)).other W_7 (Or.inr (slot_ne (Or.inl (own_w hw 20 rfl)) (Or.inl (own_w hw 39 rfl)) (by decide) (t := (.array .int)) (t' := .int) (by decide) (by decide)))).other W_12 (Or.inr (slot_ne (Or.inl (own_w hw 20 rfl)) (Or.inl (own_w hw 41 rfl)) (by decide) (t := (.array .int)) (t' := .boolean) (by decide) (by decide))))
  exact ⟨rfl, ((((Keep.refl h0 [t, st]).trans K_2 (allS (Or.inl (List.mem_of_getElem? (i := 1) rfl)) all0)).wr W_7 (Or.inl (List.mem_of_getElem? (i := 0) rfl))).wr W_12 (Or.inl (List.mem_of_getElem? (i := 0) rfl))), ⟨f_20, f_21, f_22, f_23, f_24, f_25, f_26, f_27, f_28, f_13, ⟨r_w, f_29⟩, f_14, f_15, f_16, f_17, f_18, f_19⟩⟩
set_option maxRecDepth 65536 in
set_option maxHeartbeats 40000000 in
theorem rm_begin1 (l : Launch) (Z : State) (a0 : Array Value) (hw : ∀ d ∈ tables_1, d.before a0 Z = true) (n0 : Nat) (t bk bs bv st en' bb : Addr) (src : Addr) (ln wh : Int32) (kv : Value) (s0 : Int32) (v0 : Int64) (x0 x1 y0 : Int64) (le lb : List Value) (h0 : Heap) (Z0 : n0 ≤ h0.size) (tr : Tr Z h0 t bk bs bv st en' bb (1 : Int32) ln wh kv s0 v0 [(.long y0)] le lb) (di : Dis bk bs bv st en' bb) (dt : t ≠ bk ∧ t ≠ bs ∧ t ≠ bv ∧ t ≠ st ∧ t ≠ en' ∧ t ≠ bb) (gg : n0 ≤ bk ∧ n0 ≤ bs ∧ n0 ≤ bv ∧ n0 ≤ st ∧ n0 ≤ en' ∧ n0 ≤ bb ∧ n0 ≤ t) (A_src : Ary Z h0 src .long [.long x0, .long x1]) (ns : src ≠ st) (nt : src ≠ t) :
    Met1 l Z (⟨"com/example/vestalia/vestalia/locks/StepTrace", "begin", "([J)V"⟩ : MethodName) prog_32_method_3_code 2 none ({ frames := 1, cells := 0, slots := 0, locals := 18 } : Room) n0 #[(.ref t), (.ref src)] h0 (fun v h => v = none ∧ Keep h0 h [t, st] ∧ Tr Z h t bk bs bv st en' bb (1 : Int32) (0 : Int32) (0 : Int32) kv s0 v0 [(.long x0)] le lb) := by
  refine met_of (plainFor_of_name own_pn_com_example_vestalia_vestalia_locks_StepTrace) (L0 := #[.val (.ref t), .val (.ref src)]) (by first | (simp [argsToLocals, Value.category]; done) | rfl) ?_
  intro B C
  change Ctx B l _ _ "com/example/vestalia/vestalia/locks/StepTrace" "begin" _ _ Z at C
  have tr' := tr
  obtain ⟨E_t, T_kinds, T_slots, T_values, T_width, T_start, T_end, T_before, T_length, T_whole, ⟨r_w, T_written⟩, A_kinds, A_slots, A_values, A_start, A_end, A_before⟩ := tr'
  have di' := di
  obtain ⟨d0, d1, d2, d3, d4, d5, d6, d7, d8, d9, d10, d11, d12, d13, d14⟩ := di'
  have dt' := dt
  obtain ⟨e0, e1, e2, e3, e4, e5⟩ := dt'
  have gg' := gg
  obtain ⟨gg0, gg1, gg2, gg3, gg4, gg5, gg6⟩ := gg'
  refine g_aload_n C d3_0 (v := (.ref src)) rfl rfl (pc' := 1) rfl ?_
  refine g_iconst C d3_1 (v := (0 : Int32)) rfl (pc' := 2) rfl ?_
  refine g_aload_n C d3_2 (v := (.ref t)) rfl rfl (pc' := 3) rfl ?_
  refine g_getfield C (host := "") (v := (.ref st)) (Or.inl (own_w hw 23 rfl)) Via.refl T_start d3_3 (pc' := 6) rfl ?_
  refine g_iconst C d3_6 (v := (0 : Int32)) rfl (pc' := 7) rfl ?_
  refine g_aload_n C d3_7 (v := (.ref t)) rfl rfl (pc' := 8) rfl ?_
  refine g_getfield C (host := "") (v := (.int (1 : Int32))) (Or.inl (own_w hw 21 rfl)) Via.refl T_width d3_8 (pc' := 11) rfl ?_
  refine g_arraycopy C (own_w hw 34 rfl) (own_w hw 37 rfl) (own_w hw 35 rfl) (own_w hw 36 rfl) A_src A_start rfl (by simp [fits]) (by simp [fits]) (by decide) (by decide) (by decide) (spN := 0) (dpN := 0) (nnN := 1) (by decide) (by decide) (by decide) (show 0 + 1 ≤ 2 by decide) (show 0 + 1 ≤ 1 by decide) (out := [(.long x0)]) rfl gg3 rfl (by decide) (W := 0) (Nat.le_of_eq rfl) (by decide) d3_11 (pc' := 14) rfl ?_
  intro h_1 K_2 f_3
  show Go B n0 _ h_1 0 0 14 #[.val (.ref t), .val (.ref src)] []
  refine g_aload_n C d3_14 (v := (.ref t)) rfl rfl (pc' := 15) rfl ?_
  refine g_iconst C d3_15 (v := (0 : Int32)) rfl (pc' := 16) rfl ?_
  have f_4 := (T_length.keep K_2 (ninS e3 nin0))
  have f_5 := (E_t.keep K_2)
  refine g_putfield C (host := "") (v := (.int (0 : Int32))) (Or.inl (own_w hw 38 rfl)) Via.refl f_4 f_5 (Or.inl (own_w hw 39 rfl)) (own_w hw 2 rfl) (ty := .int) (by decide) rfl rfl gg6 d3_16 (pc' := 19) rfl ?_
  intro h_6 W_7
  have f_8 := f_4.same W_7
  refine g_aload_n C d3_19 (v := (.ref t)) rfl rfl (pc' := 20) rfl ?_
  refine g_iconst C d3_20 (v := (0 : Int32)) rfl (pc' := 21) rfl ?_
  have f_9 := ((T_whole.keep K_2 (ninS e3 nin0)).other W_7 (Or.inr (slot_ne (Or.inl (own_w hw 41 rfl)) (Or.inl (own_w hw 39 rfl)) (by decide) (t := .boolean) (t' := .int) (by decide) (by decide))))
  have f_10 := (f_5.wr W_7)
  refine g_putfield C (host := "") (v := (.int (0 : Int32))) (Or.inl (own_w hw 40 rfl)) Via.refl f_9 f_10 (Or.inl (own_w hw 41 rfl)) (own_w hw 2 rfl) (ty := .boolean) (by decide) rfl rfl gg6 d3_21 (pc' := 24) rfl ?_
  intro h_11 W_12
  have f_13 := f_9.same W_12
  refine g_return C rfl d3_24 (by decide) (by decide) ?_
  have f_14 := (((A_kinds.keep K_2 (ninS d2 nin0)).keep (Keep.of_wr W_7) (nin1 (Ne.symm e0))).keep (Keep.of_wr W_12) (nin1 (Ne.symm e0)))
  have f_15 := (((A_slots.keep K_2 (ninS d6 nin0)).keep (Keep.of_wr W_7) (nin1 (Ne.symm e1))).keep (Keep.of_wr W_12) (nin1 (Ne.symm e1)))
  have f_16 := (((A_values.keep K_2 (ninS d9 nin0)).keep (Keep.of_wr W_7) (nin1 (Ne.symm e2))).keep (Keep.of_wr W_12) (nin1 (Ne.symm e2)))
  have f_17 := ((f_3.keep (Keep.of_wr W_7) (nin1 (Ne.symm e3))).keep (Keep.of_wr W_12) (nin1 (Ne.symm e3)))
  have f_18 := (((A_end.keep K_2 (ninS (Ne.symm d12) nin0)).keep (Keep.of_wr W_7) (nin1 (Ne.symm e4))).keep (Keep.of_wr W_12) (nin1 (Ne.symm e4)))
  have f_19 := (((A_before.keep K_2 (ninS (Ne.symm d13) nin0)).keep (Keep.of_wr W_7) (nin1 (Ne.symm e5))).keep (Keep.of_wr W_12) (nin1 (Ne.symm e5)))
  have f_20 := (f_10.wr W_12)
  have f_21 := (((T_kinds.keep K_2 (ninS e3 nin0)).other W_7 (Or.inr (slot_ne (Or.inl (own_w hw 13 rfl)) (Or.inl (own_w hw 39 rfl)) (by decide) (t := (.array (.object "com/example/vestalia/vestalia/model/Step$Kind"))) (t' := .int) (by decide) (by decide)))).other W_12 (Or.inr (slot_ne (Or.inl (own_w hw 13 rfl)) (Or.inl (own_w hw 41 rfl)) (by decide) (t := (.array (.object "com/example/vestalia/vestalia/model/Step$Kind"))) (t' := .boolean) (by decide) (by decide))))
  have f_22 := (((T_slots.keep K_2 (ninS e3 nin0)).other W_7 (Or.inr (slot_ne (Or.inl (own_w hw 16 rfl)) (Or.inl (own_w hw 39 rfl)) (by decide) (t := (.array .int)) (t' := .int) (by decide) (by decide)))).other W_12 (Or.inr (slot_ne (Or.inl (own_w hw 16 rfl)) (Or.inl (own_w hw 41 rfl)) (by decide) (t := (.array .int)) (t' := .boolean) (by decide) (by decide))))
  have f_23 := (((T_values.keep K_2 (ninS e3 nin0)).other W_7 (Or.inr (slot_ne (Or.inl (own_w hw 18 rfl)) (Or.inl (own_w hw 39 rfl)) (by decide) (t := (.array .long)) (t' := .int) (by decide) (by decide)))).other W_12 (Or.inr (slot_ne (Or.inl (own_w hw 18 rfl)) (Or.inl (own_w hw 41 rfl)) (by decide) (t := (.array .long)) (t' := .boolean) (by decide) (by decide))))
  have f_24 := (((T_width.keep K_2 (ninS e3 nin0)).other W_7 (Or.inr (slot_ne (Or.inr (own_w hw 22 rfl)) (Or.inl (own_w hw 39 rfl)) (by decide) (t := .int) (t' := .int) (by decide) (by decide)))).other W_12 (Or.inr (slot_ne (Or.inr (own_w hw 22 rfl)) (Or.inl (own_w hw 41 rfl)) (by decide) (t := .int) (t' := .boolean) (by decide) (by decide))))
  have f_25 := (((T_start.keep K_2 (ninS e3 nin0)).other W_7 (Or.inr (slot_ne (Or.inr (own_w hw 24 rfl)) (Or.inl (own_w hw 39 rfl)) (by decide) (t := (.array .long)) (t' := .int) (by decide) (by decide)))).other W_12 (Or.inr (slot_ne (Or.inr (own_w hw 24 rfl)) (Or.inl (own_w hw 41 rfl)) (by decide) (t := (.array .long)) (t' := .boolean) (by decide) (by decide))))
  have f_26 := (((T_end.keep K_2 (ninS e3 nin0)).other W_7 (Or.inr (slot_ne (Or.inr (own_w hw 26 rfl)) (Or.inl (own_w hw 39 rfl)) (by decide) (t := (.array .long)) (t' := .int) (by decide) (by decide)))).other W_12 (Or.inr (slot_ne (Or.inr (own_w hw 26 rfl)) (Or.inl (own_w hw 41 rfl)) (by decide) (t := (.array .long)) (t' := .boolean) (by decide) (by decide))))
  have f_27 := (((T_before.keep K_2 (ninS e3 nin0)).other W_7 (Or.inr (slot_ne (Or.inl (own_w hw 28 rfl)) (Or.inl (own_w hw 39 rfl)) (by decide) (t := (.array .long)) (t' := .int) (by decide) (by decide)))).other W_12 (Or.inr (slot_ne (Or.inl (own_w hw 28 rfl)) (Or.inl (own_w hw 41 rfl)) (by decide) (t := (.array .long)) (t' := .boolean) (by decide) (by decide))))
  have f_28 := (f_8.other W_12 (Or.inr (slot_ne (Or.inl (own_w hw 39 rfl)) (Or.inl (own_w hw 41 rfl)) (by decide) (t := .int) (t' := .boolean) (by decide) (by decide))))
  have f_29 := (((T_written.keep K_2 (ninS e3 nin0)).other W_7 (Or.inr (slot_ne (Or.inl (own_w hw 20 rfl)) (Or.inl (own_w hw 39 rfl)) (by decide) (t := (.array .int)) (t' := .int) (by decide) (by decide)))).other W_12 (Or.inr (slot_ne (Or.inl (own_w hw 20 rfl)) (Or.inl (own_w hw 41 rfl)) (by decide) (t := (.array .int)) (t' := .boolean) (by decide) (by decide))))
  exact ⟨rfl, ((((Keep.refl h0 [t, st]).trans K_2 (allS (Or.inl (List.mem_of_getElem? (i := 1) rfl)) all0)).wr W_7 (Or.inl (List.mem_of_getElem? (i := 0) rfl))).wr W_12 (Or.inl (List.mem_of_getElem? (i := 0) rfl))), ⟨f_20, f_21, f_22, f_23, f_24, f_25, f_26, f_27, f_28, f_13, ⟨r_w, f_29⟩, f_14, f_15, f_16, f_17, f_18, f_19⟩⟩
set_option maxRecDepth 65536 in
set_option maxHeartbeats 40000000 in
theorem rm_begin2 (l : Launch) (Z : State) (a0 : Array Value) (hw : ∀ d ∈ tables_1, d.before a0 Z = true) (n0 : Nat) (t bk bs bv st en' bb : Addr) (src : Addr) (ln wh : Int32) (kv : Value) (s0 : Int32) (v0 : Int64) (x0 x1 y0 y1 : Int64) (le lb : List Value) (h0 : Heap) (Z0 : n0 ≤ h0.size) (tr : Tr Z h0 t bk bs bv st en' bb (2 : Int32) ln wh kv s0 v0 [(.long y0), (.long y1)] le lb) (di : Dis bk bs bv st en' bb) (dt : t ≠ bk ∧ t ≠ bs ∧ t ≠ bv ∧ t ≠ st ∧ t ≠ en' ∧ t ≠ bb) (gg : n0 ≤ bk ∧ n0 ≤ bs ∧ n0 ≤ bv ∧ n0 ≤ st ∧ n0 ≤ en' ∧ n0 ≤ bb ∧ n0 ≤ t) (A_src : Ary Z h0 src .long [.long x0, .long x1]) (ns : src ≠ st) (nt : src ≠ t) :
    Met1 l Z (⟨"com/example/vestalia/vestalia/locks/StepTrace", "begin", "([J)V"⟩ : MethodName) prog_32_method_3_code 2 none ({ frames := 1, cells := 0, slots := 0, locals := 18 } : Room) n0 #[(.ref t), (.ref src)] h0 (fun v h => v = none ∧ Keep h0 h [t, st] ∧ Tr Z h t bk bs bv st en' bb (2 : Int32) (0 : Int32) (0 : Int32) kv s0 v0 [(.long x0), (.long x1)] le lb) := by
  refine met_of (plainFor_of_name own_pn_com_example_vestalia_vestalia_locks_StepTrace) (L0 := #[.val (.ref t), .val (.ref src)]) (by first | (simp [argsToLocals, Value.category]; done) | rfl) ?_
  intro B C
  change Ctx B l _ _ "com/example/vestalia/vestalia/locks/StepTrace" "begin" _ _ Z at C
  have tr' := tr
  obtain ⟨E_t, T_kinds, T_slots, T_values, T_width, T_start, T_end, T_before, T_length, T_whole, ⟨r_w, T_written⟩, A_kinds, A_slots, A_values, A_start, A_end, A_before⟩ := tr'
  have di' := di
  obtain ⟨d0, d1, d2, d3, d4, d5, d6, d7, d8, d9, d10, d11, d12, d13, d14⟩ := di'
  have dt' := dt
  obtain ⟨e0, e1, e2, e3, e4, e5⟩ := dt'
  have gg' := gg
  obtain ⟨gg0, gg1, gg2, gg3, gg4, gg5, gg6⟩ := gg'
  refine g_aload_n C d3_0 (v := (.ref src)) rfl rfl (pc' := 1) rfl ?_
  refine g_iconst C d3_1 (v := (0 : Int32)) rfl (pc' := 2) rfl ?_
  refine g_aload_n C d3_2 (v := (.ref t)) rfl rfl (pc' := 3) rfl ?_
  refine g_getfield C (host := "") (v := (.ref st)) (Or.inl (own_w hw 23 rfl)) Via.refl T_start d3_3 (pc' := 6) rfl ?_
  refine g_iconst C d3_6 (v := (0 : Int32)) rfl (pc' := 7) rfl ?_
  refine g_aload_n C d3_7 (v := (.ref t)) rfl rfl (pc' := 8) rfl ?_
  refine g_getfield C (host := "") (v := (.int (2 : Int32))) (Or.inl (own_w hw 21 rfl)) Via.refl T_width d3_8 (pc' := 11) rfl ?_
  refine g_arraycopy C (own_w hw 34 rfl) (own_w hw 37 rfl) (own_w hw 35 rfl) (own_w hw 36 rfl) A_src A_start rfl (by simp [fits]) (by simp [fits]) (by decide) (by decide) (by decide) (spN := 0) (dpN := 0) (nnN := 2) (by decide) (by decide) (by decide) (show 0 + 2 ≤ 2 by decide) (show 0 + 2 ≤ 2 by decide) (out := [(.long x0), (.long x1)]) rfl gg3 rfl (by decide) (W := 0) (Nat.le_of_eq rfl) (by decide) d3_11 (pc' := 14) rfl ?_
  intro h_1 K_2 f_3
  show Go B n0 _ h_1 0 0 14 #[.val (.ref t), .val (.ref src)] []
  refine g_aload_n C d3_14 (v := (.ref t)) rfl rfl (pc' := 15) rfl ?_
  refine g_iconst C d3_15 (v := (0 : Int32)) rfl (pc' := 16) rfl ?_
  have f_4 := (T_length.keep K_2 (ninS e3 nin0))
  have f_5 := (E_t.keep K_2)
  refine g_putfield C (host := "") (v := (.int (0 : Int32))) (Or.inl (own_w hw 38 rfl)) Via.refl f_4 f_5 (Or.inl (own_w hw 39 rfl)) (own_w hw 2 rfl) (ty := .int) (by decide) rfl rfl gg6 d3_16 (pc' := 19) rfl ?_
  intro h_6 W_7
  have f_8 := f_4.same W_7
  refine g_aload_n C d3_19 (v := (.ref t)) rfl rfl (pc' := 20) rfl ?_
  refine g_iconst C d3_20 (v := (0 : Int32)) rfl (pc' := 21) rfl ?_
  have f_9 := ((T_whole.keep K_2 (ninS e3 nin0)).other W_7 (Or.inr (slot_ne (Or.inl (own_w hw 41 rfl)) (Or.inl (own_w hw 39 rfl)) (by decide) (t := .boolean) (t' := .int) (by decide) (by decide))))
  have f_10 := (f_5.wr W_7)
  refine g_putfield C (host := "") (v := (.int (0 : Int32))) (Or.inl (own_w hw 40 rfl)) Via.refl f_9 f_10 (Or.inl (own_w hw 41 rfl)) (own_w hw 2 rfl) (ty := .boolean) (by decide) rfl rfl gg6 d3_21 (pc' := 24) rfl ?_
  intro h_11 W_12
  have f_13 := f_9.same W_12
  refine g_return C rfl d3_24 (by decide) (by decide) ?_
  have f_14 := (((A_kinds.keep K_2 (ninS d2 nin0)).keep (Keep.of_wr W_7) (nin1 (Ne.symm e0))).keep (Keep.of_wr W_12) (nin1 (Ne.symm e0)))
  have f_15 := (((A_slots.keep K_2 (ninS d6 nin0)).keep (Keep.of_wr W_7) (nin1 (Ne.symm e1))).keep (Keep.of_wr W_12) (nin1 (Ne.symm e1)))
  have f_16 := (((A_values.keep K_2 (ninS d9 nin0)).keep (Keep.of_wr W_7) (nin1 (Ne.symm e2))).keep (Keep.of_wr W_12) (nin1 (Ne.symm e2)))
  have f_17 := ((f_3.keep (Keep.of_wr W_7) (nin1 (Ne.symm e3))).keep (Keep.of_wr W_12) (nin1 (Ne.symm e3)))
  have f_18 := (((A_end.keep K_2 (ninS (Ne.symm d12) nin0)).keep (Keep.of_wr W_7) (nin1 (Ne.symm e4))).keep (Keep.of_wr W_12) (nin1 (Ne.symm e4)))
  have f_19 := (((A_before.keep K_2 (ninS (Ne.symm d13) nin0)).keep (Keep.of_wr W_7) (nin1 (Ne.symm e5))).keep (Keep.of_wr W_12) (nin1 (Ne.symm e5)))
  have f_20 := (f_10.wr W_12)
  have f_21 := (((T_kinds.keep K_2 (ninS e3 nin0)).other W_7 (Or.inr (slot_ne (Or.inl (own_w hw 13 rfl)) (Or.inl (own_w hw 39 rfl)) (by decide) (t := (.array (.object "com/example/vestalia/vestalia/model/Step$Kind"))) (t' := .int) (by decide) (by decide)))).other W_12 (Or.inr (slot_ne (Or.inl (own_w hw 13 rfl)) (Or.inl (own_w hw 41 rfl)) (by decide) (t := (.array (.object "com/example/vestalia/vestalia/model/Step$Kind"))) (t' := .boolean) (by decide) (by decide))))
  have f_22 := (((T_slots.keep K_2 (ninS e3 nin0)).other W_7 (Or.inr (slot_ne (Or.inl (own_w hw 16 rfl)) (Or.inl (own_w hw 39 rfl)) (by decide) (t := (.array .int)) (t' := .int) (by decide) (by decide)))).other W_12 (Or.inr (slot_ne (Or.inl (own_w hw 16 rfl)) (Or.inl (own_w hw 41 rfl)) (by decide) (t := (.array .int)) (t' := .boolean) (by decide) (by decide))))
  have f_23 := (((T_values.keep K_2 (ninS e3 nin0)).other W_7 (Or.inr (slot_ne (Or.inl (own_w hw 18 rfl)) (Or.inl (own_w hw 39 rfl)) (by decide) (t := (.array .long)) (t' := .int) (by decide) (by decide)))).other W_12 (Or.inr (slot_ne (Or.inl (own_w hw 18 rfl)) (Or.inl (own_w hw 41 rfl)) (by decide) (t := (.array .long)) (t' := .boolean) (by decide) (by decide))))
  have f_24 := (((T_width.keep K_2 (ninS e3 nin0)).other W_7 (Or.inr (slot_ne (Or.inr (own_w hw 22 rfl)) (Or.inl (own_w hw 39 rfl)) (by decide) (t := .int) (t' := .int) (by decide) (by decide)))).other W_12 (Or.inr (slot_ne (Or.inr (own_w hw 22 rfl)) (Or.inl (own_w hw 41 rfl)) (by decide) (t := .int) (t' := .boolean) (by decide) (by decide))))
  have f_25 := (((T_start.keep K_2 (ninS e3 nin0)).other W_7 (Or.inr (slot_ne (Or.inr (own_w hw 24 rfl)) (Or.inl (own_w hw 39 rfl)) (by decide) (t := (.array .long)) (t' := .int) (by decide) (by decide)))).other W_12 (Or.inr (slot_ne (Or.inr (own_w hw 24 rfl)) (Or.inl (own_w hw 41 rfl)) (by decide) (t := (.array .long)) (t' := .boolean) (by decide) (by decide))))
  have f_26 := (((T_end.keep K_2 (ninS e3 nin0)).other W_7 (Or.inr (slot_ne (Or.inr (own_w hw 26 rfl)) (Or.inl (own_w hw 39 rfl)) (by decide) (t := (.array .long)) (t' := .int) (by decide) (by decide)))).other W_12 (Or.inr (slot_ne (Or.inr (own_w hw 26 rfl)) (Or.inl (own_w hw 41 rfl)) (by decide) (t := (.array .long)) (t' := .boolean) (by decide) (by decide))))
  have f_27 := (((T_before.keep K_2 (ninS e3 nin0)).other W_7 (Or.inr (slot_ne (Or.inl (own_w hw 28 rfl)) (Or.inl (own_w hw 39 rfl)) (by decide) (t := (.array .long)) (t' := .int) (by decide) (by decide)))).other W_12 (Or.inr (slot_ne (Or.inl (own_w hw 28 rfl)) (Or.inl (own_w hw 41 rfl)) (by decide) (t := (.array .long)) (t' := .boolean) (by decide) (by decide))))
  have f_28 := (f_8.other W_12 (Or.inr (slot_ne (Or.inl (own_w hw 39 rfl)) (Or.inl (own_w hw 41 rfl)) (by decide) (t := .int) (t' := .boolean) (by decide) (by decide))))
  have f_29 := (((T_written.keep K_2 (ninS e3 nin0)).other W_7 (Or.inr (slot_ne (Or.inl (own_w hw 20 rfl)) (Or.inl (own_w hw 39 rfl)) (by decide) (t := (.array .int)) (t' := .int) (by decide) (by decide)))).other W_12 (Or.inr (slot_ne (Or.inl (own_w hw 20 rfl)) (Or.inl (own_w hw 41 rfl)) (by decide) (t := (.array .int)) (t' := .boolean) (by decide) (by decide))))
  exact ⟨rfl, ((((Keep.refl h0 [t, st]).trans K_2 (allS (Or.inl (List.mem_of_getElem? (i := 1) rfl)) all0)).wr W_7 (Or.inl (List.mem_of_getElem? (i := 0) rfl))).wr W_12 (Or.inl (List.mem_of_getElem? (i := 0) rfl))), ⟨f_20, f_21, f_22, f_23, f_24, f_25, f_26, f_27, f_28, f_13, ⟨r_w, f_29⟩, f_14, f_15, f_16, f_17, f_18, f_19⟩⟩
theorem d8_0 : decode prog_32_method_15_code 0 = .ok (.aload_n 0, 1) := by decide +kernel
theorem d8_1 : decode prog_32_method_15_code 1 = .ok (.getfield 49, 3) := by decide +kernel
theorem d8_4 : decode prog_32_method_15_code 4 = .ok (.aload_n 0, 1) := by decide +kernel
theorem d8_5 : decode prog_32_method_15_code 5 = .ok (.getfield 9, 3) := by decide +kernel
theorem d8_8 : decode prog_32_method_15_code 8 = .ok (.arraylength, 1) := by decide +kernel
theorem d8_9 : decode prog_32_method_15_code 9 = .ok (.if_icmp .ne 79, 3) := by decide +kernel
theorem d8_88 : decode prog_32_method_15_code 88 = .ok (.aload_n 0, 1) := by decide +kernel
theorem d8_89 : decode prog_32_method_15_code 89 = .ok (.getfield 9, 3) := by decide +kernel
theorem d8_92 : decode prog_32_method_15_code 92 = .ok (.aload_n 0, 1) := by decide +kernel
theorem d8_93 : decode prog_32_method_15_code 93 = .ok (.getfield 49, 3) := by decide +kernel
theorem d8_96 : decode prog_32_method_15_code 96 = .ok (.aload_n 3, 1) := by decide +kernel
theorem d8_97 : decode prog_32_method_15_code 97 = .ok (.aastore, 1) := by decide +kernel
theorem d8_98 : decode prog_32_method_15_code 98 = .ok (.aload_n 0, 1) := by decide +kernel
theorem d8_99 : decode prog_32_method_15_code 99 = .ok (.getfield 15, 3) := by decide +kernel
theorem d8_102 : decode prog_32_method_15_code 102 = .ok (.aload_n 0, 1) := by decide +kernel
theorem d8_103 : decode prog_32_method_15_code 103 = .ok (.getfield 49, 3) := by decide +kernel
theorem d8_106 : decode prog_32_method_15_code 106 = .ok (.iload 4, 2) := by decide +kernel
theorem d8_108 : decode prog_32_method_15_code 108 = .ok (.iastore, 1) := by decide +kernel
theorem d8_109 : decode prog_32_method_15_code 109 = .ok (.aload_n 0, 1) := by decide +kernel
theorem d8_110 : decode prog_32_method_15_code 110 = .ok (.getfield 19, 3) := by decide +kernel
theorem d8_113 : decode prog_32_method_15_code 113 = .ok (.aload_n 0, 1) := by decide +kernel
theorem d8_114 : decode prog_32_method_15_code 114 = .ok (.getfield 49, 3) := by decide +kernel
theorem d8_117 : decode prog_32_method_15_code 117 = .ok (.lload 5, 2) := by decide +kernel
theorem d8_119 : decode prog_32_method_15_code 119 = .ok (.lastore, 1) := by decide +kernel
theorem d8_120 : decode prog_32_method_15_code 120 = .ok (.aload_n 1, 1) := by decide +kernel
theorem d8_121 : decode prog_32_method_15_code 121 = .ok (.iload_n 2, 1) := by decide +kernel
theorem d8_122 : decode prog_32_method_15_code 122 = .ok (.aload_n 0, 1) := by decide +kernel
theorem d8_123 : decode prog_32_method_15_code 123 = .ok (.getfield 36, 3) := by decide +kernel
theorem d8_126 : decode prog_32_method_15_code 126 = .ok (.aload_n 0, 1) := by decide +kernel
theorem d8_127 : decode prog_32_method_15_code 127 = .ok (.getfield 49, 3) := by decide +kernel
theorem d8_130 : decode prog_32_method_15_code 130 = .ok (.aload_n 0, 1) := by decide +kernel
theorem d8_131 : decode prog_32_method_15_code 131 = .ok (.getfield 26, 3) := by decide +kernel
theorem d8_134 : decode prog_32_method_15_code 134 = .ok (.imul, 1) := by decide +kernel
theorem d8_135 : decode prog_32_method_15_code 135 = .ok (.aload_n 0, 1) := by decide +kernel
theorem d8_136 : decode prog_32_method_15_code 136 = .ok (.getfield 26, 3) := by decide +kernel
theorem d8_139 : decode prog_32_method_15_code 139 = .ok (.invokestatic 43, 3) := by decide +kernel
theorem d8_142 : decode prog_32_method_15_code 142 = .ok (.aload_n 0, 1) := by decide +kernel
theorem d8_143 : decode prog_32_method_15_code 143 = .ok (.dup, 1) := by decide +kernel
theorem d8_144 : decode prog_32_method_15_code 144 = .ok (.getfield 49, 3) := by decide +kernel
theorem d8_147 : decode prog_32_method_15_code 147 = .ok (.iconst 1, 1) := by decide +kernel
theorem d8_148 : decode prog_32_method_15_code 148 = .ok (.iadd, 1) := by decide +kernel
theorem d8_149 : decode prog_32_method_15_code 149 = .ok (.putfield 49, 3) := by decide +kernel
theorem d8_152 : decode prog_32_method_15_code 152 = .ok (.return_, 1) := by decide +kernel
set_option maxRecDepth 65536 in
set_option maxHeartbeats 40000000 in
theorem rm_add2_0WRITE (l : Launch) (Z : State) (a0 : Array Value) (hw : ∀ d ∈ tables_1, d.before a0 Z = true) (n0 : Nat) (t bk bs bv st en' bb : Addr) (src : Addr) (wh i : Int32) (j : Int64) (x0 x1 : Int64) (le : List Value) (e_WRITE e_READ : Addr) (h0 : Heap) (Z0 : n0 ≤ h0.size) (tr : Tr Z h0 t bk bs bv st en' bb (0 : Int32) (0 : Int32) wh .null (0 : Int32) (0 : Int64) [] le []) (di : Dis bk bs bv st en' bb) (dt : t ≠ bk ∧ t ≠ bs ∧ t ≠ bv ∧ t ≠ st ∧ t ≠ en' ∧ t ≠ bb) (gg : n0 ≤ bk ∧ n0 ≤ bs ∧ n0 ≤ bv ∧ n0 ≤ st ∧ n0 ≤ en' ∧ n0 ≤ bb ∧ n0 ≤ t) (A_src : Ary Z h0 src .long [.long x0, .long x1]) (ns : src ≠ bk ∧ src ≠ bs ∧ src ≠ bv ∧ src ≠ st ∧ src ≠ en' ∧ src ≠ bb ∧ src ≠ t) (en : Ens Z e_WRITE e_READ) (O : Old Z n0 h0) :
    Met1 l Z (⟨"com/example/vestalia/vestalia/locks/StepTrace", "add", "([JILcom/example/vestalia/vestalia/model/Step$Kind;IJ)V"⟩ : MethodName) prog_32_method_15_code 7 none ({ frames := 1, cells := 0, slots := 0, locals := 18 } : Room) n0 #[(.ref t), (.ref src), (.int (0 : Int32)), (.ref e_WRITE), (.int i), (.long j)] h0 (fun v h => v = none ∧ Keep h0 h [t, bk, bs, bv, bb] ∧ Tr Z h t bk bs bv st en' bb (0 : Int32) (1 : Int32) wh (.ref e_WRITE) i j [] le []) := by
  refine met_of (plainFor_of_name own_pn_com_example_vestalia_vestalia_locks_StepTrace) (L0 := #[.val (.ref t), .val (.ref src), .val (.int (0 : Int32)), .val (.ref e_WRITE), .val (.int i), .val (.long j), .second]) (by first | (simp [argsToLocals, Value.category]; done) | rfl) ?_
  intro B C
  change Ctx B l _ _ "com/example/vestalia/vestalia/locks/StepTrace" "add" _ _ Z at C
  have en' := en
  obtain ⟨⟨S_WRITE, X_WRITE, D_WRITE⟩, ⟨S_READ, X_READ, D_READ⟩⟩ := en'
  have tr' := tr
  obtain ⟨E_t, T_kinds, T_slots, T_values, T_width, T_start, T_end, T_before, T_length, T_whole, ⟨r_w, T_written⟩, A_kinds, A_slots, A_values, A_start, A_end, A_before⟩ := tr'
  have di' := di
  obtain ⟨d0, d1, d2, d3, d4, d5, d6, d7, d8, d9, d10, d11, d12, d13, d14⟩ := di'
  have dt' := dt
  obtain ⟨e0, e1, e2, e3, e4, e5⟩ := dt'
  have gg' := gg
  obtain ⟨gg0, gg1, gg2, gg3, gg4, gg5, gg6⟩ := gg'
  have ns' := ns
  obtain ⟨sn0, sn1, sn2, sn3, sn4, sn5, sn6⟩ := ns'
  refine g_aload_n C d8_0 (v := (.ref t)) rfl rfl (pc' := 1) rfl ?_
  refine g_getfield C (host := "") (v := (.int (0 : Int32))) (Or.inl (own_w hw 38 rfl)) Via.refl T_length d8_1 (pc' := 4) rfl ?_
  refine g_aload_n C d8_4 (v := (.ref t)) rfl rfl (pc' := 5) rfl ?_
  refine g_getfield C (host := "") (v := (.ref bk)) (Or.inl (own_w hw 12 rfl)) Via.refl T_kinds d8_5 (pc' := 8) rfl ?_
  refine g_arraylength C (AryR.ary A_kinds) (z := (8 : Int32)) rfl d8_8 (pc' := 9) rfl ?_
  refine g_icmp_y C d8_9 (Jvm.Free.XT.ii_ne_t (by decide)) (pc' := 88) (by decide) (by decide) ?_
  refine g_aload_n C d8_88 (v := (.ref t)) rfl rfl (pc' := 89) rfl ?_
  refine g_getfield C (host := "") (v := (.ref bk)) (Or.inl (own_w hw 12 rfl)) Via.refl T_kinds d8_89 (pc' := 92) rfl ?_
  refine g_aload_n C d8_92 (v := (.ref t)) rfl rfl (pc' := 93) rfl ?_
  refine g_getfield C (host := "") (v := (.int (0 : Int32))) (Or.inl (own_w hw 38 rfl)) Via.refl T_length d8_93 (pc' := 96) rfl ?_
  refine g_aload_n C d8_96 (v := (.ref e_WRITE)) rfl rfl (pc' := 97) rfl ?_
  refine g_aastore C A_kinds (Ins.self (X_WRITE.ext O.2)) (by decide) (i := 0) (by decide) (show 0 < 8 by decide) gg0 d8_97 (pc' := 98) rfl ?_
  intro h_1 K_2 A_3
  have f_4 : AryR Z h_1 bk "com/example/vestalia/vestalia/model/Step$Kind" [(.ref e_WRITE), .null, .null, .null, .null, .null, .null, .null] := A_3
  refine g_aload_n C d8_98 (v := (.ref t)) rfl rfl (pc' := 99) rfl ?_
  have f_5 := (T_slots.keep K_2 (ninS e0 nin0))
  refine g_getfield C (host := "") (v := (.ref bs)) (Or.inl (own_w hw 15 rfl)) Via.refl f_5 d8_99 (pc' := 102) rfl ?_
  refine g_aload_n C d8_102 (v := (.ref t)) rfl rfl (pc' := 103) rfl ?_
  have f_6 := (T_length.keep K_2 (ninS e0 nin0))
  refine g_getfield C (host := "") (v := (.int (0 : Int32))) (Or.inl (own_w hw 38 rfl)) Via.refl f_6 d8_103 (pc' := 106) rfl ?_
  refine g_iload C d8_106 (v := i) rfl (pc' := 108) rfl ?_
  have f_7 := (A_slots.keep K_2 (ninS (Ne.symm d0) nin0))
  refine g_iastore C f_7 (by decide) (i := 0) (by decide) (show 0 < 8 by decide) (w := (.int i)) rfl gg1 d8_108 (pc' := 109) rfl ?_
  intro h_8 K_9 A_10
  have f_11 : Ary Z h_8 bs .int [(.int i), (.int (0 : Int32)), (.int (0 : Int32)), (.int (0 : Int32)), (.int (0 : Int32)), (.int (0 : Int32)), (.int (0 : Int32)), (.int (0 : Int32))] := A_10
  refine g_aload_n C d8_109 (v := (.ref t)) rfl rfl (pc' := 110) rfl ?_
  have f_12 := ((T_values.keep K_2 (ninS e0 nin0)).keep K_9 (ninS e1 nin0))
  refine g_getfield C (host := "") (v := (.ref bv)) (Or.inl (own_w hw 17 rfl)) Via.refl f_12 d8_110 (pc' := 113) rfl ?_
  refine g_aload_n C d8_113 (v := (.ref t)) rfl rfl (pc' := 114) rfl ?_
  have f_13 := (f_6.keep K_9 (ninS e1 nin0))
  refine g_getfield C (host := "") (v := (.int (0 : Int32))) (Or.inl (own_w hw 38 rfl)) Via.refl f_13 d8_114 (pc' := 117) rfl ?_
  refine g_lload C d8_117 (v := j) rfl (pc' := 119) rfl ?_
  have f_14 := ((A_values.keep K_2 (ninS (Ne.symm d1) nin0)).keep K_9 (ninS (Ne.symm d5) nin0))
  refine g_lastore C f_14 (by decide) (i := 0) (by decide) (show 0 < 8 by decide) (w := (.long j)) rfl gg2 d8_119 (pc' := 120) rfl ?_
  intro h_15 K_16 A_17
  have f_18 : Ary Z h_15 bv .long [(.long j), (.long (0 : Int64)), (.long (0 : Int64)), (.long (0 : Int64)), (.long (0 : Int64)), (.long (0 : Int64)), (.long (0 : Int64)), (.long (0 : Int64))] := A_17
  refine g_aload_n C d8_120 (v := (.ref src)) rfl rfl (pc' := 121) rfl ?_
  refine g_iload_n C d8_121 (v := (0 : Int32)) rfl (pc' := 122) rfl ?_
  refine g_aload_n C d8_122 (v := (.ref t)) rfl rfl (pc' := 123) rfl ?_
  have f_19 := (((T_before.keep K_2 (ninS e0 nin0)).keep K_9 (ninS e1 nin0)).keep K_16 (ninS e2 nin0))
  refine g_getfield C (host := "") (v := (.ref bb)) (Or.inl (own_w hw 27 rfl)) Via.refl f_19 d8_123 (pc' := 126) rfl ?_
  refine g_aload_n C d8_126 (v := (.ref t)) rfl rfl (pc' := 127) rfl ?_
  have f_20 := (f_13.keep K_16 (ninS e2 nin0))
  refine g_getfield C (host := "") (v := (.int (0 : Int32))) (Or.inl (own_w hw 38 rfl)) Via.refl f_20 d8_127 (pc' := 130) rfl ?_
  refine g_aload_n C d8_130 (v := (.ref t)) rfl rfl (pc' := 131) rfl ?_
  have f_21 := (((T_width.keep K_2 (ninS e0 nin0)).keep K_9 (ninS e1 nin0)).keep K_16 (ninS e2 nin0))
  refine g_getfield C (host := "") (v := (.int (0 : Int32))) (Or.inl (own_w hw 21 rfl)) Via.refl f_21 d8_131 (pc' := 134) rfl ?_
  refine g_imul C (x := (0 : Int32)) (y := (0 : Int32)) d8_134  (pc' := 135) rfl ?_
  refine Go.eqs (st2 := [(.int (0 : Int32)), (.ref bb), (.int (0 : Int32)), (.ref src)]) ?_ (by rfl)
  refine g_aload_n C d8_135 (v := (.ref t)) rfl rfl (pc' := 136) rfl ?_
  refine g_getfield C (host := "") (v := (.int (0 : Int32))) (Or.inl (own_w hw 21 rfl)) Via.refl f_21 d8_136 (pc' := 139) rfl ?_
  have f_22 := (((A_src.keep K_2 (ninS sn0 nin0)).keep K_9 (ninS sn1 nin0)).keep K_16 (ninS sn2 nin0))
  have f_23 := (((A_before.keep K_2 (ninS (Ne.symm d4) nin0)).keep K_9 (ninS (Ne.symm d8) nin0)).keep K_16 (ninS (Ne.symm d11) nin0))
  refine g_arraycopy C (own_w hw 34 rfl) (own_w hw 37 rfl) (own_w hw 35 rfl) (own_w hw 36 rfl) f_22 f_23 rfl (by simp [fits]) (by simp [fits]) (by decide) (by decide) (by decide) (spN := 0) (dpN := 0) (nnN := 0) (by decide) (by decide) (by decide) (show 0 + 0 ≤ 2 by decide) (show 0 + 0 ≤ 0 by decide) (out := []) rfl gg5 rfl (by decide) (W := 0) (Nat.le_of_eq rfl) (by decide) d8_139 (pc' := 142) rfl ?_
  intro h_24 K_25 f_26
  show Go B n0 _ h_24 0 0 142 #[.val (.ref t), .val (.ref src), .val (.int (0 : Int32)), .val (.ref e_WRITE), .val (.int i), .val (.long j), .second] []
  refine g_aload_n C d8_142 (v := (.ref t)) rfl rfl (pc' := 143) rfl ?_
  refine g_dup C d8_143 rfl (pc' := 144) rfl ?_
  have f_27 := (f_20.keep K_25 (ninS e5 nin0))
  refine g_getfield C (host := "") (v := (.int (0 : Int32))) (Or.inl (own_w hw 38 rfl)) Via.refl f_27 d8_144 (pc' := 147) rfl ?_
  refine g_iconst C d8_147 (v := (1 : Int32)) rfl (pc' := 148) rfl ?_
  refine g_iadd C (x := (0 : Int32)) (y := (1 : Int32)) d8_148  (pc' := 149) rfl ?_
  refine Go.eqs (st2 := [(.int (1 : Int32)), (.ref t)]) ?_ (by rfl)
  have f_28 := ((((E_t.keep K_2).keep K_9).keep K_16).keep K_25)
  refine g_putfield C (host := "") (v := (.int (1 : Int32))) (Or.inl (own_w hw 38 rfl)) Via.refl f_27 f_28 (Or.inl (own_w hw 39 rfl)) (own_w hw 2 rfl) (ty := .int) (by decide) rfl rfl gg6 d8_149 (pc' := 152) rfl ?_
  intro h_29 W_30
  have f_31 := f_27.same W_30
  refine g_return C rfl d8_152 (by decide) (by decide) ?_
  have f_32 := ((((f_4.keep K_9 (ninS d0 nin0)).keep K_16 (ninS d1 nin0)).keep K_25 (ninS d4 nin0)).keep (Keep.of_wr W_30) (nin1 (Ne.symm e0)))
  have f_33 := (((f_11.keep K_16 (ninS d5 nin0)).keep K_25 (ninS d8 nin0)).keep (Keep.of_wr W_30) (nin1 (Ne.symm e1)))
  have f_34 := ((f_18.keep K_25 (ninS d11 nin0)).keep (Keep.of_wr W_30) (nin1 (Ne.symm e2)))
  have f_35 := (((((A_start.keep K_2 (ninS (Ne.symm d2) nin0)).keep K_9 (ninS (Ne.symm d6) nin0)).keep K_16 (ninS (Ne.symm d9) nin0)).keep K_25 (ninS d13 nin0)).keep (Keep.of_wr W_30) (nin1 (Ne.symm e3)))
  have f_36 := (((((A_end.keep K_2 (ninS (Ne.symm d3) nin0)).keep K_9 (ninS (Ne.symm d7) nin0)).keep K_16 (ninS (Ne.symm d10) nin0)).keep K_25 (ninS d14 nin0)).keep (Keep.of_wr W_30) (nin1 (Ne.symm e4)))
  have f_37 := (f_26.keep (Keep.of_wr W_30) (nin1 (Ne.symm e5)))
  have f_38 := (f_28.wr W_30)
  have f_39 := (((((T_kinds.keep K_2 (ninS e0 nin0)).keep K_9 (ninS e1 nin0)).keep K_16 (ninS e2 nin0)).keep K_25 (ninS e5 nin0)).other W_30 (Or.inr (slot_ne (Or.inl (own_w hw 13 rfl)) (Or.inl (own_w hw 39 rfl)) (by decide) (t := (.array (.object "com/example/vestalia/vestalia/model/Step$Kind"))) (t' := .int) (by decide) (by decide))))
  have f_40 := ((((f_5.keep K_9 (ninS e1 nin0)).keep K_16 (ninS e2 nin0)).keep K_25 (ninS e5 nin0)).other W_30 (Or.inr (slot_ne (Or.inl (own_w hw 16 rfl)) (Or.inl (own_w hw 39 rfl)) (by decide) (t := (.array .int)) (t' := .int) (by decide) (by decide))))
  have f_41 := (((f_12.keep K_16 (ninS e2 nin0)).keep K_25 (ninS e5 nin0)).other W_30 (Or.inr (slot_ne (Or.inl (own_w hw 18 rfl)) (Or.inl (own_w hw 39 rfl)) (by decide) (t := (.array .long)) (t' := .int) (by decide) (by decide))))
  have f_42 := ((f_21.keep K_25 (ninS e5 nin0)).other W_30 (Or.inr (slot_ne (Or.inr (own_w hw 22 rfl)) (Or.inl (own_w hw 39 rfl)) (by decide) (t := .int) (t' := .int) (by decide) (by decide))))
  have f_43 := (((((T_start.keep K_2 (ninS e0 nin0)).keep K_9 (ninS e1 nin0)).keep K_16 (ninS e2 nin0)).keep K_25 (ninS e5 nin0)).other W_30 (Or.inr (slot_ne (Or.inr (own_w hw 24 rfl)) (Or.inl (own_w hw 39 rfl)) (by decide) (t := (.array .long)) (t' := .int) (by decide) (by decide))))
  have f_44 := (((((T_end.keep K_2 (ninS e0 nin0)).keep K_9 (ninS e1 nin0)).keep K_16 (ninS e2 nin0)).keep K_25 (ninS e5 nin0)).other W_30 (Or.inr (slot_ne (Or.inr (own_w hw 26 rfl)) (Or.inl (own_w hw 39 rfl)) (by decide) (t := (.array .long)) (t' := .int) (by decide) (by decide))))
  have f_45 := ((f_19.keep K_25 (ninS e5 nin0)).other W_30 (Or.inr (slot_ne (Or.inl (own_w hw 28 rfl)) (Or.inl (own_w hw 39 rfl)) (by decide) (t := (.array .long)) (t' := .int) (by decide) (by decide))))
  have f_46 := (((((T_whole.keep K_2 (ninS e0 nin0)).keep K_9 (ninS e1 nin0)).keep K_16 (ninS e2 nin0)).keep K_25 (ninS e5 nin0)).other W_30 (Or.inr (slot_ne (Or.inl (own_w hw 41 rfl)) (Or.inl (own_w hw 39 rfl)) (by decide) (t := .boolean) (t' := .int) (by decide) (by decide))))
  have f_47 := (((((T_written.keep K_2 (ninS e0 nin0)).keep K_9 (ninS e1 nin0)).keep K_16 (ninS e2 nin0)).keep K_25 (ninS e5 nin0)).other W_30 (Or.inr (slot_ne (Or.inl (own_w hw 20 rfl)) (Or.inl (own_w hw 39 rfl)) (by decide) (t := (.array .int)) (t' := .int) (by decide) (by decide))))
  exact ⟨rfl, ((((((Keep.refl h0 [t, bk, bs, bv, bb]).trans K_2 (allS (Or.inl (List.mem_of_getElem? (i := 1) rfl)) all0)).trans K_9 (allS (Or.inl (List.mem_of_getElem? (i := 2) rfl)) all0)).trans K_16 (allS (Or.inl (List.mem_of_getElem? (i := 3) rfl)) all0)).trans K_25 (allS (Or.inl (List.mem_of_getElem? (i := 4) rfl)) all0)).wr W_30 (Or.inl (List.mem_of_getElem? (i := 0) rfl))), ⟨f_38, f_39, f_40, f_41, f_42, f_43, f_44, f_45, f_31, f_46, ⟨r_w, f_47⟩, f_32, f_33, f_34, f_35, f_36, f_37⟩⟩
theorem own_pd_8_add : parseMethodDescriptor "([JILcom/example/vestalia/vestalia/model/Step$Kind;IJ)V" = some ⟨[(.array .long), .int, (.object "com/example/vestalia/vestalia/model/Step$Kind"), .int, .long], none⟩ := by decide +kernel
theorem d7_0 : decode prog_32_method_5_code 0 = .ok (.aload_n 0, 1) := by decide +kernel
theorem d7_1 : decode prog_32_method_5_code 1 = .ok (.aload_n 1, 1) := by decide +kernel
theorem d7_2 : decode prog_32_method_5_code 2 = .ok (.iconst 0, 1) := by decide +kernel
theorem d7_3 : decode prog_32_method_5_code 3 = .ok (.aload_n 2, 1) := by decide +kernel
theorem d7_4 : decode prog_32_method_5_code 4 = .ok (.iload_n 3, 1) := by decide +kernel
theorem d7_5 : decode prog_32_method_5_code 5 = .ok (.lload 4, 2) := by decide +kernel
theorem d7_7 : decode prog_32_method_5_code 7 = .ok (.invokevirtual 52, 3) := by decide +kernel
theorem d7_10 : decode prog_32_method_5_code 10 = .ok (.return_, 1) := by decide +kernel
set_option maxRecDepth 65536 in
set_option maxHeartbeats 40000000 in
theorem rm_add_0WRITE (l : Launch) (Z : State) (a0 : Array Value) (hw : ∀ d ∈ tables_1, d.before a0 Z = true) (n0 : Nat) (t bk bs bv st en' bb : Addr) (src : Addr) (wh i : Int32) (j : Int64) (x0 x1 : Int64) (le : List Value) (e_WRITE e_READ : Addr) (h0 : Heap) (Z0 : n0 ≤ h0.size) (tr : Tr Z h0 t bk bs bv st en' bb (0 : Int32) (0 : Int32) wh .null (0 : Int32) (0 : Int64) [] le []) (di : Dis bk bs bv st en' bb) (dt : t ≠ bk ∧ t ≠ bs ∧ t ≠ bv ∧ t ≠ st ∧ t ≠ en' ∧ t ≠ bb) (gg : n0 ≤ bk ∧ n0 ≤ bs ∧ n0 ≤ bv ∧ n0 ≤ st ∧ n0 ≤ en' ∧ n0 ≤ bb ∧ n0 ≤ t) (A_src : Ary Z h0 src .long [.long x0, .long x1]) (ns : src ≠ bk ∧ src ≠ bs ∧ src ≠ bv ∧ src ≠ st ∧ src ≠ en' ∧ src ≠ bb ∧ src ≠ t) (en : Ens Z e_WRITE e_READ) (O : Old Z n0 h0) :
    Met1 l Z (⟨"com/example/vestalia/vestalia/locks/StepTrace", "add", "([JLcom/example/vestalia/vestalia/model/Step$Kind;IJ)V"⟩ : MethodName) prog_32_method_5_code 6 none ({ frames := 2, cells := 0, slots := 0, locals := 36 } : Room) n0 #[(.ref t), (.ref src), (.ref e_WRITE), (.int i), (.long j)] h0 (fun v h => v = none ∧ Keep h0 h [t, bk, bs, bv, bb] ∧ Tr Z h t bk bs bv st en' bb (0 : Int32) (1 : Int32) wh (.ref e_WRITE) i j [] le []) := by
  refine met_of (plainFor_of_name own_pn_com_example_vestalia_vestalia_locks_StepTrace) (L0 := #[.val (.ref t), .val (.ref src), .val (.ref e_WRITE), .val (.int i), .val (.long j), .second]) (by first | (simp [argsToLocals, Value.category]; done) | rfl) ?_
  intro B C
  change Ctx B l _ _ "com/example/vestalia/vestalia/locks/StepTrace" "add" _ _ Z at C
  refine g_aload_n C d7_0 (v := (.ref t)) rfl rfl (pc' := 1) rfl ?_
  refine g_aload_n C d7_1 (v := (.ref src)) rfl rfl (pc' := 2) rfl ?_
  refine g_iconst C d7_2 (v := (0 : Int32)) rfl (pc' := 3) rfl ?_
  refine g_aload_n C d7_3 (v := (.ref e_WRITE)) rfl rfl (pc' := 4) rfl ?_
  refine g_iload_n C d7_4 (v := i) rfl (pc' := 5) rfl ?_
  refine g_lload C d7_5 (v := j) rfl (pc' := 7) rfl ?_
  refine g_private C (own_w hw 73 rfl) (own_w hw 74 rfl) (own_w hw 75 rfl) (own_w hw 2 rfl) (own_w hw 3 rfl) (own_w hw 76 rfl) (by decide) tr.1 (rm_add2_0WRITE l Z a0 hw n0 t bk bs bv st en' bb src wh i j x0 x1 le e_WRITE e_READ h0 Z0 tr di dt gg A_src ns en O) (st := []) [(.ref src), (.int (0 : Int32)), (.ref e_WRITE), (.int i), (.long j)] rfl rfl own_pd_8_add rfl rfl (by decide) (W := 0) (Nat.le_of_eq rfl) (by decide) (by decide) (by decide) d7_7 (pc' := 10) rfl ?_
  intro v_3 h_1 q_2
  obtain ⟨rfl, kk, tr2⟩ := q_2
  show Go B n0 _ h_1 0 0 10 #[.val (.ref t), .val (.ref src), .val (.ref e_WRITE), .val (.int i), .val (.long j), .second] []
  refine g_return C rfl d7_10 (by decide) (by decide) ?_
  exact ⟨rfl, kk, tr2⟩
set_option maxRecDepth 65536 in
set_option maxHeartbeats 40000000 in
theorem rm_add2_0READ (l : Launch) (Z : State) (a0 : Array Value) (hw : ∀ d ∈ tables_1, d.before a0 Z = true) (n0 : Nat) (t bk bs bv st en' bb : Addr) (src : Addr) (wh i : Int32) (j : Int64) (x0 x1 : Int64) (le : List Value) (e_WRITE e_READ : Addr) (h0 : Heap) (Z0 : n0 ≤ h0.size) (tr : Tr Z h0 t bk bs bv st en' bb (0 : Int32) (0 : Int32) wh .null (0 : Int32) (0 : Int64) [] le []) (di : Dis bk bs bv st en' bb) (dt : t ≠ bk ∧ t ≠ bs ∧ t ≠ bv ∧ t ≠ st ∧ t ≠ en' ∧ t ≠ bb) (gg : n0 ≤ bk ∧ n0 ≤ bs ∧ n0 ≤ bv ∧ n0 ≤ st ∧ n0 ≤ en' ∧ n0 ≤ bb ∧ n0 ≤ t) (A_src : Ary Z h0 src .long [.long x0, .long x1]) (ns : src ≠ bk ∧ src ≠ bs ∧ src ≠ bv ∧ src ≠ st ∧ src ≠ en' ∧ src ≠ bb ∧ src ≠ t) (en : Ens Z e_WRITE e_READ) (O : Old Z n0 h0) :
    Met1 l Z (⟨"com/example/vestalia/vestalia/locks/StepTrace", "add", "([JILcom/example/vestalia/vestalia/model/Step$Kind;IJ)V"⟩ : MethodName) prog_32_method_15_code 7 none ({ frames := 1, cells := 0, slots := 0, locals := 18 } : Room) n0 #[(.ref t), (.ref src), (.int (0 : Int32)), (.ref e_READ), (.int i), (.long j)] h0 (fun v h => v = none ∧ Keep h0 h [t, bk, bs, bv, bb] ∧ Tr Z h t bk bs bv st en' bb (0 : Int32) (1 : Int32) wh (.ref e_READ) i j [] le []) := by
  refine met_of (plainFor_of_name own_pn_com_example_vestalia_vestalia_locks_StepTrace) (L0 := #[.val (.ref t), .val (.ref src), .val (.int (0 : Int32)), .val (.ref e_READ), .val (.int i), .val (.long j), .second]) (by first | (simp [argsToLocals, Value.category]; done) | rfl) ?_
  intro B C
  change Ctx B l _ _ "com/example/vestalia/vestalia/locks/StepTrace" "add" _ _ Z at C
  have en' := en
  obtain ⟨⟨S_WRITE, X_WRITE, D_WRITE⟩, ⟨S_READ, X_READ, D_READ⟩⟩ := en'
  have tr' := tr
  obtain ⟨E_t, T_kinds, T_slots, T_values, T_width, T_start, T_end, T_before, T_length, T_whole, ⟨r_w, T_written⟩, A_kinds, A_slots, A_values, A_start, A_end, A_before⟩ := tr'
  have di' := di
  obtain ⟨d0, d1, d2, d3, d4, d5, d6, d7, d8, d9, d10, d11, d12, d13, d14⟩ := di'
  have dt' := dt
  obtain ⟨e0, e1, e2, e3, e4, e5⟩ := dt'
  have gg' := gg
  obtain ⟨gg0, gg1, gg2, gg3, gg4, gg5, gg6⟩ := gg'
  have ns' := ns
  obtain ⟨sn0, sn1, sn2, sn3, sn4, sn5, sn6⟩ := ns'
  refine g_aload_n C d8_0 (v := (.ref t)) rfl rfl (pc' := 1) rfl ?_
  refine g_getfield C (host := "") (v := (.int (0 : Int32))) (Or.inl (own_w hw 38 rfl)) Via.refl T_length d8_1 (pc' := 4) rfl ?_
  refine g_aload_n C d8_4 (v := (.ref t)) rfl rfl (pc' := 5) rfl ?_
  refine g_getfield C (host := "") (v := (.ref bk)) (Or.inl (own_w hw 12 rfl)) Via.refl T_kinds d8_5 (pc' := 8) rfl ?_
  refine g_arraylength C (AryR.ary A_kinds) (z := (8 : Int32)) rfl d8_8 (pc' := 9) rfl ?_
  refine g_icmp_y C d8_9 (Jvm.Free.XT.ii_ne_t (by decide)) (pc' := 88) (by decide) (by decide) ?_
  refine g_aload_n C d8_88 (v := (.ref t)) rfl rfl (pc' := 89) rfl ?_
  refine g_getfield C (host := "") (v := (.ref bk)) (Or.inl (own_w hw 12 rfl)) Via.refl T_kinds d8_89 (pc' := 92) rfl ?_
  refine g_aload_n C d8_92 (v := (.ref t)) rfl rfl (pc' := 93) rfl ?_
  refine g_getfield C (host := "") (v := (.int (0 : Int32))) (Or.inl (own_w hw 38 rfl)) Via.refl T_length d8_93 (pc' := 96) rfl ?_
  refine g_aload_n C d8_96 (v := (.ref e_READ)) rfl rfl (pc' := 97) rfl ?_
  refine g_aastore C A_kinds (Ins.self (X_READ.ext O.2)) (by decide) (i := 0) (by decide) (show 0 < 8 by decide) gg0 d8_97 (pc' := 98) rfl ?_
  intro h_1 K_2 A_3
  have f_4 : AryR Z h_1 bk "com/example/vestalia/vestalia/model/Step$Kind" [(.ref e_READ), .null, .null, .null, .null, .null, .null, .null] := A_3
  refine g_aload_n C d8_98 (v := (.ref t)) rfl rfl (pc' := 99) rfl ?_
  have f_5 := (T_slots.keep K_2 (ninS e0 nin0))
  refine g_getfield C (host := "") (v := (.ref bs)) (Or.inl (own_w hw 15 rfl)) Via.refl f_5 d8_99 (pc' := 102) rfl ?_
  refine g_aload_n C d8_102 (v := (.ref t)) rfl rfl (pc' := 103) rfl ?_
  have f_6 := (T_length.keep K_2 (ninS e0 nin0))
  refine g_getfield C (host := "") (v := (.int (0 : Int32))) (Or.inl (own_w hw 38 rfl)) Via.refl f_6 d8_103 (pc' := 106) rfl ?_
  refine g_iload C d8_106 (v := i) rfl (pc' := 108) rfl ?_
  have f_7 := (A_slots.keep K_2 (ninS (Ne.symm d0) nin0))
  refine g_iastore C f_7 (by decide) (i := 0) (by decide) (show 0 < 8 by decide) (w := (.int i)) rfl gg1 d8_108 (pc' := 109) rfl ?_
  intro h_8 K_9 A_10
  have f_11 : Ary Z h_8 bs .int [(.int i), (.int (0 : Int32)), (.int (0 : Int32)), (.int (0 : Int32)), (.int (0 : Int32)), (.int (0 : Int32)), (.int (0 : Int32)), (.int (0 : Int32))] := A_10
  refine g_aload_n C d8_109 (v := (.ref t)) rfl rfl (pc' := 110) rfl ?_
  have f_12 := ((T_values.keep K_2 (ninS e0 nin0)).keep K_9 (ninS e1 nin0))
  refine g_getfield C (host := "") (v := (.ref bv)) (Or.inl (own_w hw 17 rfl)) Via.refl f_12 d8_110 (pc' := 113) rfl ?_
  refine g_aload_n C d8_113 (v := (.ref t)) rfl rfl (pc' := 114) rfl ?_
  have f_13 := (f_6.keep K_9 (ninS e1 nin0))
  refine g_getfield C (host := "") (v := (.int (0 : Int32))) (Or.inl (own_w hw 38 rfl)) Via.refl f_13 d8_114 (pc' := 117) rfl ?_
  refine g_lload C d8_117 (v := j) rfl (pc' := 119) rfl ?_
  have f_14 := ((A_values.keep K_2 (ninS (Ne.symm d1) nin0)).keep K_9 (ninS (Ne.symm d5) nin0))
  refine g_lastore C f_14 (by decide) (i := 0) (by decide) (show 0 < 8 by decide) (w := (.long j)) rfl gg2 d8_119 (pc' := 120) rfl ?_
  intro h_15 K_16 A_17
  have f_18 : Ary Z h_15 bv .long [(.long j), (.long (0 : Int64)), (.long (0 : Int64)), (.long (0 : Int64)), (.long (0 : Int64)), (.long (0 : Int64)), (.long (0 : Int64)), (.long (0 : Int64))] := A_17
  refine g_aload_n C d8_120 (v := (.ref src)) rfl rfl (pc' := 121) rfl ?_
  refine g_iload_n C d8_121 (v := (0 : Int32)) rfl (pc' := 122) rfl ?_
  refine g_aload_n C d8_122 (v := (.ref t)) rfl rfl (pc' := 123) rfl ?_
  have f_19 := (((T_before.keep K_2 (ninS e0 nin0)).keep K_9 (ninS e1 nin0)).keep K_16 (ninS e2 nin0))
  refine g_getfield C (host := "") (v := (.ref bb)) (Or.inl (own_w hw 27 rfl)) Via.refl f_19 d8_123 (pc' := 126) rfl ?_
  refine g_aload_n C d8_126 (v := (.ref t)) rfl rfl (pc' := 127) rfl ?_
  have f_20 := (f_13.keep K_16 (ninS e2 nin0))
  refine g_getfield C (host := "") (v := (.int (0 : Int32))) (Or.inl (own_w hw 38 rfl)) Via.refl f_20 d8_127 (pc' := 130) rfl ?_
  refine g_aload_n C d8_130 (v := (.ref t)) rfl rfl (pc' := 131) rfl ?_
  have f_21 := (((T_width.keep K_2 (ninS e0 nin0)).keep K_9 (ninS e1 nin0)).keep K_16 (ninS e2 nin0))
  refine g_getfield C (host := "") (v := (.int (0 : Int32))) (Or.inl (own_w hw 21 rfl)) Via.refl f_21 d8_131 (pc' := 134) rfl ?_
  refine g_imul C (x := (0 : Int32)) (y := (0 : Int32)) d8_134  (pc' := 135) rfl ?_
  refine Go.eqs (st2 := [(.int (0 : Int32)), (.ref bb), (.int (0 : Int32)), (.ref src)]) ?_ (by rfl)
  refine g_aload_n C d8_135 (v := (.ref t)) rfl rfl (pc' := 136) rfl ?_
  refine g_getfield C (host := "") (v := (.int (0 : Int32))) (Or.inl (own_w hw 21 rfl)) Via.refl f_21 d8_136 (pc' := 139) rfl ?_
  have f_22 := (((A_src.keep K_2 (ninS sn0 nin0)).keep K_9 (ninS sn1 nin0)).keep K_16 (ninS sn2 nin0))
  have f_23 := (((A_before.keep K_2 (ninS (Ne.symm d4) nin0)).keep K_9 (ninS (Ne.symm d8) nin0)).keep K_16 (ninS (Ne.symm d11) nin0))
  refine g_arraycopy C (own_w hw 34 rfl) (own_w hw 37 rfl) (own_w hw 35 rfl) (own_w hw 36 rfl) f_22 f_23 rfl (by simp [fits]) (by simp [fits]) (by decide) (by decide) (by decide) (spN := 0) (dpN := 0) (nnN := 0) (by decide) (by decide) (by decide) (show 0 + 0 ≤ 2 by decide) (show 0 + 0 ≤ 0 by decide) (out := []) rfl gg5 rfl (by decide) (W := 0) (Nat.le_of_eq rfl) (by decide) d8_139 (pc' := 142) rfl ?_
  intro h_24 K_25 f_26
  show Go B n0 _ h_24 0 0 142 #[.val (.ref t), .val (.ref src), .val (.int (0 : Int32)), .val (.ref e_READ), .val (.int i), .val (.long j), .second] []
  refine g_aload_n C d8_142 (v := (.ref t)) rfl rfl (pc' := 143) rfl ?_
  refine g_dup C d8_143 rfl (pc' := 144) rfl ?_
  have f_27 := (f_20.keep K_25 (ninS e5 nin0))
  refine g_getfield C (host := "") (v := (.int (0 : Int32))) (Or.inl (own_w hw 38 rfl)) Via.refl f_27 d8_144 (pc' := 147) rfl ?_
  refine g_iconst C d8_147 (v := (1 : Int32)) rfl (pc' := 148) rfl ?_
  refine g_iadd C (x := (0 : Int32)) (y := (1 : Int32)) d8_148  (pc' := 149) rfl ?_
  refine Go.eqs (st2 := [(.int (1 : Int32)), (.ref t)]) ?_ (by rfl)
  have f_28 := ((((E_t.keep K_2).keep K_9).keep K_16).keep K_25)
  refine g_putfield C (host := "") (v := (.int (1 : Int32))) (Or.inl (own_w hw 38 rfl)) Via.refl f_27 f_28 (Or.inl (own_w hw 39 rfl)) (own_w hw 2 rfl) (ty := .int) (by decide) rfl rfl gg6 d8_149 (pc' := 152) rfl ?_
  intro h_29 W_30
  have f_31 := f_27.same W_30
  refine g_return C rfl d8_152 (by decide) (by decide) ?_
  have f_32 := ((((f_4.keep K_9 (ninS d0 nin0)).keep K_16 (ninS d1 nin0)).keep K_25 (ninS d4 nin0)).keep (Keep.of_wr W_30) (nin1 (Ne.symm e0)))
  have f_33 := (((f_11.keep K_16 (ninS d5 nin0)).keep K_25 (ninS d8 nin0)).keep (Keep.of_wr W_30) (nin1 (Ne.symm e1)))
  have f_34 := ((f_18.keep K_25 (ninS d11 nin0)).keep (Keep.of_wr W_30) (nin1 (Ne.symm e2)))
  have f_35 := (((((A_start.keep K_2 (ninS (Ne.symm d2) nin0)).keep K_9 (ninS (Ne.symm d6) nin0)).keep K_16 (ninS (Ne.symm d9) nin0)).keep K_25 (ninS d13 nin0)).keep (Keep.of_wr W_30) (nin1 (Ne.symm e3)))
  have f_36 := (((((A_end.keep K_2 (ninS (Ne.symm d3) nin0)).keep K_9 (ninS (Ne.symm d7) nin0)).keep K_16 (ninS (Ne.symm d10) nin0)).keep K_25 (ninS d14 nin0)).keep (Keep.of_wr W_30) (nin1 (Ne.symm e4)))
  have f_37 := (f_26.keep (Keep.of_wr W_30) (nin1 (Ne.symm e5)))
  have f_38 := (f_28.wr W_30)
  have f_39 := (((((T_kinds.keep K_2 (ninS e0 nin0)).keep K_9 (ninS e1 nin0)).keep K_16 (ninS e2 nin0)).keep K_25 (ninS e5 nin0)).other W_30 (Or.inr (slot_ne (Or.inl (own_w hw 13 rfl)) (Or.inl (own_w hw 39 rfl)) (by decide) (t := (.array (.object "com/example/vestalia/vestalia/model/Step$Kind"))) (t' := .int) (by decide) (by decide))))
  have f_40 := ((((f_5.keep K_9 (ninS e1 nin0)).keep K_16 (ninS e2 nin0)).keep K_25 (ninS e5 nin0)).other W_30 (Or.inr (slot_ne (Or.inl (own_w hw 16 rfl)) (Or.inl (own_w hw 39 rfl)) (by decide) (t := (.array .int)) (t' := .int) (by decide) (by decide))))
  have f_41 := (((f_12.keep K_16 (ninS e2 nin0)).keep K_25 (ninS e5 nin0)).other W_30 (Or.inr (slot_ne (Or.inl (own_w hw 18 rfl)) (Or.inl (own_w hw 39 rfl)) (by decide) (t := (.array .long)) (t' := .int) (by decide) (by decide))))
  have f_42 := ((f_21.keep K_25 (ninS e5 nin0)).other W_30 (Or.inr (slot_ne (Or.inr (own_w hw 22 rfl)) (Or.inl (own_w hw 39 rfl)) (by decide) (t := .int) (t' := .int) (by decide) (by decide))))
  have f_43 := (((((T_start.keep K_2 (ninS e0 nin0)).keep K_9 (ninS e1 nin0)).keep K_16 (ninS e2 nin0)).keep K_25 (ninS e5 nin0)).other W_30 (Or.inr (slot_ne (Or.inr (own_w hw 24 rfl)) (Or.inl (own_w hw 39 rfl)) (by decide) (t := (.array .long)) (t' := .int) (by decide) (by decide))))
  have f_44 := (((((T_end.keep K_2 (ninS e0 nin0)).keep K_9 (ninS e1 nin0)).keep K_16 (ninS e2 nin0)).keep K_25 (ninS e5 nin0)).other W_30 (Or.inr (slot_ne (Or.inr (own_w hw 26 rfl)) (Or.inl (own_w hw 39 rfl)) (by decide) (t := (.array .long)) (t' := .int) (by decide) (by decide))))
  have f_45 := ((f_19.keep K_25 (ninS e5 nin0)).other W_30 (Or.inr (slot_ne (Or.inl (own_w hw 28 rfl)) (Or.inl (own_w hw 39 rfl)) (by decide) (t := (.array .long)) (t' := .int) (by decide) (by decide))))
  have f_46 := (((((T_whole.keep K_2 (ninS e0 nin0)).keep K_9 (ninS e1 nin0)).keep K_16 (ninS e2 nin0)).keep K_25 (ninS e5 nin0)).other W_30 (Or.inr (slot_ne (Or.inl (own_w hw 41 rfl)) (Or.inl (own_w hw 39 rfl)) (by decide) (t := .boolean) (t' := .int) (by decide) (by decide))))
  have f_47 := (((((T_written.keep K_2 (ninS e0 nin0)).keep K_9 (ninS e1 nin0)).keep K_16 (ninS e2 nin0)).keep K_25 (ninS e5 nin0)).other W_30 (Or.inr (slot_ne (Or.inl (own_w hw 20 rfl)) (Or.inl (own_w hw 39 rfl)) (by decide) (t := (.array .int)) (t' := .int) (by decide) (by decide))))
  exact ⟨rfl, ((((((Keep.refl h0 [t, bk, bs, bv, bb]).trans K_2 (allS (Or.inl (List.mem_of_getElem? (i := 1) rfl)) all0)).trans K_9 (allS (Or.inl (List.mem_of_getElem? (i := 2) rfl)) all0)).trans K_16 (allS (Or.inl (List.mem_of_getElem? (i := 3) rfl)) all0)).trans K_25 (allS (Or.inl (List.mem_of_getElem? (i := 4) rfl)) all0)).wr W_30 (Or.inl (List.mem_of_getElem? (i := 0) rfl))), ⟨f_38, f_39, f_40, f_41, f_42, f_43, f_44, f_45, f_31, f_46, ⟨r_w, f_47⟩, f_32, f_33, f_34, f_35, f_36, f_37⟩⟩
set_option maxRecDepth 65536 in
set_option maxHeartbeats 40000000 in
theorem rm_add_0READ (l : Launch) (Z : State) (a0 : Array Value) (hw : ∀ d ∈ tables_1, d.before a0 Z = true) (n0 : Nat) (t bk bs bv st en' bb : Addr) (src : Addr) (wh i : Int32) (j : Int64) (x0 x1 : Int64) (le : List Value) (e_WRITE e_READ : Addr) (h0 : Heap) (Z0 : n0 ≤ h0.size) (tr : Tr Z h0 t bk bs bv st en' bb (0 : Int32) (0 : Int32) wh .null (0 : Int32) (0 : Int64) [] le []) (di : Dis bk bs bv st en' bb) (dt : t ≠ bk ∧ t ≠ bs ∧ t ≠ bv ∧ t ≠ st ∧ t ≠ en' ∧ t ≠ bb) (gg : n0 ≤ bk ∧ n0 ≤ bs ∧ n0 ≤ bv ∧ n0 ≤ st ∧ n0 ≤ en' ∧ n0 ≤ bb ∧ n0 ≤ t) (A_src : Ary Z h0 src .long [.long x0, .long x1]) (ns : src ≠ bk ∧ src ≠ bs ∧ src ≠ bv ∧ src ≠ st ∧ src ≠ en' ∧ src ≠ bb ∧ src ≠ t) (en : Ens Z e_WRITE e_READ) (O : Old Z n0 h0) :
    Met1 l Z (⟨"com/example/vestalia/vestalia/locks/StepTrace", "add", "([JLcom/example/vestalia/vestalia/model/Step$Kind;IJ)V"⟩ : MethodName) prog_32_method_5_code 6 none ({ frames := 2, cells := 0, slots := 0, locals := 36 } : Room) n0 #[(.ref t), (.ref src), (.ref e_READ), (.int i), (.long j)] h0 (fun v h => v = none ∧ Keep h0 h [t, bk, bs, bv, bb] ∧ Tr Z h t bk bs bv st en' bb (0 : Int32) (1 : Int32) wh (.ref e_READ) i j [] le []) := by
  refine met_of (plainFor_of_name own_pn_com_example_vestalia_vestalia_locks_StepTrace) (L0 := #[.val (.ref t), .val (.ref src), .val (.ref e_READ), .val (.int i), .val (.long j), .second]) (by first | (simp [argsToLocals, Value.category]; done) | rfl) ?_
  intro B C
  change Ctx B l _ _ "com/example/vestalia/vestalia/locks/StepTrace" "add" _ _ Z at C
  refine g_aload_n C d7_0 (v := (.ref t)) rfl rfl (pc' := 1) rfl ?_
  refine g_aload_n C d7_1 (v := (.ref src)) rfl rfl (pc' := 2) rfl ?_
  refine g_iconst C d7_2 (v := (0 : Int32)) rfl (pc' := 3) rfl ?_
  refine g_aload_n C d7_3 (v := (.ref e_READ)) rfl rfl (pc' := 4) rfl ?_
  refine g_iload_n C d7_4 (v := i) rfl (pc' := 5) rfl ?_
  refine g_lload C d7_5 (v := j) rfl (pc' := 7) rfl ?_
  refine g_private C (own_w hw 73 rfl) (own_w hw 74 rfl) (own_w hw 75 rfl) (own_w hw 2 rfl) (own_w hw 3 rfl) (own_w hw 76 rfl) (by decide) tr.1 (rm_add2_0READ l Z a0 hw n0 t bk bs bv st en' bb src wh i j x0 x1 le e_WRITE e_READ h0 Z0 tr di dt gg A_src ns en O) (st := []) [(.ref src), (.int (0 : Int32)), (.ref e_READ), (.int i), (.long j)] rfl rfl own_pd_8_add rfl rfl (by decide) (W := 0) (Nat.le_of_eq rfl) (by decide) (by decide) (by decide) d7_7 (pc' := 10) rfl ?_
  intro v_3 h_1 q_2
  obtain ⟨rfl, kk, tr2⟩ := q_2
  show Go B n0 _ h_1 0 0 10 #[.val (.ref t), .val (.ref src), .val (.ref e_READ), .val (.int i), .val (.long j), .second] []
  refine g_return C rfl d7_10 (by decide) (by decide) ?_
  exact ⟨rfl, kk, tr2⟩
set_option maxRecDepth 65536 in
set_option maxHeartbeats 40000000 in
theorem rm_add2_1WRITE (l : Launch) (Z : State) (a0 : Array Value) (hw : ∀ d ∈ tables_1, d.before a0 Z = true) (n0 : Nat) (t bk bs bv st en' bb : Addr) (src : Addr) (wh i : Int32) (j : Int64) (x0 x1 y0 : Int64) (le : List Value) (e_WRITE e_READ : Addr) (h0 : Heap) (Z0 : n0 ≤ h0.size) (tr : Tr Z h0 t bk bs bv st en' bb (1 : Int32) (0 : Int32) wh .null (0 : Int32) (0 : Int64) [(.long y0)] le [(.long (0 : Int64)), (.long (0 : Int64)), (.long (0 : Int64)), (.long (0 : Int64)), (.long (0 : Int64)), (.long (0 : Int64)), (.long (0 : Int64)), (.long (0 : Int64))]) (di : Dis bk bs bv st en' bb) (dt : t ≠ bk ∧ t ≠ bs ∧ t ≠ bv ∧ t ≠ st ∧ t ≠ en' ∧ t ≠ bb) (gg : n0 ≤ bk ∧ n0 ≤ bs ∧ n0 ≤ bv ∧ n0 ≤ st ∧ n0 ≤ en' ∧ n0 ≤ bb ∧ n0 ≤ t) (A_src : Ary Z h0 src .long [.long x0, .long x1]) (ns : src ≠ bk ∧ src ≠ bs ∧ src ≠ bv ∧ src ≠ st ∧ src ≠ en' ∧ src ≠ bb ∧ src ≠ t) (en : Ens Z e_WRITE e_READ) (O : Old Z n0 h0) :
    Met1 l Z (⟨"com/example/vestalia/vestalia/locks/StepTrace", "add", "([JILcom/example/vestalia/vestalia/model/Step$Kind;IJ)V"⟩ : MethodName) prog_32_method_15_code 7 none ({ frames := 1, cells := 0, slots := 0, locals := 18 } : Room) n0 #[(.ref t), (.ref src), (.int (0 : Int32)), (.ref e_WRITE), (.int i), (.long j)] h0 (fun v h => v = none ∧ Keep h0 h [t, bk, bs, bv, bb] ∧ Tr Z h t bk bs bv st en' bb (1 : Int32) (1 : Int32) wh (.ref e_WRITE) i j [(.long y0)] le [(.long x0), (.long (0 : Int64)), (.long (0 : Int64)), (.long (0 : Int64)), (.long (0 : Int64)), (.long (0 : Int64)), (.long (0 : Int64)), (.long (0 : Int64))]) := by
  refine met_of (plainFor_of_name own_pn_com_example_vestalia_vestalia_locks_StepTrace) (L0 := #[.val (.ref t), .val (.ref src), .val (.int (0 : Int32)), .val (.ref e_WRITE), .val (.int i), .val (.long j), .second]) (by first | (simp [argsToLocals, Value.category]; done) | rfl) ?_
  intro B C
  change Ctx B l _ _ "com/example/vestalia/vestalia/locks/StepTrace" "add" _ _ Z at C
  have en' := en
  obtain ⟨⟨S_WRITE, X_WRITE, D_WRITE⟩, ⟨S_READ, X_READ, D_READ⟩⟩ := en'
  have tr' := tr
  obtain ⟨E_t, T_kinds, T_slots, T_values, T_width, T_start, T_end, T_before, T_length, T_whole, ⟨r_w, T_written⟩, A_kinds, A_slots, A_values, A_start, A_end, A_before⟩ := tr'
  have di' := di
  obtain ⟨d0, d1, d2, d3, d4, d5, d6, d7, d8, d9, d10, d11, d12, d13, d14⟩ := di'
  have dt' := dt
  obtain ⟨e0, e1, e2, e3, e4, e5⟩ := dt'
  have gg' := gg
  obtain ⟨gg0, gg1, gg2, gg3, gg4, gg5, gg6⟩ := gg'
  have ns' := ns
  obtain ⟨sn0, sn1, sn2, sn3, sn4, sn5, sn6⟩ := ns'
  refine g_aload_n C d8_0 (v := (.ref t)) rfl rfl (pc' := 1) rfl ?_
  refine g_getfield C (host := "") (v := (.int (0 : Int32))) (Or.inl (own_w hw 38 rfl)) Via.refl T_length d8_1 (pc' := 4) rfl ?_
  refine g_aload_n C d8_4 (v := (.ref t)) rfl rfl (pc' := 5) rfl ?_
  refine g_getfield C (host := "") (v := (.ref bk)) (Or.inl (own_w hw 12 rfl)) Via.refl T_kinds d8_5 (pc' := 8) rfl ?_
  refine g_arraylength C (AryR.ary A_kinds) (z := (8 : Int32)) rfl d8_8 (pc' := 9) rfl ?_
  refine g_icmp_y C d8_9 (Jvm.Free.XT.ii_ne_t (by decide)) (pc' := 88) (by decide) (by decide) ?_
  refine g_aload_n C d8_88 (v := (.ref t)) rfl rfl (pc' := 89) rfl ?_
  refine g_getfield C (host := "") (v := (.ref bk)) (Or.inl (own_w hw 12 rfl)) Via.refl T_kinds d8_89 (pc' := 92) rfl ?_
  refine g_aload_n C d8_92 (v := (.ref t)) rfl rfl (pc' := 93) rfl ?_
  refine g_getfield C (host := "") (v := (.int (0 : Int32))) (Or.inl (own_w hw 38 rfl)) Via.refl T_length d8_93 (pc' := 96) rfl ?_
  refine g_aload_n C d8_96 (v := (.ref e_WRITE)) rfl rfl (pc' := 97) rfl ?_
  refine g_aastore C A_kinds (Ins.self (X_WRITE.ext O.2)) (by decide) (i := 0) (by decide) (show 0 < 8 by decide) gg0 d8_97 (pc' := 98) rfl ?_
  intro h_1 K_2 A_3
  have f_4 : AryR Z h_1 bk "com/example/vestalia/vestalia/model/Step$Kind" [(.ref e_WRITE), .null, .null, .null, .null, .null, .null, .null] := A_3
  refine g_aload_n C d8_98 (v := (.ref t)) rfl rfl (pc' := 99) rfl ?_
  have f_5 := (T_slots.keep K_2 (ninS e0 nin0))
  refine g_getfield C (host := "") (v := (.ref bs)) (Or.inl (own_w hw 15 rfl)) Via.refl f_5 d8_99 (pc' := 102) rfl ?_
  refine g_aload_n C d8_102 (v := (.ref t)) rfl rfl (pc' := 103) rfl ?_
  have f_6 := (T_length.keep K_2 (ninS e0 nin0))
  refine g_getfield C (host := "") (v := (.int (0 : Int32))) (Or.inl (own_w hw 38 rfl)) Via.refl f_6 d8_103 (pc' := 106) rfl ?_
  refine g_iload C d8_106 (v := i) rfl (pc' := 108) rfl ?_
  have f_7 := (A_slots.keep K_2 (ninS (Ne.symm d0) nin0))
  refine g_iastore C f_7 (by decide) (i := 0) (by decide) (show 0 < 8 by decide) (w := (.int i)) rfl gg1 d8_108 (pc' := 109) rfl ?_
  intro h_8 K_9 A_10
  have f_11 : Ary Z h_8 bs .int [(.int i), (.int (0 : Int32)), (.int (0 : Int32)), (.int (0 : Int32)), (.int (0 : Int32)), (.int (0 : Int32)), (.int (0 : Int32)), (.int (0 : Int32))] := A_10
  refine g_aload_n C d8_109 (v := (.ref t)) rfl rfl (pc' := 110) rfl ?_
  have f_12 := ((T_values.keep K_2 (ninS e0 nin0)).keep K_9 (ninS e1 nin0))
  refine g_getfield C (host := "") (v := (.ref bv)) (Or.inl (own_w hw 17 rfl)) Via.refl f_12 d8_110 (pc' := 113) rfl ?_
  refine g_aload_n C d8_113 (v := (.ref t)) rfl rfl (pc' := 114) rfl ?_
  have f_13 := (f_6.keep K_9 (ninS e1 nin0))
  refine g_getfield C (host := "") (v := (.int (0 : Int32))) (Or.inl (own_w hw 38 rfl)) Via.refl f_13 d8_114 (pc' := 117) rfl ?_
  refine g_lload C d8_117 (v := j) rfl (pc' := 119) rfl ?_
  have f_14 := ((A_values.keep K_2 (ninS (Ne.symm d1) nin0)).keep K_9 (ninS (Ne.symm d5) nin0))
  refine g_lastore C f_14 (by decide) (i := 0) (by decide) (show 0 < 8 by decide) (w := (.long j)) rfl gg2 d8_119 (pc' := 120) rfl ?_
  intro h_15 K_16 A_17
  have f_18 : Ary Z h_15 bv .long [(.long j), (.long (0 : Int64)), (.long (0 : Int64)), (.long (0 : Int64)), (.long (0 : Int64)), (.long (0 : Int64)), (.long (0 : Int64)), (.long (0 : Int64))] := A_17
  refine g_aload_n C d8_120 (v := (.ref src)) rfl rfl (pc' := 121) rfl ?_
  refine g_iload_n C d8_121 (v := (0 : Int32)) rfl (pc' := 122) rfl ?_
  refine g_aload_n C d8_122 (v := (.ref t)) rfl rfl (pc' := 123) rfl ?_
  have f_19 := (((T_before.keep K_2 (ninS e0 nin0)).keep K_9 (ninS e1 nin0)).keep K_16 (ninS e2 nin0))
  refine g_getfield C (host := "") (v := (.ref bb)) (Or.inl (own_w hw 27 rfl)) Via.refl f_19 d8_123 (pc' := 126) rfl ?_
  refine g_aload_n C d8_126 (v := (.ref t)) rfl rfl (pc' := 127) rfl ?_
  have f_20 := (f_13.keep K_16 (ninS e2 nin0))
  refine g_getfield C (host := "") (v := (.int (0 : Int32))) (Or.inl (own_w hw 38 rfl)) Via.refl f_20 d8_127 (pc' := 130) rfl ?_
  refine g_aload_n C d8_130 (v := (.ref t)) rfl rfl (pc' := 131) rfl ?_
  have f_21 := (((T_width.keep K_2 (ninS e0 nin0)).keep K_9 (ninS e1 nin0)).keep K_16 (ninS e2 nin0))
  refine g_getfield C (host := "") (v := (.int (1 : Int32))) (Or.inl (own_w hw 21 rfl)) Via.refl f_21 d8_131 (pc' := 134) rfl ?_
  refine g_imul C (x := (0 : Int32)) (y := (1 : Int32)) d8_134  (pc' := 135) rfl ?_
  refine Go.eqs (st2 := [(.int (0 : Int32)), (.ref bb), (.int (0 : Int32)), (.ref src)]) ?_ (by rfl)
  refine g_aload_n C d8_135 (v := (.ref t)) rfl rfl (pc' := 136) rfl ?_
  refine g_getfield C (host := "") (v := (.int (1 : Int32))) (Or.inl (own_w hw 21 rfl)) Via.refl f_21 d8_136 (pc' := 139) rfl ?_
  have f_22 := (((A_src.keep K_2 (ninS sn0 nin0)).keep K_9 (ninS sn1 nin0)).keep K_16 (ninS sn2 nin0))
  have f_23 := (((A_before.keep K_2 (ninS (Ne.symm d4) nin0)).keep K_9 (ninS (Ne.symm d8) nin0)).keep K_16 (ninS (Ne.symm d11) nin0))
  refine g_arraycopy C (own_w hw 34 rfl) (own_w hw 37 rfl) (own_w hw 35 rfl) (own_w hw 36 rfl) f_22 f_23 rfl (by simp [fits]) (by simp [fits]) (by decide) (by decide) (by decide) (spN := 0) (dpN := 0) (nnN := 1) (by decide) (by decide) (by decide) (show 0 + 1 ≤ 2 by decide) (show 0 + 1 ≤ 8 by decide) (out := [(.long x0), (.long (0 : Int64)), (.long (0 : Int64)), (.long (0 : Int64)), (.long (0 : Int64)), (.long (0 : Int64)), (.long (0 : Int64)), (.long (0 : Int64))]) rfl gg5 rfl (by decide) (W := 0) (Nat.le_of_eq rfl) (by decide) d8_139 (pc' := 142) rfl ?_
  intro h_24 K_25 f_26
  show Go B n0 _ h_24 0 0 142 #[.val (.ref t), .val (.ref src), .val (.int (0 : Int32)), .val (.ref e_WRITE), .val (.int i), .val (.long j), .second] []
  refine g_aload_n C d8_142 (v := (.ref t)) rfl rfl (pc' := 143) rfl ?_
  refine g_dup C d8_143 rfl (pc' := 144) rfl ?_
  have f_27 := (f_20.keep K_25 (ninS e5 nin0))
  refine g_getfield C (host := "") (v := (.int (0 : Int32))) (Or.inl (own_w hw 38 rfl)) Via.refl f_27 d8_144 (pc' := 147) rfl ?_
  refine g_iconst C d8_147 (v := (1 : Int32)) rfl (pc' := 148) rfl ?_
  refine g_iadd C (x := (0 : Int32)) (y := (1 : Int32)) d8_148  (pc' := 149) rfl ?_
  refine Go.eqs (st2 := [(.int (1 : Int32)), (.ref t)]) ?_ (by rfl)
  have f_28 := ((((E_t.keep K_2).keep K_9).keep K_16).keep K_25)
  refine g_putfield C (host := "") (v := (.int (1 : Int32))) (Or.inl (own_w hw 38 rfl)) Via.refl f_27 f_28 (Or.inl (own_w hw 39 rfl)) (own_w hw 2 rfl) (ty := .int) (by decide) rfl rfl gg6 d8_149 (pc' := 152) rfl ?_
  intro h_29 W_30
  have f_31 := f_27.same W_30
  refine g_return C rfl d8_152 (by decide) (by decide) ?_
  have f_32 := ((((f_4.keep K_9 (ninS d0 nin0)).keep K_16 (ninS d1 nin0)).keep K_25 (ninS d4 nin0)).keep (Keep.of_wr W_30) (nin1 (Ne.symm e0)))
  have f_33 := (((f_11.keep K_16 (ninS d5 nin0)).keep K_25 (ninS d8 nin0)).keep (Keep.of_wr W_30) (nin1 (Ne.symm e1)))
  have f_34 := ((f_18.keep K_25 (ninS d11 nin0)).keep (Keep.of_wr W_30) (nin1 (Ne.symm e2)))
  have f_35 := (((((A_start.keep K_2 (ninS (Ne.symm d2) nin0)).keep K_9 (ninS (Ne.symm d6) nin0)).keep K_16 (ninS (Ne.symm d9) nin0)).keep K_25 (ninS d13 nin0)).keep (Keep.of_wr W_30) (nin1 (Ne.symm e3)))
  have f_36 := (((((A_end.keep K_2 (ninS (Ne.symm d3) nin0)).keep K_9 (ninS (Ne.symm d7) nin0)).keep K_16 (ninS (Ne.symm d10) nin0)).keep K_25 (ninS d14 nin0)).keep (Keep.of_wr W_30) (nin1 (Ne.symm e4)))
  have f_37 := (f_26.keep (Keep.of_wr W_30) (nin1 (Ne.symm e5)))
  have f_38 := (f_28.wr W_30)
  have f_39 := (((((T_kinds.keep K_2 (ninS e0 nin0)).keep K_9 (ninS e1 nin0)).keep K_16 (ninS e2 nin0)).keep K_25 (ninS e5 nin0)).other W_30 (Or.inr (slot_ne (Or.inl (own_w hw 13 rfl)) (Or.inl (own_w hw 39 rfl)) (by decide) (t := (.array (.object "com/example/vestalia/vestalia/model/Step$Kind"))) (t' := .int) (by decide) (by decide))))
  have f_40 := ((((f_5.keep K_9 (ninS e1 nin0)).keep K_16 (ninS e2 nin0)).keep K_25 (ninS e5 nin0)).other W_30 (Or.inr (slot_ne (Or.inl (own_w hw 16 rfl)) (Or.inl (own_w hw 39 rfl)) (by decide) (t := (.array .int)) (t' := .int) (by decide) (by decide))))
  have f_41 := (((f_12.keep K_16 (ninS e2 nin0)).keep K_25 (ninS e5 nin0)).other W_30 (Or.inr (slot_ne (Or.inl (own_w hw 18 rfl)) (Or.inl (own_w hw 39 rfl)) (by decide) (t := (.array .long)) (t' := .int) (by decide) (by decide))))
  have f_42 := ((f_21.keep K_25 (ninS e5 nin0)).other W_30 (Or.inr (slot_ne (Or.inr (own_w hw 22 rfl)) (Or.inl (own_w hw 39 rfl)) (by decide) (t := .int) (t' := .int) (by decide) (by decide))))
  have f_43 := (((((T_start.keep K_2 (ninS e0 nin0)).keep K_9 (ninS e1 nin0)).keep K_16 (ninS e2 nin0)).keep K_25 (ninS e5 nin0)).other W_30 (Or.inr (slot_ne (Or.inr (own_w hw 24 rfl)) (Or.inl (own_w hw 39 rfl)) (by decide) (t := (.array .long)) (t' := .int) (by decide) (by decide))))
  have f_44 := (((((T_end.keep K_2 (ninS e0 nin0)).keep K_9 (ninS e1 nin0)).keep K_16 (ninS e2 nin0)).keep K_25 (ninS e5 nin0)).other W_30 (Or.inr (slot_ne (Or.inr (own_w hw 26 rfl)) (Or.inl (own_w hw 39 rfl)) (by decide) (t := (.array .long)) (t' := .int) (by decide) (by decide))))
  have f_45 := ((f_19.keep K_25 (ninS e5 nin0)).other W_30 (Or.inr (slot_ne (Or.inl (own_w hw 28 rfl)) (Or.inl (own_w hw 39 rfl)) (by decide) (t := (.array .long)) (t' := .int) (by decide) (by decide))))
  have f_46 := (((((T_whole.keep K_2 (ninS e0 nin0)).keep K_9 (ninS e1 nin0)).keep K_16 (ninS e2 nin0)).keep K_25 (ninS e5 nin0)).other W_30 (Or.inr (slot_ne (Or.inl (own_w hw 41 rfl)) (Or.inl (own_w hw 39 rfl)) (by decide) (t := .boolean) (t' := .int) (by decide) (by decide))))
  have f_47 := (((((T_written.keep K_2 (ninS e0 nin0)).keep K_9 (ninS e1 nin0)).keep K_16 (ninS e2 nin0)).keep K_25 (ninS e5 nin0)).other W_30 (Or.inr (slot_ne (Or.inl (own_w hw 20 rfl)) (Or.inl (own_w hw 39 rfl)) (by decide) (t := (.array .int)) (t' := .int) (by decide) (by decide))))
  exact ⟨rfl, ((((((Keep.refl h0 [t, bk, bs, bv, bb]).trans K_2 (allS (Or.inl (List.mem_of_getElem? (i := 1) rfl)) all0)).trans K_9 (allS (Or.inl (List.mem_of_getElem? (i := 2) rfl)) all0)).trans K_16 (allS (Or.inl (List.mem_of_getElem? (i := 3) rfl)) all0)).trans K_25 (allS (Or.inl (List.mem_of_getElem? (i := 4) rfl)) all0)).wr W_30 (Or.inl (List.mem_of_getElem? (i := 0) rfl))), ⟨f_38, f_39, f_40, f_41, f_42, f_43, f_44, f_45, f_31, f_46, ⟨r_w, f_47⟩, f_32, f_33, f_34, f_35, f_36, f_37⟩⟩
set_option maxRecDepth 65536 in
set_option maxHeartbeats 40000000 in
theorem rm_add_1WRITE (l : Launch) (Z : State) (a0 : Array Value) (hw : ∀ d ∈ tables_1, d.before a0 Z = true) (n0 : Nat) (t bk bs bv st en' bb : Addr) (src : Addr) (wh i : Int32) (j : Int64) (x0 x1 y0 : Int64) (le : List Value) (e_WRITE e_READ : Addr) (h0 : Heap) (Z0 : n0 ≤ h0.size) (tr : Tr Z h0 t bk bs bv st en' bb (1 : Int32) (0 : Int32) wh .null (0 : Int32) (0 : Int64) [(.long y0)] le [(.long (0 : Int64)), (.long (0 : Int64)), (.long (0 : Int64)), (.long (0 : Int64)), (.long (0 : Int64)), (.long (0 : Int64)), (.long (0 : Int64)), (.long (0 : Int64))]) (di : Dis bk bs bv st en' bb) (dt : t ≠ bk ∧ t ≠ bs ∧ t ≠ bv ∧ t ≠ st ∧ t ≠ en' ∧ t ≠ bb) (gg : n0 ≤ bk ∧ n0 ≤ bs ∧ n0 ≤ bv ∧ n0 ≤ st ∧ n0 ≤ en' ∧ n0 ≤ bb ∧ n0 ≤ t) (A_src : Ary Z h0 src .long [.long x0, .long x1]) (ns : src ≠ bk ∧ src ≠ bs ∧ src ≠ bv ∧ src ≠ st ∧ src ≠ en' ∧ src ≠ bb ∧ src ≠ t) (en : Ens Z e_WRITE e_READ) (O : Old Z n0 h0) :
    Met1 l Z (⟨"com/example/vestalia/vestalia/locks/StepTrace", "add", "([JLcom/example/vestalia/vestalia/model/Step$Kind;IJ)V"⟩ : MethodName) prog_32_method_5_code 6 none ({ frames := 2, cells := 0, slots := 0, locals := 36 } : Room) n0 #[(.ref t), (.ref src), (.ref e_WRITE), (.int i), (.long j)] h0 (fun v h => v = none ∧ Keep h0 h [t, bk, bs, bv, bb] ∧ Tr Z h t bk bs bv st en' bb (1 : Int32) (1 : Int32) wh (.ref e_WRITE) i j [(.long y0)] le [(.long x0), (.long (0 : Int64)), (.long (0 : Int64)), (.long (0 : Int64)), (.long (0 : Int64)), (.long (0 : Int64)), (.long (0 : Int64)), (.long (0 : Int64))]) := by
  refine met_of (plainFor_of_name own_pn_com_example_vestalia_vestalia_locks_StepTrace) (L0 := #[.val (.ref t), .val (.ref src), .val (.ref e_WRITE), .val (.int i), .val (.long j), .second]) (by first | (simp [argsToLocals, Value.category]; done) | rfl) ?_
  intro B C
  change Ctx B l _ _ "com/example/vestalia/vestalia/locks/StepTrace" "add" _ _ Z at C
  refine g_aload_n C d7_0 (v := (.ref t)) rfl rfl (pc' := 1) rfl ?_
  refine g_aload_n C d7_1 (v := (.ref src)) rfl rfl (pc' := 2) rfl ?_
  refine g_iconst C d7_2 (v := (0 : Int32)) rfl (pc' := 3) rfl ?_
  refine g_aload_n C d7_3 (v := (.ref e_WRITE)) rfl rfl (pc' := 4) rfl ?_
  refine g_iload_n C d7_4 (v := i) rfl (pc' := 5) rfl ?_
  refine g_lload C d7_5 (v := j) rfl (pc' := 7) rfl ?_
  refine g_private C (own_w hw 73 rfl) (own_w hw 74 rfl) (own_w hw 75 rfl) (own_w hw 2 rfl) (own_w hw 3 rfl) (own_w hw 76 rfl) (by decide) tr.1 (rm_add2_1WRITE l Z a0 hw n0 t bk bs bv st en' bb src wh i j x0 x1 y0 le e_WRITE e_READ h0 Z0 tr di dt gg A_src ns en O) (st := []) [(.ref src), (.int (0 : Int32)), (.ref e_WRITE), (.int i), (.long j)] rfl rfl own_pd_8_add rfl rfl (by decide) (W := 0) (Nat.le_of_eq rfl) (by decide) (by decide) (by decide) d7_7 (pc' := 10) rfl ?_
  intro v_3 h_1 q_2
  obtain ⟨rfl, kk, tr2⟩ := q_2
  show Go B n0 _ h_1 0 0 10 #[.val (.ref t), .val (.ref src), .val (.ref e_WRITE), .val (.int i), .val (.long j), .second] []
  refine g_return C rfl d7_10 (by decide) (by decide) ?_
  exact ⟨rfl, kk, tr2⟩
set_option maxRecDepth 65536 in
set_option maxHeartbeats 40000000 in
theorem rm_add2_1READ (l : Launch) (Z : State) (a0 : Array Value) (hw : ∀ d ∈ tables_1, d.before a0 Z = true) (n0 : Nat) (t bk bs bv st en' bb : Addr) (src : Addr) (wh i : Int32) (j : Int64) (x0 x1 y0 : Int64) (le : List Value) (e_WRITE e_READ : Addr) (h0 : Heap) (Z0 : n0 ≤ h0.size) (tr : Tr Z h0 t bk bs bv st en' bb (1 : Int32) (0 : Int32) wh .null (0 : Int32) (0 : Int64) [(.long y0)] le [(.long (0 : Int64)), (.long (0 : Int64)), (.long (0 : Int64)), (.long (0 : Int64)), (.long (0 : Int64)), (.long (0 : Int64)), (.long (0 : Int64)), (.long (0 : Int64))]) (di : Dis bk bs bv st en' bb) (dt : t ≠ bk ∧ t ≠ bs ∧ t ≠ bv ∧ t ≠ st ∧ t ≠ en' ∧ t ≠ bb) (gg : n0 ≤ bk ∧ n0 ≤ bs ∧ n0 ≤ bv ∧ n0 ≤ st ∧ n0 ≤ en' ∧ n0 ≤ bb ∧ n0 ≤ t) (A_src : Ary Z h0 src .long [.long x0, .long x1]) (ns : src ≠ bk ∧ src ≠ bs ∧ src ≠ bv ∧ src ≠ st ∧ src ≠ en' ∧ src ≠ bb ∧ src ≠ t) (en : Ens Z e_WRITE e_READ) (O : Old Z n0 h0) :
    Met1 l Z (⟨"com/example/vestalia/vestalia/locks/StepTrace", "add", "([JILcom/example/vestalia/vestalia/model/Step$Kind;IJ)V"⟩ : MethodName) prog_32_method_15_code 7 none ({ frames := 1, cells := 0, slots := 0, locals := 18 } : Room) n0 #[(.ref t), (.ref src), (.int (0 : Int32)), (.ref e_READ), (.int i), (.long j)] h0 (fun v h => v = none ∧ Keep h0 h [t, bk, bs, bv, bb] ∧ Tr Z h t bk bs bv st en' bb (1 : Int32) (1 : Int32) wh (.ref e_READ) i j [(.long y0)] le [(.long x0), (.long (0 : Int64)), (.long (0 : Int64)), (.long (0 : Int64)), (.long (0 : Int64)), (.long (0 : Int64)), (.long (0 : Int64)), (.long (0 : Int64))]) := by
  refine met_of (plainFor_of_name own_pn_com_example_vestalia_vestalia_locks_StepTrace) (L0 := #[.val (.ref t), .val (.ref src), .val (.int (0 : Int32)), .val (.ref e_READ), .val (.int i), .val (.long j), .second]) (by first | (simp [argsToLocals, Value.category]; done) | rfl) ?_
  intro B C
  change Ctx B l _ _ "com/example/vestalia/vestalia/locks/StepTrace" "add" _ _ Z at C
  have en' := en
  obtain ⟨⟨S_WRITE, X_WRITE, D_WRITE⟩, ⟨S_READ, X_READ, D_READ⟩⟩ := en'
  have tr' := tr
  obtain ⟨E_t, T_kinds, T_slots, T_values, T_width, T_start, T_end, T_before, T_length, T_whole, ⟨r_w, T_written⟩, A_kinds, A_slots, A_values, A_start, A_end, A_before⟩ := tr'
  have di' := di
  obtain ⟨d0, d1, d2, d3, d4, d5, d6, d7, d8, d9, d10, d11, d12, d13, d14⟩ := di'
  have dt' := dt
  obtain ⟨e0, e1, e2, e3, e4, e5⟩ := dt'
  have gg' := gg
  obtain ⟨gg0, gg1, gg2, gg3, gg4, gg5, gg6⟩ := gg'
  have ns' := ns
  obtain ⟨sn0, sn1, sn2, sn3, sn4, sn5, sn6⟩ := ns'
  refine g_aload_n C d8_0 (v := (.ref t)) rfl rfl (pc' := 1) rfl ?_
  refine g_getfield C (host := "") (v := (.int (0 : Int32))) (Or.inl (own_w hw 38 rfl)) Via.refl T_length d8_1 (pc' := 4) rfl ?_
  refine g_aload_n C d8_4 (v := (.ref t)) rfl rfl (pc' := 5) rfl ?_
  refine g_getfield C (host := "") (v := (.ref bk)) (Or.inl (own_w hw 12 rfl)) Via.refl T_kinds d8_5 (pc' := 8) rfl ?_
  refine g_arraylength C (AryR.ary A_kinds) (z := (8 : Int32)) rfl d8_8 (pc' := 9) rfl ?_
  refine g_icmp_y C d8_9 (Jvm.Free.XT.ii_ne_t (by decide)) (pc' := 88) (by decide) (by decide) ?_
  refine g_aload_n C d8_88 (v := (.ref t)) rfl rfl (pc' := 89) rfl ?_
  refine g_getfield C (host := "") (v := (.ref bk)) (Or.inl (own_w hw 12 rfl)) Via.refl T_kinds d8_89 (pc' := 92) rfl ?_
  refine g_aload_n C d8_92 (v := (.ref t)) rfl rfl (pc' := 93) rfl ?_
  refine g_getfield C (host := "") (v := (.int (0 : Int32))) (Or.inl (own_w hw 38 rfl)) Via.refl T_length d8_93 (pc' := 96) rfl ?_
  refine g_aload_n C d8_96 (v := (.ref e_READ)) rfl rfl (pc' := 97) rfl ?_
  refine g_aastore C A_kinds (Ins.self (X_READ.ext O.2)) (by decide) (i := 0) (by decide) (show 0 < 8 by decide) gg0 d8_97 (pc' := 98) rfl ?_
  intro h_1 K_2 A_3
  have f_4 : AryR Z h_1 bk "com/example/vestalia/vestalia/model/Step$Kind" [(.ref e_READ), .null, .null, .null, .null, .null, .null, .null] := A_3
  refine g_aload_n C d8_98 (v := (.ref t)) rfl rfl (pc' := 99) rfl ?_
  have f_5 := (T_slots.keep K_2 (ninS e0 nin0))
  refine g_getfield C (host := "") (v := (.ref bs)) (Or.inl (own_w hw 15 rfl)) Via.refl f_5 d8_99 (pc' := 102) rfl ?_
  refine g_aload_n C d8_102 (v := (.ref t)) rfl rfl (pc' := 103) rfl ?_
  have f_6 := (T_length.keep K_2 (ninS e0 nin0))
  refine g_getfield C (host := "") (v := (.int (0 : Int32))) (Or.inl (own_w hw 38 rfl)) Via.refl f_6 d8_103 (pc' := 106) rfl ?_
  refine g_iload C d8_106 (v := i) rfl (pc' := 108) rfl ?_
  have f_7 := (A_slots.keep K_2 (ninS (Ne.symm d0) nin0))
  refine g_iastore C f_7 (by decide) (i := 0) (by decide) (show 0 < 8 by decide) (w := (.int i)) rfl gg1 d8_108 (pc' := 109) rfl ?_
  intro h_8 K_9 A_10
  have f_11 : Ary Z h_8 bs .int [(.int i), (.int (0 : Int32)), (.int (0 : Int32)), (.int (0 : Int32)), (.int (0 : Int32)), (.int (0 : Int32)), (.int (0 : Int32)), (.int (0 : Int32))] := A_10
  refine g_aload_n C d8_109 (v := (.ref t)) rfl rfl (pc' := 110) rfl ?_
  have f_12 := ((T_values.keep K_2 (ninS e0 nin0)).keep K_9 (ninS e1 nin0))
  refine g_getfield C (host := "") (v := (.ref bv)) (Or.inl (own_w hw 17 rfl)) Via.refl f_12 d8_110 (pc' := 113) rfl ?_
  refine g_aload_n C d8_113 (v := (.ref t)) rfl rfl (pc' := 114) rfl ?_
  have f_13 := (f_6.keep K_9 (ninS e1 nin0))
  refine g_getfield C (host := "") (v := (.int (0 : Int32))) (Or.inl (own_w hw 38 rfl)) Via.refl f_13 d8_114 (pc' := 117) rfl ?_
  refine g_lload C d8_117 (v := j) rfl (pc' := 119) rfl ?_
  have f_14 := ((A_values.keep K_2 (ninS (Ne.symm d1) nin0)).keep K_9 (ninS (Ne.symm d5) nin0))
  refine g_lastore C f_14 (by decide) (i := 0) (by decide) (show 0 < 8 by decide) (w := (.long j)) rfl gg2 d8_119 (pc' := 120) rfl ?_
  intro h_15 K_16 A_17
  have f_18 : Ary Z h_15 bv .long [(.long j), (.long (0 : Int64)), (.long (0 : Int64)), (.long (0 : Int64)), (.long (0 : Int64)), (.long (0 : Int64)), (.long (0 : Int64)), (.long (0 : Int64))] := A_17
  refine g_aload_n C d8_120 (v := (.ref src)) rfl rfl (pc' := 121) rfl ?_
  refine g_iload_n C d8_121 (v := (0 : Int32)) rfl (pc' := 122) rfl ?_
  refine g_aload_n C d8_122 (v := (.ref t)) rfl rfl (pc' := 123) rfl ?_
  have f_19 := (((T_before.keep K_2 (ninS e0 nin0)).keep K_9 (ninS e1 nin0)).keep K_16 (ninS e2 nin0))
  refine g_getfield C (host := "") (v := (.ref bb)) (Or.inl (own_w hw 27 rfl)) Via.refl f_19 d8_123 (pc' := 126) rfl ?_
  refine g_aload_n C d8_126 (v := (.ref t)) rfl rfl (pc' := 127) rfl ?_
  have f_20 := (f_13.keep K_16 (ninS e2 nin0))
  refine g_getfield C (host := "") (v := (.int (0 : Int32))) (Or.inl (own_w hw 38 rfl)) Via.refl f_20 d8_127 (pc' := 130) rfl ?_
  refine g_aload_n C d8_130 (v := (.ref t)) rfl rfl (pc' := 131) rfl ?_
  have f_21 := (((T_width.keep K_2 (ninS e0 nin0)).keep K_9 (ninS e1 nin0)).keep K_16 (ninS e2 nin0))
  refine g_getfield C (host := "") (v := (.int (1 : Int32))) (Or.inl (own_w hw 21 rfl)) Via.refl f_21 d8_131 (pc' := 134) rfl ?_
  refine g_imul C (x := (0 : Int32)) (y := (1 : Int32)) d8_134  (pc' := 135) rfl ?_
  refine Go.eqs (st2 := [(.int (0 : Int32)), (.ref bb), (.int (0 : Int32)), (.ref src)]) ?_ (by rfl)
  refine g_aload_n C d8_135 (v := (.ref t)) rfl rfl (pc' := 136) rfl ?_
  refine g_getfield C (host := "") (v := (.int (1 : Int32))) (Or.inl (own_w hw 21 rfl)) Via.refl f_21 d8_136 (pc' := 139) rfl ?_
  have f_22 := (((A_src.keep K_2 (ninS sn0 nin0)).keep K_9 (ninS sn1 nin0)).keep K_16 (ninS sn2 nin0))
  have f_23 := (((A_before.keep K_2 (ninS (Ne.symm d4) nin0)).keep K_9 (ninS (Ne.symm d8) nin0)).keep K_16 (ninS (Ne.symm d11) nin0))
  refine g_arraycopy C (own_w hw 34 rfl) (own_w hw 37 rfl) (own_w hw 35 rfl) (own_w hw 36 rfl) f_22 f_23 rfl (by simp [fits]) (by simp [fits]) (by decide) (by decide) (by decide) (spN := 0) (dpN := 0) (nnN := 1) (by decide) (by decide) (by decide) (show 0 + 1 ≤ 2 by decide) (show 0 + 1 ≤ 8 by decide) (out := [(.long x0), (.long (0 : Int64)), (.long (0 : Int64)), (.long (0 : Int64)), (.long (0 : Int64)), (.long (0 : Int64)), (.long (0 : Int64)), (.long (0 : Int64))]) rfl gg5 rfl (by decide) (W := 0) (Nat.le_of_eq rfl) (by decide) d8_139 (pc' := 142) rfl ?_
  intro h_24 K_25 f_26
  show Go B n0 _ h_24 0 0 142 #[.val (.ref t), .val (.ref src), .val (.int (0 : Int32)), .val (.ref e_READ), .val (.int i), .val (.long j), .second] []
  refine g_aload_n C d8_142 (v := (.ref t)) rfl rfl (pc' := 143) rfl ?_
  refine g_dup C d8_143 rfl (pc' := 144) rfl ?_
  have f_27 := (f_20.keep K_25 (ninS e5 nin0))
  refine g_getfield C (host := "") (v := (.int (0 : Int32))) (Or.inl (own_w hw 38 rfl)) Via.refl f_27 d8_144 (pc' := 147) rfl ?_
  refine g_iconst C d8_147 (v := (1 : Int32)) rfl (pc' := 148) rfl ?_
  refine g_iadd C (x := (0 : Int32)) (y := (1 : Int32)) d8_148  (pc' := 149) rfl ?_
  refine Go.eqs (st2 := [(.int (1 : Int32)), (.ref t)]) ?_ (by rfl)
  have f_28 := ((((E_t.keep K_2).keep K_9).keep K_16).keep K_25)
  refine g_putfield C (host := "") (v := (.int (1 : Int32))) (Or.inl (own_w hw 38 rfl)) Via.refl f_27 f_28 (Or.inl (own_w hw 39 rfl)) (own_w hw 2 rfl) (ty := .int) (by decide) rfl rfl gg6 d8_149 (pc' := 152) rfl ?_
  intro h_29 W_30
  have f_31 := f_27.same W_30
  refine g_return C rfl d8_152 (by decide) (by decide) ?_
  have f_32 := ((((f_4.keep K_9 (ninS d0 nin0)).keep K_16 (ninS d1 nin0)).keep K_25 (ninS d4 nin0)).keep (Keep.of_wr W_30) (nin1 (Ne.symm e0)))
  have f_33 := (((f_11.keep K_16 (ninS d5 nin0)).keep K_25 (ninS d8 nin0)).keep (Keep.of_wr W_30) (nin1 (Ne.symm e1)))
  have f_34 := ((f_18.keep K_25 (ninS d11 nin0)).keep (Keep.of_wr W_30) (nin1 (Ne.symm e2)))
  have f_35 := (((((A_start.keep K_2 (ninS (Ne.symm d2) nin0)).keep K_9 (ninS (Ne.symm d6) nin0)).keep K_16 (ninS (Ne.symm d9) nin0)).keep K_25 (ninS d13 nin0)).keep (Keep.of_wr W_30) (nin1 (Ne.symm e3)))
  have f_36 := (((((A_end.keep K_2 (ninS (Ne.symm d3) nin0)).keep K_9 (ninS (Ne.symm d7) nin0)).keep K_16 (ninS (Ne.symm d10) nin0)).keep K_25 (ninS d14 nin0)).keep (Keep.of_wr W_30) (nin1 (Ne.symm e4)))
  have f_37 := (f_26.keep (Keep.of_wr W_30) (nin1 (Ne.symm e5)))
  have f_38 := (f_28.wr W_30)
  have f_39 := (((((T_kinds.keep K_2 (ninS e0 nin0)).keep K_9 (ninS e1 nin0)).keep K_16 (ninS e2 nin0)).keep K_25 (ninS e5 nin0)).other W_30 (Or.inr (slot_ne (Or.inl (own_w hw 13 rfl)) (Or.inl (own_w hw 39 rfl)) (by decide) (t := (.array (.object "com/example/vestalia/vestalia/model/Step$Kind"))) (t' := .int) (by decide) (by decide))))
  have f_40 := ((((f_5.keep K_9 (ninS e1 nin0)).keep K_16 (ninS e2 nin0)).keep K_25 (ninS e5 nin0)).other W_30 (Or.inr (slot_ne (Or.inl (own_w hw 16 rfl)) (Or.inl (own_w hw 39 rfl)) (by decide) (t := (.array .int)) (t' := .int) (by decide) (by decide))))
  have f_41 := (((f_12.keep K_16 (ninS e2 nin0)).keep K_25 (ninS e5 nin0)).other W_30 (Or.inr (slot_ne (Or.inl (own_w hw 18 rfl)) (Or.inl (own_w hw 39 rfl)) (by decide) (t := (.array .long)) (t' := .int) (by decide) (by decide))))
  have f_42 := ((f_21.keep K_25 (ninS e5 nin0)).other W_30 (Or.inr (slot_ne (Or.inr (own_w hw 22 rfl)) (Or.inl (own_w hw 39 rfl)) (by decide) (t := .int) (t' := .int) (by decide) (by decide))))
  have f_43 := (((((T_start.keep K_2 (ninS e0 nin0)).keep K_9 (ninS e1 nin0)).keep K_16 (ninS e2 nin0)).keep K_25 (ninS e5 nin0)).other W_30 (Or.inr (slot_ne (Or.inr (own_w hw 24 rfl)) (Or.inl (own_w hw 39 rfl)) (by decide) (t := (.array .long)) (t' := .int) (by decide) (by decide))))
  have f_44 := (((((T_end.keep K_2 (ninS e0 nin0)).keep K_9 (ninS e1 nin0)).keep K_16 (ninS e2 nin0)).keep K_25 (ninS e5 nin0)).other W_30 (Or.inr (slot_ne (Or.inr (own_w hw 26 rfl)) (Or.inl (own_w hw 39 rfl)) (by decide) (t := (.array .long)) (t' := .int) (by decide) (by decide))))
  have f_45 := ((f_19.keep K_25 (ninS e5 nin0)).other W_30 (Or.inr (slot_ne (Or.inl (own_w hw 28 rfl)) (Or.inl (own_w hw 39 rfl)) (by decide) (t := (.array .long)) (t' := .int) (by decide) (by decide))))
  have f_46 := (((((T_whole.keep K_2 (ninS e0 nin0)).keep K_9 (ninS e1 nin0)).keep K_16 (ninS e2 nin0)).keep K_25 (ninS e5 nin0)).other W_30 (Or.inr (slot_ne (Or.inl (own_w hw 41 rfl)) (Or.inl (own_w hw 39 rfl)) (by decide) (t := .boolean) (t' := .int) (by decide) (by decide))))
  have f_47 := (((((T_written.keep K_2 (ninS e0 nin0)).keep K_9 (ninS e1 nin0)).keep K_16 (ninS e2 nin0)).keep K_25 (ninS e5 nin0)).other W_30 (Or.inr (slot_ne (Or.inl (own_w hw 20 rfl)) (Or.inl (own_w hw 39 rfl)) (by decide) (t := (.array .int)) (t' := .int) (by decide) (by decide))))
  exact ⟨rfl, ((((((Keep.refl h0 [t, bk, bs, bv, bb]).trans K_2 (allS (Or.inl (List.mem_of_getElem? (i := 1) rfl)) all0)).trans K_9 (allS (Or.inl (List.mem_of_getElem? (i := 2) rfl)) all0)).trans K_16 (allS (Or.inl (List.mem_of_getElem? (i := 3) rfl)) all0)).trans K_25 (allS (Or.inl (List.mem_of_getElem? (i := 4) rfl)) all0)).wr W_30 (Or.inl (List.mem_of_getElem? (i := 0) rfl))), ⟨f_38, f_39, f_40, f_41, f_42, f_43, f_44, f_45, f_31, f_46, ⟨r_w, f_47⟩, f_32, f_33, f_34, f_35, f_36, f_37⟩⟩
set_option maxRecDepth 65536 in
set_option maxHeartbeats 40000000 in
theorem rm_add_1READ (l : Launch) (Z : State) (a0 : Array Value) (hw : ∀ d ∈ tables_1, d.before a0 Z = true) (n0 : Nat) (t bk bs bv st en' bb : Addr) (src : Addr) (wh i : Int32) (j : Int64) (x0 x1 y0 : Int64) (le : List Value) (e_WRITE e_READ : Addr) (h0 : Heap) (Z0 : n0 ≤ h0.size) (tr : Tr Z h0 t bk bs bv st en' bb (1 : Int32) (0 : Int32) wh .null (0 : Int32) (0 : Int64) [(.long y0)] le [(.long (0 : Int64)), (.long (0 : Int64)), (.long (0 : Int64)), (.long (0 : Int64)), (.long (0 : Int64)), (.long (0 : Int64)), (.long (0 : Int64)), (.long (0 : Int64))]) (di : Dis bk bs bv st en' bb) (dt : t ≠ bk ∧ t ≠ bs ∧ t ≠ bv ∧ t ≠ st ∧ t ≠ en' ∧ t ≠ bb) (gg : n0 ≤ bk ∧ n0 ≤ bs ∧ n0 ≤ bv ∧ n0 ≤ st ∧ n0 ≤ en' ∧ n0 ≤ bb ∧ n0 ≤ t) (A_src : Ary Z h0 src .long [.long x0, .long x1]) (ns : src ≠ bk ∧ src ≠ bs ∧ src ≠ bv ∧ src ≠ st ∧ src ≠ en' ∧ src ≠ bb ∧ src ≠ t) (en : Ens Z e_WRITE e_READ) (O : Old Z n0 h0) :
    Met1 l Z (⟨"com/example/vestalia/vestalia/locks/StepTrace", "add", "([JLcom/example/vestalia/vestalia/model/Step$Kind;IJ)V"⟩ : MethodName) prog_32_method_5_code 6 none ({ frames := 2, cells := 0, slots := 0, locals := 36 } : Room) n0 #[(.ref t), (.ref src), (.ref e_READ), (.int i), (.long j)] h0 (fun v h => v = none ∧ Keep h0 h [t, bk, bs, bv, bb] ∧ Tr Z h t bk bs bv st en' bb (1 : Int32) (1 : Int32) wh (.ref e_READ) i j [(.long y0)] le [(.long x0), (.long (0 : Int64)), (.long (0 : Int64)), (.long (0 : Int64)), (.long (0 : Int64)), (.long (0 : Int64)), (.long (0 : Int64)), (.long (0 : Int64))]) := by
  refine met_of (plainFor_of_name own_pn_com_example_vestalia_vestalia_locks_StepTrace) (L0 := #[.val (.ref t), .val (.ref src), .val (.ref e_READ), .val (.int i), .val (.long j), .second]) (by first | (simp [argsToLocals, Value.category]; done) | rfl) ?_
  intro B C
  change Ctx B l _ _ "com/example/vestalia/vestalia/locks/StepTrace" "add" _ _ Z at C
  refine g_aload_n C d7_0 (v := (.ref t)) rfl rfl (pc' := 1) rfl ?_
  refine g_aload_n C d7_1 (v := (.ref src)) rfl rfl (pc' := 2) rfl ?_
  refine g_iconst C d7_2 (v := (0 : Int32)) rfl (pc' := 3) rfl ?_
  refine g_aload_n C d7_3 (v := (.ref e_READ)) rfl rfl (pc' := 4) rfl ?_
  refine g_iload_n C d7_4 (v := i) rfl (pc' := 5) rfl ?_
  refine g_lload C d7_5 (v := j) rfl (pc' := 7) rfl ?_
  refine g_private C (own_w hw 73 rfl) (own_w hw 74 rfl) (own_w hw 75 rfl) (own_w hw 2 rfl) (own_w hw 3 rfl) (own_w hw 76 rfl) (by decide) tr.1 (rm_add2_1READ l Z a0 hw n0 t bk bs bv st en' bb src wh i j x0 x1 y0 le e_WRITE e_READ h0 Z0 tr di dt gg A_src ns en O) (st := []) [(.ref src), (.int (0 : Int32)), (.ref e_READ), (.int i), (.long j)] rfl rfl own_pd_8_add rfl rfl (by decide) (W := 0) (Nat.le_of_eq rfl) (by decide) (by decide) (by decide) d7_7 (pc' := 10) rfl ?_
  intro v_3 h_1 q_2
  obtain ⟨rfl, kk, tr2⟩ := q_2
  show Go B n0 _ h_1 0 0 10 #[.val (.ref t), .val (.ref src), .val (.ref e_READ), .val (.int i), .val (.long j), .second] []
  refine g_return C rfl d7_10 (by decide) (by decide) ?_
  exact ⟨rfl, kk, tr2⟩
set_option maxRecDepth 65536 in
set_option maxHeartbeats 40000000 in
theorem rm_add2_2WRITE (l : Launch) (Z : State) (a0 : Array Value) (hw : ∀ d ∈ tables_1, d.before a0 Z = true) (n0 : Nat) (t bk bs bv st en' bb : Addr) (src : Addr) (wh i : Int32) (j : Int64) (x0 x1 y0 y1 : Int64) (le : List Value) (e_WRITE e_READ : Addr) (h0 : Heap) (Z0 : n0 ≤ h0.size) (tr : Tr Z h0 t bk bs bv st en' bb (2 : Int32) (0 : Int32) wh .null (0 : Int32) (0 : Int64) [(.long y0), (.long y1)] le [(.long (0 : Int64)), (.long (0 : Int64)), (.long (0 : Int64)), (.long (0 : Int64)), (.long (0 : Int64)), (.long (0 : Int64)), (.long (0 : Int64)), (.long (0 : Int64)), (.long (0 : Int64)), (.long (0 : Int64)), (.long (0 : Int64)), (.long (0 : Int64)), (.long (0 : Int64)), (.long (0 : Int64)), (.long (0 : Int64)), (.long (0 : Int64))]) (di : Dis bk bs bv st en' bb) (dt : t ≠ bk ∧ t ≠ bs ∧ t ≠ bv ∧ t ≠ st ∧ t ≠ en' ∧ t ≠ bb) (gg : n0 ≤ bk ∧ n0 ≤ bs ∧ n0 ≤ bv ∧ n0 ≤ st ∧ n0 ≤ en' ∧ n0 ≤ bb ∧ n0 ≤ t) (A_src : Ary Z h0 src .long [.long x0, .long x1]) (ns : src ≠ bk ∧ src ≠ bs ∧ src ≠ bv ∧ src ≠ st ∧ src ≠ en' ∧ src ≠ bb ∧ src ≠ t) (en : Ens Z e_WRITE e_READ) (O : Old Z n0 h0) :
    Met1 l Z (⟨"com/example/vestalia/vestalia/locks/StepTrace", "add", "([JILcom/example/vestalia/vestalia/model/Step$Kind;IJ)V"⟩ : MethodName) prog_32_method_15_code 7 none ({ frames := 1, cells := 0, slots := 0, locals := 18 } : Room) n0 #[(.ref t), (.ref src), (.int (0 : Int32)), (.ref e_WRITE), (.int i), (.long j)] h0 (fun v h => v = none ∧ Keep h0 h [t, bk, bs, bv, bb] ∧ Tr Z h t bk bs bv st en' bb (2 : Int32) (1 : Int32) wh (.ref e_WRITE) i j [(.long y0), (.long y1)] le [(.long x0), (.long x1), (.long (0 : Int64)), (.long (0 : Int64)), (.long (0 : Int64)), (.long (0 : Int64)), (.long (0 : Int64)), (.long (0 : Int64)), (.long (0 : Int64)), (.long (0 : Int64)), (.long (0 : Int64)), (.long (0 : Int64)), (.long (0 : Int64)), (.long (0 : Int64)), (.long (0 : Int64)), (.long (0 : Int64))]) := by
  refine met_of (plainFor_of_name own_pn_com_example_vestalia_vestalia_locks_StepTrace) (L0 := #[.val (.ref t), .val (.ref src), .val (.int (0 : Int32)), .val (.ref e_WRITE), .val (.int i), .val (.long j), .second]) (by first | (simp [argsToLocals, Value.category]; done) | rfl) ?_
  intro B C
  change Ctx B l _ _ "com/example/vestalia/vestalia/locks/StepTrace" "add" _ _ Z at C
  have en' := en
  obtain ⟨⟨S_WRITE, X_WRITE, D_WRITE⟩, ⟨S_READ, X_READ, D_READ⟩⟩ := en'
  have tr' := tr
  obtain ⟨E_t, T_kinds, T_slots, T_values, T_width, T_start, T_end, T_before, T_length, T_whole, ⟨r_w, T_written⟩, A_kinds, A_slots, A_values, A_start, A_end, A_before⟩ := tr'
  have di' := di
  obtain ⟨d0, d1, d2, d3, d4, d5, d6, d7, d8, d9, d10, d11, d12, d13, d14⟩ := di'
  have dt' := dt
  obtain ⟨e0, e1, e2, e3, e4, e5⟩ := dt'
  have gg' := gg
  obtain ⟨gg0, gg1, gg2, gg3, gg4, gg5, gg6⟩ := gg'
  have ns' := ns
  obtain ⟨sn0, sn1, sn2, sn3, sn4, sn5, sn6⟩ := ns'
  refine g_aload_n C d8_0 (v := (.ref t)) rfl rfl (pc' := 1) rfl ?_
  refine g_getfield C (host := "") (v := (.int (0 : Int32))) (Or.inl (own_w hw 38 rfl)) Via.refl T_length d8_1 (pc' := 4) rfl ?_
  refine g_aload_n C d8_4 (v := (.ref t)) rfl rfl (pc' := 5) rfl ?_
  refine g_getfield C (host := "") (v := (.ref bk)) (Or.inl (own_w hw 12 rfl)) Via.refl T_kinds d8_5 (pc' := 8) rfl ?_
  refine g_arraylength C (AryR.ary A_kinds) (z := (8 : Int32)) rfl d8_8 (pc' := 9) rfl ?_
  refine g_icmp_y C d8_9 (Jvm.Free.XT.ii_ne_t (by decide)) (pc' := 88) (by decide) (by decide) ?_
  refine g_aload_n C d8_88 (v := (.ref t)) rfl rfl (pc' := 89) rfl ?_
  refine g_getfield C (host := "") (v := (.ref bk)) (Or.inl (own_w hw 12 rfl)) Via.refl T_kinds d8_89 (pc' := 92) rfl ?_
  refine g_aload_n C d8_92 (v := (.ref t)) rfl rfl (pc' := 93) rfl ?_
  refine g_getfield C (host := "") (v := (.int (0 : Int32))) (Or.inl (own_w hw 38 rfl)) Via.refl T_length d8_93 (pc' := 96) rfl ?_
  refine g_aload_n C d8_96 (v := (.ref e_WRITE)) rfl rfl (pc' := 97) rfl ?_
  refine g_aastore C A_kinds (Ins.self (X_WRITE.ext O.2)) (by decide) (i := 0) (by decide) (show 0 < 8 by decide) gg0 d8_97 (pc' := 98) rfl ?_
  intro h_1 K_2 A_3
  have f_4 : AryR Z h_1 bk "com/example/vestalia/vestalia/model/Step$Kind" [(.ref e_WRITE), .null, .null, .null, .null, .null, .null, .null] := A_3
  refine g_aload_n C d8_98 (v := (.ref t)) rfl rfl (pc' := 99) rfl ?_
  have f_5 := (T_slots.keep K_2 (ninS e0 nin0))
  refine g_getfield C (host := "") (v := (.ref bs)) (Or.inl (own_w hw 15 rfl)) Via.refl f_5 d8_99 (pc' := 102) rfl ?_
  refine g_aload_n C d8_102 (v := (.ref t)) rfl rfl (pc' := 103) rfl ?_
  have f_6 := (T_length.keep K_2 (ninS e0 nin0))
  refine g_getfield C (host := "") (v := (.int (0 : Int32))) (Or.inl (own_w hw 38 rfl)) Via.refl f_6 d8_103 (pc' := 106) rfl ?_
  refine g_iload C d8_106 (v := i) rfl (pc' := 108) rfl ?_
  have f_7 := (A_slots.keep K_2 (ninS (Ne.symm d0) nin0))
  refine g_iastore C f_7 (by decide) (i := 0) (by decide) (show 0 < 8 by decide) (w := (.int i)) rfl gg1 d8_108 (pc' := 109) rfl ?_
  intro h_8 K_9 A_10
  have f_11 : Ary Z h_8 bs .int [(.int i), (.int (0 : Int32)), (.int (0 : Int32)), (.int (0 : Int32)), (.int (0 : Int32)), (.int (0 : Int32)), (.int (0 : Int32)), (.int (0 : Int32))] := A_10
  refine g_aload_n C d8_109 (v := (.ref t)) rfl rfl (pc' := 110) rfl ?_
  have f_12 := ((T_values.keep K_2 (ninS e0 nin0)).keep K_9 (ninS e1 nin0))
  refine g_getfield C (host := "") (v := (.ref bv)) (Or.inl (own_w hw 17 rfl)) Via.refl f_12 d8_110 (pc' := 113) rfl ?_
  refine g_aload_n C d8_113 (v := (.ref t)) rfl rfl (pc' := 114) rfl ?_
  have f_13 := (f_6.keep K_9 (ninS e1 nin0))
  refine g_getfield C (host := "") (v := (.int (0 : Int32))) (Or.inl (own_w hw 38 rfl)) Via.refl f_13 d8_114 (pc' := 117) rfl ?_
  refine g_lload C d8_117 (v := j) rfl (pc' := 119) rfl ?_
  have f_14 := ((A_values.keep K_2 (ninS (Ne.symm d1) nin0)).keep K_9 (ninS (Ne.symm d5) nin0))
  refine g_lastore C f_14 (by decide) (i := 0) (by decide) (show 0 < 8 by decide) (w := (.long j)) rfl gg2 d8_119 (pc' := 120) rfl ?_
  intro h_15 K_16 A_17
  have f_18 : Ary Z h_15 bv .long [(.long j), (.long (0 : Int64)), (.long (0 : Int64)), (.long (0 : Int64)), (.long (0 : Int64)), (.long (0 : Int64)), (.long (0 : Int64)), (.long (0 : Int64))] := A_17
  refine g_aload_n C d8_120 (v := (.ref src)) rfl rfl (pc' := 121) rfl ?_
  refine g_iload_n C d8_121 (v := (0 : Int32)) rfl (pc' := 122) rfl ?_
  refine g_aload_n C d8_122 (v := (.ref t)) rfl rfl (pc' := 123) rfl ?_
  have f_19 := (((T_before.keep K_2 (ninS e0 nin0)).keep K_9 (ninS e1 nin0)).keep K_16 (ninS e2 nin0))
  refine g_getfield C (host := "") (v := (.ref bb)) (Or.inl (own_w hw 27 rfl)) Via.refl f_19 d8_123 (pc' := 126) rfl ?_
  refine g_aload_n C d8_126 (v := (.ref t)) rfl rfl (pc' := 127) rfl ?_
  have f_20 := (f_13.keep K_16 (ninS e2 nin0))
  refine g_getfield C (host := "") (v := (.int (0 : Int32))) (Or.inl (own_w hw 38 rfl)) Via.refl f_20 d8_127 (pc' := 130) rfl ?_
  refine g_aload_n C d8_130 (v := (.ref t)) rfl rfl (pc' := 131) rfl ?_
  have f_21 := (((T_width.keep K_2 (ninS e0 nin0)).keep K_9 (ninS e1 nin0)).keep K_16 (ninS e2 nin0))
  refine g_getfield C (host := "") (v := (.int (2 : Int32))) (Or.inl (own_w hw 21 rfl)) Via.refl f_21 d8_131 (pc' := 134) rfl ?_
  refine g_imul C (x := (0 : Int32)) (y := (2 : Int32)) d8_134  (pc' := 135) rfl ?_
  refine Go.eqs (st2 := [(.int (0 : Int32)), (.ref bb), (.int (0 : Int32)), (.ref src)]) ?_ (by rfl)
  refine g_aload_n C d8_135 (v := (.ref t)) rfl rfl (pc' := 136) rfl ?_
  refine g_getfield C (host := "") (v := (.int (2 : Int32))) (Or.inl (own_w hw 21 rfl)) Via.refl f_21 d8_136 (pc' := 139) rfl ?_
  have f_22 := (((A_src.keep K_2 (ninS sn0 nin0)).keep K_9 (ninS sn1 nin0)).keep K_16 (ninS sn2 nin0))
  have f_23 := (((A_before.keep K_2 (ninS (Ne.symm d4) nin0)).keep K_9 (ninS (Ne.symm d8) nin0)).keep K_16 (ninS (Ne.symm d11) nin0))
  refine g_arraycopy C (own_w hw 34 rfl) (own_w hw 37 rfl) (own_w hw 35 rfl) (own_w hw 36 rfl) f_22 f_23 rfl (by simp [fits]) (by simp [fits]) (by decide) (by decide) (by decide) (spN := 0) (dpN := 0) (nnN := 2) (by decide) (by decide) (by decide) (show 0 + 2 ≤ 2 by decide) (show 0 + 2 ≤ 16 by decide) (out := [(.long x0), (.long x1), (.long (0 : Int64)), (.long (0 : Int64)), (.long (0 : Int64)), (.long (0 : Int64)), (.long (0 : Int64)), (.long (0 : Int64)), (.long (0 : Int64)), (.long (0 : Int64)), (.long (0 : Int64)), (.long (0 : Int64)), (.long (0 : Int64)), (.long (0 : Int64)), (.long (0 : Int64)), (.long (0 : Int64))]) rfl gg5 rfl (by decide) (W := 0) (Nat.le_of_eq rfl) (by decide) d8_139 (pc' := 142) rfl ?_
  intro h_24 K_25 f_26
  show Go B n0 _ h_24 0 0 142 #[.val (.ref t), .val (.ref src), .val (.int (0 : Int32)), .val (.ref e_WRITE), .val (.int i), .val (.long j), .second] []
  refine g_aload_n C d8_142 (v := (.ref t)) rfl rfl (pc' := 143) rfl ?_
  refine g_dup C d8_143 rfl (pc' := 144) rfl ?_
  have f_27 := (f_20.keep K_25 (ninS e5 nin0))
  refine g_getfield C (host := "") (v := (.int (0 : Int32))) (Or.inl (own_w hw 38 rfl)) Via.refl f_27 d8_144 (pc' := 147) rfl ?_
  refine g_iconst C d8_147 (v := (1 : Int32)) rfl (pc' := 148) rfl ?_
  refine g_iadd C (x := (0 : Int32)) (y := (1 : Int32)) d8_148  (pc' := 149) rfl ?_
  refine Go.eqs (st2 := [(.int (1 : Int32)), (.ref t)]) ?_ (by rfl)
  have f_28 := ((((E_t.keep K_2).keep K_9).keep K_16).keep K_25)
  refine g_putfield C (host := "") (v := (.int (1 : Int32))) (Or.inl (own_w hw 38 rfl)) Via.refl f_27 f_28 (Or.inl (own_w hw 39 rfl)) (own_w hw 2 rfl) (ty := .int) (by decide) rfl rfl gg6 d8_149 (pc' := 152) rfl ?_
  intro h_29 W_30
  have f_31 := f_27.same W_30
  refine g_return C rfl d8_152 (by decide) (by decide) ?_
  have f_32 := ((((f_4.keep K_9 (ninS d0 nin0)).keep K_16 (ninS d1 nin0)).keep K_25 (ninS d4 nin0)).keep (Keep.of_wr W_30) (nin1 (Ne.symm e0)))
  have f_33 := (((f_11.keep K_16 (ninS d5 nin0)).keep K_25 (ninS d8 nin0)).keep (Keep.of_wr W_30) (nin1 (Ne.symm e1)))
  have f_34 := ((f_18.keep K_25 (ninS d11 nin0)).keep (Keep.of_wr W_30) (nin1 (Ne.symm e2)))
  have f_35 := (((((A_start.keep K_2 (ninS (Ne.symm d2) nin0)).keep K_9 (ninS (Ne.symm d6) nin0)).keep K_16 (ninS (Ne.symm d9) nin0)).keep K_25 (ninS d13 nin0)).keep (Keep.of_wr W_30) (nin1 (Ne.symm e3)))
  have f_36 := (((((A_end.keep K_2 (ninS (Ne.symm d3) nin0)).keep K_9 (ninS (Ne.symm d7) nin0)).keep K_16 (ninS (Ne.symm d10) nin0)).keep K_25 (ninS d14 nin0)).keep (Keep.of_wr W_30) (nin1 (Ne.symm e4)))
  have f_37 := (f_26.keep (Keep.of_wr W_30) (nin1 (Ne.symm e5)))
  have f_38 := (f_28.wr W_30)
  have f_39 := (((((T_kinds.keep K_2 (ninS e0 nin0)).keep K_9 (ninS e1 nin0)).keep K_16 (ninS e2 nin0)).keep K_25 (ninS e5 nin0)).other W_30 (Or.inr (slot_ne (Or.inl (own_w hw 13 rfl)) (Or.inl (own_w hw 39 rfl)) (by decide) (t := (.array (.object "com/example/vestalia/vestalia/model/Step$Kind"))) (t' := .int) (by decide) (by decide))))
  have f_40 := ((((f_5.keep K_9 (ninS e1 nin0)).keep K_16 (ninS e2 nin0)).keep K_25 (ninS e5 nin0)).other W_30 (Or.inr (slot_ne (Or.inl (own_w hw 16 rfl)) (Or.inl (own_w hw 39 rfl)) (by decide) (t := (.array .int)) (t' := .int) (by decide) (by decide))))
  have f_41 := (((f_12.keep K_16 (ninS e2 nin0)).keep K_25 (ninS e5 nin0)).other W_30 (Or.inr (slot_ne (Or.inl (own_w hw 18 rfl)) (Or.inl (own_w hw 39 rfl)) (by decide) (t := (.array .long)) (t' := .int) (by decide) (by decide))))
  have f_42 := ((f_21.keep K_25 (ninS e5 nin0)).other W_30 (Or.inr (slot_ne (Or.inr (own_w hw 22 rfl)) (Or.inl (own_w hw 39 rfl)) (by decide) (t := .int) (t' := .int) (by decide) (by decide))))
  have f_43 := (((((T_start.keep K_2 (ninS e0 nin0)).keep K_9 (ninS e1 nin0)).keep K_16 (ninS e2 nin0)).keep K_25 (ninS e5 nin0)).other W_30 (Or.inr (slot_ne (Or.inr (own_w hw 24 rfl)) (Or.inl (own_w hw 39 rfl)) (by decide) (t := (.array .long)) (t' := .int) (by decide) (by decide))))
  have f_44 := (((((T_end.keep K_2 (ninS e0 nin0)).keep K_9 (ninS e1 nin0)).keep K_16 (ninS e2 nin0)).keep K_25 (ninS e5 nin0)).other W_30 (Or.inr (slot_ne (Or.inr (own_w hw 26 rfl)) (Or.inl (own_w hw 39 rfl)) (by decide) (t := (.array .long)) (t' := .int) (by decide) (by decide))))
  have f_45 := ((f_19.keep K_25 (ninS e5 nin0)).other W_30 (Or.inr (slot_ne (Or.inl (own_w hw 28 rfl)) (Or.inl (own_w hw 39 rfl)) (by decide) (t := (.array .long)) (t' := .int) (by decide) (by decide))))
  have f_46 := (((((T_whole.keep K_2 (ninS e0 nin0)).keep K_9 (ninS e1 nin0)).keep K_16 (ninS e2 nin0)).keep K_25 (ninS e5 nin0)).other W_30 (Or.inr (slot_ne (Or.inl (own_w hw 41 rfl)) (Or.inl (own_w hw 39 rfl)) (by decide) (t := .boolean) (t' := .int) (by decide) (by decide))))
  have f_47 := (((((T_written.keep K_2 (ninS e0 nin0)).keep K_9 (ninS e1 nin0)).keep K_16 (ninS e2 nin0)).keep K_25 (ninS e5 nin0)).other W_30 (Or.inr (slot_ne (Or.inl (own_w hw 20 rfl)) (Or.inl (own_w hw 39 rfl)) (by decide) (t := (.array .int)) (t' := .int) (by decide) (by decide))))
  exact ⟨rfl, ((((((Keep.refl h0 [t, bk, bs, bv, bb]).trans K_2 (allS (Or.inl (List.mem_of_getElem? (i := 1) rfl)) all0)).trans K_9 (allS (Or.inl (List.mem_of_getElem? (i := 2) rfl)) all0)).trans K_16 (allS (Or.inl (List.mem_of_getElem? (i := 3) rfl)) all0)).trans K_25 (allS (Or.inl (List.mem_of_getElem? (i := 4) rfl)) all0)).wr W_30 (Or.inl (List.mem_of_getElem? (i := 0) rfl))), ⟨f_38, f_39, f_40, f_41, f_42, f_43, f_44, f_45, f_31, f_46, ⟨r_w, f_47⟩, f_32, f_33, f_34, f_35, f_36, f_37⟩⟩
set_option maxRecDepth 65536 in
set_option maxHeartbeats 40000000 in
theorem rm_add_2WRITE (l : Launch) (Z : State) (a0 : Array Value) (hw : ∀ d ∈ tables_1, d.before a0 Z = true) (n0 : Nat) (t bk bs bv st en' bb : Addr) (src : Addr) (wh i : Int32) (j : Int64) (x0 x1 y0 y1 : Int64) (le : List Value) (e_WRITE e_READ : Addr) (h0 : Heap) (Z0 : n0 ≤ h0.size) (tr : Tr Z h0 t bk bs bv st en' bb (2 : Int32) (0 : Int32) wh .null (0 : Int32) (0 : Int64) [(.long y0), (.long y1)] le [(.long (0 : Int64)), (.long (0 : Int64)), (.long (0 : Int64)), (.long (0 : Int64)), (.long (0 : Int64)), (.long (0 : Int64)), (.long (0 : Int64)), (.long (0 : Int64)), (.long (0 : Int64)), (.long (0 : Int64)), (.long (0 : Int64)), (.long (0 : Int64)), (.long (0 : Int64)), (.long (0 : Int64)), (.long (0 : Int64)), (.long (0 : Int64))]) (di : Dis bk bs bv st en' bb) (dt : t ≠ bk ∧ t ≠ bs ∧ t ≠ bv ∧ t ≠ st ∧ t ≠ en' ∧ t ≠ bb) (gg : n0 ≤ bk ∧ n0 ≤ bs ∧ n0 ≤ bv ∧ n0 ≤ st ∧ n0 ≤ en' ∧ n0 ≤ bb ∧ n0 ≤ t) (A_src : Ary Z h0 src .long [.long x0, .long x1]) (ns : src ≠ bk ∧ src ≠ bs ∧ src ≠ bv ∧ src ≠ st ∧ src ≠ en' ∧ src ≠ bb ∧ src ≠ t) (en : Ens Z e_WRITE e_READ) (O : Old Z n0 h0) :
    Met1 l Z (⟨"com/example/vestalia/vestalia/locks/StepTrace", "add", "([JLcom/example/vestalia/vestalia/model/Step$Kind;IJ)V"⟩ : MethodName) prog_32_method_5_code 6 none ({ frames := 2, cells := 0, slots := 0, locals := 36 } : Room) n0 #[(.ref t), (.ref src), (.ref e_WRITE), (.int i), (.long j)] h0 (fun v h => v = none ∧ Keep h0 h [t, bk, bs, bv, bb] ∧ Tr Z h t bk bs bv st en' bb (2 : Int32) (1 : Int32) wh (.ref e_WRITE) i j [(.long y0), (.long y1)] le [(.long x0), (.long x1), (.long (0 : Int64)), (.long (0 : Int64)), (.long (0 : Int64)), (.long (0 : Int64)), (.long (0 : Int64)), (.long (0 : Int64)), (.long (0 : Int64)), (.long (0 : Int64)), (.long (0 : Int64)), (.long (0 : Int64)), (.long (0 : Int64)), (.long (0 : Int64)), (.long (0 : Int64)), (.long (0 : Int64))]) := by
  refine met_of (plainFor_of_name own_pn_com_example_vestalia_vestalia_locks_StepTrace) (L0 := #[.val (.ref t), .val (.ref src), .val (.ref e_WRITE), .val (.int i), .val (.long j), .second]) (by first | (simp [argsToLocals, Value.category]; done) | rfl) ?_
  intro B C
  change Ctx B l _ _ "com/example/vestalia/vestalia/locks/StepTrace" "add" _ _ Z at C
  refine g_aload_n C d7_0 (v := (.ref t)) rfl rfl (pc' := 1) rfl ?_
  refine g_aload_n C d7_1 (v := (.ref src)) rfl rfl (pc' := 2) rfl ?_
  refine g_iconst C d7_2 (v := (0 : Int32)) rfl (pc' := 3) rfl ?_
  refine g_aload_n C d7_3 (v := (.ref e_WRITE)) rfl rfl (pc' := 4) rfl ?_
  refine g_iload_n C d7_4 (v := i) rfl (pc' := 5) rfl ?_
  refine g_lload C d7_5 (v := j) rfl (pc' := 7) rfl ?_
  refine g_private C (own_w hw 73 rfl) (own_w hw 74 rfl) (own_w hw 75 rfl) (own_w hw 2 rfl) (own_w hw 3 rfl) (own_w hw 76 rfl) (by decide) tr.1 (rm_add2_2WRITE l Z a0 hw n0 t bk bs bv st en' bb src wh i j x0 x1 y0 y1 le e_WRITE e_READ h0 Z0 tr di dt gg A_src ns en O) (st := []) [(.ref src), (.int (0 : Int32)), (.ref e_WRITE), (.int i), (.long j)] rfl rfl own_pd_8_add rfl rfl (by decide) (W := 0) (Nat.le_of_eq rfl) (by decide) (by decide) (by decide) d7_7 (pc' := 10) rfl ?_
  intro v_3 h_1 q_2
  obtain ⟨rfl, kk, tr2⟩ := q_2
  show Go B n0 _ h_1 0 0 10 #[.val (.ref t), .val (.ref src), .val (.ref e_WRITE), .val (.int i), .val (.long j), .second] []
  refine g_return C rfl d7_10 (by decide) (by decide) ?_
  exact ⟨rfl, kk, tr2⟩
set_option maxRecDepth 65536 in
set_option maxHeartbeats 40000000 in
theorem rm_add2_2READ (l : Launch) (Z : State) (a0 : Array Value) (hw : ∀ d ∈ tables_1, d.before a0 Z = true) (n0 : Nat) (t bk bs bv st en' bb : Addr) (src : Addr) (wh i : Int32) (j : Int64) (x0 x1 y0 y1 : Int64) (le : List Value) (e_WRITE e_READ : Addr) (h0 : Heap) (Z0 : n0 ≤ h0.size) (tr : Tr Z h0 t bk bs bv st en' bb (2 : Int32) (0 : Int32) wh .null (0 : Int32) (0 : Int64) [(.long y0), (.long y1)] le [(.long (0 : Int64)), (.long (0 : Int64)), (.long (0 : Int64)), (.long (0 : Int64)), (.long (0 : Int64)), (.long (0 : Int64)), (.long (0 : Int64)), (.long (0 : Int64)), (.long (0 : Int64)), (.long (0 : Int64)), (.long (0 : Int64)), (.long (0 : Int64)), (.long (0 : Int64)), (.long (0 : Int64)), (.long (0 : Int64)), (.long (0 : Int64))]) (di : Dis bk bs bv st en' bb) (dt : t ≠ bk ∧ t ≠ bs ∧ t ≠ bv ∧ t ≠ st ∧ t ≠ en' ∧ t ≠ bb) (gg : n0 ≤ bk ∧ n0 ≤ bs ∧ n0 ≤ bv ∧ n0 ≤ st ∧ n0 ≤ en' ∧ n0 ≤ bb ∧ n0 ≤ t) (A_src : Ary Z h0 src .long [.long x0, .long x1]) (ns : src ≠ bk ∧ src ≠ bs ∧ src ≠ bv ∧ src ≠ st ∧ src ≠ en' ∧ src ≠ bb ∧ src ≠ t) (en : Ens Z e_WRITE e_READ) (O : Old Z n0 h0) :
    Met1 l Z (⟨"com/example/vestalia/vestalia/locks/StepTrace", "add", "([JILcom/example/vestalia/vestalia/model/Step$Kind;IJ)V"⟩ : MethodName) prog_32_method_15_code 7 none ({ frames := 1, cells := 0, slots := 0, locals := 18 } : Room) n0 #[(.ref t), (.ref src), (.int (0 : Int32)), (.ref e_READ), (.int i), (.long j)] h0 (fun v h => v = none ∧ Keep h0 h [t, bk, bs, bv, bb] ∧ Tr Z h t bk bs bv st en' bb (2 : Int32) (1 : Int32) wh (.ref e_READ) i j [(.long y0), (.long y1)] le [(.long x0), (.long x1), (.long (0 : Int64)), (.long (0 : Int64)), (.long (0 : Int64)), (.long (0 : Int64)), (.long (0 : Int64)), (.long (0 : Int64)), (.long (0 : Int64)), (.long (0 : Int64)), (.long (0 : Int64)), (.long (0 : Int64)), (.long (0 : Int64)), (.long (0 : Int64)), (.long (0 : Int64)), (.long (0 : Int64))]) := by
  refine met_of (plainFor_of_name own_pn_com_example_vestalia_vestalia_locks_StepTrace) (L0 := #[.val (.ref t), .val (.ref src), .val (.int (0 : Int32)), .val (.ref e_READ), .val (.int i), .val (.long j), .second]) (by first | (simp [argsToLocals, Value.category]; done) | rfl) ?_
  intro B C
  change Ctx B l _ _ "com/example/vestalia/vestalia/locks/StepTrace" "add" _ _ Z at C
  have en' := en
  obtain ⟨⟨S_WRITE, X_WRITE, D_WRITE⟩, ⟨S_READ, X_READ, D_READ⟩⟩ := en'
  have tr' := tr
  obtain ⟨E_t, T_kinds, T_slots, T_values, T_width, T_start, T_end, T_before, T_length, T_whole, ⟨r_w, T_written⟩, A_kinds, A_slots, A_values, A_start, A_end, A_before⟩ := tr'
  have di' := di
  obtain ⟨d0, d1, d2, d3, d4, d5, d6, d7, d8, d9, d10, d11, d12, d13, d14⟩ := di'
  have dt' := dt
  obtain ⟨e0, e1, e2, e3, e4, e5⟩ := dt'
  have gg' := gg
  obtain ⟨gg0, gg1, gg2, gg3, gg4, gg5, gg6⟩ := gg'
  have ns' := ns
  obtain ⟨sn0, sn1, sn2, sn3, sn4, sn5, sn6⟩ := ns'
  refine g_aload_n C d8_0 (v := (.ref t)) rfl rfl (pc' := 1) rfl ?_
  refine g_getfield C (host := "") (v := (.int (0 : Int32))) (Or.inl (own_w hw 38 rfl)) Via.refl T_length d8_1 (pc' := 4) rfl ?_
  refine g_aload_n C d8_4 (v := (.ref t)) rfl rfl (pc' := 5) rfl ?_
  refine g_getfield C (host := "") (v := (.ref bk)) (Or.inl (own_w hw 12 rfl)) Via.refl T_kinds d8_5 (pc' := 8) rfl ?_
  refine g_arraylength C (AryR.ary A_kinds) (z := (8 : Int32)) rfl d8_8 (pc' := 9) rfl ?_
  refine g_icmp_y C d8_9 (Jvm.Free.XT.ii_ne_t (by decide)) (pc' := 88) (by decide) (by decide) ?_
  refine g_aload_n C d8_88 (v := (.ref t)) rfl rfl (pc' := 89) rfl ?_
  refine g_getfield C (host := "") (v := (.ref bk)) (Or.inl (own_w hw 12 rfl)) Via.refl T_kinds d8_89 (pc' := 92) rfl ?_
  refine g_aload_n C d8_92 (v := (.ref t)) rfl rfl (pc' := 93) rfl ?_
  refine g_getfield C (host := "") (v := (.int (0 : Int32))) (Or.inl (own_w hw 38 rfl)) Via.refl T_length d8_93 (pc' := 96) rfl ?_
  refine g_aload_n C d8_96 (v := (.ref e_READ)) rfl rfl (pc' := 97) rfl ?_
  refine g_aastore C A_kinds (Ins.self (X_READ.ext O.2)) (by decide) (i := 0) (by decide) (show 0 < 8 by decide) gg0 d8_97 (pc' := 98) rfl ?_
  intro h_1 K_2 A_3
  have f_4 : AryR Z h_1 bk "com/example/vestalia/vestalia/model/Step$Kind" [(.ref e_READ), .null, .null, .null, .null, .null, .null, .null] := A_3
  refine g_aload_n C d8_98 (v := (.ref t)) rfl rfl (pc' := 99) rfl ?_
  have f_5 := (T_slots.keep K_2 (ninS e0 nin0))
  refine g_getfield C (host := "") (v := (.ref bs)) (Or.inl (own_w hw 15 rfl)) Via.refl f_5 d8_99 (pc' := 102) rfl ?_
  refine g_aload_n C d8_102 (v := (.ref t)) rfl rfl (pc' := 103) rfl ?_
  have f_6 := (T_length.keep K_2 (ninS e0 nin0))
  refine g_getfield C (host := "") (v := (.int (0 : Int32))) (Or.inl (own_w hw 38 rfl)) Via.refl f_6 d8_103 (pc' := 106) rfl ?_
  refine g_iload C d8_106 (v := i) rfl (pc' := 108) rfl ?_
  have f_7 := (A_slots.keep K_2 (ninS (Ne.symm d0) nin0))
  refine g_iastore C f_7 (by decide) (i := 0) (by decide) (show 0 < 8 by decide) (w := (.int i)) rfl gg1 d8_108 (pc' := 109) rfl ?_
  intro h_8 K_9 A_10
  have f_11 : Ary Z h_8 bs .int [(.int i), (.int (0 : Int32)), (.int (0 : Int32)), (.int (0 : Int32)), (.int (0 : Int32)), (.int (0 : Int32)), (.int (0 : Int32)), (.int (0 : Int32))] := A_10
  refine g_aload_n C d8_109 (v := (.ref t)) rfl rfl (pc' := 110) rfl ?_
  have f_12 := ((T_values.keep K_2 (ninS e0 nin0)).keep K_9 (ninS e1 nin0))
  refine g_getfield C (host := "") (v := (.ref bv)) (Or.inl (own_w hw 17 rfl)) Via.refl f_12 d8_110 (pc' := 113) rfl ?_
  refine g_aload_n C d8_113 (v := (.ref t)) rfl rfl (pc' := 114) rfl ?_
  have f_13 := (f_6.keep K_9 (ninS e1 nin0))
  refine g_getfield C (host := "") (v := (.int (0 : Int32))) (Or.inl (own_w hw 38 rfl)) Via.refl f_13 d8_114 (pc' := 117) rfl ?_
  refine g_lload C d8_117 (v := j) rfl (pc' := 119) rfl ?_
  have f_14 := ((A_values.keep K_2 (ninS (Ne.symm d1) nin0)).keep K_9 (ninS (Ne.symm d5) nin0))
  refine g_lastore C f_14 (by decide) (i := 0) (by decide) (show 0 < 8 by decide) (w := (.long j)) rfl gg2 d8_119 (pc' := 120) rfl ?_
  intro h_15 K_16 A_17
  have f_18 : Ary Z h_15 bv .long [(.long j), (.long (0 : Int64)), (.long (0 : Int64)), (.long (0 : Int64)), (.long (0 : Int64)), (.long (0 : Int64)), (.long (0 : Int64)), (.long (0 : Int64))] := A_17
  refine g_aload_n C d8_120 (v := (.ref src)) rfl rfl (pc' := 121) rfl ?_
  refine g_iload_n C d8_121 (v := (0 : Int32)) rfl (pc' := 122) rfl ?_
  refine g_aload_n C d8_122 (v := (.ref t)) rfl rfl (pc' := 123) rfl ?_
  have f_19 := (((T_before.keep K_2 (ninS e0 nin0)).keep K_9 (ninS e1 nin0)).keep K_16 (ninS e2 nin0))
  refine g_getfield C (host := "") (v := (.ref bb)) (Or.inl (own_w hw 27 rfl)) Via.refl f_19 d8_123 (pc' := 126) rfl ?_
  refine g_aload_n C d8_126 (v := (.ref t)) rfl rfl (pc' := 127) rfl ?_
  have f_20 := (f_13.keep K_16 (ninS e2 nin0))
  refine g_getfield C (host := "") (v := (.int (0 : Int32))) (Or.inl (own_w hw 38 rfl)) Via.refl f_20 d8_127 (pc' := 130) rfl ?_
  refine g_aload_n C d8_130 (v := (.ref t)) rfl rfl (pc' := 131) rfl ?_
  have f_21 := (((T_width.keep K_2 (ninS e0 nin0)).keep K_9 (ninS e1 nin0)).keep K_16 (ninS e2 nin0))
  refine g_getfield C (host := "") (v := (.int (2 : Int32))) (Or.inl (own_w hw 21 rfl)) Via.refl f_21 d8_131 (pc' := 134) rfl ?_
  refine g_imul C (x := (0 : Int32)) (y := (2 : Int32)) d8_134  (pc' := 135) rfl ?_
  refine Go.eqs (st2 := [(.int (0 : Int32)), (.ref bb), (.int (0 : Int32)), (.ref src)]) ?_ (by rfl)
  refine g_aload_n C d8_135 (v := (.ref t)) rfl rfl (pc' := 136) rfl ?_
  refine g_getfield C (host := "") (v := (.int (2 : Int32))) (Or.inl (own_w hw 21 rfl)) Via.refl f_21 d8_136 (pc' := 139) rfl ?_
  have f_22 := (((A_src.keep K_2 (ninS sn0 nin0)).keep K_9 (ninS sn1 nin0)).keep K_16 (ninS sn2 nin0))
  have f_23 := (((A_before.keep K_2 (ninS (Ne.symm d4) nin0)).keep K_9 (ninS (Ne.symm d8) nin0)).keep K_16 (ninS (Ne.symm d11) nin0))
  refine g_arraycopy C (own_w hw 34 rfl) (own_w hw 37 rfl) (own_w hw 35 rfl) (own_w hw 36 rfl) f_22 f_23 rfl (by simp [fits]) (by simp [fits]) (by decide) (by decide) (by decide) (spN := 0) (dpN := 0) (nnN := 2) (by decide) (by decide) (by decide) (show 0 + 2 ≤ 2 by decide) (show 0 + 2 ≤ 16 by decide) (out := [(.long x0), (.long x1), (.long (0 : Int64)), (.long (0 : Int64)), (.long (0 : Int64)), (.long (0 : Int64)), (.long (0 : Int64)), (.long (0 : Int64)), (.long (0 : Int64)), (.long (0 : Int64)), (.long (0 : Int64)), (.long (0 : Int64)), (.long (0 : Int64)), (.long (0 : Int64)), (.long (0 : Int64)), (.long (0 : Int64))]) rfl gg5 rfl (by decide) (W := 0) (Nat.le_of_eq rfl) (by decide) d8_139 (pc' := 142) rfl ?_
  intro h_24 K_25 f_26
  show Go B n0 _ h_24 0 0 142 #[.val (.ref t), .val (.ref src), .val (.int (0 : Int32)), .val (.ref e_READ), .val (.int i), .val (.long j), .second] []
  refine g_aload_n C d8_142 (v := (.ref t)) rfl rfl (pc' := 143) rfl ?_
  refine g_dup C d8_143 rfl (pc' := 144) rfl ?_
  have f_27 := (f_20.keep K_25 (ninS e5 nin0))
  refine g_getfield C (host := "") (v := (.int (0 : Int32))) (Or.inl (own_w hw 38 rfl)) Via.refl f_27 d8_144 (pc' := 147) rfl ?_
  refine g_iconst C d8_147 (v := (1 : Int32)) rfl (pc' := 148) rfl ?_
  refine g_iadd C (x := (0 : Int32)) (y := (1 : Int32)) d8_148  (pc' := 149) rfl ?_
  refine Go.eqs (st2 := [(.int (1 : Int32)), (.ref t)]) ?_ (by rfl)
  have f_28 := ((((E_t.keep K_2).keep K_9).keep K_16).keep K_25)
  refine g_putfield C (host := "") (v := (.int (1 : Int32))) (Or.inl (own_w hw 38 rfl)) Via.refl f_27 f_28 (Or.inl (own_w hw 39 rfl)) (own_w hw 2 rfl) (ty := .int) (by decide) rfl rfl gg6 d8_149 (pc' := 152) rfl ?_
  intro h_29 W_30
  have f_31 := f_27.same W_30
  refine g_return C rfl d8_152 (by decide) (by decide) ?_
  have f_32 := ((((f_4.keep K_9 (ninS d0 nin0)).keep K_16 (ninS d1 nin0)).keep K_25 (ninS d4 nin0)).keep (Keep.of_wr W_30) (nin1 (Ne.symm e0)))
  have f_33 := (((f_11.keep K_16 (ninS d5 nin0)).keep K_25 (ninS d8 nin0)).keep (Keep.of_wr W_30) (nin1 (Ne.symm e1)))
  have f_34 := ((f_18.keep K_25 (ninS d11 nin0)).keep (Keep.of_wr W_30) (nin1 (Ne.symm e2)))
  have f_35 := (((((A_start.keep K_2 (ninS (Ne.symm d2) nin0)).keep K_9 (ninS (Ne.symm d6) nin0)).keep K_16 (ninS (Ne.symm d9) nin0)).keep K_25 (ninS d13 nin0)).keep (Keep.of_wr W_30) (nin1 (Ne.symm e3)))
  have f_36 := (((((A_end.keep K_2 (ninS (Ne.symm d3) nin0)).keep K_9 (ninS (Ne.symm d7) nin0)).keep K_16 (ninS (Ne.symm d10) nin0)).keep K_25 (ninS d14 nin0)).keep (Keep.of_wr W_30) (nin1 (Ne.symm e4)))
  have f_37 := (f_26.keep (Keep.of_wr W_30) (nin1 (Ne.symm e5)))
  have f_38 := (f_28.wr W_30)
  have f_39 := (((((T_kinds.keep K_2 (ninS e0 nin0)).keep K_9 (ninS e1 nin0)).keep K_16 (ninS e2 nin0)).keep K_25 (ninS e5 nin0)).other W_30 (Or.inr (slot_ne (Or.inl (own_w hw 13 rfl)) (Or.inl (own_w hw 39 rfl)) (by decide) (t := (.array (.object "com/example/vestalia/vestalia/model/Step$Kind"))) (t' := .int) (by decide) (by decide))))
  have f_40 := ((((f_5.keep K_9 (ninS e1 nin0)).keep K_16 (ninS e2 nin0)).keep K_25 (ninS e5 nin0)).other W_30 (Or.inr (slot_ne (Or.inl (own_w hw 16 rfl)) (Or.inl (own_w hw 39 rfl)) (by decide) (t := (.array .int)) (t' := .int) (by decide) (by decide))))
  have f_41 := (((f_12.keep K_16 (ninS e2 nin0)).keep K_25 (ninS e5 nin0)).other W_30 (Or.inr (slot_ne (Or.inl (own_w hw 18 rfl)) (Or.inl (own_w hw 39 rfl)) (by decide) (t := (.array .long)) (t' := .int) (by decide) (by decide))))
  have f_42 := ((f_21.keep K_25 (ninS e5 nin0)).other W_30 (Or.inr (slot_ne (Or.inr (own_w hw 22 rfl)) (Or.inl (own_w hw 39 rfl)) (by decide) (t := .int) (t' := .int) (by decide) (by decide))))
  have f_43 := (((((T_start.keep K_2 (ninS e0 nin0)).keep K_9 (ninS e1 nin0)).keep K_16 (ninS e2 nin0)).keep K_25 (ninS e5 nin0)).other W_30 (Or.inr (slot_ne (Or.inr (own_w hw 24 rfl)) (Or.inl (own_w hw 39 rfl)) (by decide) (t := (.array .long)) (t' := .int) (by decide) (by decide))))
  have f_44 := (((((T_end.keep K_2 (ninS e0 nin0)).keep K_9 (ninS e1 nin0)).keep K_16 (ninS e2 nin0)).keep K_25 (ninS e5 nin0)).other W_30 (Or.inr (slot_ne (Or.inr (own_w hw 26 rfl)) (Or.inl (own_w hw 39 rfl)) (by decide) (t := (.array .long)) (t' := .int) (by decide) (by decide))))
  have f_45 := ((f_19.keep K_25 (ninS e5 nin0)).other W_30 (Or.inr (slot_ne (Or.inl (own_w hw 28 rfl)) (Or.inl (own_w hw 39 rfl)) (by decide) (t := (.array .long)) (t' := .int) (by decide) (by decide))))
  have f_46 := (((((T_whole.keep K_2 (ninS e0 nin0)).keep K_9 (ninS e1 nin0)).keep K_16 (ninS e2 nin0)).keep K_25 (ninS e5 nin0)).other W_30 (Or.inr (slot_ne (Or.inl (own_w hw 41 rfl)) (Or.inl (own_w hw 39 rfl)) (by decide) (t := .boolean) (t' := .int) (by decide) (by decide))))
  have f_47 := (((((T_written.keep K_2 (ninS e0 nin0)).keep K_9 (ninS e1 nin0)).keep K_16 (ninS e2 nin0)).keep K_25 (ninS e5 nin0)).other W_30 (Or.inr (slot_ne (Or.inl (own_w hw 20 rfl)) (Or.inl (own_w hw 39 rfl)) (by decide) (t := (.array .int)) (t' := .int) (by decide) (by decide))))
  exact ⟨rfl, ((((((Keep.refl h0 [t, bk, bs, bv, bb]).trans K_2 (allS (Or.inl (List.mem_of_getElem? (i := 1) rfl)) all0)).trans K_9 (allS (Or.inl (List.mem_of_getElem? (i := 2) rfl)) all0)).trans K_16 (allS (Or.inl (List.mem_of_getElem? (i := 3) rfl)) all0)).trans K_25 (allS (Or.inl (List.mem_of_getElem? (i := 4) rfl)) all0)).wr W_30 (Or.inl (List.mem_of_getElem? (i := 0) rfl))), ⟨f_38, f_39, f_40, f_41, f_42, f_43, f_44, f_45, f_31, f_46, ⟨r_w, f_47⟩, f_32, f_33, f_34, f_35, f_36, f_37⟩⟩
set_option maxRecDepth 65536 in
set_option maxHeartbeats 40000000 in
theorem rm_add_2READ (l : Launch) (Z : State) (a0 : Array Value) (hw : ∀ d ∈ tables_1, d.before a0 Z = true) (n0 : Nat) (t bk bs bv st en' bb : Addr) (src : Addr) (wh i : Int32) (j : Int64) (x0 x1 y0 y1 : Int64) (le : List Value) (e_WRITE e_READ : Addr) (h0 : Heap) (Z0 : n0 ≤ h0.size) (tr : Tr Z h0 t bk bs bv st en' bb (2 : Int32) (0 : Int32) wh .null (0 : Int32) (0 : Int64) [(.long y0), (.long y1)] le [(.long (0 : Int64)), (.long (0 : Int64)), (.long (0 : Int64)), (.long (0 : Int64)), (.long (0 : Int64)), (.long (0 : Int64)), (.long (0 : Int64)), (.long (0 : Int64)), (.long (0 : Int64)), (.long (0 : Int64)), (.long (0 : Int64)), (.long (0 : Int64)), (.long (0 : Int64)), (.long (0 : Int64)), (.long (0 : Int64)), (.long (0 : Int64))]) (di : Dis bk bs bv st en' bb) (dt : t ≠ bk ∧ t ≠ bs ∧ t ≠ bv ∧ t ≠ st ∧ t ≠ en' ∧ t ≠ bb) (gg : n0 ≤ bk ∧ n0 ≤ bs ∧ n0 ≤ bv ∧ n0 ≤ st ∧ n0 ≤ en' ∧ n0 ≤ bb ∧ n0 ≤ t) (A_src : Ary Z h0 src .long [.long x0, .long x1]) (ns : src ≠ bk ∧ src ≠ bs ∧ src ≠ bv ∧ src ≠ st ∧ src ≠ en' ∧ src ≠ bb ∧ src ≠ t) (en : Ens Z e_WRITE e_READ) (O : Old Z n0 h0) :
    Met1 l Z (⟨"com/example/vestalia/vestalia/locks/StepTrace", "add", "([JLcom/example/vestalia/vestalia/model/Step$Kind;IJ)V"⟩ : MethodName) prog_32_method_5_code 6 none ({ frames := 2, cells := 0, slots := 0, locals := 36 } : Room) n0 #[(.ref t), (.ref src), (.ref e_READ), (.int i), (.long j)] h0 (fun v h => v = none ∧ Keep h0 h [t, bk, bs, bv, bb] ∧ Tr Z h t bk bs bv st en' bb (2 : Int32) (1 : Int32) wh (.ref e_READ) i j [(.long y0), (.long y1)] le [(.long x0), (.long x1), (.long (0 : Int64)), (.long (0 : Int64)), (.long (0 : Int64)), (.long (0 : Int64)), (.long (0 : Int64)), (.long (0 : Int64)), (.long (0 : Int64)), (.long (0 : Int64)), (.long (0 : Int64)), (.long (0 : Int64)), (.long (0 : Int64)), (.long (0 : Int64)), (.long (0 : Int64)), (.long (0 : Int64))]) := by
  refine met_of (plainFor_of_name own_pn_com_example_vestalia_vestalia_locks_StepTrace) (L0 := #[.val (.ref t), .val (.ref src), .val (.ref e_READ), .val (.int i), .val (.long j), .second]) (by first | (simp [argsToLocals, Value.category]; done) | rfl) ?_
  intro B C
  change Ctx B l _ _ "com/example/vestalia/vestalia/locks/StepTrace" "add" _ _ Z at C
  refine g_aload_n C d7_0 (v := (.ref t)) rfl rfl (pc' := 1) rfl ?_
  refine g_aload_n C d7_1 (v := (.ref src)) rfl rfl (pc' := 2) rfl ?_
  refine g_iconst C d7_2 (v := (0 : Int32)) rfl (pc' := 3) rfl ?_
  refine g_aload_n C d7_3 (v := (.ref e_READ)) rfl rfl (pc' := 4) rfl ?_
  refine g_iload_n C d7_4 (v := i) rfl (pc' := 5) rfl ?_
  refine g_lload C d7_5 (v := j) rfl (pc' := 7) rfl ?_
  refine g_private C (own_w hw 73 rfl) (own_w hw 74 rfl) (own_w hw 75 rfl) (own_w hw 2 rfl) (own_w hw 3 rfl) (own_w hw 76 rfl) (by decide) tr.1 (rm_add2_2READ l Z a0 hw n0 t bk bs bv st en' bb src wh i j x0 x1 y0 y1 le e_WRITE e_READ h0 Z0 tr di dt gg A_src ns en O) (st := []) [(.ref src), (.int (0 : Int32)), (.ref e_READ), (.int i), (.long j)] rfl rfl own_pd_8_add rfl rfl (by decide) (W := 0) (Nat.le_of_eq rfl) (by decide) (by decide) (by decide) d7_7 (pc' := 10) rfl ?_
  intro v_3 h_1 q_2
  obtain ⟨rfl, kk, tr2⟩ := q_2
  show Go B n0 _ h_1 0 0 10 #[.val (.ref t), .val (.ref src), .val (.ref e_READ), .val (.int i), .val (.long j), .second] []
  refine g_return C rfl d7_10 (by decide) (by decide) ?_
  exact ⟨rfl, kk, tr2⟩
theorem own_pd_4_copyOf : parseMethodDescriptor "([II)[I" = some ⟨[(.array .int), .int], (some (.array .int))⟩ := by decide +kernel
theorem d5_0 : decode prog_32_method_6_code 0 = .ok (.aload_n 1, 1) := by decide +kernel
theorem d5_1 : decode prog_32_method_6_code 1 = .ok (.iconst 0, 1) := by decide +kernel
theorem d5_2 : decode prog_32_method_6_code 2 = .ok (.aload_n 0, 1) := by decide +kernel
theorem d5_3 : decode prog_32_method_6_code 3 = .ok (.getfield 33, 3) := by decide +kernel
theorem d5_6 : decode prog_32_method_6_code 6 = .ok (.iconst 0, 1) := by decide +kernel
theorem d5_7 : decode prog_32_method_6_code 7 = .ok (.aload_n 0, 1) := by decide +kernel
theorem d5_8 : decode prog_32_method_6_code 8 = .ok (.getfield 26, 3) := by decide +kernel
theorem d5_11 : decode prog_32_method_6_code 11 = .ok (.invokestatic 43, 3) := by decide +kernel
theorem d5_14 : decode prog_32_method_6_code 14 = .ok (.aload_n 0, 1) := by decide +kernel
theorem d5_15 : decode prog_32_method_6_code 15 = .ok (.getfield 49, 3) := by decide +kernel
theorem d5_18 : decode prog_32_method_6_code 18 = .ok (.newarray .int, 2) := by decide +kernel
theorem d5_20 : decode prog_32_method_6_code 20 = .ok (.astore_n 2, 1) := by decide +kernel
theorem d5_21 : decode prog_32_method_6_code 21 = .ok (.iconst 0, 1) := by decide +kernel
theorem d5_22 : decode prog_32_method_6_code 22 = .ok (.istore_n 3, 1) := by decide +kernel
theorem d5_23 : decode prog_32_method_6_code 23 = .ok (.iconst 0, 1) := by decide +kernel
theorem d5_24 : decode prog_32_method_6_code 24 = .ok (.istore 4, 2) := by decide +kernel
theorem d5_26 : decode prog_32_method_6_code 26 = .ok (.iload 4, 2) := by decide +kernel
theorem d5_28 : decode prog_32_method_6_code 28 = .ok (.aload_n 0, 1) := by decide +kernel
theorem d5_29 : decode prog_32_method_6_code 29 = .ok (.getfield 49, 3) := by decide +kernel
theorem d5_32 : decode prog_32_method_6_code 32 = .ok (.if_icmp .ge 50, 3) := by decide +kernel
theorem d5_82 : decode prog_32_method_6_code 82 = .ok (.aload_n 0, 1) := by decide +kernel
theorem d5_83 : decode prog_32_method_6_code 83 = .ok (.aload_n 2, 1) := by decide +kernel
theorem d5_84 : decode prog_32_method_6_code 84 = .ok (.iload_n 3, 1) := by decide +kernel
theorem d5_85 : decode prog_32_method_6_code 85 = .ok (.invokestatic 66, 3) := by decide +kernel
theorem d5_88 : decode prog_32_method_6_code 88 = .ok (.putfield 23, 3) := by decide +kernel
theorem d5_91 : decode prog_32_method_6_code 91 = .ok (.aload_n 0, 1) := by decide +kernel
theorem d5_92 : decode prog_32_method_6_code 92 = .ok (.iconst 1, 1) := by decide +kernel
theorem d5_93 : decode prog_32_method_6_code 93 = .ok (.putfield 39, 3) := by decide +kernel
theorem d5_96 : decode prog_32_method_6_code 96 = .ok (.return_, 1) := by decide +kernel
set_option maxRecDepth 65536 in
set_option maxHeartbeats 40000000 in
theorem rm_end_0none (l : Launch) (Z : State) (a0 : Array Value) (hw : ∀ d ∈ tables_1, d.before a0 Z = true) (n0 : Nat) (t bk bs bv st en' bb : Addr) (src : Addr) (wh s0 : Int32) (v0 : Int64) (x0 x1 : Int64) (ls lb : List Value) (e_WRITE e_READ : Addr) (h0 : Heap) (Z0 : n0 ≤ h0.size) (tr : Tr Z h0 t bk bs bv st en' bb (0 : Int32) (0 : Int32) wh .null s0 v0 ls [] lb) (di : Dis bk bs bv st en' bb) (dt : t ≠ bk ∧ t ≠ bs ∧ t ≠ bv ∧ t ≠ st ∧ t ≠ en' ∧ t ≠ bb) (gg : n0 ≤ bk ∧ n0 ≤ bs ∧ n0 ≤ bv ∧ n0 ≤ st ∧ n0 ≤ en' ∧ n0 ≤ bb ∧ n0 ≤ t) (A_src : Ary Z h0 src .long [.long x0, .long x1]) (ns : src ≠ en') (nt : src ≠ t) (en : Ens Z e_WRITE e_READ) (O : Old Z n0 h0) :
    Met1 l Z (⟨"com/example/vestalia/vestalia/locks/StepTrace", "end", "([J)V"⟩ : MethodName) prog_32_method_6_code 5 none ({ frames := 2, cells := 2, slots := 0, locals := 29 } : Room) n0 #[(.ref t), (.ref src)] h0 (fun v h => v = none ∧ Keep h0 h [t, en'] ∧ Tr Z h t bk bs bv st en' bb (0 : Int32) (0 : Int32) (1 : Int32) .null s0 v0 ls [] lb) := by
  refine met_of (plainFor_of_name own_pn_com_example_vestalia_vestalia_locks_StepTrace) (L0 := #[.val (.ref t), .val (.ref src), .unset, .unset, .unset]) (by first | (simp [argsToLocals, Value.category]; done) | rfl) ?_
  intro B C
  change Ctx B l _ _ "com/example/vestalia/vestalia/locks/StepTrace" "end" _ _ Z at C
  have en' := en
  obtain ⟨⟨S_WRITE, X_WRITE, D_WRITE⟩, ⟨S_READ, X_READ, D_READ⟩⟩ := en'
  have tr' := tr
  obtain ⟨E_t, T_kinds, T_slots, T_values, T_width, T_start, T_end, T_before, T_length, T_whole, ⟨r_w, T_written⟩, A_kinds, A_slots, A_values, A_start, A_end, A_before⟩ := tr'
  have di' := di
  obtain ⟨d0, d1, d2, d3, d4, d5, d6, d7, d8, d9, d10, d11, d12, d13, d14⟩ := di'
  have dt' := dt
  obtain ⟨e0, e1, e2, e3, e4, e5⟩ := dt'
  have gg' := gg
  obtain ⟨gg0, gg1, gg2, gg3, gg4, gg5, gg6⟩ := gg'
  refine g_aload_n C d5_0 (v := (.ref src)) rfl rfl (pc' := 1) rfl ?_
  refine g_iconst C d5_1 (v := (0 : Int32)) rfl (pc' := 2) rfl ?_
  refine g_aload_n C d5_2 (v := (.ref t)) rfl rfl (pc' := 3) rfl ?_
  refine g_getfield C (host := "") (v := (.ref en')) (Or.inl (own_w hw 25 rfl)) Via.refl T_end d5_3 (pc' := 6) rfl ?_
  refine g_iconst C d5_6 (v := (0 : Int32)) rfl (pc' := 7) rfl ?_
  refine g_aload_n C d5_7 (v := (.ref t)) rfl rfl (pc' := 8) rfl ?_
  refine g_getfield C (host := "") (v := (.int (0 : Int32))) (Or.inl (own_w hw 21 rfl)) Via.refl T_width d5_8 (pc' := 11) rfl ?_
  refine g_arraycopy C (own_w hw 34 rfl) (own_w hw 37 rfl) (own_w hw 35 rfl) (own_w hw 36 rfl) A_src A_end rfl (by simp [fits]) (by simp [fits]) (by decide) (by decide) (by decide) (spN := 0) (dpN := 0) (nnN := 0) (by decide) (by decide) (by decide) (show 0 + 0 ≤ 2 by decide) (show 0 + 0 ≤ 0 by decide) (out := []) rfl gg4 rfl (by decide) (W := 0) (Nat.le_of_eq rfl) (by decide) d5_11 (pc' := 14) rfl ?_
  intro h_1 K_2 f_3
  show Go B n0 _ h_1 0 0 14 #[.val (.ref t), .val (.ref src), .unset, .unset, .unset] []
  refine g_aload_n C d5_14 (v := (.ref t)) rfl rfl (pc' := 15) rfl ?_
  have f_4 := (T_length.keep K_2 (ninS e4 nin0))
  refine g_getfield C (host := "") (v := (.int (0 : Int32))) (Or.inl (own_w hw 38 rfl)) Via.refl f_4 d5_15 (pc' := 18) rfl ?_
  have f_5 := (A_before.keep K_2 (ninS (Ne.symm d14) nin0))
  have f_6 := (A_kinds.keep K_2 (ninS d3 nin0))
  have f_7 := (A_slots.keep K_2 (ninS d7 nin0))
  have f_8 := (A_values.keep K_2 (ninS d10 nin0))
  have f_9 := ((X_READ.ext O.2).keep K_2)
  have f_10 := ((X_WRITE.ext O.2).keep K_2)
  have f_11 := (A_src.keep K_2 (ninS ns nin0))
  have f_12 := (A_start.keep K_2 (ninS d12 nin0))
  have f_13 := (E_t.keep K_2)
  refine g_newarrayE C (own_w hw 14 rfl) (ty := .int) rfl (ad := "[I") (by decide) (by decide) (cap := 0) (by decide) (by decide) (by decide) (by decide) d5_18 (pc' := 20) rfl ?_
  intro h_14 a_15 g_16 E_17 A_18 E_19
  have ne_20 : bb ≠ a_15 := ne_new f_5.lt g_16
  have ne_21 : bk ≠ a_15 := ne_new f_6.lt g_16
  have ne_22 : bs ≠ a_15 := ne_new f_7.lt g_16
  have ne_23 : bv ≠ a_15 := ne_new f_8.lt g_16
  have ne_24 : e_READ ≠ a_15 := ne_new f_9.lt g_16
  have ne_25 : e_WRITE ≠ a_15 := ne_new f_10.lt g_16
  have ne_26 : en' ≠ a_15 := ne_new f_3.lt g_16
  have ne_27 : src ≠ a_15 := ne_new f_11.lt g_16
  have ne_28 : st ≠ a_15 := ne_new f_12.lt g_16
  have ne_29 : t ≠ a_15 := ne_new f_13.lt g_16
  have f_30 := (Nat.le_trans Z0 K_2.1)
  have ge_a_15 : n0 ≤ a_15 := Nat.le_trans f_30 (Nat.le_of_eq g_16.symm)
  have f_31 := (Nat.le_trans (Nat.le_refl h0.size) K_2.1)
  have gs_a_15 : h0.size ≤ a_15 := Nat.le_trans f_31 (Nat.le_of_eq g_16.symm)
  have f_32 : Ary Z h_14 a_15 .int [] := A_18
  show Go B n0 _ h_14 1 0 20 #[.val (.ref t), .val (.ref src), .unset, .unset, .unset] [(.ref a_15)]
  refine g_astore_n C d5_20 (v := (.ref a_15)) (L' := #[.val (.ref t), .val (.ref src), .val (.ref a_15), .unset, .unset]) rfl rfl (pc' := 21) rfl ?_
  refine g_iconst C d5_21 (v := (0 : Int32)) rfl (pc' := 22) rfl ?_
  refine g_istore_n C d5_22 (v := (0 : Int32)) (L' := #[.val (.ref t), .val (.ref src), .val (.ref a_15), .val (.int (0 : Int32)), .unset]) rfl (pc' := 23) rfl ?_
  refine g_iconst C d5_23 (v := (0 : Int32)) rfl (pc' := 24) rfl ?_
  refine g_istore C d5_24 (v := (0 : Int32)) (L' := #[.val (.ref t), .val (.ref src), .val (.ref a_15), .val (.int (0 : Int32)), .val (.int (0 : Int32))]) rfl (pc' := 26) rfl ?_
  refine g_iload C d5_26 (v := (0 : Int32)) rfl (pc' := 28) rfl ?_
  refine g_aload_n C d5_28 (v := (.ref t)) rfl rfl (pc' := 29) rfl ?_
  have f_33 := (f_4.ext E_17)
  refine g_getfield C (host := "") (v := (.int (0 : Int32))) (Or.inl (own_w hw 38 rfl)) Via.refl f_33 d5_29 (pc' := 32) rfl ?_
  refine g_icmp_y C d5_32 (Jvm.Free.XT.ii_ge_t (by decide)) (pc' := 82) (by decide) (by decide) ?_
  refine g_aload_n C d5_82 (v := (.ref t)) rfl rfl (pc' := 83) rfl ?_
  refine g_aload_n C d5_83 (v := (.ref a_15)) rfl rfl (pc' := 84) rfl ?_
  refine g_iload_n C d5_84 (v := (0 : Int32)) rfl (pc' := 85) rfl ?_
  have f_34 := (Nat.le_trans f_30 E_17.1)
  have f_35 := (f_5.ext E_17)
  have f_36 := (f_6.ext E_17)
  have f_37 := (f_7.ext E_17)
  have f_38 := (f_8.ext E_17)
  have f_39 := (f_9.ext E_17)
  have f_40 := (f_10.ext E_17)
  have f_41 := (f_3.ext E_17)
  have f_42 := (f_11.ext E_17)
  have f_43 := (f_12.ext E_17)
  have f_44 := (f_13.ext E_17)
  have f_45 := (Nat.le_trans f_31 E_17.1)
  refine g_static C (own_w hw 52 rfl) (own_w hw 53 rfl) (own_w hw 54 rfl) (own_w hw 55 rfl) (by decide) (rm_copyOf00 l Z a0 hw n0 a_15 (0 : Int32) h_14 f_34 f_32 E_19) (st := [(.ref t)]) [(.ref a_15), (.int (0 : Int32))] rfl rfl own_pd_4_copyOf rfl rfl (by decide) (W := 1) (Nat.le_of_eq rfl) (by decide) (by decide) (by decide) d5_85 (pc' := 88) rfl ?_
  intro v_48 h_46 q_47
  obtain ⟨b_49, rfl, le_50, K_51⟩ := q_47
  have ne_52 : a_15 ≠ b_49 := ne_ge f_32.lt le_50
  have ne_53 : bb ≠ b_49 := ne_ge f_35.lt le_50
  have ne_54 : bk ≠ b_49 := ne_ge f_36.lt le_50
  have ne_55 : bs ≠ b_49 := ne_ge f_37.lt le_50
  have ne_56 : bv ≠ b_49 := ne_ge f_38.lt le_50
  have ne_57 : e_READ ≠ b_49 := ne_ge f_39.lt le_50
  have ne_58 : e_WRITE ≠ b_49 := ne_ge f_40.lt le_50
  have ne_59 : en' ≠ b_49 := ne_ge f_41.lt le_50
  have ne_60 : src ≠ b_49 := ne_ge f_42.lt le_50
  have ne_61 : st ≠ b_49 := ne_ge f_43.lt le_50
  have ne_62 : t ≠ b_49 := ne_ge f_44.lt le_50
  have ge_b_49 : n0 ≤ b_49 := Nat.le_trans f_34 le_50
  have gs_b_49 : h0.size ≤ b_49 := Nat.le_trans f_45 le_50
  show Go B n0 _ h_46 2 0 88 #[.val (.ref t), .val (.ref src), .val (.ref a_15), .val (.int (0 : Int32)), .val (.int (0 : Int32))] [(.ref b_49), (.ref t)]
  have f_63 := (((T_written.keep K_2 (ninS e4 nin0)).ext E_17).keep K_51 nin0)
  have f_64 := (f_44.keep K_51)
  refine g_putfield C (host := "") (v := (.ref b_49)) (Or.inl (own_w hw 19 rfl)) Via.refl f_63 f_64 (Or.inl (own_w hw 20 rfl)) (own_w hw 2 rfl) (ty := (.array .int)) (by decide) rfl rfl gg6 d5_88 (pc' := 91) rfl ?_
  intro h_65 W_66
  have f_67 := f_63.same W_66
  refine g_aload_n C d5_91 (v := (.ref t)) rfl rfl (pc' := 92) rfl ?_
  refine g_iconst C d5_92 (v := (1 : Int32)) rfl (pc' := 93) rfl ?_
  have f_68 := ((((T_whole.keep K_2 (ninS e4 nin0)).ext E_17).keep K_51 nin0).other W_66 (Or.inr (slot_ne (Or.inl (own_w hw 41 rfl)) (Or.inl (own_w hw 20 rfl)) (by decide) (t := .boolean) (t' := (.array .int)) (by decide) (by decide))))
  have f_69 := (f_64.wr W_66)
  refine g_putfield C (host := "") (v := (.int (1 : Int32))) (Or.inl (own_w hw 40 rfl)) Via.refl f_68 f_69 (Or.inl (own_w hw 41 rfl)) (own_w hw 2 rfl) (ty := .boolean) (by decide) rfl rfl gg6 d5_93 (pc' := 96) rfl ?_
  intro h_70 W_71
  have f_72 := f_68.same W_71
  refine g_return C rfl d5_96 (by decide) (by decide) ?_
  have f_73 := (((f_36.keep K_51 nin0).keep (Keep.of_wr W_66) (nin1 (Ne.symm e0))).keep (Keep.of_wr W_71) (nin1 (Ne.symm e0)))
  have f_74 := (((f_37.keep K_51 nin0).keep (Keep.of_wr W_66) (nin1 (Ne.symm e1))).keep (Keep.of_wr W_71) (nin1 (Ne.symm e1)))
  have f_75 := (((f_38.keep K_51 nin0).keep (Keep.of_wr W_66) (nin1 (Ne.symm e2))).keep (Keep.of_wr W_71) (nin1 (Ne.symm e2)))
  have f_76 := (((f_43.keep K_51 nin0).keep (Keep.of_wr W_66) (nin1 (Ne.symm e3))).keep (Keep.of_wr W_71) (nin1 (Ne.symm e3)))
  have f_77 := (((f_41.keep K_51 nin0).keep (Keep.of_wr W_66) (nin1 (Ne.symm e4))).keep (Keep.of_wr W_71) (nin1 (Ne.symm e4)))
  have f_78 := (((f_35.keep K_51 nin0).keep (Keep.of_wr W_66) (nin1 (Ne.symm e5))).keep (Keep.of_wr W_71) (nin1 (Ne.symm e5)))
  have f_79 := (f_69.wr W_71)
  have f_80 := (((((T_kinds.keep K_2 (ninS e4 nin0)).ext E_17).keep K_51 nin0).other W_66 (Or.inr (slot_ne (Or.inl (own_w hw 13 rfl)) (Or.inl (own_w hw 20 rfl)) (by decide) (t := (.array (.object "com/example/vestalia/vestalia/model/Step$Kind"))) (t' := (.array .int)) (by decide) (by decide)))).other W_71 (Or.inr (slot_ne (Or.inl (own_w hw 13 rfl)) (Or.inl (own_w hw 41 rfl)) (by decide) (t := (.array (.object "com/example/vestalia/vestalia/model/Step$Kind"))) (t' := .boolean) (by decide) (by decide))))
  have f_81 := (((((T_slots.keep K_2 (ninS e4 nin0)).ext E_17).keep K_51 nin0).other W_66 (Or.inr (slot_ne (Or.inl (own_w hw 16 rfl)) (Or.inl (own_w hw 20 rfl)) (by decide) (t := (.array .int)) (t' := (.array .int)) (by decide) (by decide)))).other W_71 (Or.inr (slot_ne (Or.inl (own_w hw 16 rfl)) (Or.inl (own_w hw 41 rfl)) (by decide) (t := (.array .int)) (t' := .boolean) (by decide) (by decide))))
  have f_82 := (((((T_values.keep K_2 (ninS e4 nin0)).ext E_17).keep K_51 nin0).other W_66 (Or.inr (slot_ne (Or.inl (own_w hw 18 rfl)) (Or.inl (own_w hw 20 rfl)) (by decide) (t := (.array .long)) (t' := (.array .int)) (by decide) (by decide)))).other W_71 (Or.inr (slot_ne (Or.inl (own_w hw 18 rfl)) (Or.inl (own_w hw 41 rfl)) (by decide) (t := (.array .long)) (t' := .boolean) (by decide) (by decide))))
  have f_83 := (((((T_width.keep K_2 (ninS e4 nin0)).ext E_17).keep K_51 nin0).other W_66 (Or.inr (slot_ne (Or.inr (own_w hw 22 rfl)) (Or.inl (own_w hw 20 rfl)) (by decide) (t := .int) (t' := (.array .int)) (by decide) (by decide)))).other W_71 (Or.inr (slot_ne (Or.inr (own_w hw 22 rfl)) (Or.inl (own_w hw 41 rfl)) (by decide) (t := .int) (t' := .boolean) (by decide) (by decide))))
  have f_84 := (((((T_start.keep K_2 (ninS e4 nin0)).ext E_17).keep K_51 nin0).other W_66 (Or.inr (slot_ne (Or.inr (own_w hw 24 rfl)) (Or.inl (own_w hw 20 rfl)) (by decide) (t := (.array .long)) (t' := (.array .int)) (by decide) (by decide)))).other W_71 (Or.inr (slot_ne (Or.inr (own_w hw 24 rfl)) (Or.inl (own_w hw 41 rfl)) (by decide) (t := (.array .long)) (t' := .boolean) (by decide) (by decide))))
  have f_85 := (((((T_end.keep K_2 (ninS e4 nin0)).ext E_17).keep K_51 nin0).other W_66 (Or.inr (slot_ne (Or.inr (own_w hw 26 rfl)) (Or.inl (own_w hw 20 rfl)) (by decide) (t := (.array .long)) (t' := (.array .int)) (by decide) (by decide)))).other W_71 (Or.inr (slot_ne (Or.inr (own_w hw 26 rfl)) (Or.inl (own_w hw 41 rfl)) (by decide) (t := (.array .long)) (t' := .boolean) (by decide) (by decide))))
  have f_86 := (((((T_before.keep K_2 (ninS e4 nin0)).ext E_17).keep K_51 nin0).other W_66 (Or.inr (slot_ne (Or.inl (own_w hw 28 rfl)) (Or.inl (own_w hw 20 rfl)) (by decide) (t := (.array .long)) (t' := (.array .int)) (by decide) (by decide)))).other W_71 (Or.inr (slot_ne (Or.inl (own_w hw 28 rfl)) (Or.inl (own_w hw 41 rfl)) (by decide) (t := (.array .long)) (t' := .boolean) (by decide) (by decide))))
  have f_87 := (((f_33.keep K_51 nin0).other W_66 (Or.inr (slot_ne (Or.inl (own_w hw 39 rfl)) (Or.inl (own_w hw 20 rfl)) (by decide) (t := .int) (t' := (.array .int)) (by decide) (by decide)))).other W_71 (Or.inr (slot_ne (Or.inl (own_w hw 39 rfl)) (Or.inl (own_w hw 41 rfl)) (by decide) (t := .int) (t' := .boolean) (by decide) (by decide))))
  have f_88 := (f_67.other W_71 (Or.inr (slot_ne (Or.inl (own_w hw 20 rfl)) (Or.inl (own_w hw 41 rfl)) (by decide) (t := (.array .int)) (t' := .boolean) (by decide) (by decide))))
  exact ⟨rfl, ((((((Keep.refl h0 [t, en']).trans K_2 (allS (Or.inl (List.mem_of_getElem? (i := 1) rfl)) all0)).ext E_17).trans K_51 all0).wr W_66 (Or.inl (List.mem_of_getElem? (i := 0) rfl))).wr W_71 (Or.inl (List.mem_of_getElem? (i := 0) rfl))), ⟨f_79, f_80, f_81, f_82, f_83, f_84, f_85, f_86, f_87, f_72, ⟨b_49, f_88⟩, f_73, f_74, f_75, f_76, f_77, f_78⟩⟩
theorem own_pd_5_contains : parseMethodDescriptor "([III)Z" = some ⟨[(.array .int), .int, .int], (some .boolean)⟩ := by decide +kernel
theorem d5_35 : decode prog_32_method_6_code 35 = .ok (.aload_n 0, 1) := by decide +kernel
theorem d5_36 : decode prog_32_method_6_code 36 = .ok (.getfield 9, 3) := by decide +kernel
theorem d5_39 : decode prog_32_method_6_code 39 = .ok (.iload 4, 2) := by decide +kernel
theorem d5_41 : decode prog_32_method_6_code 41 = .ok (.aaload, 1) := by decide +kernel
theorem d5_42 : decode prog_32_method_6_code 42 = .ok (.getstatic 56, 3) := by decide +kernel
theorem d5_45 : decode prog_32_method_6_code 45 = .ok (.if_acmp .ne 31, 3) := by decide +kernel
theorem d5_48 : decode prog_32_method_6_code 48 = .ok (.aload_n 2, 1) := by decide +kernel
theorem d5_49 : decode prog_32_method_6_code 49 = .ok (.iload_n 3, 1) := by decide +kernel
theorem d5_50 : decode prog_32_method_6_code 50 = .ok (.aload_n 0, 1) := by decide +kernel
theorem d5_51 : decode prog_32_method_6_code 51 = .ok (.getfield 15, 3) := by decide +kernel
theorem d5_54 : decode prog_32_method_6_code 54 = .ok (.iload 4, 2) := by decide +kernel
theorem d5_56 : decode prog_32_method_6_code 56 = .ok (.iaload, 1) := by decide +kernel
theorem d5_57 : decode prog_32_method_6_code 57 = .ok (.invokestatic 60, 3) := by decide +kernel
theorem d5_60 : decode prog_32_method_6_code 60 = .ok (.ifCond .ne 16, 3) := by decide +kernel
theorem d5_63 : decode prog_32_method_6_code 63 = .ok (.aload_n 2, 1) := by decide +kernel
theorem d5_64 : decode prog_32_method_6_code 64 = .ok (.iload_n 3, 1) := by decide +kernel
theorem d5_65 : decode prog_32_method_6_code 65 = .ok (.aload_n 0, 1) := by decide +kernel
theorem d5_66 : decode prog_32_method_6_code 66 = .ok (.getfield 15, 3) := by decide +kernel
theorem d5_69 : decode prog_32_method_6_code 69 = .ok (.iload 4, 2) := by decide +kernel
theorem d5_71 : decode prog_32_method_6_code 71 = .ok (.iaload, 1) := by decide +kernel
theorem d5_72 : decode prog_32_method_6_code 72 = .ok (.iastore, 1) := by decide +kernel
theorem d5_73 : decode prog_32_method_6_code 73 = .ok (.iinc 3 1, 3) := by decide +kernel
theorem d5_76 : decode prog_32_method_6_code 76 = .ok (.iinc 4 1, 3) := by decide +kernel
theorem d5_79 : decode prog_32_method_6_code 79 = .ok (.goto (-53), 3) := by decide +kernel
set_option maxRecDepth 65536 in
set_option maxHeartbeats 40000000 in
theorem rm_end_0WRITE (l : Launch) (Z : State) (a0 : Array Value) (hw : ∀ d ∈ tables_1, d.before a0 Z = true) (n0 : Nat) (t bk bs bv st en' bb : Addr) (src : Addr) (wh s0 : Int32) (v0 : Int64) (x0 x1 : Int64) (ls lb : List Value) (e_WRITE e_READ : Addr) (h0 : Heap) (Z0 : n0 ≤ h0.size) (tr : Tr Z h0 t bk bs bv st en' bb (0 : Int32) (1 : Int32) wh (.ref e_WRITE) s0 v0 ls [] lb) (di : Dis bk bs bv st en' bb) (dt : t ≠ bk ∧ t ≠ bs ∧ t ≠ bv ∧ t ≠ st ∧ t ≠ en' ∧ t ≠ bb) (gg : n0 ≤ bk ∧ n0 ≤ bs ∧ n0 ≤ bv ∧ n0 ≤ st ∧ n0 ≤ en' ∧ n0 ≤ bb ∧ n0 ≤ t) (A_src : Ary Z h0 src .long [.long x0, .long x1]) (ns : src ≠ en') (nt : src ≠ t) (en : Ens Z e_WRITE e_READ) (O : Old Z n0 h0) :
    Met1 l Z (⟨"com/example/vestalia/vestalia/locks/StepTrace", "end", "([J)V"⟩ : MethodName) prog_32_method_6_code 5 none ({ frames := 2, cells := 2, slots := 2, locals := 29 } : Room) n0 #[(.ref t), (.ref src)] h0 (fun v h => v = none ∧ Keep h0 h [t, en'] ∧ Tr Z h t bk bs bv st en' bb (0 : Int32) (1 : Int32) (1 : Int32) (.ref e_WRITE) s0 v0 ls [] lb) := by
  refine met_of (plainFor_of_name own_pn_com_example_vestalia_vestalia_locks_StepTrace) (L0 := #[.val (.ref t), .val (.ref src), .unset, .unset, .unset]) (by first | (simp [argsToLocals, Value.category]; done) | rfl) ?_
  intro B C
  change Ctx B l _ _ "com/example/vestalia/vestalia/locks/StepTrace" "end" _ _ Z at C
  have en' := en
  obtain ⟨⟨S_WRITE, X_WRITE, D_WRITE⟩, ⟨S_READ, X_READ, D_READ⟩⟩ := en'
  have tr' := tr
  obtain ⟨E_t, T_kinds, T_slots, T_values, T_width, T_start, T_end, T_before, T_length, T_whole, ⟨r_w, T_written⟩, A_kinds, A_slots, A_values, A_start, A_end, A_before⟩ := tr'
  have di' := di
  obtain ⟨d0, d1, d2, d3, d4, d5, d6, d7, d8, d9, d10, d11, d12, d13, d14⟩ := di'
  have dt' := dt
  obtain ⟨e0, e1, e2, e3, e4, e5⟩ := dt'
  have gg' := gg
  obtain ⟨gg0, gg1, gg2, gg3, gg4, gg5, gg6⟩ := gg'
  refine g_aload_n C d5_0 (v := (.ref src)) rfl rfl (pc' := 1) rfl ?_
  refine g_iconst C d5_1 (v := (0 : Int32)) rfl (pc' := 2) rfl ?_
  refine g_aload_n C d5_2 (v := (.ref t)) rfl rfl (pc' := 3) rfl ?_
  refine g_getfield C (host := "") (v := (.ref en')) (Or.inl (own_w hw 25 rfl)) Via.refl T_end d5_3 (pc' := 6) rfl ?_
  refine g_iconst C d5_6 (v := (0 : Int32)) rfl (pc' := 7) rfl ?_
  refine g_aload_n C d5_7 (v := (.ref t)) rfl rfl (pc' := 8) rfl ?_
  refine g_getfield C (host := "") (v := (.int (0 : Int32))) (Or.inl (own_w hw 21 rfl)) Via.refl T_width d5_8 (pc' := 11) rfl ?_
  refine g_arraycopy C (own_w hw 34 rfl) (own_w hw 37 rfl) (own_w hw 35 rfl) (own_w hw 36 rfl) A_src A_end rfl (by simp [fits]) (by simp [fits]) (by decide) (by decide) (by decide) (spN := 0) (dpN := 0) (nnN := 0) (by decide) (by decide) (by decide) (show 0 + 0 ≤ 2 by decide) (show 0 + 0 ≤ 0 by decide) (out := []) rfl gg4 rfl (by decide) (W := 0) (Nat.le_of_eq rfl) (by decide) d5_11 (pc' := 14) rfl ?_
  intro h_1 K_2 f_3
  show Go B n0 _ h_1 0 0 14 #[.val (.ref t), .val (.ref src), .unset, .unset, .unset] []
  refine g_aload_n C d5_14 (v := (.ref t)) rfl rfl (pc' := 15) rfl ?_
  have f_4 := (T_length.keep K_2 (ninS e4 nin0))
  refine g_getfield C (host := "") (v := (.int (1 : Int32))) (Or.inl (own_w hw 38 rfl)) Via.refl f_4 d5_15 (pc' := 18) rfl ?_
  have f_5 := (A_before.keep K_2 (ninS (Ne.symm d14) nin0))
  have f_6 := (A_kinds.keep K_2 (ninS d3 nin0))
  have f_7 := (A_slots.keep K_2 (ninS d7 nin0))
  have f_8 := (A_values.keep K_2 (ninS d10 nin0))
  have f_9 := ((X_READ.ext O.2).keep K_2)
  have f_10 := ((X_WRITE.ext O.2).keep K_2)
  have f_11 := (A_src.keep K_2 (ninS ns nin0))
  have f_12 := (A_start.keep K_2 (ninS d12 nin0))
  have f_13 := (E_t.keep K_2)
  refine g_newarrayE C (own_w hw 14 rfl) (ty := .int) rfl (ad := "[I") (by decide) (by decide) (cap := 1) (by decide) (by decide) (by decide) (by decide) d5_18 (pc' := 20) rfl ?_
  intro h_14 a_15 g_16 E_17 A_18 E_19
  have ne_20 : bb ≠ a_15 := ne_new f_5.lt g_16
  have ne_21 : bk ≠ a_15 := ne_new f_6.lt g_16
  have ne_22 : bs ≠ a_15 := ne_new f_7.lt g_16
  have ne_23 : bv ≠ a_15 := ne_new f_8.lt g_16
  have ne_24 : e_READ ≠ a_15 := ne_new f_9.lt g_16
  have ne_25 : e_WRITE ≠ a_15 := ne_new f_10.lt g_16
  have ne_26 : en' ≠ a_15 := ne_new f_3.lt g_16
  have ne_27 : src ≠ a_15 := ne_new f_11.lt g_16
  have ne_28 : st ≠ a_15 := ne_new f_12.lt g_16
  have ne_29 : t ≠ a_15 := ne_new f_13.lt g_16
  have f_30 := (Nat.le_trans Z0 K_2.1)
  have ge_a_15 : n0 ≤ a_15 := Nat.le_trans f_30 (Nat.le_of_eq g_16.symm)
  have f_31 := (Nat.le_trans (Nat.le_refl h0.size) K_2.1)
  have gs_a_15 : h0.size ≤ a_15 := Nat.le_trans f_31 (Nat.le_of_eq g_16.symm)
  have f_32 : Ary Z h_14 a_15 .int [(.int (0 : Int32))] := A_18
  show Go B n0 _ h_14 1 1 20 #[.val (.ref t), .val (.ref src), .unset, .unset, .unset] [(.ref a_15)]
  refine g_astore_n C d5_20 (v := (.ref a_15)) (L' := #[.val (.ref t), .val (.ref src), .val (.ref a_15), .unset, .unset]) rfl rfl (pc' := 21) rfl ?_
  refine g_iconst C d5_21 (v := (0 : Int32)) rfl (pc' := 22) rfl ?_
  refine g_istore_n C d5_22 (v := (0 : Int32)) (L' := #[.val (.ref t), .val (.ref src), .val (.ref a_15), .val (.int (0 : Int32)), .unset]) rfl (pc' := 23) rfl ?_
  refine g_iconst C d5_23 (v := (0 : Int32)) rfl (pc' := 24) rfl ?_
  refine g_istore C d5_24 (v := (0 : Int32)) (L' := #[.val (.ref t), .val (.ref src), .val (.ref a_15), .val (.int (0 : Int32)), .val (.int (0 : Int32))]) rfl (pc' := 26) rfl ?_
  refine g_iload C d5_26 (v := (0 : Int32)) rfl (pc' := 28) rfl ?_
  refine g_aload_n C d5_28 (v := (.ref t)) rfl rfl (pc' := 29) rfl ?_
  have f_33 := (f_4.ext E_17)
  refine g_getfield C (host := "") (v := (.int (1 : Int32))) (Or.inl (own_w hw 38 rfl)) Via.refl f_33 d5_29 (pc' := 32) rfl ?_
  refine g_icmp_n C d5_32 (Jvm.Free.XT.ii_ge_f (by decide)) (pc' := 35) rfl ?_
  refine g_aload_n C d5_35 (v := (.ref t)) rfl rfl (pc' := 36) rfl ?_
  have f_34 := ((T_kinds.keep K_2 (ninS e4 nin0)).ext E_17)
  refine g_getfield C (host := "") (v := (.ref bk)) (Or.inl (own_w hw 12 rfl)) Via.refl f_34 d5_36 (pc' := 39) rfl ?_
  refine g_iload C d5_39 (v := (0 : Int32)) rfl (pc' := 41) rfl ?_
  have f_35 := (f_6.ext E_17)
  refine g_aaload C (AryR.ary f_35) rfl (by decide) (i := 0) (by decide) (v := (.ref e_WRITE)) rfl d5_41 (pc' := 42) rfl ?_
  have f_36 := ((O.keep K_2 (allS gg4 all0)).ext E_17)
  refine g_getstatic C (host := "") (v := (.ref e_WRITE)) (Or.inl (own_w hw 78 rfl)) Via.refl (S_WRITE.ext f_36.2) d5_42 (pc' := 45) rfl ?_
  refine g_acmp_n C d5_45 rfl rfl (Jvm.Free.XT.aa_ne_f rfl) (pc' := 48) rfl ?_
  refine g_aload_n C d5_48 (v := (.ref a_15)) rfl rfl (pc' := 49) rfl ?_
  refine g_iload_n C d5_49 (v := (0 : Int32)) rfl (pc' := 50) rfl ?_
  refine g_aload_n C d5_50 (v := (.ref t)) rfl rfl (pc' := 51) rfl ?_
  have f_37 := ((T_slots.keep K_2 (ninS e4 nin0)).ext E_17)
  refine g_getfield C (host := "") (v := (.ref bs)) (Or.inl (own_w hw 15 rfl)) Via.refl f_37 d5_51 (pc' := 54) rfl ?_
  refine g_iload C d5_54 (v := (0 : Int32)) rfl (pc' := 56) rfl ?_
  have f_38 := (f_7.ext E_17)
  refine g_iaload C f_38 (by decide) (i := 0) (by decide) (v := s0) rfl d5_56 (pc' := 57) rfl ?_
  have f_39 := (Nat.le_trans f_30 E_17.1)
  refine g_static C (own_w hw 79 rfl) (own_w hw 80 rfl) (own_w hw 81 rfl) (own_w hw 82 rfl) (by decide) (rm_contains l Z a0 hw n0 a_15 s0 h_14 f_39 ) (st := []) [(.ref a_15), (.int (0 : Int32)), (.int s0)] rfl rfl own_pd_5_contains rfl rfl (by decide) (W := 0) (Nat.le_of_eq rfl) (by decide) (by decide) (by decide) d5_57 (pc' := 60) rfl ?_
  intro v_42 h_40 q_41
  obtain ⟨rfl, rfl⟩ := q_41
  show Go B n0 _ h_14 1 1 60 #[.val (.ref t), .val (.ref src), .val (.ref a_15), .val (.int (0 : Int32)), .val (.int (0 : Int32))] [(.int (0 : Int32))]
  refine g_if_n C d5_60 (Jvm.Free.XT.i0_ne_f (by decide)) (pc' := 63) rfl ?_
  refine g_aload_n C d5_63 (v := (.ref a_15)) rfl rfl (pc' := 64) rfl ?_
  refine g_iload_n C d5_64 (v := (0 : Int32)) rfl (pc' := 65) rfl ?_
  refine g_aload_n C d5_65 (v := (.ref t)) rfl rfl (pc' := 66) rfl ?_
  refine g_getfield C (host := "") (v := (.ref bs)) (Or.inl (own_w hw 15 rfl)) Via.refl f_37 d5_66 (pc' := 69) rfl ?_
  refine g_iload C d5_69 (v := (0 : Int32)) rfl (pc' := 71) rfl ?_
  refine g_iaload C f_38 (by decide) (i := 0) (by decide) (v := s0) rfl d5_71 (pc' := 72) rfl ?_
  refine g_iastore C f_32 (by decide) (i := 0) (by decide) (show 0 < 1 by decide) (w := (.int s0)) rfl ge_a_15 d5_72 (pc' := 73) rfl ?_
  intro h_43 K_44 A_45
  have f_46 : Ary Z h_43 a_15 .int [(.int s0)] := A_45
  refine g_iinc C d5_73 (v := (0 : Int32)) (w := (1 : Int32)) rfl rfl (L' := #[.val (.ref t), .val (.ref src), .val (.ref a_15), .val (.int (1 : Int32)), .val (.int (0 : Int32))]) rfl (pc' := 76) rfl ?_
  refine g_iinc C d5_76 (v := (0 : Int32)) (w := (1 : Int32)) rfl rfl (L' := #[.val (.ref t), .val (.ref src), .val (.ref a_15), .val (.int (1 : Int32)), .val (.int (1 : Int32))]) rfl (pc' := 79) rfl ?_
  refine g_goto C d5_79 (pc' := 26) (by decide) (by decide) ?_
  refine g_iload C d5_26 (v := (1 : Int32)) rfl (pc' := 28) rfl ?_
  refine g_aload_n C d5_28 (v := (.ref t)) rfl rfl (pc' := 29) rfl ?_
  have f_47 := (f_33.keep K_44 (ninS ne_29 nin0))
  refine g_getfield C (host := "") (v := (.int (1 : Int32))) (Or.inl (own_w hw 38 rfl)) Via.refl f_47 d5_29 (pc' := 32) rfl ?_
  refine g_icmp_y C d5_32 (Jvm.Free.XT.ii_ge_t (by decide)) (pc' := 82) (by decide) (by decide) ?_
  refine g_aload_n C d5_82 (v := (.ref t)) rfl rfl (pc' := 83) rfl ?_
  refine g_aload_n C d5_83 (v := (.ref a_15)) rfl rfl (pc' := 84) rfl ?_
  refine g_iload_n C d5_84 (v := (1 : Int32)) rfl (pc' := 85) rfl ?_
  have f_48 := (E_19.keep K_44)
  have f_49 := (Nat.le_trans f_39 K_44.1)
  have f_50 := ((f_5.ext E_17).keep K_44 (ninS ne_20 nin0))
  have f_51 := (f_35.keep K_44 (ninS ne_21 nin0))
  have f_52 := (f_38.keep K_44 (ninS ne_22 nin0))
  have f_53 := ((f_8.ext E_17).keep K_44 (ninS ne_23 nin0))
  have f_54 := ((f_9.ext E_17).keep K_44)
  have f_55 := ((f_10.ext E_17).keep K_44)
  have f_56 := ((f_3.ext E_17).keep K_44 (ninS ne_26 nin0))
  have f_57 := ((f_11.ext E_17).keep K_44 (ninS ne_27 nin0))
  have f_58 := ((f_12.ext E_17).keep K_44 (ninS ne_28 nin0))
  have f_59 := ((f_13.ext E_17).keep K_44)
  have f_60 := (Nat.le_trans (Nat.le_trans f_31 E_17.1) K_44.1)
  refine g_static C (own_w hw 52 rfl) (own_w hw 53 rfl) (own_w hw 54 rfl) (own_w hw 55 rfl) (by decide) (rm_copyOf11 l Z a0 hw n0 a_15 s0 h_43 f_49 f_46 f_48) (st := [(.ref t)]) [(.ref a_15), (.int (1 : Int32))] rfl rfl own_pd_4_copyOf rfl rfl (by decide) (W := 1) (Nat.le_of_eq rfl) (by decide) (by decide) (by decide) d5_85 (pc' := 88) rfl ?_
  intro v_63 h_61 q_62
  obtain ⟨b_64, rfl, le_65, K_66⟩ := q_62
  have ne_67 : a_15 ≠ b_64 := ne_ge f_46.lt le_65
  have ne_68 : bb ≠ b_64 := ne_ge f_50.lt le_65
  have ne_69 : bk ≠ b_64 := ne_ge f_51.lt le_65
  have ne_70 : bs ≠ b_64 := ne_ge f_52.lt le_65
  have ne_71 : bv ≠ b_64 := ne_ge f_53.lt le_65
  have ne_72 : e_READ ≠ b_64 := ne_ge f_54.lt le_65
  have ne_73 : e_WRITE ≠ b_64 := ne_ge f_55.lt le_65
  have ne_74 : en' ≠ b_64 := ne_ge f_56.lt le_65
  have ne_75 : src ≠ b_64 := ne_ge f_57.lt le_65
  have ne_76 : st ≠ b_64 := ne_ge f_58.lt le_65
  have ne_77 : t ≠ b_64 := ne_ge f_59.lt le_65
  have ge_b_64 : n0 ≤ b_64 := Nat.le_trans f_49 le_65
  have gs_b_64 : h0.size ≤ b_64 := Nat.le_trans f_60 le_65
  show Go B n0 _ h_61 2 2 88 #[.val (.ref t), .val (.ref src), .val (.ref a_15), .val (.int (1 : Int32)), .val (.int (1 : Int32))] [(.ref b_64), (.ref t)]
  have f_78 := ((((T_written.keep K_2 (ninS e4 nin0)).ext E_17).keep K_44 (ninS ne_29 nin0)).keep K_66 nin0)
  have f_79 := (f_59.keep K_66)
  refine g_putfield C (host := "") (v := (.ref b_64)) (Or.inl (own_w hw 19 rfl)) Via.refl f_78 f_79 (Or.inl (own_w hw 20 rfl)) (own_w hw 2 rfl) (ty := (.array .int)) (by decide) rfl rfl gg6 d5_88 (pc' := 91) rfl ?_
  intro h_80 W_81
  have f_82 := f_78.same W_81
  refine g_aload_n C d5_91 (v := (.ref t)) rfl rfl (pc' := 92) rfl ?_
  refine g_iconst C d5_92 (v := (1 : Int32)) rfl (pc' := 93) rfl ?_
  have f_83 := (((((T_whole.keep K_2 (ninS e4 nin0)).ext E_17).keep K_44 (ninS ne_29 nin0)).keep K_66 nin0).other W_81 (Or.inr (slot_ne (Or.inl (own_w hw 41 rfl)) (Or.inl (own_w hw 20 rfl)) (by decide) (t := .boolean) (t' := (.array .int)) (by decide) (by decide))))
  have f_84 := (f_79.wr W_81)
  refine g_putfield C (host := "") (v := (.int (1 : Int32))) (Or.inl (own_w hw 40 rfl)) Via.refl f_83 f_84 (Or.inl (own_w hw 41 rfl)) (own_w hw 2 rfl) (ty := .boolean) (by decide) rfl rfl gg6 d5_93 (pc' := 96) rfl ?_
  intro h_85 W_86
  have f_87 := f_83.same W_86
  refine g_return C rfl d5_96 (by decide) (by decide) ?_
  have f_88 := (((f_51.keep K_66 nin0).keep (Keep.of_wr W_81) (nin1 (Ne.symm e0))).keep (Keep.of_wr W_86) (nin1 (Ne.symm e0)))
  have f_89 := (((f_52.keep K_66 nin0).keep (Keep.of_wr W_81) (nin1 (Ne.symm e1))).keep (Keep.of_wr W_86) (nin1 (Ne.symm e1)))
  have f_90 := (((f_53.keep K_66 nin0).keep (Keep.of_wr W_81) (nin1 (Ne.symm e2))).keep (Keep.of_wr W_86) (nin1 (Ne.symm e2)))
  have f_91 := (((f_58.keep K_66 nin0).keep (Keep.of_wr W_81) (nin1 (Ne.symm e3))).keep (Keep.of_wr W_86) (nin1 (Ne.symm e3)))
  have f_92 := (((f_56.keep K_66 nin0).keep (Keep.of_wr W_81) (nin1 (Ne.symm e4))).keep (Keep.of_wr W_86) (nin1 (Ne.symm e4)))
  have f_93 := (((f_50.keep K_66 nin0).keep (Keep.of_wr W_81) (nin1 (Ne.symm e5))).keep (Keep.of_wr W_86) (nin1 (Ne.symm e5)))
  have f_94 := (f_84.wr W_86)
  have f_95 := ((((f_34.keep K_44 (ninS ne_29 nin0)).keep K_66 nin0).other W_81 (Or.inr (slot_ne (Or.inl (own_w hw 13 rfl)) (Or.inl (own_w hw 20 rfl)) (by decide) (t := (.array (.object "com/example/vestalia/vestalia/model/Step$Kind"))) (t' := (.array .int)) (by decide) (by decide)))).other W_86 (Or.inr (slot_ne (Or.inl (own_w hw 13 rfl)) (Or.inl (own_w hw 41 rfl)) (by decide) (t := (.array (.object "com/example/vestalia/vestalia/model/Step$Kind"))) (t' := .boolean) (by decide) (by decide))))
  have f_96 := ((((f_37.keep K_44 (ninS ne_29 nin0)).keep K_66 nin0).other W_81 (Or.inr (slot_ne (Or.inl (own_w hw 16 rfl)) (Or.inl (own_w hw 20 rfl)) (by decide) (t := (.array .int)) (t' := (.array .int)) (by decide) (by decide)))).other W_86 (Or.inr (slot_ne (Or.inl (own_w hw 16 rfl)) (Or.inl (own_w hw 41 rfl)) (by decide) (t := (.array .int)) (t' := .boolean) (by decide) (by decide))))
  have f_97 := ((((((T_values.keep K_2 (ninS e4 nin0)).ext E_17).keep K_44 (ninS ne_29 nin0)).keep K_66 nin0).other W_81 (Or.inr (slot_ne (Or.inl (own_w hw 18 rfl)) (Or.inl (own_w hw 20 rfl)) (by decide) (t := (.array .long)) (t' := (.array .int)) (by decide) (by decide)))).other W_86 (Or.inr (slot_ne (Or.inl (own_w hw 18 rfl)) (Or.inl (own_w hw 41 rfl)) (by decide) (t := (.array .long)) (t' := .boolean) (by decide) (by decide))))
  have f_98 := ((((((T_width.keep K_2 (ninS e4 nin0)).ext E_17).keep K_44 (ninS ne_29 nin0)).keep K_66 nin0).other W_81 (Or.inr (slot_ne (Or.inr (own_w hw 22 rfl)) (Or.inl (own_w hw 20 rfl)) (by decide) (t := .int) (t' := (.array .int)) (by decide) (by decide)))).other W_86 (Or.inr (slot_ne (Or.inr (own_w hw 22 rfl)) (Or.inl (own_w hw 41 rfl)) (by decide) (t := .int) (t' := .boolean) (by decide) (by decide))))
  have f_99 := ((((((T_start.keep K_2 (ninS e4 nin0)).ext E_17).keep K_44 (ninS ne_29 nin0)).keep K_66 nin0).other W_81 (Or.inr (slot_ne (Or.inr (own_w hw 24 rfl)) (Or.inl (own_w hw 20 rfl)) (by decide) (t := (.array .long)) (t' := (.array .int)) (by decide) (by decide)))).other W_86 (Or.inr (slot_ne (Or.inr (own_w hw 24 rfl)) (Or.inl (own_w hw 41 rfl)) (by decide) (t := (.array .long)) (t' := .boolean) (by decide) (by decide))))
  have f_100 := ((((((T_end.keep K_2 (ninS e4 nin0)).ext E_17).keep K_44 (ninS ne_29 nin0)).keep K_66 nin0).other W_81 (Or.inr (slot_ne (Or.inr (own_w hw 26 rfl)) (Or.inl (own_w hw 20 rfl)) (by decide) (t := (.array .long)) (t' := (.array .int)) (by decide) (by decide)))).other W_86 (Or.inr (slot_ne (Or.inr (own_w hw 26 rfl)) (Or.inl (own_w hw 41 rfl)) (by decide) (t := (.array .long)) (t' := .boolean) (by decide) (by decide))))
  have f_101 := ((((((T_before.keep K_2 (ninS e4 nin0)).ext E_17).keep K_44 (ninS ne_29 nin0)).keep K_66 nin0).other W_81 (Or.inr (slot_ne (Or.inl (own_w hw 28 rfl)) (Or.inl (own_w hw 20 rfl)) (by decide) (t := (.array .long)) (t' := (.array .int)) (by decide) (by decide)))).other W_86 (Or.inr (slot_ne (Or.inl (own_w hw 28 rfl)) (Or.inl (own_w hw 41 rfl)) (by decide) (t := (.array .long)) (t' := .boolean) (by decide) (by decide))))
  have f_102 := (((f_47.keep K_66 nin0).other W_81 (Or.inr (slot_ne (Or.inl (own_w hw 39 rfl)) (Or.inl (own_w hw 20 rfl)) (by decide) (t := .int) (t' := (.array .int)) (by decide) (by decide)))).other W_86 (Or.inr (slot_ne (Or.inl (own_w hw 39 rfl)) (Or.inl (own_w hw 41 rfl)) (by decide) (t := .int) (t' := .boolean) (by decide) (by decide))))
  have f_103 := (f_82.other W_86 (Or.inr (slot_ne (Or.inl (own_w hw 20 rfl)) (Or.inl (own_w hw 41 rfl)) (by decide) (t := (.array .int)) (t' := .boolean) (by decide) (by decide))))
  exact ⟨rfl, (((((((Keep.refl h0 [t, en']).trans K_2 (allS (Or.inl (List.mem_of_getElem? (i := 1) rfl)) all0)).ext E_17).trans K_44 (allS (Or.inr gs_a_15) all0)).trans K_66 all0).wr W_81 (Or.inl (List.mem_of_getElem? (i := 0) rfl))).wr W_86 (Or.inl (List.mem_of_getElem? (i := 0) rfl))), ⟨f_94, f_95, f_96, f_97, f_98, f_99, f_100, f_101, f_102, f_87, ⟨b_64, f_103⟩, f_88, f_89, f_90, f_91, f_92, f_93⟩⟩
set_option maxRecDepth 65536 in
set_option maxHeartbeats 40000000 in
theorem rm_end_0READ (l : Launch) (Z : State) (a0 : Array Value) (hw : ∀ d ∈ tables_1, d.before a0 Z = true) (n0 : Nat) (t bk bs bv st en' bb : Addr) (src : Addr) (wh s0 : Int32) (v0 : Int64) (x0 x1 : Int64) (ls lb : List Value) (e_WRITE e_READ : Addr) (h0 : Heap) (Z0 : n0 ≤ h0.size) (tr : Tr Z h0 t bk bs bv st en' bb (0 : Int32) (1 : Int32) wh (.ref e_READ) s0 v0 ls [] lb) (di : Dis bk bs bv st en' bb) (dt : t ≠ bk ∧ t ≠ bs ∧ t ≠ bv ∧ t ≠ st ∧ t ≠ en' ∧ t ≠ bb) (gg : n0 ≤ bk ∧ n0 ≤ bs ∧ n0 ≤ bv ∧ n0 ≤ st ∧ n0 ≤ en' ∧ n0 ≤ bb ∧ n0 ≤ t) (A_src : Ary Z h0 src .long [.long x0, .long x1]) (ns : src ≠ en') (nt : src ≠ t) (en : Ens Z e_WRITE e_READ) (O : Old Z n0 h0) :
    Met1 l Z (⟨"com/example/vestalia/vestalia/locks/StepTrace", "end", "([J)V"⟩ : MethodName) prog_32_method_6_code 5 none ({ frames := 2, cells := 2, slots := 1, locals := 33 } : Room) n0 #[(.ref t), (.ref src)] h0 (fun v h => v = none ∧ Keep h0 h [t, en'] ∧ Tr Z h t bk bs bv st en' bb (0 : Int32) (1 : Int32) (1 : Int32) (.ref e_READ) s0 v0 ls [] lb) := by
  refine met_of (plainFor_of_name own_pn_com_example_vestalia_vestalia_locks_StepTrace) (L0 := #[.val (.ref t), .val (.ref src), .unset, .unset, .unset]) (by first | (simp [argsToLocals, Value.category]; done) | rfl) ?_
  intro B C
  change Ctx B l _ _ "com/example/vestalia/vestalia/locks/StepTrace" "end" _ _ Z at C
  have en' := en
  obtain ⟨⟨S_WRITE, X_WRITE, D_WRITE⟩, ⟨S_READ, X_READ, D_READ⟩⟩ := en'
  have tr' := tr
  obtain ⟨E_t, T_kinds, T_slots, T_values, T_width, T_start, T_end, T_before, T_length, T_whole, ⟨r_w, T_written⟩, A_kinds, A_slots, A_values, A_start, A_end, A_before⟩ := tr'
  have di' := di
  obtain ⟨d0, d1, d2, d3, d4, d5, d6, d7, d8, d9, d10, d11, d12, d13, d14⟩ := di'
  have dt' := dt
  obtain ⟨e0, e1, e2, e3, e4, e5⟩ := dt'
  have gg' := gg
  obtain ⟨gg0, gg1, gg2, gg3, gg4, gg5, gg6⟩ := gg'
  refine g_aload_n C d5_0 (v := (.ref src)) rfl rfl (pc' := 1) rfl ?_
  refine g_iconst C d5_1 (v := (0 : Int32)) rfl (pc' := 2) rfl ?_
  refine g_aload_n C d5_2 (v := (.ref t)) rfl rfl (pc' := 3) rfl ?_
  refine g_getfield C (host := "") (v := (.ref en')) (Or.inl (own_w hw 25 rfl)) Via.refl T_end d5_3 (pc' := 6) rfl ?_
  refine g_iconst C d5_6 (v := (0 : Int32)) rfl (pc' := 7) rfl ?_
  refine g_aload_n C d5_7 (v := (.ref t)) rfl rfl (pc' := 8) rfl ?_
  refine g_getfield C (host := "") (v := (.int (0 : Int32))) (Or.inl (own_w hw 21 rfl)) Via.refl T_width d5_8 (pc' := 11) rfl ?_
  refine g_arraycopy C (own_w hw 34 rfl) (own_w hw 37 rfl) (own_w hw 35 rfl) (own_w hw 36 rfl) A_src A_end rfl (by simp [fits]) (by simp [fits]) (by decide) (by decide) (by decide) (spN := 0) (dpN := 0) (nnN := 0) (by decide) (by decide) (by decide) (show 0 + 0 ≤ 2 by decide) (show 0 + 0 ≤ 0 by decide) (out := []) rfl gg4 rfl (by decide) (W := 0) (Nat.le_of_eq rfl) (by decide) d5_11 (pc' := 14) rfl ?_
  intro h_1 K_2 f_3
  show Go B n0 _ h_1 0 0 14 #[.val (.ref t), .val (.ref src), .unset, .unset, .unset] []
  refine g_aload_n C d5_14 (v := (.ref t)) rfl rfl (pc' := 15) rfl ?_
  have f_4 := (T_length.keep K_2 (ninS e4 nin0))
  refine g_getfield C (host := "") (v := (.int (1 : Int32))) (Or.inl (own_w hw 38 rfl)) Via.refl f_4 d5_15 (pc' := 18) rfl ?_
  have f_5 := (A_before.keep K_2 (ninS (Ne.symm d14) nin0))
  have f_6 := (A_kinds.keep K_2 (ninS d3 nin0))
  have f_7 := (A_slots.keep K_2 (ninS d7 nin0))
  have f_8 := (A_values.keep K_2 (ninS d10 nin0))
  have f_9 := ((X_READ.ext O.2).keep K_2)
  have f_10 := ((X_WRITE.ext O.2).keep K_2)
  have f_11 := (A_src.keep K_2 (ninS ns nin0))
  have f_12 := (A_start.keep K_2 (ninS d12 nin0))
  have f_13 := (E_t.keep K_2)
  refine g_newarrayE C (own_w hw 14 rfl) (ty := .int) rfl (ad := "[I") (by decide) (by decide) (cap := 1) (by decide) (by decide) (by decide) (by decide) d5_18 (pc' := 20) rfl ?_
  intro h_14 a_15 g_16 E_17 A_18 E_19
  have ne_20 : bb ≠ a_15 := ne_new f_5.lt g_16
  have ne_21 : bk ≠ a_15 := ne_new f_6.lt g_16
  have ne_22 : bs ≠ a_15 := ne_new f_7.lt g_16
  have ne_23 : bv ≠ a_15 := ne_new f_8.lt g_16
  have ne_24 : e_READ ≠ a_15 := ne_new f_9.lt g_16
  have ne_25 : e_WRITE ≠ a_15 := ne_new f_10.lt g_16
  have ne_26 : en' ≠ a_15 := ne_new f_3.lt g_16
  have ne_27 : src ≠ a_15 := ne_new f_11.lt g_16
  have ne_28 : st ≠ a_15 := ne_new f_12.lt g_16
  have ne_29 : t ≠ a_15 := ne_new f_13.lt g_16
  have f_30 := (Nat.le_trans Z0 K_2.1)
  have ge_a_15 : n0 ≤ a_15 := Nat.le_trans f_30 (Nat.le_of_eq g_16.symm)
  have f_31 := (Nat.le_trans (Nat.le_refl h0.size) K_2.1)
  have gs_a_15 : h0.size ≤ a_15 := Nat.le_trans f_31 (Nat.le_of_eq g_16.symm)
  have f_32 : Ary Z h_14 a_15 .int [(.int (0 : Int32))] := A_18
  show Go B n0 _ h_14 1 1 20 #[.val (.ref t), .val (.ref src), .unset, .unset, .unset] [(.ref a_15)]
  refine g_astore_n C d5_20 (v := (.ref a_15)) (L' := #[.val (.ref t), .val (.ref src), .val (.ref a_15), .unset, .unset]) rfl rfl (pc' := 21) rfl ?_
  refine g_iconst C d5_21 (v := (0 : Int32)) rfl (pc' := 22) rfl ?_
  refine g_istore_n C d5_22 (v := (0 : Int32)) (L' := #[.val (.ref t), .val (.ref src), .val (.ref a_15), .val (.int (0 : Int32)), .unset]) rfl (pc' := 23) rfl ?_
  refine g_iconst C d5_23 (v := (0 : Int32)) rfl (pc' := 24) rfl ?_
  refine g_istore C d5_24 (v := (0 : Int32)) (L' := #[.val (.ref t), .val (.ref src), .val (.ref a_15), .val (.int (0 : Int32)), .val (.int (0 : Int32))]) rfl (pc' := 26) rfl ?_
  refine g_iload C d5_26 (v := (0 : Int32)) rfl (pc' := 28) rfl ?_
  refine g_aload_n C d5_28 (v := (.ref t)) rfl rfl (pc' := 29) rfl ?_
  have f_33 := (f_4.ext E_17)
  refine g_getfield C (host := "") (v := (.int (1 : Int32))) (Or.inl (own_w hw 38 rfl)) Via.refl f_33 d5_29 (pc' := 32) rfl ?_
  refine g_icmp_n C d5_32 (Jvm.Free.XT.ii_ge_f (by decide)) (pc' := 35) rfl ?_
  refine g_aload_n C d5_35 (v := (.ref t)) rfl rfl (pc' := 36) rfl ?_
  have f_34 := ((T_kinds.keep K_2 (ninS e4 nin0)).ext E_17)
  refine g_getfield C (host := "") (v := (.ref bk)) (Or.inl (own_w hw 12 rfl)) Via.refl f_34 d5_36 (pc' := 39) rfl ?_
  refine g_iload C d5_39 (v := (0 : Int32)) rfl (pc' := 41) rfl ?_
  have f_35 := (f_6.ext E_17)
  refine g_aaload C (AryR.ary f_35) rfl (by decide) (i := 0) (by decide) (v := (.ref e_READ)) rfl d5_41 (pc' := 42) rfl ?_
  have f_36 := ((O.keep K_2 (allS gg4 all0)).ext E_17)
  refine g_getstatic C (host := "") (v := (.ref e_WRITE)) (Or.inl (own_w hw 78 rfl)) Via.refl (S_WRITE.ext f_36.2) d5_42 (pc' := 45) rfl ?_
  refine g_acmp_y C d5_45 rfl rfl (Jvm.Free.XT.aa_ne_t (fun q => (Fld.ne D_READ D_WRITE (by decide)) (Value.ref.inj q))) (pc' := 76) (by decide) (by decide) ?_
  refine g_iinc C d5_76 (v := (0 : Int32)) (w := (1 : Int32)) rfl rfl (L' := #[.val (.ref t), .val (.ref src), .val (.ref a_15), .val (.int (0 : Int32)), .val (.int (1 : Int32))]) rfl (pc' := 79) rfl ?_
  refine g_goto C d5_79 (pc' := 26) (by decide) (by decide) ?_
  refine g_iload C d5_26 (v := (1 : Int32)) rfl (pc' := 28) rfl ?_
  refine g_aload_n C d5_28 (v := (.ref t)) rfl rfl (pc' := 29) rfl ?_
  refine g_getfield C (host := "") (v := (.int (1 : Int32))) (Or.inl (own_w hw 38 rfl)) Via.refl f_33 d5_29 (pc' := 32) rfl ?_
  refine g_icmp_y C d5_32 (Jvm.Free.XT.ii_ge_t (by decide)) (pc' := 82) (by decide) (by decide) ?_
  refine g_aload_n C d5_82 (v := (.ref t)) rfl rfl (pc' := 83) rfl ?_
  refine g_aload_n C d5_83 (v := (.ref a_15)) rfl rfl (pc' := 84) rfl ?_
  refine g_iload_n C d5_84 (v := (0 : Int32)) rfl (pc' := 85) rfl ?_
  have f_37 := (Nat.le_trans f_30 E_17.1)
  have f_38 := (f_5.ext E_17)
  have f_39 := (f_7.ext E_17)
  have f_40 := (f_8.ext E_17)
  have f_41 := (f_9.ext E_17)
  have f_42 := (f_10.ext E_17)
  have f_43 := (f_3.ext E_17)
  have f_44 := (f_11.ext E_17)
  have f_45 := (f_12.ext E_17)
  have f_46 := (f_13.ext E_17)
  have f_47 := (Nat.le_trans f_31 E_17.1)
  refine g_static C (own_w hw 52 rfl) (own_w hw 53 rfl) (own_w hw 54 rfl) (own_w hw 55 rfl) (by decide) (rm_copyOf10 l Z a0 hw n0 a_15 (0 : Int32) h_14 f_37 f_32 E_19) (st := [(.ref t)]) [(.ref a_15), (.int (0 : Int32))] rfl rfl own_pd_4_copyOf rfl rfl (by decide) (W := 1) (Nat.le_of_eq rfl) (by decide) (by decide) (by decide) d5_85 (pc' := 88) rfl ?_
  intro v_50 h_48 q_49
  obtain ⟨b_51, rfl, le_52, K_53⟩ := q_49
  have ne_54 : a_15 ≠ b_51 := ne_ge f_32.lt le_52
  have ne_55 : bb ≠ b_51 := ne_ge f_38.lt le_52
  have ne_56 : bk ≠ b_51 := ne_ge f_35.lt le_52
  have ne_57 : bs ≠ b_51 := ne_ge f_39.lt le_52
  have ne_58 : bv ≠ b_51 := ne_ge f_40.lt le_52
  have ne_59 : e_READ ≠ b_51 := ne_ge f_41.lt le_52
  have ne_60 : e_WRITE ≠ b_51 := ne_ge f_42.lt le_52
  have ne_61 : en' ≠ b_51 := ne_ge f_43.lt le_52
  have ne_62 : src ≠ b_51 := ne_ge f_44.lt le_52
  have ne_63 : st ≠ b_51 := ne_ge f_45.lt le_52
  have ne_64 : t ≠ b_51 := ne_ge f_46.lt le_52
  have ge_b_51 : n0 ≤ b_51 := Nat.le_trans f_37 le_52
  have gs_b_51 : h0.size ≤ b_51 := Nat.le_trans f_47 le_52
  show Go B n0 _ h_48 2 1 88 #[.val (.ref t), .val (.ref src), .val (.ref a_15), .val (.int (0 : Int32)), .val (.int (1 : Int32))] [(.ref b_51), (.ref t)]
  have f_65 := (((T_written.keep K_2 (ninS e4 nin0)).ext E_17).keep K_53 nin0)
  have f_66 := (f_46.keep K_53)
  refine g_putfield C (host := "") (v := (.ref b_51)) (Or.inl (own_w hw 19 rfl)) Via.refl f_65 f_66 (Or.inl (own_w hw 20 rfl)) (own_w hw 2 rfl) (ty := (.array .int)) (by decide) rfl rfl gg6 d5_88 (pc' := 91) rfl ?_
  intro h_67 W_68
  have f_69 := f_65.same W_68
  refine g_aload_n C d5_91 (v := (.ref t)) rfl rfl (pc' := 92) rfl ?_
  refine g_iconst C d5_92 (v := (1 : Int32)) rfl (pc' := 93) rfl ?_
  have f_70 := ((((T_whole.keep K_2 (ninS e4 nin0)).ext E_17).keep K_53 nin0).other W_68 (Or.inr (slot_ne (Or.inl (own_w hw 41 rfl)) (Or.inl (own_w hw 20 rfl)) (by decide) (t := .boolean) (t' := (.array .int)) (by decide) (by decide))))
  have f_71 := (f_66.wr W_68)
  refine g_putfield C (host := "") (v := (.int (1 : Int32))) (Or.inl (own_w hw 40 rfl)) Via.refl f_70 f_71 (Or.inl (own_w hw 41 rfl)) (own_w hw 2 rfl) (ty := .boolean) (by decide) rfl rfl gg6 d5_93 (pc' := 96) rfl ?_
  intro h_72 W_73
  have f_74 := f_70.same W_73
  refine g_return C rfl d5_96 (by decide) (by decide) ?_
  have f_75 := (((f_35.keep K_53 nin0).keep (Keep.of_wr W_68) (nin1 (Ne.symm e0))).keep (Keep.of_wr W_73) (nin1 (Ne.symm e0)))
  have f_76 := (((f_39.keep K_53 nin0).keep (Keep.of_wr W_68) (nin1 (Ne.symm e1))).keep (Keep.of_wr W_73) (nin1 (Ne.symm e1)))
  have f_77 := (((f_40.keep K_53 nin0).keep (Keep.of_wr W_68) (nin1 (Ne.symm e2))).keep (Keep.of_wr W_73) (nin1 (Ne.symm e2)))
  have f_78 := (((f_45.keep K_53 nin0).keep (Keep.of_wr W_68) (nin1 (Ne.symm e3))).keep (Keep.of_wr W_73) (nin1 (Ne.symm e3)))
  have f_79 := (((f_43.keep K_53 nin0).keep (Keep.of_wr W_68) (nin1 (Ne.symm e4))).keep (Keep.of_wr W_73) (nin1 (Ne.symm e4)))
  have f_80 := (((f_38.keep K_53 nin0).keep (Keep.of_wr W_68) (nin1 (Ne.symm e5))).keep (Keep.of_wr W_73) (nin1 (Ne.symm e5)))
  have f_81 := (f_71.wr W_73)
  have f_82 := (((f_34.keep K_53 nin0).other W_68 (Or.inr (slot_ne (Or.inl (own_w hw 13 rfl)) (Or.inl (own_w hw 20 rfl)) (by decide) (t := (.array (.object "com/example/vestalia/vestalia/model/Step$Kind"))) (t' := (.array .int)) (by decide) (by decide)))).other W_73 (Or.inr (slot_ne (Or.inl (own_w hw 13 rfl)) (Or.inl (own_w hw 41 rfl)) (by decide) (t := (.array (.object "com/example/vestalia/vestalia/model/Step$Kind"))) (t' := .boolean) (by decide) (by decide))))
  have f_83 := (((((T_slots.keep K_2 (ninS e4 nin0)).ext E_17).keep K_53 nin0).other W_68 (Or.inr (slot_ne (Or.inl (own_w hw 16 rfl)) (Or.inl (own_w hw 20 rfl)) (by decide) (t := (.array .int)) (t' := (.array .int)) (by decide) (by decide)))).other W_73 (Or.inr (slot_ne (Or.inl (own_w hw 16 rfl)) (Or.inl (own_w hw 41 rfl)) (by decide) (t := (.array .int)) (t' := .boolean) (by decide) (by decide))))
  have f_84 := (((((T_values.keep K_2 (ninS e4 nin0)).ext E_17).keep K_53 nin0).other W_68 (Or.inr (slot_ne (Or.inl (own_w hw 18 rfl)) (Or.inl (own_w hw 20 rfl)) (by decide) (t := (.array .long)) (t' := (.array .int)) (by decide) (by decide)))).other W_73 (Or.inr (slot_ne (Or.inl (own_w hw 18 rfl)) (Or.inl (own_w hw 41 rfl)) (by decide) (t := (.array .long)) (t' := .boolean) (by decide) (by decide))))
  have f_85 := (((((T_width.keep K_2 (ninS e4 nin0)).ext E_17).keep K_53 nin0).other W_68 (Or.inr (slot_ne (Or.inr (own_w hw 22 rfl)) (Or.inl (own_w hw 20 rfl)) (by decide) (t := .int) (t' := (.array .int)) (by decide) (by decide)))).other W_73 (Or.inr (slot_ne (Or.inr (own_w hw 22 rfl)) (Or.inl (own_w hw 41 rfl)) (by decide) (t := .int) (t' := .boolean) (by decide) (by decide))))
  have f_86 := (((((T_start.keep K_2 (ninS e4 nin0)).ext E_17).keep K_53 nin0).other W_68 (Or.inr (slot_ne (Or.inr (own_w hw 24 rfl)) (Or.inl (own_w hw 20 rfl)) (by decide) (t := (.array .long)) (t' := (.array .int)) (by decide) (by decide)))).other W_73 (Or.inr (slot_ne (Or.inr (own_w hw 24 rfl)) (Or.inl (own_w hw 41 rfl)) (by decide) (t := (.array .long)) (t' := .boolean) (by decide) (by decide))))
  have f_87 := (((((T_end.keep K_2 (ninS e4 nin0)).ext E_17).keep K_53 nin0).other W_68 (Or.inr (slot_ne (Or.inr (own_w hw 26 rfl)) (Or.inl (own_w hw 20 rfl)) (by decide) (t := (.array .long)) (t' := (.array .int)) (by decide) (by decide)))).other W_73 (Or.inr (slot_ne (Or.inr (own_w hw 26 rfl)) (Or.inl (own_w hw 41 rfl)) (by decide) (t := (.array .long)) (t' := .boolean) (by decide) (by decide))))
  have f_88 := (((((T_before.keep K_2 (ninS e4 nin0)).ext E_17).keep K_53 nin0).other W_68 (Or.inr (slot_ne (Or.inl (own_w hw 28 rfl)) (Or.inl (own_w hw 20 rfl)) (by decide) (t := (.array .long)) (t' := (.array .int)) (by decide) (by decide)))).other W_73 (Or.inr (slot_ne (Or.inl (own_w hw 28 rfl)) (Or.inl (own_w hw 41 rfl)) (by decide) (t := (.array .long)) (t' := .boolean) (by decide) (by decide))))
  have f_89 := (((f_33.keep K_53 nin0).other W_68 (Or.inr (slot_ne (Or.inl (own_w hw 39 rfl)) (Or.inl (own_w hw 20 rfl)) (by decide) (t := .int) (t' := (.array .int)) (by decide) (by decide)))).other W_73 (Or.inr (slot_ne (Or.inl (own_w hw 39 rfl)) (Or.inl (own_w hw 41 rfl)) (by decide) (t := .int) (t' := .boolean) (by decide) (by decide))))
  have f_90 := (f_69.other W_73 (Or.inr (slot_ne (Or.inl (own_w hw 20 rfl)) (Or.inl (own_w hw 41 rfl)) (by decide) (t := (.array .int)) (t' := .boolean) (by decide) (by decide))))
  exact ⟨rfl, ((((((Keep.refl h0 [t, en']).trans K_2 (allS (Or.inl (List.mem_of_getElem? (i := 1) rfl)) all0)).ext E_17).trans K_53 all0).wr W_68 (Or.inl (List.mem_of_getElem? (i := 0) rfl))).wr W_73 (Or.inl (List.mem_of_getElem? (i := 0) rfl))), ⟨f_81, f_82, f_83, f_84, f_85, f_86, f_87, f_88, f_89, f_74, ⟨b_51, f_90⟩, f_75, f_76, f_77, f_78, f_79, f_80⟩⟩
set_option maxRecDepth 65536 in
set_option maxHeartbeats 40000000 in
theorem rm_end_1none (l : Launch) (Z : State) (a0 : Array Value) (hw : ∀ d ∈ tables_1, d.before a0 Z = true) (n0 : Nat) (t bk bs bv st en' bb : Addr) (src : Addr) (wh s0 : Int32) (v0 : Int64) (x0 x1 y0 : Int64) (ls lb : List Value) (e_WRITE e_READ : Addr) (h0 : Heap) (Z0 : n0 ≤ h0.size) (tr : Tr Z h0 t bk bs bv st en' bb (1 : Int32) (0 : Int32) wh .null s0 v0 ls [(.long y0)] lb) (di : Dis bk bs bv st en' bb) (dt : t ≠ bk ∧ t ≠ bs ∧ t ≠ bv ∧ t ≠ st ∧ t ≠ en' ∧ t ≠ bb) (gg : n0 ≤ bk ∧ n0 ≤ bs ∧ n0 ≤ bv ∧ n0 ≤ st ∧ n0 ≤ en' ∧ n0 ≤ bb ∧ n0 ≤ t) (A_src : Ary Z h0 src .long [.long x0, .long x1]) (ns : src ≠ en') (nt : src ≠ t) (en : Ens Z e_WRITE e_READ) (O : Old Z n0 h0) :
    Met1 l Z (⟨"com/example/vestalia/vestalia/locks/StepTrace", "end", "([J)V"⟩ : MethodName) prog_32_method_6_code 5 none ({ frames := 2, cells := 2, slots := 0, locals := 29 } : Room) n0 #[(.ref t), (.ref src)] h0 (fun v h => v = none ∧ Keep h0 h [t, en'] ∧ Tr Z h t bk bs bv st en' bb (1 : Int32) (0 : Int32) (1 : Int32) .null s0 v0 ls [(.long x0)] lb) := by
  refine met_of (plainFor_of_name own_pn_com_example_vestalia_vestalia_locks_StepTrace) (L0 := #[.val (.ref t), .val (.ref src), .unset, .unset, .unset]) (by first | (simp [argsToLocals, Value.category]; done) | rfl) ?_
  intro B C
  change Ctx B l _ _ "com/example/vestalia/vestalia/locks/StepTrace" "end" _ _ Z at C
  have en' := en
  obtain ⟨⟨S_WRITE, X_WRITE, D_WRITE⟩, ⟨S_READ, X_READ, D_READ⟩⟩ := en'
  have tr' := tr
  obtain ⟨E_t, T_kinds, T_slots, T_values, T_width, T_start, T_end, T_before, T_length, T_whole, ⟨r_w, T_written⟩, A_kinds, A_slots, A_values, A_start, A_end, A_before⟩ := tr'
  have di' := di
  obtain ⟨d0, d1, d2, d3, d4, d5, d6, d7, d8, d9, d10, d11, d12, d13, d14⟩ := di'
  have dt' := dt
  obtain ⟨e0, e1, e2, e3, e4, e5⟩ := dt'
  have gg' := gg
  obtain ⟨gg0, gg1, gg2, gg3, gg4, gg5, gg6⟩ := gg'
  refine g_aload_n C d5_0 (v := (.ref src)) rfl rfl (pc' := 1) rfl ?_
  refine g_iconst C d5_1 (v := (0 : Int32)) rfl (pc' := 2) rfl ?_
  refine g_aload_n C d5_2 (v := (.ref t)) rfl rfl (pc' := 3) rfl ?_
  refine g_getfield C (host := "") (v := (.ref en')) (Or.inl (own_w hw 25 rfl)) Via.refl T_end d5_3 (pc' := 6) rfl ?_
  refine g_iconst C d5_6 (v := (0 : Int32)) rfl (pc' := 7) rfl ?_
  refine g_aload_n C d5_7 (v := (.ref t)) rfl rfl (pc' := 8) rfl ?_
  refine g_getfield C (host := "") (v := (.int (1 : Int32))) (Or.inl (own_w hw 21 rfl)) Via.refl T_width d5_8 (pc' := 11) rfl ?_
  refine g_arraycopy C (own_w hw 34 rfl) (own_w hw 37 rfl) (own_w hw 35 rfl) (own_w hw 36 rfl) A_src A_end rfl (by simp [fits]) (by simp [fits]) (by decide) (by decide) (by decide) (spN := 0) (dpN := 0) (nnN := 1) (by decide) (by decide) (by decide) (show 0 + 1 ≤ 2 by decide) (show 0 + 1 ≤ 1 by decide) (out := [(.long x0)]) rfl gg4 rfl (by decide) (W := 0) (Nat.le_of_eq rfl) (by decide) d5_11 (pc' := 14) rfl ?_
  intro h_1 K_2 f_3
  show Go B n0 _ h_1 0 0 14 #[.val (.ref t), .val (.ref src), .unset, .unset, .unset] []
  refine g_aload_n C d5_14 (v := (.ref t)) rfl rfl (pc' := 15) rfl ?_
  have f_4 := (T_length.keep K_2 (ninS e4 nin0))
  refine g_getfield C (host := "") (v := (.int (0 : Int32))) (Or.inl (own_w hw 38 rfl)) Via.refl f_4 d5_15 (pc' := 18) rfl ?_
  have f_5 := (A_before.keep K_2 (ninS (Ne.symm d14) nin0))
  have f_6 := (A_kinds.keep K_2 (ninS d3 nin0))
  have f_7 := (A_slots.keep K_2 (ninS d7 nin0))
  have f_8 := (A_values.keep K_2 (ninS d10 nin0))
  have f_9 := ((X_READ.ext O.2).keep K_2)
  have f_10 := ((X_WRITE.ext O.2).keep K_2)
  have f_11 := (A_src.keep K_2 (ninS ns nin0))
  have f_12 := (A_start.keep K_2 (ninS d12 nin0))
  have f_13 := (E_t.keep K_2)
  refine g_newarrayE C (own_w hw 14 rfl) (ty := .int) rfl (ad := "[I") (by decide) (by decide) (cap := 0) (by decide) (by decide) (by decide) (by decide) d5_18 (pc' := 20) rfl ?_
  intro h_14 a_15 g_16 E_17 A_18 E_19
  have ne_20 : bb ≠ a_15 := ne_new f_5.lt g_16
  have ne_21 : bk ≠ a_15 := ne_new f_6.lt g_16
  have ne_22 : bs ≠ a_15 := ne_new f_7.lt g_16
  have ne_23 : bv ≠ a_15 := ne_new f_8.lt g_16
  have ne_24 : e_READ ≠ a_15 := ne_new f_9.lt g_16
  have ne_25 : e_WRITE ≠ a_15 := ne_new f_10.lt g_16
  have ne_26 : en' ≠ a_15 := ne_new f_3.lt g_16
  have ne_27 : src ≠ a_15 := ne_new f_11.lt g_16
  have ne_28 : st ≠ a_15 := ne_new f_12.lt g_16
  have ne_29 : t ≠ a_15 := ne_new f_13.lt g_16
  have f_30 := (Nat.le_trans Z0 K_2.1)
  have ge_a_15 : n0 ≤ a_15 := Nat.le_trans f_30 (Nat.le_of_eq g_16.symm)
  have f_31 := (Nat.le_trans (Nat.le_refl h0.size) K_2.1)
  have gs_a_15 : h0.size ≤ a_15 := Nat.le_trans f_31 (Nat.le_of_eq g_16.symm)
  have f_32 : Ary Z h_14 a_15 .int [] := A_18
  show Go B n0 _ h_14 1 0 20 #[.val (.ref t), .val (.ref src), .unset, .unset, .unset] [(.ref a_15)]
  refine g_astore_n C d5_20 (v := (.ref a_15)) (L' := #[.val (.ref t), .val (.ref src), .val (.ref a_15), .unset, .unset]) rfl rfl (pc' := 21) rfl ?_
  refine g_iconst C d5_21 (v := (0 : Int32)) rfl (pc' := 22) rfl ?_
  refine g_istore_n C d5_22 (v := (0 : Int32)) (L' := #[.val (.ref t), .val (.ref src), .val (.ref a_15), .val (.int (0 : Int32)), .unset]) rfl (pc' := 23) rfl ?_
  refine g_iconst C d5_23 (v := (0 : Int32)) rfl (pc' := 24) rfl ?_
  refine g_istore C d5_24 (v := (0 : Int32)) (L' := #[.val (.ref t), .val (.ref src), .val (.ref a_15), .val (.int (0 : Int32)), .val (.int (0 : Int32))]) rfl (pc' := 26) rfl ?_
  refine g_iload C d5_26 (v := (0 : Int32)) rfl (pc' := 28) rfl ?_
  refine g_aload_n C d5_28 (v := (.ref t)) rfl rfl (pc' := 29) rfl ?_
  have f_33 := (f_4.ext E_17)
  refine g_getfield C (host := "") (v := (.int (0 : Int32))) (Or.inl (own_w hw 38 rfl)) Via.refl f_33 d5_29 (pc' := 32) rfl ?_
  refine g_icmp_y C d5_32 (Jvm.Free.XT.ii_ge_t (by decide)) (pc' := 82) (by decide) (by decide) ?_
  refine g_aload_n C d5_82 (v := (.ref t)) rfl rfl (pc' := 83) rfl ?_
  refine g_aload_n C d5_83 (v := (.ref a_15)) rfl rfl (pc' := 84) rfl ?_
  refine g_iload_n C d5_84 (v := (0 : Int32)) rfl (pc' := 85) rfl ?_
  have f_34 := (Nat.le_trans f_30 E_17.1)
  have f_35 := (f_5.ext E_17)
  have f_36 := (f_6.ext E_17)
  have f_37 := (f_7.ext E_17)
  have f_38 := (f_8.ext E_17)
  have f_39 := (f_9.ext E_17)
  have f_40 := (f_10.ext E_17)
  have f_41 := (f_3.ext E_17)
  have f_42 := (f_11.ext E_17)
  have f_43 := (f_12.ext E_17)
  have f_44 := (f_13.ext E_17)
  have f_45 := (Nat.le_trans f_31 E_17.1)
  refine g_static C (own_w hw 52 rfl) (own_w hw 53 rfl) (own_w hw 54 rfl) (own_w hw 55 rfl) (by decide) (rm_copyOf00 l Z a0 hw n0 a_15 (0 : Int32) h_14 f_34 f_32 E_19) (st := [(.ref t)]) [(.ref a_15), (.int (0 : Int32))] rfl rfl own_pd_4_copyOf rfl rfl (by decide) (W := 1) (Nat.le_of_eq rfl) (by decide) (by decide) (by decide) d5_85 (pc' := 88) rfl ?_
  intro v_48 h_46 q_47
  obtain ⟨b_49, rfl, le_50, K_51⟩ := q_47
  have ne_52 : a_15 ≠ b_49 := ne_ge f_32.lt le_50
  have ne_53 : bb ≠ b_49 := ne_ge f_35.lt le_50
  have ne_54 : bk ≠ b_49 := ne_ge f_36.lt le_50
  have ne_55 : bs ≠ b_49 := ne_ge f_37.lt le_50
  have ne_56 : bv ≠ b_49 := ne_ge f_38.lt le_50
  have ne_57 : e_READ ≠ b_49 := ne_ge f_39.lt le_50
  have ne_58 : e_WRITE ≠ b_49 := ne_ge f_40.lt le_50
  have ne_59 : en' ≠ b_49 := ne_ge f_41.lt le_50
  have ne_60 : src ≠ b_49 := ne_ge f_42.lt le_50
  have ne_61 : st ≠ b_49 := ne_ge f_43.lt le_50
  have ne_62 : t ≠ b_49 := ne_ge f_44.lt le_50
  have ge_b_49 : n0 ≤ b_49 := Nat.le_trans f_34 le_50
  have gs_b_49 : h0.size ≤ b_49 := Nat.le_trans f_45 le_50
  show Go B n0 _ h_46 2 0 88 #[.val (.ref t), .val (.ref src), .val (.ref a_15), .val (.int (0 : Int32)), .val (.int (0 : Int32))] [(.ref b_49), (.ref t)]
  have f_63 := (((T_written.keep K_2 (ninS e4 nin0)).ext E_17).keep K_51 nin0)
  have f_64 := (f_44.keep K_51)
  refine g_putfield C (host := "") (v := (.ref b_49)) (Or.inl (own_w hw 19 rfl)) Via.refl f_63 f_64 (Or.inl (own_w hw 20 rfl)) (own_w hw 2 rfl) (ty := (.array .int)) (by decide) rfl rfl gg6 d5_88 (pc' := 91) rfl ?_
  intro h_65 W_66
  have f_67 := f_63.same W_66
  refine g_aload_n C d5_91 (v := (.ref t)) rfl rfl (pc' := 92) rfl ?_
  refine g_iconst C d5_92 (v := (1 : Int32)) rfl (pc' := 93) rfl ?_
  have f_68 := ((((T_whole.keep K_2 (ninS e4 nin0)).ext E_17).keep K_51 nin0).other W_66 (Or.inr (slot_ne (Or.inl (own_w hw 41 rfl)) (Or.inl (own_w hw 20 rfl)) (by decide) (t := .boolean) (t' := (.array .int)) (by decide) (by decide))))
  have f_69 := (f_64.wr W_66)
  refine g_putfield C (host := "") (v := (.int (1 : Int32))) (Or.inl (own_w hw 40 rfl)) Via.refl f_68 f_69 (Or.inl (own_w hw 41 rfl)) (own_w hw 2 rfl) (ty := .boolean) (by decide) rfl rfl gg6 d5_93 (pc' := 96) rfl ?_
  intro h_70 W_71
  have f_72 := f_68.same W_71
  refine g_return C rfl d5_96 (by decide) (by decide) ?_
  have f_73 := (((f_36.keep K_51 nin0).keep (Keep.of_wr W_66) (nin1 (Ne.symm e0))).keep (Keep.of_wr W_71) (nin1 (Ne.symm e0)))
  have f_74 := (((f_37.keep K_51 nin0).keep (Keep.of_wr W_66) (nin1 (Ne.symm e1))).keep (Keep.of_wr W_71) (nin1 (Ne.symm e1)))
  have f_75 := (((f_38.keep K_51 nin0).keep (Keep.of_wr W_66) (nin1 (Ne.symm e2))).keep (Keep.of_wr W_71) (nin1 (Ne.symm e2)))
  have f_76 := (((f_43.keep K_51 nin0).keep (Keep.of_wr W_66) (nin1 (Ne.symm e3))).keep (Keep.of_wr W_71) (nin1 (Ne.symm e3)))
  have f_77 := (((f_41.keep K_51 nin0).keep (Keep.of_wr W_66) (nin1 (Ne.symm e4))).keep (Keep.of_wr W_71) (nin1 (Ne.symm e4)))
  have f_78 := (((f_35.keep K_51 nin0).keep (Keep.of_wr W_66) (nin1 (Ne.symm e5))).keep (Keep.of_wr W_71) (nin1 (Ne.symm e5)))
  have f_79 := (f_69.wr W_71)
  have f_80 := (((((T_kinds.keep K_2 (ninS e4 nin0)).ext E_17).keep K_51 nin0).other W_66 (Or.inr (slot_ne (Or.inl (own_w hw 13 rfl)) (Or.inl (own_w hw 20 rfl)) (by decide) (t := (.array (.object "com/example/vestalia/vestalia/model/Step$Kind"))) (t' := (.array .int)) (by decide) (by decide)))).other W_71 (Or.inr (slot_ne (Or.inl (own_w hw 13 rfl)) (Or.inl (own_w hw 41 rfl)) (by decide) (t := (.array (.object "com/example/vestalia/vestalia/model/Step$Kind"))) (t' := .boolean) (by decide) (by decide))))
  have f_81 := (((((T_slots.keep K_2 (ninS e4 nin0)).ext E_17).keep K_51 nin0).other W_66 (Or.inr (slot_ne (Or.inl (own_w hw 16 rfl)) (Or.inl (own_w hw 20 rfl)) (by decide) (t := (.array .int)) (t' := (.array .int)) (by decide) (by decide)))).other W_71 (Or.inr (slot_ne (Or.inl (own_w hw 16 rfl)) (Or.inl (own_w hw 41 rfl)) (by decide) (t := (.array .int)) (t' := .boolean) (by decide) (by decide))))
  have f_82 := (((((T_values.keep K_2 (ninS e4 nin0)).ext E_17).keep K_51 nin0).other W_66 (Or.inr (slot_ne (Or.inl (own_w hw 18 rfl)) (Or.inl (own_w hw 20 rfl)) (by decide) (t := (.array .long)) (t' := (.array .int)) (by decide) (by decide)))).other W_71 (Or.inr (slot_ne (Or.inl (own_w hw 18 rfl)) (Or.inl (own_w hw 41 rfl)) (by decide) (t := (.array .long)) (t' := .boolean) (by decide) (by decide))))
  have f_83 := (((((T_width.keep K_2 (ninS e4 nin0)).ext E_17).keep K_51 nin0).other W_66 (Or.inr (slot_ne (Or.inr (own_w hw 22 rfl)) (Or.inl (own_w hw 20 rfl)) (by decide) (t := .int) (t' := (.array .int)) (by decide) (by decide)))).other W_71 (Or.inr (slot_ne (Or.inr (own_w hw 22 rfl)) (Or.inl (own_w hw 41 rfl)) (by decide) (t := .int) (t' := .boolean) (by decide) (by decide))))
  have f_84 := (((((T_start.keep K_2 (ninS e4 nin0)).ext E_17).keep K_51 nin0).other W_66 (Or.inr (slot_ne (Or.inr (own_w hw 24 rfl)) (Or.inl (own_w hw 20 rfl)) (by decide) (t := (.array .long)) (t' := (.array .int)) (by decide) (by decide)))).other W_71 (Or.inr (slot_ne (Or.inr (own_w hw 24 rfl)) (Or.inl (own_w hw 41 rfl)) (by decide) (t := (.array .long)) (t' := .boolean) (by decide) (by decide))))
  have f_85 := (((((T_end.keep K_2 (ninS e4 nin0)).ext E_17).keep K_51 nin0).other W_66 (Or.inr (slot_ne (Or.inr (own_w hw 26 rfl)) (Or.inl (own_w hw 20 rfl)) (by decide) (t := (.array .long)) (t' := (.array .int)) (by decide) (by decide)))).other W_71 (Or.inr (slot_ne (Or.inr (own_w hw 26 rfl)) (Or.inl (own_w hw 41 rfl)) (by decide) (t := (.array .long)) (t' := .boolean) (by decide) (by decide))))
  have f_86 := (((((T_before.keep K_2 (ninS e4 nin0)).ext E_17).keep K_51 nin0).other W_66 (Or.inr (slot_ne (Or.inl (own_w hw 28 rfl)) (Or.inl (own_w hw 20 rfl)) (by decide) (t := (.array .long)) (t' := (.array .int)) (by decide) (by decide)))).other W_71 (Or.inr (slot_ne (Or.inl (own_w hw 28 rfl)) (Or.inl (own_w hw 41 rfl)) (by decide) (t := (.array .long)) (t' := .boolean) (by decide) (by decide))))
  have f_87 := (((f_33.keep K_51 nin0).other W_66 (Or.inr (slot_ne (Or.inl (own_w hw 39 rfl)) (Or.inl (own_w hw 20 rfl)) (by decide) (t := .int) (t' := (.array .int)) (by decide) (by decide)))).other W_71 (Or.inr (slot_ne (Or.inl (own_w hw 39 rfl)) (Or.inl (own_w hw 41 rfl)) (by decide) (t := .int) (t' := .boolean) (by decide) (by decide))))
  have f_88 := (f_67.other W_71 (Or.inr (slot_ne (Or.inl (own_w hw 20 rfl)) (Or.inl (own_w hw 41 rfl)) (by decide) (t := (.array .int)) (t' := .boolean) (by decide) (by decide))))
  exact ⟨rfl, ((((((Keep.refl h0 [t, en']).trans K_2 (allS (Or.inl (List.mem_of_getElem? (i := 1) rfl)) all0)).ext E_17).trans K_51 all0).wr W_66 (Or.inl (List.mem_of_getElem? (i := 0) rfl))).wr W_71 (Or.inl (List.mem_of_getElem? (i := 0) rfl))), ⟨f_79, f_80, f_81, f_82, f_83, f_84, f_85, f_86, f_87, f_72, ⟨b_49, f_88⟩, f_73, f_74, f_75, f_76, f_77, f_78⟩⟩
set_option maxRecDepth 65536 in
set_option maxHeartbeats 40000000 in
theorem rm_end_1WRITE (l : Launch) (Z : State) (a0 : Array Value) (hw : ∀ d ∈ tables_1, d.before a0 Z = true) (n0 : Nat) (t bk bs bv st en' bb : Addr) (src : Addr) (wh s0 : Int32) (v0 : Int64) (x0 x1 y0 : Int64) (ls lb : List Value) (e_WRITE e_READ : Addr) (h0 : Heap) (Z0 : n0 ≤ h0.size) (tr : Tr Z h0 t bk bs bv st en' bb (1 : Int32) (1 : Int32) wh (.ref e_WRITE) s0 v0 ls [(.long y0)] lb) (di : Dis bk bs bv st en' bb) (dt : t ≠ bk ∧ t ≠ bs ∧ t ≠ bv ∧ t ≠ st ∧ t ≠ en' ∧ t ≠ bb) (gg : n0 ≤ bk ∧ n0 ≤ bs ∧ n0 ≤ bv ∧ n0 ≤ st ∧ n0 ≤ en' ∧ n0 ≤ bb ∧ n0 ≤ t) (A_src : Ary Z h0 src .long [.long x0, .long x1]) (ns : src ≠ en') (nt : src ≠ t) (en : Ens Z e_WRITE e_READ) (O : Old Z n0 h0) :
    Met1 l Z (⟨"com/example/vestalia/vestalia/locks/StepTrace", "end", "([J)V"⟩ : MethodName) prog_32_method_6_code 5 none ({ frames := 2, cells := 2, slots := 2, locals := 29 } : Room) n0 #[(.ref t), (.ref src)] h0 (fun v h => v = none ∧ Keep h0 h [t, en'] ∧ Tr Z h t bk bs bv st en' bb (1 : Int32) (1 : Int32) (1 : Int32) (.ref e_WRITE) s0 v0 ls [(.long x0)] lb) := by
  refine met_of (plainFor_of_name own_pn_com_example_vestalia_vestalia_locks_StepTrace) (L0 := #[.val (.ref t), .val (.ref src), .unset, .unset, .unset]) (by first | (simp [argsToLocals, Value.category]; done) | rfl) ?_
  intro B C
  change Ctx B l _ _ "com/example/vestalia/vestalia/locks/StepTrace" "end" _ _ Z at C
  have en' := en
  obtain ⟨⟨S_WRITE, X_WRITE, D_WRITE⟩, ⟨S_READ, X_READ, D_READ⟩⟩ := en'
  have tr' := tr
  obtain ⟨E_t, T_kinds, T_slots, T_values, T_width, T_start, T_end, T_before, T_length, T_whole, ⟨r_w, T_written⟩, A_kinds, A_slots, A_values, A_start, A_end, A_before⟩ := tr'
  have di' := di
  obtain ⟨d0, d1, d2, d3, d4, d5, d6, d7, d8, d9, d10, d11, d12, d13, d14⟩ := di'
  have dt' := dt
  obtain ⟨e0, e1, e2, e3, e4, e5⟩ := dt'
  have gg' := gg
  obtain ⟨gg0, gg1, gg2, gg3, gg4, gg5, gg6⟩ := gg'
  refine g_aload_n C d5_0 (v := (.ref src)) rfl rfl (pc' := 1) rfl ?_
  refine g_iconst C d5_1 (v := (0 : Int32)) rfl (pc' := 2) rfl ?_
  refine g_aload_n C d5_2 (v := (.ref t)) rfl rfl (pc' := 3) rfl ?_
  refine g_getfield C (host := "") (v := (.ref en')) (Or.inl (own_w hw 25 rfl)) Via.refl T_end d5_3 (pc' := 6) rfl ?_
  refine g_iconst C d5_6 (v := (0 : Int32)) rfl (pc' := 7) rfl ?_
  refine g_aload_n C d5_7 (v := (.ref t)) rfl rfl (pc' := 8) rfl ?_
  refine g_getfield C (host := "") (v := (.int (1 : Int32))) (Or.inl (own_w hw 21 rfl)) Via.refl T_width d5_8 (pc' := 11) rfl ?_
  refine g_arraycopy C (own_w hw 34 rfl) (own_w hw 37 rfl) (own_w hw 35 rfl) (own_w hw 36 rfl) A_src A_end rfl (by simp [fits]) (by simp [fits]) (by decide) (by decide) (by decide) (spN := 0) (dpN := 0) (nnN := 1) (by decide) (by decide) (by decide) (show 0 + 1 ≤ 2 by decide) (show 0 + 1 ≤ 1 by decide) (out := [(.long x0)]) rfl gg4 rfl (by decide) (W := 0) (Nat.le_of_eq rfl) (by decide) d5_11 (pc' := 14) rfl ?_
  intro h_1 K_2 f_3
  show Go B n0 _ h_1 0 0 14 #[.val (.ref t), .val (.ref src), .unset, .unset, .unset] []
  refine g_aload_n C d5_14 (v := (.ref t)) rfl rfl (pc' := 15) rfl ?_
  have f_4 := (T_length.keep K_2 (ninS e4 nin0))
  refine g_getfield C (host := "") (v := (.int (1 : Int32))) (Or.inl (own_w hw 38 rfl)) Via.refl f_4 d5_15 (pc' := 18) rfl ?_
  have f_5 := (A_before.keep K_2 (ninS (Ne.symm d14) nin0))
  have f_6 := (A_kinds.keep K_2 (ninS d3 nin0))
  have f_7 := (A_slots.keep K_2 (ninS d7 nin0))
  have f_8 := (A_values.keep K_2 (ninS d10 nin0))
  have f_9 := ((X_READ.ext O.2).keep K_2)
  have f_10 := ((X_WRITE.ext O.2).keep K_2)
  have f_11 := (A_src.keep K_2 (ninS ns nin0))
  have f_12 := (A_start.keep K_2 (ninS d12 nin0))
  have f_13 := (E_t.keep K_2)
  refine g_newarrayE C (own_w hw 14 rfl) (ty := .int) rfl (ad := "[I") (by decide) (by decide) (cap := 1) (by decide) (by decide) (by decide) (by decide) d5_18 (pc' := 20) rfl ?_
  intro h_14 a_15 g_16 E_17 A_18 E_19
  have ne_20 : bb ≠ a_15 := ne_new f_5.lt g_16
  have ne_21 : bk ≠ a_15 := ne_new f_6.lt g_16
  have ne_22 : bs ≠ a_15 := ne_new f_7.lt g_16
  have ne_23 : bv ≠ a_15 := ne_new f_8.lt g_16
  have ne_24 : e_READ ≠ a_15 := ne_new f_9.lt g_16
  have ne_25 : e_WRITE ≠ a_15 := ne_new f_10.lt g_16
  have ne_26 : en' ≠ a_15 := ne_new f_3.lt g_16
  have ne_27 : src ≠ a_15 := ne_new f_11.lt g_16
  have ne_28 : st ≠ a_15 := ne_new f_12.lt g_16
  have ne_29 : t ≠ a_15 := ne_new f_13.lt g_16
  have f_30 := (Nat.le_trans Z0 K_2.1)
  have ge_a_15 : n0 ≤ a_15 := Nat.le_trans f_30 (Nat.le_of_eq g_16.symm)
  have f_31 := (Nat.le_trans (Nat.le_refl h0.size) K_2.1)
  have gs_a_15 : h0.size ≤ a_15 := Nat.le_trans f_31 (Nat.le_of_eq g_16.symm)
  have f_32 : Ary Z h_14 a_15 .int [(.int (0 : Int32))] := A_18
  show Go B n0 _ h_14 1 1 20 #[.val (.ref t), .val (.ref src), .unset, .unset, .unset] [(.ref a_15)]
  refine g_astore_n C d5_20 (v := (.ref a_15)) (L' := #[.val (.ref t), .val (.ref src), .val (.ref a_15), .unset, .unset]) rfl rfl (pc' := 21) rfl ?_
  refine g_iconst C d5_21 (v := (0 : Int32)) rfl (pc' := 22) rfl ?_
  refine g_istore_n C d5_22 (v := (0 : Int32)) (L' := #[.val (.ref t), .val (.ref src), .val (.ref a_15), .val (.int (0 : Int32)), .unset]) rfl (pc' := 23) rfl ?_
  refine g_iconst C d5_23 (v := (0 : Int32)) rfl (pc' := 24) rfl ?_
  refine g_istore C d5_24 (v := (0 : Int32)) (L' := #[.val (.ref t), .val (.ref src), .val (.ref a_15), .val (.int (0 : Int32)), .val (.int (0 : Int32))]) rfl (pc' := 26) rfl ?_
  refine g_iload C d5_26 (v := (0 : Int32)) rfl (pc' := 28) rfl ?_
  refine g_aload_n C d5_28 (v := (.ref t)) rfl rfl (pc' := 29) rfl ?_
  have f_33 := (f_4.ext E_17)
  refine g_getfield C (host := "") (v := (.int (1 : Int32))) (Or.inl (own_w hw 38 rfl)) Via.refl f_33 d5_29 (pc' := 32) rfl ?_
  refine g_icmp_n C d5_32 (Jvm.Free.XT.ii_ge_f (by decide)) (pc' := 35) rfl ?_
  refine g_aload_n C d5_35 (v := (.ref t)) rfl rfl (pc' := 36) rfl ?_
  have f_34 := ((T_kinds.keep K_2 (ninS e4 nin0)).ext E_17)
  refine g_getfield C (host := "") (v := (.ref bk)) (Or.inl (own_w hw 12 rfl)) Via.refl f_34 d5_36 (pc' := 39) rfl ?_
  refine g_iload C d5_39 (v := (0 : Int32)) rfl (pc' := 41) rfl ?_
  have f_35 := (f_6.ext E_17)
  refine g_aaload C (AryR.ary f_35) rfl (by decide) (i := 0) (by decide) (v := (.ref e_WRITE)) rfl d5_41 (pc' := 42) rfl ?_
  have f_36 := ((O.keep K_2 (allS gg4 all0)).ext E_17)
  refine g_getstatic C (host := "") (v := (.ref e_WRITE)) (Or.inl (own_w hw 78 rfl)) Via.refl (S_WRITE.ext f_36.2) d5_42 (pc' := 45) rfl ?_
  refine g_acmp_n C d5_45 rfl rfl (Jvm.Free.XT.aa_ne_f rfl) (pc' := 48) rfl ?_
  refine g_aload_n C d5_48 (v := (.ref a_15)) rfl rfl (pc' := 49) rfl ?_
  refine g_iload_n C d5_49 (v := (0 : Int32)) rfl (pc' := 50) rfl ?_
  refine g_aload_n C d5_50 (v := (.ref t)) rfl rfl (pc' := 51) rfl ?_
  have f_37 := ((T_slots.keep K_2 (ninS e4 nin0)).ext E_17)
  refine g_getfield C (host := "") (v := (.ref bs)) (Or.inl (own_w hw 15 rfl)) Via.refl f_37 d5_51 (pc' := 54) rfl ?_
  refine g_iload C d5_54 (v := (0 : Int32)) rfl (pc' := 56) rfl ?_
  have f_38 := (f_7.ext E_17)
  refine g_iaload C f_38 (by decide) (i := 0) (by decide) (v := s0) rfl d5_56 (pc' := 57) rfl ?_
  have f_39 := (Nat.le_trans f_30 E_17.1)
  refine g_static C (own_w hw 79 rfl) (own_w hw 80 rfl) (own_w hw 81 rfl) (own_w hw 82 rfl) (by decide) (rm_contains l Z a0 hw n0 a_15 s0 h_14 f_39 ) (st := []) [(.ref a_15), (.int (0 : Int32)), (.int s0)] rfl rfl own_pd_5_contains rfl rfl (by decide) (W := 0) (Nat.le_of_eq rfl) (by decide) (by decide) (by decide) d5_57 (pc' := 60) rfl ?_
  intro v_42 h_40 q_41
  obtain ⟨rfl, rfl⟩ := q_41
  show Go B n0 _ h_14 1 1 60 #[.val (.ref t), .val (.ref src), .val (.ref a_15), .val (.int (0 : Int32)), .val (.int (0 : Int32))] [(.int (0 : Int32))]
  refine g_if_n C d5_60 (Jvm.Free.XT.i0_ne_f (by decide)) (pc' := 63) rfl ?_
  refine g_aload_n C d5_63 (v := (.ref a_15)) rfl rfl (pc' := 64) rfl ?_
  refine g_iload_n C d5_64 (v := (0 : Int32)) rfl (pc' := 65) rfl ?_
  refine g_aload_n C d5_65 (v := (.ref t)) rfl rfl (pc' := 66) rfl ?_
  refine g_getfield C (host := "") (v := (.ref bs)) (Or.inl (own_w hw 15 rfl)) Via.refl f_37 d5_66 (pc' := 69) rfl ?_
  refine g_iload C d5_69 (v := (0 : Int32)) rfl (pc' := 71) rfl ?_
  refine g_iaload C f_38 (by decide) (i := 0) (by decide) (v := s0) rfl d5_71 (pc' := 72) rfl ?_
  refine g_iastore C f_32 (by decide) (i := 0) (by decide) (show 0 < 1 by decide) (w := (.int s0)) rfl ge_a_15 d5_72 (pc' := 73) rfl ?_
  intro h_43 K_44 A_45
  have f_46 : Ary Z h_43 a_15 .int [(.int s0)] := A_45
  refine g_iinc C d5_73 (v := (0 : Int32)) (w := (1 : Int32)) rfl rfl (L' := #[.val (.ref t), .val (.ref src), .val (.ref a_15), .val (.int (1 : Int32)), .val (.int (0 : Int32))]) rfl (pc' := 76) rfl ?_
  refine g_iinc C d5_76 (v := (0 : Int32)) (w := (1 : Int32)) rfl rfl (L' := #[.val (.ref t), .val (.ref src), .val (.ref a_15), .val (.int (1 : Int32)), .val (.int (1 : Int32))]) rfl (pc' := 79) rfl ?_
  refine g_goto C d5_79 (pc' := 26) (by decide) (by decide) ?_
  refine g_iload C d5_26 (v := (1 : Int32)) rfl (pc' := 28) rfl ?_
  refine g_aload_n C d5_28 (v := (.ref t)) rfl rfl (pc' := 29) rfl ?_
  have f_47 := (f_33.keep K_44 (ninS ne_29 nin0))
  refine g_getfield C (host := "") (v := (.int (1 : Int32))) (Or.inl (own_w hw 38 rfl)) Via.refl f_47 d5_29 (pc' := 32) rfl ?_
  refine g_icmp_y C d5_32 (Jvm.Free.XT.ii_ge_t (by decide)) (pc' := 82) (by decide) (by decide) ?_
  refine g_aload_n C d5_82 (v := (.ref t)) rfl rfl (pc' := 83) rfl ?_
  refine g_aload_n C d5_83 (v := (.ref a_15)) rfl rfl (pc' := 84) rfl ?_
  refine g_iload_n C d5_84 (v := (1 : Int32)) rfl (pc' := 85) rfl ?_
  have f_48 := (E_19.keep K_44)
  have f_49 := (Nat.le_trans f_39 K_44.1)
  have f_50 := ((f_5.ext E_17).keep K_44 (ninS ne_20 nin0))
  have f_51 := (f_35.keep K_44 (ninS ne_21 nin0))
  have f_52 := (f_38.keep K_44 (ninS ne_22 nin0))
  have f_53 := ((f_8.ext E_17).keep K_44 (ninS ne_23 nin0))
  have f_54 := ((f_9.ext E_17).keep K_44)
  have f_55 := ((f_10.ext E_17).keep K_44)
  have f_56 := ((f_3.ext E_17).keep K_44 (ninS ne_26 nin0))
  have f_57 := ((f_11.ext E_17).keep K_44 (ninS ne_27 nin0))
  have f_58 := ((f_12.ext E_17).keep K_44 (ninS ne_28 nin0))
  have f_59 := ((f_13.ext E_17).keep K_44)
  have f_60 := (Nat.le_trans (Nat.le_trans f_31 E_17.1) K_44.1)
  refine g_static C (own_w hw 52 rfl) (own_w hw 53 rfl) (own_w hw 54 rfl) (own_w hw 55 rfl) (by decide) (rm_copyOf11 l Z a0 hw n0 a_15 s0 h_43 f_49 f_46 f_48) (st := [(.ref t)]) [(.ref a_15), (.int (1 : Int32))] rfl rfl own_pd_4_copyOf rfl rfl (by decide) (W := 1) (Nat.le_of_eq rfl) (by decide) (by decide) (by decide) d5_85 (pc' := 88) rfl ?_
  intro v_63 h_61 q_62
  obtain ⟨b_64, rfl, le_65, K_66⟩ := q_62
  have ne_67 : a_15 ≠ b_64 := ne_ge f_46.lt le_65
  have ne_68 : bb ≠ b_64 := ne_ge f_50.lt le_65
  have ne_69 : bk ≠ b_64 := ne_ge f_51.lt le_65
  have ne_70 : bs ≠ b_64 := ne_ge f_52.lt le_65
  have ne_71 : bv ≠ b_64 := ne_ge f_53.lt le_65
  have ne_72 : e_READ ≠ b_64 := ne_ge f_54.lt le_65
  have ne_73 : e_WRITE ≠ b_64 := ne_ge f_55.lt le_65
  have ne_74 : en' ≠ b_64 := ne_ge f_56.lt le_65
  have ne_75 : src ≠ b_64 := ne_ge f_57.lt le_65
  have ne_76 : st ≠ b_64 := ne_ge f_58.lt le_65
  have ne_77 : t ≠ b_64 := ne_ge f_59.lt le_65
  have ge_b_64 : n0 ≤ b_64 := Nat.le_trans f_49 le_65
  have gs_b_64 : h0.size ≤ b_64 := Nat.le_trans f_60 le_65
  show Go B n0 _ h_61 2 2 88 #[.val (.ref t), .val (.ref src), .val (.ref a_15), .val (.int (1 : Int32)), .val (.int (1 : Int32))] [(.ref b_64), (.ref t)]
  have f_78 := ((((T_written.keep K_2 (ninS e4 nin0)).ext E_17).keep K_44 (ninS ne_29 nin0)).keep K_66 nin0)
  have f_79 := (f_59.keep K_66)
  refine g_putfield C (host := "") (v := (.ref b_64)) (Or.inl (own_w hw 19 rfl)) Via.refl f_78 f_79 (Or.inl (own_w hw 20 rfl)) (own_w hw 2 rfl) (ty := (.array .int)) (by decide) rfl rfl gg6 d5_88 (pc' := 91) rfl ?_
  intro h_80 W_81
  have f_82 := f_78.same W_81
  refine g_aload_n C d5_91 (v := (.ref t)) rfl rfl (pc' := 92) rfl ?_
  refine g_iconst C d5_92 (v := (1 : Int32)) rfl (pc' := 93) rfl ?_
  have f_83 := (((((T_whole.keep K_2 (ninS e4 nin0)).ext E_17).keep K_44 (ninS ne_29 nin0)).keep K_66 nin0).other W_81 (Or.inr (slot_ne (Or.inl (own_w hw 41 rfl)) (Or.inl (own_w hw 20 rfl)) (by decide) (t := .boolean) (t' := (.array .int)) (by decide) (by decide))))
  have f_84 := (f_79.wr W_81)
  refine g_putfield C (host := "") (v := (.int (1 : Int32))) (Or.inl (own_w hw 40 rfl)) Via.refl f_83 f_84 (Or.inl (own_w hw 41 rfl)) (own_w hw 2 rfl) (ty := .boolean) (by decide) rfl rfl gg6 d5_93 (pc' := 96) rfl ?_
  intro h_85 W_86
  have f_87 := f_83.same W_86
  refine g_return C rfl d5_96 (by decide) (by decide) ?_
  have f_88 := (((f_51.keep K_66 nin0).keep (Keep.of_wr W_81) (nin1 (Ne.symm e0))).keep (Keep.of_wr W_86) (nin1 (Ne.symm e0)))
  have f_89 := (((f_52.keep K_66 nin0).keep (Keep.of_wr W_81) (nin1 (Ne.symm e1))).keep (Keep.of_wr W_86) (nin1 (Ne.symm e1)))
  have f_90 := (((f_53.keep K_66 nin0).keep (Keep.of_wr W_81) (nin1 (Ne.symm e2))).keep (Keep.of_wr W_86) (nin1 (Ne.symm e2)))
  have f_91 := (((f_58.keep K_66 nin0).keep (Keep.of_wr W_81) (nin1 (Ne.symm e3))).keep (Keep.of_wr W_86) (nin1 (Ne.symm e3)))
  have f_92 := (((f_56.keep K_66 nin0).keep (Keep.of_wr W_81) (nin1 (Ne.symm e4))).keep (Keep.of_wr W_86) (nin1 (Ne.symm e4)))
  have f_93 := (((f_50.keep K_66 nin0).keep (Keep.of_wr W_81) (nin1 (Ne.symm e5))).keep (Keep.of_wr W_86) (nin1 (Ne.symm e5)))
  have f_94 := (f_84.wr W_86)
  have f_95 := ((((f_34.keep K_44 (ninS ne_29 nin0)).keep K_66 nin0).other W_81 (Or.inr (slot_ne (Or.inl (own_w hw 13 rfl)) (Or.inl (own_w hw 20 rfl)) (by decide) (t := (.array (.object "com/example/vestalia/vestalia/model/Step$Kind"))) (t' := (.array .int)) (by decide) (by decide)))).other W_86 (Or.inr (slot_ne (Or.inl (own_w hw 13 rfl)) (Or.inl (own_w hw 41 rfl)) (by decide) (t := (.array (.object "com/example/vestalia/vestalia/model/Step$Kind"))) (t' := .boolean) (by decide) (by decide))))
  have f_96 := ((((f_37.keep K_44 (ninS ne_29 nin0)).keep K_66 nin0).other W_81 (Or.inr (slot_ne (Or.inl (own_w hw 16 rfl)) (Or.inl (own_w hw 20 rfl)) (by decide) (t := (.array .int)) (t' := (.array .int)) (by decide) (by decide)))).other W_86 (Or.inr (slot_ne (Or.inl (own_w hw 16 rfl)) (Or.inl (own_w hw 41 rfl)) (by decide) (t := (.array .int)) (t' := .boolean) (by decide) (by decide))))
  have f_97 := ((((((T_values.keep K_2 (ninS e4 nin0)).ext E_17).keep K_44 (ninS ne_29 nin0)).keep K_66 nin0).other W_81 (Or.inr (slot_ne (Or.inl (own_w hw 18 rfl)) (Or.inl (own_w hw 20 rfl)) (by decide) (t := (.array .long)) (t' := (.array .int)) (by decide) (by decide)))).other W_86 (Or.inr (slot_ne (Or.inl (own_w hw 18 rfl)) (Or.inl (own_w hw 41 rfl)) (by decide) (t := (.array .long)) (t' := .boolean) (by decide) (by decide))))
  have f_98 := ((((((T_width.keep K_2 (ninS e4 nin0)).ext E_17).keep K_44 (ninS ne_29 nin0)).keep K_66 nin0).other W_81 (Or.inr (slot_ne (Or.inr (own_w hw 22 rfl)) (Or.inl (own_w hw 20 rfl)) (by decide) (t := .int) (t' := (.array .int)) (by decide) (by decide)))).other W_86 (Or.inr (slot_ne (Or.inr (own_w hw 22 rfl)) (Or.inl (own_w hw 41 rfl)) (by decide) (t := .int) (t' := .boolean) (by decide) (by decide))))
  have f_99 := ((((((T_start.keep K_2 (ninS e4 nin0)).ext E_17).keep K_44 (ninS ne_29 nin0)).keep K_66 nin0).other W_81 (Or.inr (slot_ne (Or.inr (own_w hw 24 rfl)) (Or.inl (own_w hw 20 rfl)) (by decide) (t := (.array .long)) (t' := (.array .int)) (by decide) (by decide)))).other W_86 (Or.inr (slot_ne (Or.inr (own_w hw 24 rfl)) (Or.inl (own_w hw 41 rfl)) (by decide) (t := (.array .long)) (t' := .boolean) (by decide) (by decide))))
  have f_100 := ((((((T_end.keep K_2 (ninS e4 nin0)).ext E_17).keep K_44 (ninS ne_29 nin0)).keep K_66 nin0).other W_81 (Or.inr (slot_ne (Or.inr (own_w hw 26 rfl)) (Or.inl (own_w hw 20 rfl)) (by decide) (t := (.array .long)) (t' := (.array .int)) (by decide) (by decide)))).other W_86 (Or.inr (slot_ne (Or.inr (own_w hw 26 rfl)) (Or.inl (own_w hw 41 rfl)) (by decide) (t := (.array .long)) (t' := .boolean) (by decide) (by decide))))
  have f_101 := ((((((T_before.keep K_2 (ninS e4 nin0)).ext E_17).keep K_44 (ninS ne_29 nin0)).keep K_66 nin0).other W_81 (Or.inr (slot_ne (Or.inl (own_w hw 28 rfl)) (Or.inl (own_w hw 20 rfl)) (by decide) (t := (.array .long)) (t' := (.array .int)) (by decide) (by decide)))).other W_86 (Or.inr (slot_ne (Or.inl (own_w hw 28 rfl)) (Or.inl (own_w hw 41 rfl)) (by decide) (t := (.array .long)) (t' := .boolean) (by decide) (by decide))))
  have f_102 := (((f_47.keep K_66 nin0).other W_81 (Or.inr (slot_ne (Or.inl (own_w hw 39 rfl)) (Or.inl (own_w hw 20 rfl)) (by decide) (t := .int) (t' := (.array .int)) (by decide) (by decide)))).other W_86 (Or.inr (slot_ne (Or.inl (own_w hw 39 rfl)) (Or.inl (own_w hw 41 rfl)) (by decide) (t := .int) (t' := .boolean) (by decide) (by decide))))
  have f_103 := (f_82.other W_86 (Or.inr (slot_ne (Or.inl (own_w hw 20 rfl)) (Or.inl (own_w hw 41 rfl)) (by decide) (t := (.array .int)) (t' := .boolean) (by decide) (by decide))))
  exact ⟨rfl, (((((((Keep.refl h0 [t, en']).trans K_2 (allS (Or.inl (List.mem_of_getElem? (i := 1) rfl)) all0)).ext E_17).trans K_44 (allS (Or.inr gs_a_15) all0)).trans K_66 all0).wr W_81 (Or.inl (List.mem_of_getElem? (i := 0) rfl))).wr W_86 (Or.inl (List.mem_of_getElem? (i := 0) rfl))), ⟨f_94, f_95, f_96, f_97, f_98, f_99, f_100, f_101, f_102, f_87, ⟨b_64, f_103⟩, f_88, f_89, f_90, f_91, f_92, f_93⟩⟩
set_option maxRecDepth 65536 in
set_option maxHeartbeats 40000000 in
theorem rm_end_1READ (l : Launch) (Z : State) (a0 : Array Value) (hw : ∀ d ∈ tables_1, d.before a0 Z = true) (n0 : Nat) (t bk bs bv st en' bb : Addr) (src : Addr) (wh s0 : Int32) (v0 : Int64) (x0 x1 y0 : Int64) (ls lb : List Value) (e_WRITE e_READ : Addr) (h0 : Heap) (Z0 : n0 ≤ h0.size) (tr : Tr Z h0 t bk bs bv st en' bb (1 : Int32) (1 : Int32) wh (.ref e_READ) s0 v0 ls [(.long y0)] lb) (di : Dis bk bs bv st en' bb) (dt : t ≠ bk ∧ t ≠ bs ∧ t ≠ bv ∧ t ≠ st ∧ t ≠ en' ∧ t ≠ bb) (gg : n0 ≤ bk ∧ n0 ≤ bs ∧ n0 ≤ bv ∧ n0 ≤ st ∧ n0 ≤ en' ∧ n0 ≤ bb ∧ n0 ≤ t) (A_src : Ary Z h0 src .long [.long x0, .long x1]) (ns : src ≠ en') (nt : src ≠ t) (en : Ens Z e_WRITE e_READ) (O : Old Z n0 h0) :
    Met1 l Z (⟨"com/example/vestalia/vestalia/locks/StepTrace", "end", "([J)V"⟩ : MethodName) prog_32_method_6_code 5 none ({ frames := 2, cells := 2, slots := 1, locals := 33 } : Room) n0 #[(.ref t), (.ref src)] h0 (fun v h => v = none ∧ Keep h0 h [t, en'] ∧ Tr Z h t bk bs bv st en' bb (1 : Int32) (1 : Int32) (1 : Int32) (.ref e_READ) s0 v0 ls [(.long x0)] lb) := by
  refine met_of (plainFor_of_name own_pn_com_example_vestalia_vestalia_locks_StepTrace) (L0 := #[.val (.ref t), .val (.ref src), .unset, .unset, .unset]) (by first | (simp [argsToLocals, Value.category]; done) | rfl) ?_
  intro B C
  change Ctx B l _ _ "com/example/vestalia/vestalia/locks/StepTrace" "end" _ _ Z at C
  have en' := en
  obtain ⟨⟨S_WRITE, X_WRITE, D_WRITE⟩, ⟨S_READ, X_READ, D_READ⟩⟩ := en'
  have tr' := tr
  obtain ⟨E_t, T_kinds, T_slots, T_values, T_width, T_start, T_end, T_before, T_length, T_whole, ⟨r_w, T_written⟩, A_kinds, A_slots, A_values, A_start, A_end, A_before⟩ := tr'
  have di' := di
  obtain ⟨d0, d1, d2, d3, d4, d5, d6, d7, d8, d9, d10, d11, d12, d13, d14⟩ := di'
  have dt' := dt
  obtain ⟨e0, e1, e2, e3, e4, e5⟩ := dt'
  have gg' := gg
  obtain ⟨gg0, gg1, gg2, gg3, gg4, gg5, gg6⟩ := gg'
  refine g_aload_n C d5_0 (v := (.ref src)) rfl rfl (pc' := 1) rfl ?_
  refine g_iconst C d5_1 (v := (0 : Int32)) rfl (pc' := 2) rfl ?_
  refine g_aload_n C d5_2 (v := (.ref t)) rfl rfl (pc' := 3) rfl ?_
  refine g_getfield C (host := "") (v := (.ref en')) (Or.inl (own_w hw 25 rfl)) Via.refl T_end d5_3 (pc' := 6) rfl ?_
  refine g_iconst C d5_6 (v := (0 : Int32)) rfl (pc' := 7) rfl ?_
  refine g_aload_n C d5_7 (v := (.ref t)) rfl rfl (pc' := 8) rfl ?_
  refine g_getfield C (host := "") (v := (.int (1 : Int32))) (Or.inl (own_w hw 21 rfl)) Via.refl T_width d5_8 (pc' := 11) rfl ?_
  refine g_arraycopy C (own_w hw 34 rfl) (own_w hw 37 rfl) (own_w hw 35 rfl) (own_w hw 36 rfl) A_src A_end rfl (by simp [fits]) (by simp [fits]) (by decide) (by decide) (by decide) (spN := 0) (dpN := 0) (nnN := 1) (by decide) (by decide) (by decide) (show 0 + 1 ≤ 2 by decide) (show 0 + 1 ≤ 1 by decide) (out := [(.long x0)]) rfl gg4 rfl (by decide) (W := 0) (Nat.le_of_eq rfl) (by decide) d5_11 (pc' := 14) rfl ?_
  intro h_1 K_2 f_3
  show Go B n0 _ h_1 0 0 14 #[.val (.ref t), .val (.ref src), .unset, .unset, .unset] []
  refine g_aload_n C d5_14 (v := (.ref t)) rfl rfl (pc' := 15) rfl ?_
  have f_4 := (T_length.keep K_2 (ninS e4 nin0))
  refine g_getfield C (host := "") (v := (.int (1 : Int32))) (Or.inl (own_w hw 38 rfl)) Via.refl f_4 d5_15 (pc' := 18) rfl ?_
  have f_5 := (A_before.keep K_2 (ninS (Ne.symm d14) nin0))
  have f_6 := (A_kinds.keep K_2 (ninS d3 nin0))
  have f_7 := (A_slots.keep K_2 (ninS d7 nin0))
  have f_8 := (A_values.keep K_2 (ninS d10 nin0))
  have f_9 := ((X_READ.ext O.2).keep K_2)
  have f_10 := ((X_WRITE.ext O.2).keep K_2)
  have f_11 := (A_src.keep K_2 (ninS ns nin0))
  have f_12 := (A_start.keep K_2 (ninS d12 nin0))
  have f_13 := (E_t.keep K_2)
  refine g_newarrayE C (own_w hw 14 rfl) (ty := .int) rfl (ad := "[I") (by decide) (by decide) (cap := 1) (by decide) (by decide) (by decide) (by decide) d5_18 (pc' := 20) rfl ?_
  intro h_14 a_15 g_16 E_17 A_18 E_19
  have ne_20 : bb ≠ a_15 := ne_new f_5.lt g_16
  have ne_21 : bk ≠ a_15 := ne_new f_6.lt g_16
  have ne_22 : bs ≠ a_15 := ne_new f_7.lt g_16
  have ne_23 : bv ≠ a_15 := ne_new f_8.lt g_16
  have ne_24 : e_READ ≠ a_15 := ne_new f_9.lt g_16
  have ne_25 : e_WRITE ≠ a_15 := ne_new f_10.lt g_16
  have ne_26 : en' ≠ a_15 := ne_new f_3.lt g_16
  have ne_27 : src ≠ a_15 := ne_new f_11.lt g_16
  have ne_28 : st ≠ a_15 := ne_new f_12.lt g_16
  have ne_29 : t ≠ a_15 := ne_new f_13.lt g_16
  have f_30 := (Nat.le_trans Z0 K_2.1)
  have ge_a_15 : n0 ≤ a_15 := Nat.le_trans f_30 (Nat.le_of_eq g_16.symm)
  have f_31 := (Nat.le_trans (Nat.le_refl h0.size) K_2.1)
  have gs_a_15 : h0.size ≤ a_15 := Nat.le_trans f_31 (Nat.le_of_eq g_16.symm)
  have f_32 : Ary Z h_14 a_15 .int [(.int (0 : Int32))] := A_18
  show Go B n0 _ h_14 1 1 20 #[.val (.ref t), .val (.ref src), .unset, .unset, .unset] [(.ref a_15)]
  refine g_astore_n C d5_20 (v := (.ref a_15)) (L' := #[.val (.ref t), .val (.ref src), .val (.ref a_15), .unset, .unset]) rfl rfl (pc' := 21) rfl ?_
  refine g_iconst C d5_21 (v := (0 : Int32)) rfl (pc' := 22) rfl ?_
  refine g_istore_n C d5_22 (v := (0 : Int32)) (L' := #[.val (.ref t), .val (.ref src), .val (.ref a_15), .val (.int (0 : Int32)), .unset]) rfl (pc' := 23) rfl ?_
  refine g_iconst C d5_23 (v := (0 : Int32)) rfl (pc' := 24) rfl ?_
  refine g_istore C d5_24 (v := (0 : Int32)) (L' := #[.val (.ref t), .val (.ref src), .val (.ref a_15), .val (.int (0 : Int32)), .val (.int (0 : Int32))]) rfl (pc' := 26) rfl ?_
  refine g_iload C d5_26 (v := (0 : Int32)) rfl (pc' := 28) rfl ?_
  refine g_aload_n C d5_28 (v := (.ref t)) rfl rfl (pc' := 29) rfl ?_
  have f_33 := (f_4.ext E_17)
  refine g_getfield C (host := "") (v := (.int (1 : Int32))) (Or.inl (own_w hw 38 rfl)) Via.refl f_33 d5_29 (pc' := 32) rfl ?_
  refine g_icmp_n C d5_32 (Jvm.Free.XT.ii_ge_f (by decide)) (pc' := 35) rfl ?_
  refine g_aload_n C d5_35 (v := (.ref t)) rfl rfl (pc' := 36) rfl ?_
  have f_34 := ((T_kinds.keep K_2 (ninS e4 nin0)).ext E_17)
  refine g_getfield C (host := "") (v := (.ref bk)) (Or.inl (own_w hw 12 rfl)) Via.refl f_34 d5_36 (pc' := 39) rfl ?_
  refine g_iload C d5_39 (v := (0 : Int32)) rfl (pc' := 41) rfl ?_
  have f_35 := (f_6.ext E_17)
  refine g_aaload C (AryR.ary f_35) rfl (by decide) (i := 0) (by decide) (v := (.ref e_READ)) rfl d5_41 (pc' := 42) rfl ?_
  have f_36 := ((O.keep K_2 (allS gg4 all0)).ext E_17)
  refine g_getstatic C (host := "") (v := (.ref e_WRITE)) (Or.inl (own_w hw 78 rfl)) Via.refl (S_WRITE.ext f_36.2) d5_42 (pc' := 45) rfl ?_
  refine g_acmp_y C d5_45 rfl rfl (Jvm.Free.XT.aa_ne_t (fun q => (Fld.ne D_READ D_WRITE (by decide)) (Value.ref.inj q))) (pc' := 76) (by decide) (by decide) ?_
  refine g_iinc C d5_76 (v := (0 : Int32)) (w := (1 : Int32)) rfl rfl (L' := #[.val (.ref t), .val (.ref src), .val (.ref a_15), .val (.int (0 : Int32)), .val (.int (1 : Int32))]) rfl (pc' := 79) rfl ?_
  refine g_goto C d5_79 (pc' := 26) (by decide) (by decide) ?_
  refine g_iload C d5_26 (v := (1 : Int32)) rfl (pc' := 28) rfl ?_
  refine g_aload_n C d5_28 (v := (.ref t)) rfl rfl (pc' := 29) rfl ?_
  refine g_getfield C (host := "") (v := (.int (1 : Int32))) (Or.inl (own_w hw 38 rfl)) Via.refl f_33 d5_29 (pc' := 32) rfl ?_
  refine g_icmp_y C d5_32 (Jvm.Free.XT.ii_ge_t (by decide)) (pc' := 82) (by decide) (by decide) ?_
  refine g_aload_n C d5_82 (v := (.ref t)) rfl rfl (pc' := 83) rfl ?_
  refine g_aload_n C d5_83 (v := (.ref a_15)) rfl rfl (pc' := 84) rfl ?_
  refine g_iload_n C d5_84 (v := (0 : Int32)) rfl (pc' := 85) rfl ?_
  have f_37 := (Nat.le_trans f_30 E_17.1)
  have f_38 := (f_5.ext E_17)
  have f_39 := (f_7.ext E_17)
  have f_40 := (f_8.ext E_17)
  have f_41 := (f_9.ext E_17)
  have f_42 := (f_10.ext E_17)
  have f_43 := (f_3.ext E_17)
  have f_44 := (f_11.ext E_17)
  have f_45 := (f_12.ext E_17)
  have f_46 := (f_13.ext E_17)
  have f_47 := (Nat.le_trans f_31 E_17.1)
  refine g_static C (own_w hw 52 rfl) (own_w hw 53 rfl) (own_w hw 54 rfl) (own_w hw 55 rfl) (by decide) (rm_copyOf10 l Z a0 hw n0 a_15 (0 : Int32) h_14 f_37 f_32 E_19) (st := [(.ref t)]) [(.ref a_15), (.int (0 : Int32))] rfl rfl own_pd_4_copyOf rfl rfl (by decide) (W := 1) (Nat.le_of_eq rfl) (by decide) (by decide) (by decide) d5_85 (pc' := 88) rfl ?_
  intro v_50 h_48 q_49
  obtain ⟨b_51, rfl, le_52, K_53⟩ := q_49
  have ne_54 : a_15 ≠ b_51 := ne_ge f_32.lt le_52
  have ne_55 : bb ≠ b_51 := ne_ge f_38.lt le_52
  have ne_56 : bk ≠ b_51 := ne_ge f_35.lt le_52
  have ne_57 : bs ≠ b_51 := ne_ge f_39.lt le_52
  have ne_58 : bv ≠ b_51 := ne_ge f_40.lt le_52
  have ne_59 : e_READ ≠ b_51 := ne_ge f_41.lt le_52
  have ne_60 : e_WRITE ≠ b_51 := ne_ge f_42.lt le_52
  have ne_61 : en' ≠ b_51 := ne_ge f_43.lt le_52
  have ne_62 : src ≠ b_51 := ne_ge f_44.lt le_52
  have ne_63 : st ≠ b_51 := ne_ge f_45.lt le_52
  have ne_64 : t ≠ b_51 := ne_ge f_46.lt le_52
  have ge_b_51 : n0 ≤ b_51 := Nat.le_trans f_37 le_52
  have gs_b_51 : h0.size ≤ b_51 := Nat.le_trans f_47 le_52
  show Go B n0 _ h_48 2 1 88 #[.val (.ref t), .val (.ref src), .val (.ref a_15), .val (.int (0 : Int32)), .val (.int (1 : Int32))] [(.ref b_51), (.ref t)]
  have f_65 := (((T_written.keep K_2 (ninS e4 nin0)).ext E_17).keep K_53 nin0)
  have f_66 := (f_46.keep K_53)
  refine g_putfield C (host := "") (v := (.ref b_51)) (Or.inl (own_w hw 19 rfl)) Via.refl f_65 f_66 (Or.inl (own_w hw 20 rfl)) (own_w hw 2 rfl) (ty := (.array .int)) (by decide) rfl rfl gg6 d5_88 (pc' := 91) rfl ?_
  intro h_67 W_68
  have f_69 := f_65.same W_68
  refine g_aload_n C d5_91 (v := (.ref t)) rfl rfl (pc' := 92) rfl ?_
  refine g_iconst C d5_92 (v := (1 : Int32)) rfl (pc' := 93) rfl ?_
  have f_70 := ((((T_whole.keep K_2 (ninS e4 nin0)).ext E_17).keep K_53 nin0).other W_68 (Or.inr (slot_ne (Or.inl (own_w hw 41 rfl)) (Or.inl (own_w hw 20 rfl)) (by decide) (t := .boolean) (t' := (.array .int)) (by decide) (by decide))))
  have f_71 := (f_66.wr W_68)
  refine g_putfield C (host := "") (v := (.int (1 : Int32))) (Or.inl (own_w hw 40 rfl)) Via.refl f_70 f_71 (Or.inl (own_w hw 41 rfl)) (own_w hw 2 rfl) (ty := .boolean) (by decide) rfl rfl gg6 d5_93 (pc' := 96) rfl ?_
  intro h_72 W_73
  have f_74 := f_70.same W_73
  refine g_return C rfl d5_96 (by decide) (by decide) ?_
  have f_75 := (((f_35.keep K_53 nin0).keep (Keep.of_wr W_68) (nin1 (Ne.symm e0))).keep (Keep.of_wr W_73) (nin1 (Ne.symm e0)))
  have f_76 := (((f_39.keep K_53 nin0).keep (Keep.of_wr W_68) (nin1 (Ne.symm e1))).keep (Keep.of_wr W_73) (nin1 (Ne.symm e1)))
  have f_77 := (((f_40.keep K_53 nin0).keep (Keep.of_wr W_68) (nin1 (Ne.symm e2))).keep (Keep.of_wr W_73) (nin1 (Ne.symm e2)))
  have f_78 := (((f_45.keep K_53 nin0).keep (Keep.of_wr W_68) (nin1 (Ne.symm e3))).keep (Keep.of_wr W_73) (nin1 (Ne.symm e3)))
  have f_79 := (((f_43.keep K_53 nin0).keep (Keep.of_wr W_68) (nin1 (Ne.symm e4))).keep (Keep.of_wr W_73) (nin1 (Ne.symm e4)))
  have f_80 := (((f_38.keep K_53 nin0).keep (Keep.of_wr W_68) (nin1 (Ne.symm e5))).keep (Keep.of_wr W_73) (nin1 (Ne.symm e5)))
  have f_81 := (f_71.wr W_73)
  have f_82 := (((f_34.keep K_53 nin0).other W_68 (Or.inr (slot_ne (Or.inl (own_w hw 13 rfl)) (Or.inl (own_w hw 20 rfl)) (by decide) (t := (.array (.object "com/example/vestalia/vestalia/model/Step$Kind"))) (t' := (.array .int)) (by decide) (by decide)))).other W_73 (Or.inr (slot_ne (Or.inl (own_w hw 13 rfl)) (Or.inl (own_w hw 41 rfl)) (by decide) (t := (.array (.object "com/example/vestalia/vestalia/model/Step$Kind"))) (t' := .boolean) (by decide) (by decide))))
  have f_83 := (((((T_slots.keep K_2 (ninS e4 nin0)).ext E_17).keep K_53 nin0).other W_68 (Or.inr (slot_ne (Or.inl (own_w hw 16 rfl)) (Or.inl (own_w hw 20 rfl)) (by decide) (t := (.array .int)) (t' := (.array .int)) (by decide) (by decide)))).other W_73 (Or.inr (slot_ne (Or.inl (own_w hw 16 rfl)) (Or.inl (own_w hw 41 rfl)) (by decide) (t := (.array .int)) (t' := .boolean) (by decide) (by decide))))
  have f_84 := (((((T_values.keep K_2 (ninS e4 nin0)).ext E_17).keep K_53 nin0).other W_68 (Or.inr (slot_ne (Or.inl (own_w hw 18 rfl)) (Or.inl (own_w hw 20 rfl)) (by decide) (t := (.array .long)) (t' := (.array .int)) (by decide) (by decide)))).other W_73 (Or.inr (slot_ne (Or.inl (own_w hw 18 rfl)) (Or.inl (own_w hw 41 rfl)) (by decide) (t := (.array .long)) (t' := .boolean) (by decide) (by decide))))
  have f_85 := (((((T_width.keep K_2 (ninS e4 nin0)).ext E_17).keep K_53 nin0).other W_68 (Or.inr (slot_ne (Or.inr (own_w hw 22 rfl)) (Or.inl (own_w hw 20 rfl)) (by decide) (t := .int) (t' := (.array .int)) (by decide) (by decide)))).other W_73 (Or.inr (slot_ne (Or.inr (own_w hw 22 rfl)) (Or.inl (own_w hw 41 rfl)) (by decide) (t := .int) (t' := .boolean) (by decide) (by decide))))
  have f_86 := (((((T_start.keep K_2 (ninS e4 nin0)).ext E_17).keep K_53 nin0).other W_68 (Or.inr (slot_ne (Or.inr (own_w hw 24 rfl)) (Or.inl (own_w hw 20 rfl)) (by decide) (t := (.array .long)) (t' := (.array .int)) (by decide) (by decide)))).other W_73 (Or.inr (slot_ne (Or.inr (own_w hw 24 rfl)) (Or.inl (own_w hw 41 rfl)) (by decide) (t := (.array .long)) (t' := .boolean) (by decide) (by decide))))
  have f_87 := (((((T_end.keep K_2 (ninS e4 nin0)).ext E_17).keep K_53 nin0).other W_68 (Or.inr (slot_ne (Or.inr (own_w hw 26 rfl)) (Or.inl (own_w hw 20 rfl)) (by decide) (t := (.array .long)) (t' := (.array .int)) (by decide) (by decide)))).other W_73 (Or.inr (slot_ne (Or.inr (own_w hw 26 rfl)) (Or.inl (own_w hw 41 rfl)) (by decide) (t := (.array .long)) (t' := .boolean) (by decide) (by decide))))
  have f_88 := (((((T_before.keep K_2 (ninS e4 nin0)).ext E_17).keep K_53 nin0).other W_68 (Or.inr (slot_ne (Or.inl (own_w hw 28 rfl)) (Or.inl (own_w hw 20 rfl)) (by decide) (t := (.array .long)) (t' := (.array .int)) (by decide) (by decide)))).other W_73 (Or.inr (slot_ne (Or.inl (own_w hw 28 rfl)) (Or.inl (own_w hw 41 rfl)) (by decide) (t := (.array .long)) (t' := .boolean) (by decide) (by decide))))
  have f_89 := (((f_33.keep K_53 nin0).other W_68 (Or.inr (slot_ne (Or.inl (own_w hw 39 rfl)) (Or.inl (own_w hw 20 rfl)) (by decide) (t := .int) (t' := (.array .int)) (by decide) (by decide)))).other W_73 (Or.inr (slot_ne (Or.inl (own_w hw 39 rfl)) (Or.inl (own_w hw 41 rfl)) (by decide) (t := .int) (t' := .boolean) (by decide) (by decide))))
  have f_90 := (f_69.other W_73 (Or.inr (slot_ne (Or.inl (own_w hw 20 rfl)) (Or.inl (own_w hw 41 rfl)) (by decide) (t := (.array .int)) (t' := .boolean) (by decide) (by decide))))
  exact ⟨rfl, ((((((Keep.refl h0 [t, en']).trans K_2 (allS (Or.inl (List.mem_of_getElem? (i := 1) rfl)) all0)).ext E_17).trans K_53 all0).wr W_68 (Or.inl (List.mem_of_getElem? (i := 0) rfl))).wr W_73 (Or.inl (List.mem_of_getElem? (i := 0) rfl))), ⟨f_81, f_82, f_83, f_84, f_85, f_86, f_87, f_88, f_89, f_74, ⟨b_51, f_90⟩, f_75, f_76, f_77, f_78, f_79, f_80⟩⟩
set_option maxRecDepth 65536 in
set_option maxHeartbeats 40000000 in
theorem rm_end_2none (l : Launch) (Z : State) (a0 : Array Value) (hw : ∀ d ∈ tables_1, d.before a0 Z = true) (n0 : Nat) (t bk bs bv st en' bb : Addr) (src : Addr) (wh s0 : Int32) (v0 : Int64) (x0 x1 y0 y1 : Int64) (ls lb : List Value) (e_WRITE e_READ : Addr) (h0 : Heap) (Z0 : n0 ≤ h0.size) (tr : Tr Z h0 t bk bs bv st en' bb (2 : Int32) (0 : Int32) wh .null s0 v0 ls [(.long y0), (.long y1)] lb) (di : Dis bk bs bv st en' bb) (dt : t ≠ bk ∧ t ≠ bs ∧ t ≠ bv ∧ t ≠ st ∧ t ≠ en' ∧ t ≠ bb) (gg : n0 ≤ bk ∧ n0 ≤ bs ∧ n0 ≤ bv ∧ n0 ≤ st ∧ n0 ≤ en' ∧ n0 ≤ bb ∧ n0 ≤ t) (A_src : Ary Z h0 src .long [.long x0, .long x1]) (ns : src ≠ en') (nt : src ≠ t) (en : Ens Z e_WRITE e_READ) (O : Old Z n0 h0) :
    Met1 l Z (⟨"com/example/vestalia/vestalia/locks/StepTrace", "end", "([J)V"⟩ : MethodName) prog_32_method_6_code 5 none ({ frames := 2, cells := 2, slots := 0, locals := 29 } : Room) n0 #[(.ref t), (.ref src)] h0 (fun v h => v = none ∧ Keep h0 h [t, en'] ∧ Tr Z h t bk bs bv st en' bb (2 : Int32) (0 : Int32) (1 : Int32) .null s0 v0 ls [(.long x0), (.long x1)] lb) := by
  refine met_of (plainFor_of_name own_pn_com_example_vestalia_vestalia_locks_StepTrace) (L0 := #[.val (.ref t), .val (.ref src), .unset, .unset, .unset]) (by first | (simp [argsToLocals, Value.category]; done) | rfl) ?_
  intro B C
  change Ctx B l _ _ "com/example/vestalia/vestalia/locks/StepTrace" "end" _ _ Z at C
  have en' := en
  obtain ⟨⟨S_WRITE, X_WRITE, D_WRITE⟩, ⟨S_READ, X_READ, D_READ⟩⟩ := en'
  have tr' := tr
  obtain ⟨E_t, T_kinds, T_slots, T_values, T_width, T_start, T_end, T_before, T_length, T_whole, ⟨r_w, T_written⟩, A_kinds, A_slots, A_values, A_start, A_end, A_before⟩ := tr'
  have di' := di
  obtain ⟨d0, d1, d2, d3, d4, d5, d6, d7, d8, d9, d10, d11, d12, d13, d14⟩ := di'
  have dt' := dt
  obtain ⟨e0, e1, e2, e3, e4, e5⟩ := dt'
  have gg' := gg
  obtain ⟨gg0, gg1, gg2, gg3, gg4, gg5, gg6⟩ := gg'
  refine g_aload_n C d5_0 (v := (.ref src)) rfl rfl (pc' := 1) rfl ?_
  refine g_iconst C d5_1 (v := (0 : Int32)) rfl (pc' := 2) rfl ?_
  refine g_aload_n C d5_2 (v := (.ref t)) rfl rfl (pc' := 3) rfl ?_
  refine g_getfield C (host := "") (v := (.ref en')) (Or.inl (own_w hw 25 rfl)) Via.refl T_end d5_3 (pc' := 6) rfl ?_
  refine g_iconst C d5_6 (v := (0 : Int32)) rfl (pc' := 7) rfl ?_
  refine g_aload_n C d5_7 (v := (.ref t)) rfl rfl (pc' := 8) rfl ?_
  refine g_getfield C (host := "") (v := (.int (2 : Int32))) (Or.inl (own_w hw 21 rfl)) Via.refl T_width d5_8 (pc' := 11) rfl ?_
  refine g_arraycopy C (own_w hw 34 rfl) (own_w hw 37 rfl) (own_w hw 35 rfl) (own_w hw 36 rfl) A_src A_end rfl (by simp [fits]) (by simp [fits]) (by decide) (by decide) (by decide) (spN := 0) (dpN := 0) (nnN := 2) (by decide) (by decide) (by decide) (show 0 + 2 ≤ 2 by decide) (show 0 + 2 ≤ 2 by decide) (out := [(.long x0), (.long x1)]) rfl gg4 rfl (by decide) (W := 0) (Nat.le_of_eq rfl) (by decide) d5_11 (pc' := 14) rfl ?_
  intro h_1 K_2 f_3
  show Go B n0 _ h_1 0 0 14 #[.val (.ref t), .val (.ref src), .unset, .unset, .unset] []
  refine g_aload_n C d5_14 (v := (.ref t)) rfl rfl (pc' := 15) rfl ?_
  have f_4 := (T_length.keep K_2 (ninS e4 nin0))
  refine g_getfield C (host := "") (v := (.int (0 : Int32))) (Or.inl (own_w hw 38 rfl)) Via.refl f_4 d5_15 (pc' := 18) rfl ?_
  have f_5 := (A_before.keep K_2 (ninS (Ne.symm d14) nin0))
  have f_6 := (A_kinds.keep K_2 (ninS d3 nin0))
  have f_7 := (A_slots.keep K_2 (ninS d7 nin0))
  have f_8 := (A_values.keep K_2 (ninS d10 nin0))
  have f_9 := ((X_READ.ext O.2).keep K_2)
  have f_10 := ((X_WRITE.ext O.2).keep K_2)
  have f_11 := (A_src.keep K_2 (ninS ns nin0))
  have f_12 := (A_start.keep K_2 (ninS d12 nin0))
  have f_13 := (E_t.keep K_2)
  refine g_newarrayE C (own_w hw 14 rfl) (ty := .int) rfl (ad := "[I") (by decide) (by decide) (cap := 0) (by decide) (by decide) (by decide) (by decide) d5_18 (pc' := 20) rfl ?_
  intro h_14 a_15 g_16 E_17 A_18 E_19
  have ne_20 : bb ≠ a_15 := ne_new f_5.lt g_16
  have ne_21 : bk ≠ a_15 := ne_new f_6.lt g_16
  have ne_22 : bs ≠ a_15 := ne_new f_7.lt g_16
  have ne_23 : bv ≠ a_15 := ne_new f_8.lt g_16
  have ne_24 : e_READ ≠ a_15 := ne_new f_9.lt g_16
  have ne_25 : e_WRITE ≠ a_15 := ne_new f_10.lt g_16
  have ne_26 : en' ≠ a_15 := ne_new f_3.lt g_16
  have ne_27 : src ≠ a_15 := ne_new f_11.lt g_16
  have ne_28 : st ≠ a_15 := ne_new f_12.lt g_16
  have ne_29 : t ≠ a_15 := ne_new f_13.lt g_16
  have f_30 := (Nat.le_trans Z0 K_2.1)
  have ge_a_15 : n0 ≤ a_15 := Nat.le_trans f_30 (Nat.le_of_eq g_16.symm)
  have f_31 := (Nat.le_trans (Nat.le_refl h0.size) K_2.1)
  have gs_a_15 : h0.size ≤ a_15 := Nat.le_trans f_31 (Nat.le_of_eq g_16.symm)
  have f_32 : Ary Z h_14 a_15 .int [] := A_18
  show Go B n0 _ h_14 1 0 20 #[.val (.ref t), .val (.ref src), .unset, .unset, .unset] [(.ref a_15)]
  refine g_astore_n C d5_20 (v := (.ref a_15)) (L' := #[.val (.ref t), .val (.ref src), .val (.ref a_15), .unset, .unset]) rfl rfl (pc' := 21) rfl ?_
  refine g_iconst C d5_21 (v := (0 : Int32)) rfl (pc' := 22) rfl ?_
  refine g_istore_n C d5_22 (v := (0 : Int32)) (L' := #[.val (.ref t), .val (.ref src), .val (.ref a_15), .val (.int (0 : Int32)), .unset]) rfl (pc' := 23) rfl ?_
  refine g_iconst C d5_23 (v := (0 : Int32)) rfl (pc' := 24) rfl ?_
  refine g_istore C d5_24 (v := (0 : Int32)) (L' := #[.val (.ref t), .val (.ref src), .val (.ref a_15), .val (.int (0 : Int32)), .val (.int (0 : Int32))]) rfl (pc' := 26) rfl ?_
  refine g_iload C d5_26 (v := (0 : Int32)) rfl (pc' := 28) rfl ?_
  refine g_aload_n C d5_28 (v := (.ref t)) rfl rfl (pc' := 29) rfl ?_
  have f_33 := (f_4.ext E_17)
  refine g_getfield C (host := "") (v := (.int (0 : Int32))) (Or.inl (own_w hw 38 rfl)) Via.refl f_33 d5_29 (pc' := 32) rfl ?_
  refine g_icmp_y C d5_32 (Jvm.Free.XT.ii_ge_t (by decide)) (pc' := 82) (by decide) (by decide) ?_
  refine g_aload_n C d5_82 (v := (.ref t)) rfl rfl (pc' := 83) rfl ?_
  refine g_aload_n C d5_83 (v := (.ref a_15)) rfl rfl (pc' := 84) rfl ?_
  refine g_iload_n C d5_84 (v := (0 : Int32)) rfl (pc' := 85) rfl ?_
  have f_34 := (Nat.le_trans f_30 E_17.1)
  have f_35 := (f_5.ext E_17)
  have f_36 := (f_6.ext E_17)
  have f_37 := (f_7.ext E_17)
  have f_38 := (f_8.ext E_17)
  have f_39 := (f_9.ext E_17)
  have f_40 := (f_10.ext E_17)
  have f_41 := (f_3.ext E_17)
  have f_42 := (f_11.ext E_17)
  have f_43 := (f_12.ext E_17)
  have f_44 := (f_13.ext E_17)
  have f_45 := (Nat.le_trans f_31 E_17.1)
  refine g_static C (own_w hw 52 rfl) (own_w hw 53 rfl) (own_w hw 54 rfl) (own_w hw 55 rfl) (by decide) (rm_copyOf00 l Z a0 hw n0 a_15 (0 : Int32) h_14 f_34 f_32 E_19) (st := [(.ref t)]) [(.ref a_15), (.int (0 : Int32))] rfl rfl own_pd_4_copyOf rfl rfl (by decide) (W := 1) (Nat.le_of_eq rfl) (by decide) (by decide) (by decide) d5_85 (pc' := 88) rfl ?_
  intro v_48 h_46 q_47
  obtain ⟨b_49, rfl, le_50, K_51⟩ := q_47
  have ne_52 : a_15 ≠ b_49 := ne_ge f_32.lt le_50
  have ne_53 : bb ≠ b_49 := ne_ge f_35.lt le_50
  have ne_54 : bk ≠ b_49 := ne_ge f_36.lt le_50
  have ne_55 : bs ≠ b_49 := ne_ge f_37.lt le_50
  have ne_56 : bv ≠ b_49 := ne_ge f_38.lt le_50
  have ne_57 : e_READ ≠ b_49 := ne_ge f_39.lt le_50
  have ne_58 : e_WRITE ≠ b_49 := ne_ge f_40.lt le_50
  have ne_59 : en' ≠ b_49 := ne_ge f_41.lt le_50
  have ne_60 : src ≠ b_49 := ne_ge f_42.lt le_50
  have ne_61 : st ≠ b_49 := ne_ge f_43.lt le_50
  have ne_62 : t ≠ b_49 := ne_ge f_44.lt le_50
  have ge_b_49 : n0 ≤ b_49 := Nat.le_trans f_34 le_50
  have gs_b_49 : h0.size ≤ b_49 := Nat.le_trans f_45 le_50
  show Go B n0 _ h_46 2 0 88 #[.val (.ref t), .val (.ref src), .val (.ref a_15), .val (.int (0 : Int32)), .val (.int (0 : Int32))] [(.ref b_49), (.ref t)]
  have f_63 := (((T_written.keep K_2 (ninS e4 nin0)).ext E_17).keep K_51 nin0)
  have f_64 := (f_44.keep K_51)
  refine g_putfield C (host := "") (v := (.ref b_49)) (Or.inl (own_w hw 19 rfl)) Via.refl f_63 f_64 (Or.inl (own_w hw 20 rfl)) (own_w hw 2 rfl) (ty := (.array .int)) (by decide) rfl rfl gg6 d5_88 (pc' := 91) rfl ?_
  intro h_65 W_66
  have f_67 := f_63.same W_66
  refine g_aload_n C d5_91 (v := (.ref t)) rfl rfl (pc' := 92) rfl ?_
  refine g_iconst C d5_92 (v := (1 : Int32)) rfl (pc' := 93) rfl ?_
  have f_68 := ((((T_whole.keep K_2 (ninS e4 nin0)).ext E_17).keep K_51 nin0).other W_66 (Or.inr (slot_ne (Or.inl (own_w hw 41 rfl)) (Or.inl (own_w hw 20 rfl)) (by decide) (t := .boolean) (t' := (.array .int)) (by decide) (by decide))))
  have f_69 := (f_64.wr W_66)
  refine g_putfield C (host := "") (v := (.int (1 : Int32))) (Or.inl (own_w hw 40 rfl)) Via.refl f_68 f_69 (Or.inl (own_w hw 41 rfl)) (own_w hw 2 rfl) (ty := .boolean) (by decide) rfl rfl gg6 d5_93 (pc' := 96) rfl ?_
  intro h_70 W_71
  have f_72 := f_68.same W_71
  refine g_return C rfl d5_96 (by decide) (by decide) ?_
  have f_73 := (((f_36.keep K_51 nin0).keep (Keep.of_wr W_66) (nin1 (Ne.symm e0))).keep (Keep.of_wr W_71) (nin1 (Ne.symm e0)))
  have f_74 := (((f_37.keep K_51 nin0).keep (Keep.of_wr W_66) (nin1 (Ne.symm e1))).keep (Keep.of_wr W_71) (nin1 (Ne.symm e1)))
  have f_75 := (((f_38.keep K_51 nin0).keep (Keep.of_wr W_66) (nin1 (Ne.symm e2))).keep (Keep.of_wr W_71) (nin1 (Ne.symm e2)))
  have f_76 := (((f_43.keep K_51 nin0).keep (Keep.of_wr W_66) (nin1 (Ne.symm e3))).keep (Keep.of_wr W_71) (nin1 (Ne.symm e3)))
  have f_77 := (((f_41.keep K_51 nin0).keep (Keep.of_wr W_66) (nin1 (Ne.symm e4))).keep (Keep.of_wr W_71) (nin1 (Ne.symm e4)))
  have f_78 := (((f_35.keep K_51 nin0).keep (Keep.of_wr W_66) (nin1 (Ne.symm e5))).keep (Keep.of_wr W_71) (nin1 (Ne.symm e5)))
  have f_79 := (f_69.wr W_71)
  have f_80 := (((((T_kinds.keep K_2 (ninS e4 nin0)).ext E_17).keep K_51 nin0).other W_66 (Or.inr (slot_ne (Or.inl (own_w hw 13 rfl)) (Or.inl (own_w hw 20 rfl)) (by decide) (t := (.array (.object "com/example/vestalia/vestalia/model/Step$Kind"))) (t' := (.array .int)) (by decide) (by decide)))).other W_71 (Or.inr (slot_ne (Or.inl (own_w hw 13 rfl)) (Or.inl (own_w hw 41 rfl)) (by decide) (t := (.array (.object "com/example/vestalia/vestalia/model/Step$Kind"))) (t' := .boolean) (by decide) (by decide))))
  have f_81 := (((((T_slots.keep K_2 (ninS e4 nin0)).ext E_17).keep K_51 nin0).other W_66 (Or.inr (slot_ne (Or.inl (own_w hw 16 rfl)) (Or.inl (own_w hw 20 rfl)) (by decide) (t := (.array .int)) (t' := (.array .int)) (by decide) (by decide)))).other W_71 (Or.inr (slot_ne (Or.inl (own_w hw 16 rfl)) (Or.inl (own_w hw 41 rfl)) (by decide) (t := (.array .int)) (t' := .boolean) (by decide) (by decide))))
  have f_82 := (((((T_values.keep K_2 (ninS e4 nin0)).ext E_17).keep K_51 nin0).other W_66 (Or.inr (slot_ne (Or.inl (own_w hw 18 rfl)) (Or.inl (own_w hw 20 rfl)) (by decide) (t := (.array .long)) (t' := (.array .int)) (by decide) (by decide)))).other W_71 (Or.inr (slot_ne (Or.inl (own_w hw 18 rfl)) (Or.inl (own_w hw 41 rfl)) (by decide) (t := (.array .long)) (t' := .boolean) (by decide) (by decide))))
  have f_83 := (((((T_width.keep K_2 (ninS e4 nin0)).ext E_17).keep K_51 nin0).other W_66 (Or.inr (slot_ne (Or.inr (own_w hw 22 rfl)) (Or.inl (own_w hw 20 rfl)) (by decide) (t := .int) (t' := (.array .int)) (by decide) (by decide)))).other W_71 (Or.inr (slot_ne (Or.inr (own_w hw 22 rfl)) (Or.inl (own_w hw 41 rfl)) (by decide) (t := .int) (t' := .boolean) (by decide) (by decide))))
  have f_84 := (((((T_start.keep K_2 (ninS e4 nin0)).ext E_17).keep K_51 nin0).other W_66 (Or.inr (slot_ne (Or.inr (own_w hw 24 rfl)) (Or.inl (own_w hw 20 rfl)) (by decide) (t := (.array .long)) (t' := (.array .int)) (by decide) (by decide)))).other W_71 (Or.inr (slot_ne (Or.inr (own_w hw 24 rfl)) (Or.inl (own_w hw 41 rfl)) (by decide) (t := (.array .long)) (t' := .boolean) (by decide) (by decide))))
  have f_85 := (((((T_end.keep K_2 (ninS e4 nin0)).ext E_17).keep K_51 nin0).other W_66 (Or.inr (slot_ne (Or.inr (own_w hw 26 rfl)) (Or.inl (own_w hw 20 rfl)) (by decide) (t := (.array .long)) (t' := (.array .int)) (by decide) (by decide)))).other W_71 (Or.inr (slot_ne (Or.inr (own_w hw 26 rfl)) (Or.inl (own_w hw 41 rfl)) (by decide) (t := (.array .long)) (t' := .boolean) (by decide) (by decide))))
  have f_86 := (((((T_before.keep K_2 (ninS e4 nin0)).ext E_17).keep K_51 nin0).other W_66 (Or.inr (slot_ne (Or.inl (own_w hw 28 rfl)) (Or.inl (own_w hw 20 rfl)) (by decide) (t := (.array .long)) (t' := (.array .int)) (by decide) (by decide)))).other W_71 (Or.inr (slot_ne (Or.inl (own_w hw 28 rfl)) (Or.inl (own_w hw 41 rfl)) (by decide) (t := (.array .long)) (t' := .boolean) (by decide) (by decide))))
  have f_87 := (((f_33.keep K_51 nin0).other W_66 (Or.inr (slot_ne (Or.inl (own_w hw 39 rfl)) (Or.inl (own_w hw 20 rfl)) (by decide) (t := .int) (t' := (.array .int)) (by decide) (by decide)))).other W_71 (Or.inr (slot_ne (Or.inl (own_w hw 39 rfl)) (Or.inl (own_w hw 41 rfl)) (by decide) (t := .int) (t' := .boolean) (by decide) (by decide))))
  have f_88 := (f_67.other W_71 (Or.inr (slot_ne (Or.inl (own_w hw 20 rfl)) (Or.inl (own_w hw 41 rfl)) (by decide) (t := (.array .int)) (t' := .boolean) (by decide) (by decide))))
  exact ⟨rfl, ((((((Keep.refl h0 [t, en']).trans K_2 (allS (Or.inl (List.mem_of_getElem? (i := 1) rfl)) all0)).ext E_17).trans K_51 all0).wr W_66 (Or.inl (List.mem_of_getElem? (i := 0) rfl))).wr W_71 (Or.inl (List.mem_of_getElem? (i := 0) rfl))), ⟨f_79, f_80, f_81, f_82, f_83, f_84, f_85, f_86, f_87, f_72, ⟨b_49, f_88⟩, f_73, f_74, f_75, f_76, f_77, f_78⟩⟩
set_option maxRecDepth 65536 in
set_option maxHeartbeats 40000000 in
theorem rm_end_2WRITE (l : Launch) (Z : State) (a0 : Array Value) (hw : ∀ d ∈ tables_1, d.before a0 Z = true) (n0 : Nat) (t bk bs bv st en' bb : Addr) (src : Addr) (wh s0 : Int32) (v0 : Int64) (x0 x1 y0 y1 : Int64) (ls lb : List Value) (e_WRITE e_READ : Addr) (h0 : Heap) (Z0 : n0 ≤ h0.size) (tr : Tr Z h0 t bk bs bv st en' bb (2 : Int32) (1 : Int32) wh (.ref e_WRITE) s0 v0 ls [(.long y0), (.long y1)] lb) (di : Dis bk bs bv st en' bb) (dt : t ≠ bk ∧ t ≠ bs ∧ t ≠ bv ∧ t ≠ st ∧ t ≠ en' ∧ t ≠ bb) (gg : n0 ≤ bk ∧ n0 ≤ bs ∧ n0 ≤ bv ∧ n0 ≤ st ∧ n0 ≤ en' ∧ n0 ≤ bb ∧ n0 ≤ t) (A_src : Ary Z h0 src .long [.long x0, .long x1]) (ns : src ≠ en') (nt : src ≠ t) (en : Ens Z e_WRITE e_READ) (O : Old Z n0 h0) :
    Met1 l Z (⟨"com/example/vestalia/vestalia/locks/StepTrace", "end", "([J)V"⟩ : MethodName) prog_32_method_6_code 5 none ({ frames := 2, cells := 2, slots := 2, locals := 29 } : Room) n0 #[(.ref t), (.ref src)] h0 (fun v h => v = none ∧ Keep h0 h [t, en'] ∧ Tr Z h t bk bs bv st en' bb (2 : Int32) (1 : Int32) (1 : Int32) (.ref e_WRITE) s0 v0 ls [(.long x0), (.long x1)] lb) := by
  refine met_of (plainFor_of_name own_pn_com_example_vestalia_vestalia_locks_StepTrace) (L0 := #[.val (.ref t), .val (.ref src), .unset, .unset, .unset]) (by first | (simp [argsToLocals, Value.category]; done) | rfl) ?_
  intro B C
  change Ctx B l _ _ "com/example/vestalia/vestalia/locks/StepTrace" "end" _ _ Z at C
  have en' := en
  obtain ⟨⟨S_WRITE, X_WRITE, D_WRITE⟩, ⟨S_READ, X_READ, D_READ⟩⟩ := en'
  have tr' := tr
  obtain ⟨E_t, T_kinds, T_slots, T_values, T_width, T_start, T_end, T_before, T_length, T_whole, ⟨r_w, T_written⟩, A_kinds, A_slots, A_values, A_start, A_end, A_before⟩ := tr'
  have di' := di
  obtain ⟨d0, d1, d2, d3, d4, d5, d6, d7, d8, d9, d10, d11, d12, d13, d14⟩ := di'
  have dt' := dt
  obtain ⟨e0, e1, e2, e3, e4, e5⟩ := dt'
  have gg' := gg
  obtain ⟨gg0, gg1, gg2, gg3, gg4, gg5, gg6⟩ := gg'
  refine g_aload_n C d5_0 (v := (.ref src)) rfl rfl (pc' := 1) rfl ?_
  refine g_iconst C d5_1 (v := (0 : Int32)) rfl (pc' := 2) rfl ?_
  refine g_aload_n C d5_2 (v := (.ref t)) rfl rfl (pc' := 3) rfl ?_
  refine g_getfield C (host := "") (v := (.ref en')) (Or.inl (own_w hw 25 rfl)) Via.refl T_end d5_3 (pc' := 6) rfl ?_
  refine g_iconst C d5_6 (v := (0 : Int32)) rfl (pc' := 7) rfl ?_
  refine g_aload_n C d5_7 (v := (.ref t)) rfl rfl (pc' := 8) rfl ?_
  refine g_getfield C (host := "") (v := (.int (2 : Int32))) (Or.inl (own_w hw 21 rfl)) Via.refl T_width d5_8 (pc' := 11) rfl ?_
  refine g_arraycopy C (own_w hw 34 rfl) (own_w hw 37 rfl) (own_w hw 35 rfl) (own_w hw 36 rfl) A_src A_end rfl (by simp [fits]) (by simp [fits]) (by decide) (by decide) (by decide) (spN := 0) (dpN := 0) (nnN := 2) (by decide) (by decide) (by decide) (show 0 + 2 ≤ 2 by decide) (show 0 + 2 ≤ 2 by decide) (out := [(.long x0), (.long x1)]) rfl gg4 rfl (by decide) (W := 0) (Nat.le_of_eq rfl) (by decide) d5_11 (pc' := 14) rfl ?_
  intro h_1 K_2 f_3
  show Go B n0 _ h_1 0 0 14 #[.val (.ref t), .val (.ref src), .unset, .unset, .unset] []
  refine g_aload_n C d5_14 (v := (.ref t)) rfl rfl (pc' := 15) rfl ?_
  have f_4 := (T_length.keep K_2 (ninS e4 nin0))
  refine g_getfield C (host := "") (v := (.int (1 : Int32))) (Or.inl (own_w hw 38 rfl)) Via.refl f_4 d5_15 (pc' := 18) rfl ?_
  have f_5 := (A_before.keep K_2 (ninS (Ne.symm d14) nin0))
  have f_6 := (A_kinds.keep K_2 (ninS d3 nin0))
  have f_7 := (A_slots.keep K_2 (ninS d7 nin0))
  have f_8 := (A_values.keep K_2 (ninS d10 nin0))
  have f_9 := ((X_READ.ext O.2).keep K_2)
  have f_10 := ((X_WRITE.ext O.2).keep K_2)
  have f_11 := (A_src.keep K_2 (ninS ns nin0))
  have f_12 := (A_start.keep K_2 (ninS d12 nin0))
  have f_13 := (E_t.keep K_2)
  refine g_newarrayE C (own_w hw 14 rfl) (ty := .int) rfl (ad := "[I") (by decide) (by decide) (cap := 1) (by decide) (by decide) (by decide) (by decide) d5_18 (pc' := 20) rfl ?_
  intro h_14 a_15 g_16 E_17 A_18 E_19
  have ne_20 : bb ≠ a_15 := ne_new f_5.lt g_16
  have ne_21 : bk ≠ a_15 := ne_new f_6.lt g_16
  have ne_22 : bs ≠ a_15 := ne_new f_7.lt g_16
  have ne_23 : bv ≠ a_15 := ne_new f_8.lt g_16
  have ne_24 : e_READ ≠ a_15 := ne_new f_9.lt g_16
  have ne_25 : e_WRITE ≠ a_15 := ne_new f_10.lt g_16
  have ne_26 : en' ≠ a_15 := ne_new f_3.lt g_16
  have ne_27 : src ≠ a_15 := ne_new f_11.lt g_16
  have ne_28 : st ≠ a_15 := ne_new f_12.lt g_16
  have ne_29 : t ≠ a_15 := ne_new f_13.lt g_16
  have f_30 := (Nat.le_trans Z0 K_2.1)
  have ge_a_15 : n0 ≤ a_15 := Nat.le_trans f_30 (Nat.le_of_eq g_16.symm)
  have f_31 := (Nat.le_trans (Nat.le_refl h0.size) K_2.1)
  have gs_a_15 : h0.size ≤ a_15 := Nat.le_trans f_31 (Nat.le_of_eq g_16.symm)
  have f_32 : Ary Z h_14 a_15 .int [(.int (0 : Int32))] := A_18
  show Go B n0 _ h_14 1 1 20 #[.val (.ref t), .val (.ref src), .unset, .unset, .unset] [(.ref a_15)]
  refine g_astore_n C d5_20 (v := (.ref a_15)) (L' := #[.val (.ref t), .val (.ref src), .val (.ref a_15), .unset, .unset]) rfl rfl (pc' := 21) rfl ?_
  refine g_iconst C d5_21 (v := (0 : Int32)) rfl (pc' := 22) rfl ?_
  refine g_istore_n C d5_22 (v := (0 : Int32)) (L' := #[.val (.ref t), .val (.ref src), .val (.ref a_15), .val (.int (0 : Int32)), .unset]) rfl (pc' := 23) rfl ?_
  refine g_iconst C d5_23 (v := (0 : Int32)) rfl (pc' := 24) rfl ?_
  refine g_istore C d5_24 (v := (0 : Int32)) (L' := #[.val (.ref t), .val (.ref src), .val (.ref a_15), .val (.int (0 : Int32)), .val (.int (0 : Int32))]) rfl (pc' := 26) rfl ?_
  refine g_iload C d5_26 (v := (0 : Int32)) rfl (pc' := 28) rfl ?_
  refine g_aload_n C d5_28 (v := (.ref t)) rfl rfl (pc' := 29) rfl ?_
  have f_33 := (f_4.ext E_17)
  refine g_getfield C (host := "") (v := (.int (1 : Int32))) (Or.inl (own_w hw 38 rfl)) Via.refl f_33 d5_29 (pc' := 32) rfl ?_
  refine g_icmp_n C d5_32 (Jvm.Free.XT.ii_ge_f (by decide)) (pc' := 35) rfl ?_
  refine g_aload_n C d5_35 (v := (.ref t)) rfl rfl (pc' := 36) rfl ?_
  have f_34 := ((T_kinds.keep K_2 (ninS e4 nin0)).ext E_17)
  refine g_getfield C (host := "") (v := (.ref bk)) (Or.inl (own_w hw 12 rfl)) Via.refl f_34 d5_36 (pc' := 39) rfl ?_
  refine g_iload C d5_39 (v := (0 : Int32)) rfl (pc' := 41) rfl ?_
  have f_35 := (f_6.ext E_17)
  refine g_aaload C (AryR.ary f_35) rfl (by decide) (i := 0) (by decide) (v := (.ref e_WRITE)) rfl d5_41 (pc' := 42) rfl ?_
  have f_36 := ((O.keep K_2 (allS gg4 all0)).ext E_17)
  refine g_getstatic C (host := "") (v := (.ref e_WRITE)) (Or.inl (own_w hw 78 rfl)) Via.refl (S_WRITE.ext f_36.2) d5_42 (pc' := 45) rfl ?_
  refine g_acmp_n C d5_45 rfl rfl (Jvm.Free.XT.aa_ne_f rfl) (pc' := 48) rfl ?_
  refine g_aload_n C d5_48 (v := (.ref a_15)) rfl rfl (pc' := 49) rfl ?_
  refine g_iload_n C d5_49 (v := (0 : Int32)) rfl (pc' := 50) rfl ?_
  refine g_aload_n C d5_50 (v := (.ref t)) rfl rfl (pc' := 51) rfl ?_
  have f_37 := ((T_slots.keep K_2 (ninS e4 nin0)).ext E_17)
  refine g_getfield C (host := "") (v := (.ref bs)) (Or.inl (own_w hw 15 rfl)) Via.refl f_37 d5_51 (pc' := 54) rfl ?_
  refine g_iload C d5_54 (v := (0 : Int32)) rfl (pc' := 56) rfl ?_
  have f_38 := (f_7.ext E_17)
  refine g_iaload C f_38 (by decide) (i := 0) (by decide) (v := s0) rfl d5_56 (pc' := 57) rfl ?_
  have f_39 := (Nat.le_trans f_30 E_17.1)
  refine g_static C (own_w hw 79 rfl) (own_w hw 80 rfl) (own_w hw 81 rfl) (own_w hw 82 rfl) (by decide) (rm_contains l Z a0 hw n0 a_15 s0 h_14 f_39 ) (st := []) [(.ref a_15), (.int (0 : Int32)), (.int s0)] rfl rfl own_pd_5_contains rfl rfl (by decide) (W := 0) (Nat.le_of_eq rfl) (by decide) (by decide) (by decide) d5_57 (pc' := 60) rfl ?_
  intro v_42 h_40 q_41
  obtain ⟨rfl, rfl⟩ := q_41
  show Go B n0 _ h_14 1 1 60 #[.val (.ref t), .val (.ref src), .val (.ref a_15), .val (.int (0 : Int32)), .val (.int (0 : Int32))] [(.int (0 : Int32))]
  refine g_if_n C d5_60 (Jvm.Free.XT.i0_ne_f (by decide)) (pc' := 63) rfl ?_
  refine g_aload_n C d5_63 (v := (.ref a_15)) rfl rfl (pc' := 64) rfl ?_
  refine g_iload_n C d5_64 (v := (0 : Int32)) rfl (pc' := 65) rfl ?_
  refine g_aload_n C d5_65 (v := (.ref t)) rfl rfl (pc' := 66) rfl ?_
  refine g_getfield C (host := "") (v := (.ref bs)) (Or.inl (own_w hw 15 rfl)) Via.refl f_37 d5_66 (pc' := 69) rfl ?_
  refine g_iload C d5_69 (v := (0 : Int32)) rfl (pc' := 71) rfl ?_
  refine g_iaload C f_38 (by decide) (i := 0) (by decide) (v := s0) rfl d5_71 (pc' := 72) rfl ?_
  refine g_iastore C f_32 (by decide) (i := 0) (by decide) (show 0 < 1 by decide) (w := (.int s0)) rfl ge_a_15 d5_72 (pc' := 73) rfl ?_
  intro h_43 K_44 A_45
  have f_46 : Ary Z h_43 a_15 .int [(.int s0)] := A_45
  refine g_iinc C d5_73 (v := (0 : Int32)) (w := (1 : Int32)) rfl rfl (L' := #[.val (.ref t), .val (.ref src), .val (.ref a_15), .val (.int (1 : Int32)), .val (.int (0 : Int32))]) rfl (pc' := 76) rfl ?_
  refine g_iinc C d5_76 (v := (0 : Int32)) (w := (1 : Int32)) rfl rfl (L' := #[.val (.ref t), .val (.ref src), .val (.ref a_15), .val (.int (1 : Int32)), .val (.int (1 : Int32))]) rfl (pc' := 79) rfl ?_
  refine g_goto C d5_79 (pc' := 26) (by decide) (by decide) ?_
  refine g_iload C d5_26 (v := (1 : Int32)) rfl (pc' := 28) rfl ?_
  refine g_aload_n C d5_28 (v := (.ref t)) rfl rfl (pc' := 29) rfl ?_
  have f_47 := (f_33.keep K_44 (ninS ne_29 nin0))
  refine g_getfield C (host := "") (v := (.int (1 : Int32))) (Or.inl (own_w hw 38 rfl)) Via.refl f_47 d5_29 (pc' := 32) rfl ?_
  refine g_icmp_y C d5_32 (Jvm.Free.XT.ii_ge_t (by decide)) (pc' := 82) (by decide) (by decide) ?_
  refine g_aload_n C d5_82 (v := (.ref t)) rfl rfl (pc' := 83) rfl ?_
  refine g_aload_n C d5_83 (v := (.ref a_15)) rfl rfl (pc' := 84) rfl ?_
  refine g_iload_n C d5_84 (v := (1 : Int32)) rfl (pc' := 85) rfl ?_
  have f_48 := (E_19.keep K_44)
  have f_49 := (Nat.le_trans f_39 K_44.1)
  have f_50 := ((f_5.ext E_17).keep K_44 (ninS ne_20 nin0))
  have f_51 := (f_35.keep K_44 (ninS ne_21 nin0))
  have f_52 := (f_38.keep K_44 (ninS ne_22 nin0))
  have f_53 := ((f_8.ext E_17).keep K_44 (ninS ne_23 nin0))
  have f_54 := ((f_9.ext E_17).keep K_44)
  have f_55 := ((f_10.ext E_17).keep K_44)
  have f_56 := ((f_3.ext E_17).keep K_44 (ninS ne_26 nin0))
  have f_57 := ((f_11.ext E_17).keep K_44 (ninS ne_27 nin0))
  have f_58 := ((f_12.ext E_17).keep K_44 (ninS ne_28 nin0))
  have f_59 := ((f_13.ext E_17).keep K_44)
  have f_60 := (Nat.le_trans (Nat.le_trans f_31 E_17.1) K_44.1)
  refine g_static C (own_w hw 52 rfl) (own_w hw 53 rfl) (own_w hw 54 rfl) (own_w hw 55 rfl) (by decide) (rm_copyOf11 l Z a0 hw n0 a_15 s0 h_43 f_49 f_46 f_48) (st := [(.ref t)]) [(.ref a_15), (.int (1 : Int32))] rfl rfl own_pd_4_copyOf rfl rfl (by decide) (W := 1) (Nat.le_of_eq rfl) (by decide) (by decide) (by decide) d5_85 (pc' := 88) rfl ?_
  intro v_63 h_61 q_62
  obtain ⟨b_64, rfl, le_65, K_66⟩ := q_62
  have ne_67 : a_15 ≠ b_64 := ne_ge f_46.lt le_65
  have ne_68 : bb ≠ b_64 := ne_ge f_50.lt le_65
  have ne_69 : bk ≠ b_64 := ne_ge f_51.lt le_65
  have ne_70 : bs ≠ b_64 := ne_ge f_52.lt le_65
  have ne_71 : bv ≠ b_64 := ne_ge f_53.lt le_65
  have ne_72 : e_READ ≠ b_64 := ne_ge f_54.lt le_65
  have ne_73 : e_WRITE ≠ b_64 := ne_ge f_55.lt le_65
  have ne_74 : en' ≠ b_64 := ne_ge f_56.lt le_65
  have ne_75 : src ≠ b_64 := ne_ge f_57.lt le_65
  have ne_76 : st ≠ b_64 := ne_ge f_58.lt le_65
  have ne_77 : t ≠ b_64 := ne_ge f_59.lt le_65
  have ge_b_64 : n0 ≤ b_64 := Nat.le_trans f_49 le_65
  have gs_b_64 : h0.size ≤ b_64 := Nat.le_trans f_60 le_65
  show Go B n0 _ h_61 2 2 88 #[.val (.ref t), .val (.ref src), .val (.ref a_15), .val (.int (1 : Int32)), .val (.int (1 : Int32))] [(.ref b_64), (.ref t)]
  have f_78 := ((((T_written.keep K_2 (ninS e4 nin0)).ext E_17).keep K_44 (ninS ne_29 nin0)).keep K_66 nin0)
  have f_79 := (f_59.keep K_66)
  refine g_putfield C (host := "") (v := (.ref b_64)) (Or.inl (own_w hw 19 rfl)) Via.refl f_78 f_79 (Or.inl (own_w hw 20 rfl)) (own_w hw 2 rfl) (ty := (.array .int)) (by decide) rfl rfl gg6 d5_88 (pc' := 91) rfl ?_
  intro h_80 W_81
  have f_82 := f_78.same W_81
  refine g_aload_n C d5_91 (v := (.ref t)) rfl rfl (pc' := 92) rfl ?_
  refine g_iconst C d5_92 (v := (1 : Int32)) rfl (pc' := 93) rfl ?_
  have f_83 := (((((T_whole.keep K_2 (ninS e4 nin0)).ext E_17).keep K_44 (ninS ne_29 nin0)).keep K_66 nin0).other W_81 (Or.inr (slot_ne (Or.inl (own_w hw 41 rfl)) (Or.inl (own_w hw 20 rfl)) (by decide) (t := .boolean) (t' := (.array .int)) (by decide) (by decide))))
  have f_84 := (f_79.wr W_81)
  refine g_putfield C (host := "") (v := (.int (1 : Int32))) (Or.inl (own_w hw 40 rfl)) Via.refl f_83 f_84 (Or.inl (own_w hw 41 rfl)) (own_w hw 2 rfl) (ty := .boolean) (by decide) rfl rfl gg6 d5_93 (pc' := 96) rfl ?_
  intro h_85 W_86
  have f_87 := f_83.same W_86
  refine g_return C rfl d5_96 (by decide) (by decide) ?_
  have f_88 := (((f_51.keep K_66 nin0).keep (Keep.of_wr W_81) (nin1 (Ne.symm e0))).keep (Keep.of_wr W_86) (nin1 (Ne.symm e0)))
  have f_89 := (((f_52.keep K_66 nin0).keep (Keep.of_wr W_81) (nin1 (Ne.symm e1))).keep (Keep.of_wr W_86) (nin1 (Ne.symm e1)))
  have f_90 := (((f_53.keep K_66 nin0).keep (Keep.of_wr W_81) (nin1 (Ne.symm e2))).keep (Keep.of_wr W_86) (nin1 (Ne.symm e2)))
  have f_91 := (((f_58.keep K_66 nin0).keep (Keep.of_wr W_81) (nin1 (Ne.symm e3))).keep (Keep.of_wr W_86) (nin1 (Ne.symm e3)))
  have f_92 := (((f_56.keep K_66 nin0).keep (Keep.of_wr W_81) (nin1 (Ne.symm e4))).keep (Keep.of_wr W_86) (nin1 (Ne.symm e4)))
  have f_93 := (((f_50.keep K_66 nin0).keep (Keep.of_wr W_81) (nin1 (Ne.symm e5))).keep (Keep.of_wr W_86) (nin1 (Ne.symm e5)))
  have f_94 := (f_84.wr W_86)
  have f_95 := ((((f_34.keep K_44 (ninS ne_29 nin0)).keep K_66 nin0).other W_81 (Or.inr (slot_ne (Or.inl (own_w hw 13 rfl)) (Or.inl (own_w hw 20 rfl)) (by decide) (t := (.array (.object "com/example/vestalia/vestalia/model/Step$Kind"))) (t' := (.array .int)) (by decide) (by decide)))).other W_86 (Or.inr (slot_ne (Or.inl (own_w hw 13 rfl)) (Or.inl (own_w hw 41 rfl)) (by decide) (t := (.array (.object "com/example/vestalia/vestalia/model/Step$Kind"))) (t' := .boolean) (by decide) (by decide))))
  have f_96 := ((((f_37.keep K_44 (ninS ne_29 nin0)).keep K_66 nin0).other W_81 (Or.inr (slot_ne (Or.inl (own_w hw 16 rfl)) (Or.inl (own_w hw 20 rfl)) (by decide) (t := (.array .int)) (t' := (.array .int)) (by decide) (by decide)))).other W_86 (Or.inr (slot_ne (Or.inl (own_w hw 16 rfl)) (Or.inl (own_w hw 41 rfl)) (by decide) (t := (.array .int)) (t' := .boolean) (by decide) (by decide))))
  have f_97 := ((((((T_values.keep K_2 (ninS e4 nin0)).ext E_17).keep K_44 (ninS ne_29 nin0)).keep K_66 nin0).other W_81 (Or.inr (slot_ne (Or.inl (own_w hw 18 rfl)) (Or.inl (own_w hw 20 rfl)) (by decide) (t := (.array .long)) (t' := (.array .int)) (by decide) (by decide)))).other W_86 (Or.inr (slot_ne (Or.inl (own_w hw 18 rfl)) (Or.inl (own_w hw 41 rfl)) (by decide) (t := (.array .long)) (t' := .boolean) (by decide) (by decide))))
  have f_98 := ((((((T_width.keep K_2 (ninS e4 nin0)).ext E_17).keep K_44 (ninS ne_29 nin0)).keep K_66 nin0).other W_81 (Or.inr (slot_ne (Or.inr (own_w hw 22 rfl)) (Or.inl (own_w hw 20 rfl)) (by decide) (t := .int) (t' := (.array .int)) (by decide) (by decide)))).other W_86 (Or.inr (slot_ne (Or.inr (own_w hw 22 rfl)) (Or.inl (own_w hw 41 rfl)) (by decide) (t := .int) (t' := .boolean) (by decide) (by decide))))
  have f_99 := ((((((T_start.keep K_2 (ninS e4 nin0)).ext E_17).keep K_44 (ninS ne_29 nin0)).keep K_66 nin0).other W_81 (Or.inr (slot_ne (Or.inr (own_w hw 24 rfl)) (Or.inl (own_w hw 20 rfl)) (by decide) (t := (.array .long)) (t' := (.array .int)) (by decide) (by decide)))).other W_86 (Or.inr (slot_ne (Or.inr (own_w hw 24 rfl)) (Or.inl (own_w hw 41 rfl)) (by decide) (t := (.array .long)) (t' := .boolean) (by decide) (by decide))))
  have f_100 := ((((((T_end.keep K_2 (ninS e4 nin0)).ext E_17).keep K_44 (ninS ne_29 nin0)).keep K_66 nin0).other W_81 (Or.inr (slot_ne (Or.inr (own_w hw 26 rfl)) (Or.inl (own_w hw 20 rfl)) (by decide) (t := (.array .long)) (t' := (.array .int)) (by decide) (by decide)))).other W_86 (Or.inr (slot_ne (Or.inr (own_w hw 26 rfl)) (Or.inl (own_w hw 41 rfl)) (by decide) (t := (.array .long)) (t' := .boolean) (by decide) (by decide))))
  have f_101 := ((((((T_before.keep K_2 (ninS e4 nin0)).ext E_17).keep K_44 (ninS ne_29 nin0)).keep K_66 nin0).other W_81 (Or.inr (slot_ne (Or.inl (own_w hw 28 rfl)) (Or.inl (own_w hw 20 rfl)) (by decide) (t := (.array .long)) (t' := (.array .int)) (by decide) (by decide)))).other W_86 (Or.inr (slot_ne (Or.inl (own_w hw 28 rfl)) (Or.inl (own_w hw 41 rfl)) (by decide) (t := (.array .long)) (t' := .boolean) (by decide) (by decide))))
  have f_102 := (((f_47.keep K_66 nin0).other W_81 (Or.inr (slot_ne (Or.inl (own_w hw 39 rfl)) (Or.inl (own_w hw 20 rfl)) (by decide) (t := .int) (t' := (.array .int)) (by decide) (by decide)))).other W_86 (Or.inr (slot_ne (Or.inl (own_w hw 39 rfl)) (Or.inl (own_w hw 41 rfl)) (by decide) (t := .int) (t' := .boolean) (by decide) (by decide))))
  have f_103 := (f_82.other W_86 (Or.inr (slot_ne (Or.inl (own_w hw 20 rfl)) (Or.inl (own_w hw 41 rfl)) (by decide) (t := (.array .int)) (t' := .boolean) (by decide) (by decide))))
  exact ⟨rfl, (((((((Keep.refl h0 [t, en']).trans K_2 (allS (Or.inl (List.mem_of_getElem? (i := 1) rfl)) all0)).ext E_17).trans K_44 (allS (Or.inr gs_a_15) all0)).trans K_66 all0).wr W_81 (Or.inl (List.mem_of_getElem? (i := 0) rfl))).wr W_86 (Or.inl (List.mem_of_getElem? (i := 0) rfl))), ⟨f_94, f_95, f_96, f_97, f_98, f_99, f_100, f_101, f_102, f_87, ⟨b_64, f_103⟩, f_88, f_89, f_90, f_91, f_92, f_93⟩⟩
set_option maxRecDepth 65536 in
set_option maxHeartbeats 40000000 in
theorem rm_end_2READ (l : Launch) (Z : State) (a0 : Array Value) (hw : ∀ d ∈ tables_1, d.before a0 Z = true) (n0 : Nat) (t bk bs bv st en' bb : Addr) (src : Addr) (wh s0 : Int32) (v0 : Int64) (x0 x1 y0 y1 : Int64) (ls lb : List Value) (e_WRITE e_READ : Addr) (h0 : Heap) (Z0 : n0 ≤ h0.size) (tr : Tr Z h0 t bk bs bv st en' bb (2 : Int32) (1 : Int32) wh (.ref e_READ) s0 v0 ls [(.long y0), (.long y1)] lb) (di : Dis bk bs bv st en' bb) (dt : t ≠ bk ∧ t ≠ bs ∧ t ≠ bv ∧ t ≠ st ∧ t ≠ en' ∧ t ≠ bb) (gg : n0 ≤ bk ∧ n0 ≤ bs ∧ n0 ≤ bv ∧ n0 ≤ st ∧ n0 ≤ en' ∧ n0 ≤ bb ∧ n0 ≤ t) (A_src : Ary Z h0 src .long [.long x0, .long x1]) (ns : src ≠ en') (nt : src ≠ t) (en : Ens Z e_WRITE e_READ) (O : Old Z n0 h0) :
    Met1 l Z (⟨"com/example/vestalia/vestalia/locks/StepTrace", "end", "([J)V"⟩ : MethodName) prog_32_method_6_code 5 none ({ frames := 2, cells := 2, slots := 1, locals := 33 } : Room) n0 #[(.ref t), (.ref src)] h0 (fun v h => v = none ∧ Keep h0 h [t, en'] ∧ Tr Z h t bk bs bv st en' bb (2 : Int32) (1 : Int32) (1 : Int32) (.ref e_READ) s0 v0 ls [(.long x0), (.long x1)] lb) := by
  refine met_of (plainFor_of_name own_pn_com_example_vestalia_vestalia_locks_StepTrace) (L0 := #[.val (.ref t), .val (.ref src), .unset, .unset, .unset]) (by first | (simp [argsToLocals, Value.category]; done) | rfl) ?_
  intro B C
  change Ctx B l _ _ "com/example/vestalia/vestalia/locks/StepTrace" "end" _ _ Z at C
  have en' := en
  obtain ⟨⟨S_WRITE, X_WRITE, D_WRITE⟩, ⟨S_READ, X_READ, D_READ⟩⟩ := en'
  have tr' := tr
  obtain ⟨E_t, T_kinds, T_slots, T_values, T_width, T_start, T_end, T_before, T_length, T_whole, ⟨r_w, T_written⟩, A_kinds, A_slots, A_values, A_start, A_end, A_before⟩ := tr'
  have di' := di
  obtain ⟨d0, d1, d2, d3, d4, d5, d6, d7, d8, d9, d10, d11, d12, d13, d14⟩ := di'
  have dt' := dt
  obtain ⟨e0, e1, e2, e3, e4, e5⟩ := dt'
  have gg' := gg
  obtain ⟨gg0, gg1, gg2, gg3, gg4, gg5, gg6⟩ := gg'
  refine g_aload_n C d5_0 (v := (.ref src)) rfl rfl (pc' := 1) rfl ?_
  refine g_iconst C d5_1 (v := (0 : Int32)) rfl (pc' := 2) rfl ?_
  refine g_aload_n C d5_2 (v := (.ref t)) rfl rfl (pc' := 3) rfl ?_
  refine g_getfield C (host := "") (v := (.ref en')) (Or.inl (own_w hw 25 rfl)) Via.refl T_end d5_3 (pc' := 6) rfl ?_
  refine g_iconst C d5_6 (v := (0 : Int32)) rfl (pc' := 7) rfl ?_
  refine g_aload_n C d5_7 (v := (.ref t)) rfl rfl (pc' := 8) rfl ?_
  refine g_getfield C (host := "") (v := (.int (2 : Int32))) (Or.inl (own_w hw 21 rfl)) Via.refl T_width d5_8 (pc' := 11) rfl ?_
  refine g_arraycopy C (own_w hw 34 rfl) (own_w hw 37 rfl) (own_w hw 35 rfl) (own_w hw 36 rfl) A_src A_end rfl (by simp [fits]) (by simp [fits]) (by decide) (by decide) (by decide) (spN := 0) (dpN := 0) (nnN := 2) (by decide) (by decide) (by decide) (show 0 + 2 ≤ 2 by decide) (show 0 + 2 ≤ 2 by decide) (out := [(.long x0), (.long x1)]) rfl gg4 rfl (by decide) (W := 0) (Nat.le_of_eq rfl) (by decide) d5_11 (pc' := 14) rfl ?_
  intro h_1 K_2 f_3
  show Go B n0 _ h_1 0 0 14 #[.val (.ref t), .val (.ref src), .unset, .unset, .unset] []
  refine g_aload_n C d5_14 (v := (.ref t)) rfl rfl (pc' := 15) rfl ?_
  have f_4 := (T_length.keep K_2 (ninS e4 nin0))
  refine g_getfield C (host := "") (v := (.int (1 : Int32))) (Or.inl (own_w hw 38 rfl)) Via.refl f_4 d5_15 (pc' := 18) rfl ?_
  have f_5 := (A_before.keep K_2 (ninS (Ne.symm d14) nin0))
  have f_6 := (A_kinds.keep K_2 (ninS d3 nin0))
  have f_7 := (A_slots.keep K_2 (ninS d7 nin0))
  have f_8 := (A_values.keep K_2 (ninS d10 nin0))
  have f_9 := ((X_READ.ext O.2).keep K_2)
  have f_10 := ((X_WRITE.ext O.2).keep K_2)
  have f_11 := (A_src.keep K_2 (ninS ns nin0))
  have f_12 := (A_start.keep K_2 (ninS d12 nin0))
  have f_13 := (E_t.keep K_2)
  refine g_newarrayE C (own_w hw 14 rfl) (ty := .int) rfl (ad := "[I") (by decide) (by decide) (cap := 1) (by decide) (by decide) (by decide) (by decide) d5_18 (pc' := 20) rfl ?_
  intro h_14 a_15 g_16 E_17 A_18 E_19
  have ne_20 : bb ≠ a_15 := ne_new f_5.lt g_16
  have ne_21 : bk ≠ a_15 := ne_new f_6.lt g_16
  have ne_22 : bs ≠ a_15 := ne_new f_7.lt g_16
  have ne_23 : bv ≠ a_15 := ne_new f_8.lt g_16
  have ne_24 : e_READ ≠ a_15 := ne_new f_9.lt g_16
  have ne_25 : e_WRITE ≠ a_15 := ne_new f_10.lt g_16
  have ne_26 : en' ≠ a_15 := ne_new f_3.lt g_16
  have ne_27 : src ≠ a_15 := ne_new f_11.lt g_16
  have ne_28 : st ≠ a_15 := ne_new f_12.lt g_16
  have ne_29 : t ≠ a_15 := ne_new f_13.lt g_16
  have f_30 := (Nat.le_trans Z0 K_2.1)
  have ge_a_15 : n0 ≤ a_15 := Nat.le_trans f_30 (Nat.le_of_eq g_16.symm)
  have f_31 := (Nat.le_trans (Nat.le_refl h0.size) K_2.1)
  have gs_a_15 : h0.size ≤ a_15 := Nat.le_trans f_31 (Nat.le_of_eq g_16.symm)
  have f_32 : Ary Z h_14 a_15 .int [(.int (0 : Int32))] := A_18
  show Go B n0 _ h_14 1 1 20 #[.val (.ref t), .val (.ref src), .unset, .unset, .unset] [(.ref a_15)]
  refine g_astore_n C d5_20 (v := (.ref a_15)) (L' := #[.val (.ref t), .val (.ref src), .val (.ref a_15), .unset, .unset]) rfl rfl (pc' := 21) rfl ?_
  refine g_iconst C d5_21 (v := (0 : Int32)) rfl (pc' := 22) rfl ?_
  refine g_istore_n C d5_22 (v := (0 : Int32)) (L' := #[.val (.ref t), .val (.ref src), .val (.ref a_15), .val (.int (0 : Int32)), .unset]) rfl (pc' := 23) rfl ?_
  refine g_iconst C d5_23 (v := (0 : Int32)) rfl (pc' := 24) rfl ?_
  refine g_istore C d5_24 (v := (0 : Int32)) (L' := #[.val (.ref t), .val (.ref src), .val (.ref a_15), .val (.int (0 : Int32)), .val (.int (0 : Int32))]) rfl (pc' := 26) rfl ?_
  refine g_iload C d5_26 (v := (0 : Int32)) rfl (pc' := 28) rfl ?_
  refine g_aload_n C d5_28 (v := (.ref t)) rfl rfl (pc' := 29) rfl ?_
  have f_33 := (f_4.ext E_17)
  refine g_getfield C (host := "") (v := (.int (1 : Int32))) (Or.inl (own_w hw 38 rfl)) Via.refl f_33 d5_29 (pc' := 32) rfl ?_
  refine g_icmp_n C d5_32 (Jvm.Free.XT.ii_ge_f (by decide)) (pc' := 35) rfl ?_
  refine g_aload_n C d5_35 (v := (.ref t)) rfl rfl (pc' := 36) rfl ?_
  have f_34 := ((T_kinds.keep K_2 (ninS e4 nin0)).ext E_17)
  refine g_getfield C (host := "") (v := (.ref bk)) (Or.inl (own_w hw 12 rfl)) Via.refl f_34 d5_36 (pc' := 39) rfl ?_
  refine g_iload C d5_39 (v := (0 : Int32)) rfl (pc' := 41) rfl ?_
  have f_35 := (f_6.ext E_17)
  refine g_aaload C (AryR.ary f_35) rfl (by decide) (i := 0) (by decide) (v := (.ref e_READ)) rfl d5_41 (pc' := 42) rfl ?_
  have f_36 := ((O.keep K_2 (allS gg4 all0)).ext E_17)
  refine g_getstatic C (host := "") (v := (.ref e_WRITE)) (Or.inl (own_w hw 78 rfl)) Via.refl (S_WRITE.ext f_36.2) d5_42 (pc' := 45) rfl ?_
  refine g_acmp_y C d5_45 rfl rfl (Jvm.Free.XT.aa_ne_t (fun q => (Fld.ne D_READ D_WRITE (by decide)) (Value.ref.inj q))) (pc' := 76) (by decide) (by decide) ?_
  refine g_iinc C d5_76 (v := (0 : Int32)) (w := (1 : Int32)) rfl rfl (L' := #[.val (.ref t), .val (.ref src), .val (.ref a_15), .val (.int (0 : Int32)), .val (.int (1 : Int32))]) rfl (pc' := 79) rfl ?_
  refine g_goto C d5_79 (pc' := 26) (by decide) (by decide) ?_
  refine g_iload C d5_26 (v := (1 : Int32)) rfl (pc' := 28) rfl ?_
  refine g_aload_n C d5_28 (v := (.ref t)) rfl rfl (pc' := 29) rfl ?_
  refine g_getfield C (host := "") (v := (.int (1 : Int32))) (Or.inl (own_w hw 38 rfl)) Via.refl f_33 d5_29 (pc' := 32) rfl ?_
  refine g_icmp_y C d5_32 (Jvm.Free.XT.ii_ge_t (by decide)) (pc' := 82) (by decide) (by decide) ?_
  refine g_aload_n C d5_82 (v := (.ref t)) rfl rfl (pc' := 83) rfl ?_
  refine g_aload_n C d5_83 (v := (.ref a_15)) rfl rfl (pc' := 84) rfl ?_
  refine g_iload_n C d5_84 (v := (0 : Int32)) rfl (pc' := 85) rfl ?_
  have f_37 := (Nat.le_trans f_30 E_17.1)
  have f_38 := (f_5.ext E_17)
  have f_39 := (f_7.ext E_17)
  have f_40 := (f_8.ext E_17)
  have f_41 := (f_9.ext E_17)
  have f_42 := (f_10.ext E_17)
  have f_43 := (f_3.ext E_17)
  have f_44 := (f_11.ext E_17)
  have f_45 := (f_12.ext E_17)
  have f_46 := (f_13.ext E_17)
  have f_47 := (Nat.le_trans f_31 E_17.1)
  refine g_static C (own_w hw 52 rfl) (own_w hw 53 rfl) (own_w hw 54 rfl) (own_w hw 55 rfl) (by decide) (rm_copyOf10 l Z a0 hw n0 a_15 (0 : Int32) h_14 f_37 f_32 E_19) (st := [(.ref t)]) [(.ref a_15), (.int (0 : Int32))] rfl rfl own_pd_4_copyOf rfl rfl (by decide) (W := 1) (Nat.le_of_eq rfl) (by decide) (by decide) (by decide) d5_85 (pc' := 88) rfl ?_
  intro v_50 h_48 q_49
  obtain ⟨b_51, rfl, le_52, K_53⟩ := q_49
  have ne_54 : a_15 ≠ b_51 := ne_ge f_32.lt le_52
  have ne_55 : bb ≠ b_51 := ne_ge f_38.lt le_52
  have ne_56 : bk ≠ b_51 := ne_ge f_35.lt le_52
  have ne_57 : bs ≠ b_51 := ne_ge f_39.lt le_52
  have ne_58 : bv ≠ b_51 := ne_ge f_40.lt le_52
  have ne_59 : e_READ ≠ b_51 := ne_ge f_41.lt le_52
  have ne_60 : e_WRITE ≠ b_51 := ne_ge f_42.lt le_52
  have ne_61 : en' ≠ b_51 := ne_ge f_43.lt le_52
  have ne_62 : src ≠ b_51 := ne_ge f_44.lt le_52
  have ne_63 : st ≠ b_51 := ne_ge f_45.lt le_52
  have ne_64 : t ≠ b_51 := ne_ge f_46.lt le_52
  have ge_b_51 : n0 ≤ b_51 := Nat.le_trans f_37 le_52
  have gs_b_51 : h0.size ≤ b_51 := Nat.le_trans f_47 le_52
  show Go B n0 _ h_48 2 1 88 #[.val (.ref t), .val (.ref src), .val (.ref a_15), .val (.int (0 : Int32)), .val (.int (1 : Int32))] [(.ref b_51), (.ref t)]
  have f_65 := (((T_written.keep K_2 (ninS e4 nin0)).ext E_17).keep K_53 nin0)
  have f_66 := (f_46.keep K_53)
  refine g_putfield C (host := "") (v := (.ref b_51)) (Or.inl (own_w hw 19 rfl)) Via.refl f_65 f_66 (Or.inl (own_w hw 20 rfl)) (own_w hw 2 rfl) (ty := (.array .int)) (by decide) rfl rfl gg6 d5_88 (pc' := 91) rfl ?_
  intro h_67 W_68
  have f_69 := f_65.same W_68
  refine g_aload_n C d5_91 (v := (.ref t)) rfl rfl (pc' := 92) rfl ?_
  refine g_iconst C d5_92 (v := (1 : Int32)) rfl (pc' := 93) rfl ?_
  have f_70 := ((((T_whole.keep K_2 (ninS e4 nin0)).ext E_17).keep K_53 nin0).other W_68 (Or.inr (slot_ne (Or.inl (own_w hw 41 rfl)) (Or.inl (own_w hw 20 rfl)) (by decide) (t := .boolean) (t' := (.array .int)) (by decide) (by decide))))
  have f_71 := (f_66.wr W_68)
  refine g_putfield C (host := "") (v := (.int (1 : Int32))) (Or.inl (own_w hw 40 rfl)) Via.refl f_70 f_71 (Or.inl (own_w hw 41 rfl)) (own_w hw 2 rfl) (ty := .boolean) (by decide) rfl rfl gg6 d5_93 (pc' := 96) rfl ?_
  intro h_72 W_73
  have f_74 := f_70.same W_73
  refine g_return C rfl d5_96 (by decide) (by decide) ?_
  have f_75 := (((f_35.keep K_53 nin0).keep (Keep.of_wr W_68) (nin1 (Ne.symm e0))).keep (Keep.of_wr W_73) (nin1 (Ne.symm e0)))
  have f_76 := (((f_39.keep K_53 nin0).keep (Keep.of_wr W_68) (nin1 (Ne.symm e1))).keep (Keep.of_wr W_73) (nin1 (Ne.symm e1)))
  have f_77 := (((f_40.keep K_53 nin0).keep (Keep.of_wr W_68) (nin1 (Ne.symm e2))).keep (Keep.of_wr W_73) (nin1 (Ne.symm e2)))
  have f_78 := (((f_45.keep K_53 nin0).keep (Keep.of_wr W_68) (nin1 (Ne.symm e3))).keep (Keep.of_wr W_73) (nin1 (Ne.symm e3)))
  have f_79 := (((f_43.keep K_53 nin0).keep (Keep.of_wr W_68) (nin1 (Ne.symm e4))).keep (Keep.of_wr W_73) (nin1 (Ne.symm e4)))
  have f_80 := (((f_38.keep K_53 nin0).keep (Keep.of_wr W_68) (nin1 (Ne.symm e5))).keep (Keep.of_wr W_73) (nin1 (Ne.symm e5)))
  have f_81 := (f_71.wr W_73)
  have f_82 := (((f_34.keep K_53 nin0).other W_68 (Or.inr (slot_ne (Or.inl (own_w hw 13 rfl)) (Or.inl (own_w hw 20 rfl)) (by decide) (t := (.array (.object "com/example/vestalia/vestalia/model/Step$Kind"))) (t' := (.array .int)) (by decide) (by decide)))).other W_73 (Or.inr (slot_ne (Or.inl (own_w hw 13 rfl)) (Or.inl (own_w hw 41 rfl)) (by decide) (t := (.array (.object "com/example/vestalia/vestalia/model/Step$Kind"))) (t' := .boolean) (by decide) (by decide))))
  have f_83 := (((((T_slots.keep K_2 (ninS e4 nin0)).ext E_17).keep K_53 nin0).other W_68 (Or.inr (slot_ne (Or.inl (own_w hw 16 rfl)) (Or.inl (own_w hw 20 rfl)) (by decide) (t := (.array .int)) (t' := (.array .int)) (by decide) (by decide)))).other W_73 (Or.inr (slot_ne (Or.inl (own_w hw 16 rfl)) (Or.inl (own_w hw 41 rfl)) (by decide) (t := (.array .int)) (t' := .boolean) (by decide) (by decide))))
  have f_84 := (((((T_values.keep K_2 (ninS e4 nin0)).ext E_17).keep K_53 nin0).other W_68 (Or.inr (slot_ne (Or.inl (own_w hw 18 rfl)) (Or.inl (own_w hw 20 rfl)) (by decide) (t := (.array .long)) (t' := (.array .int)) (by decide) (by decide)))).other W_73 (Or.inr (slot_ne (Or.inl (own_w hw 18 rfl)) (Or.inl (own_w hw 41 rfl)) (by decide) (t := (.array .long)) (t' := .boolean) (by decide) (by decide))))
  have f_85 := (((((T_width.keep K_2 (ninS e4 nin0)).ext E_17).keep K_53 nin0).other W_68 (Or.inr (slot_ne (Or.inr (own_w hw 22 rfl)) (Or.inl (own_w hw 20 rfl)) (by decide) (t := .int) (t' := (.array .int)) (by decide) (by decide)))).other W_73 (Or.inr (slot_ne (Or.inr (own_w hw 22 rfl)) (Or.inl (own_w hw 41 rfl)) (by decide) (t := .int) (t' := .boolean) (by decide) (by decide))))
  have f_86 := (((((T_start.keep K_2 (ninS e4 nin0)).ext E_17).keep K_53 nin0).other W_68 (Or.inr (slot_ne (Or.inr (own_w hw 24 rfl)) (Or.inl (own_w hw 20 rfl)) (by decide) (t := (.array .long)) (t' := (.array .int)) (by decide) (by decide)))).other W_73 (Or.inr (slot_ne (Or.inr (own_w hw 24 rfl)) (Or.inl (own_w hw 41 rfl)) (by decide) (t := (.array .long)) (t' := .boolean) (by decide) (by decide))))
  have f_87 := (((((T_end.keep K_2 (ninS e4 nin0)).ext E_17).keep K_53 nin0).other W_68 (Or.inr (slot_ne (Or.inr (own_w hw 26 rfl)) (Or.inl (own_w hw 20 rfl)) (by decide) (t := (.array .long)) (t' := (.array .int)) (by decide) (by decide)))).other W_73 (Or.inr (slot_ne (Or.inr (own_w hw 26 rfl)) (Or.inl (own_w hw 41 rfl)) (by decide) (t := (.array .long)) (t' := .boolean) (by decide) (by decide))))
  have f_88 := (((((T_before.keep K_2 (ninS e4 nin0)).ext E_17).keep K_53 nin0).other W_68 (Or.inr (slot_ne (Or.inl (own_w hw 28 rfl)) (Or.inl (own_w hw 20 rfl)) (by decide) (t := (.array .long)) (t' := (.array .int)) (by decide) (by decide)))).other W_73 (Or.inr (slot_ne (Or.inl (own_w hw 28 rfl)) (Or.inl (own_w hw 41 rfl)) (by decide) (t := (.array .long)) (t' := .boolean) (by decide) (by decide))))
  have f_89 := (((f_33.keep K_53 nin0).other W_68 (Or.inr (slot_ne (Or.inl (own_w hw 39 rfl)) (Or.inl (own_w hw 20 rfl)) (by decide) (t := .int) (t' := (.array .int)) (by decide) (by decide)))).other W_73 (Or.inr (slot_ne (Or.inl (own_w hw 39 rfl)) (Or.inl (own_w hw 41 rfl)) (by decide) (t := .int) (t' := .boolean) (by decide) (by decide))))
  have f_90 := (f_69.other W_73 (Or.inr (slot_ne (Or.inl (own_w hw 20 rfl)) (Or.inl (own_w hw 41 rfl)) (by decide) (t := (.array .int)) (t' := .boolean) (by decide) (by decide))))
  exact ⟨rfl, ((((((Keep.refl h0 [t, en']).trans K_2 (allS (Or.inl (List.mem_of_getElem? (i := 1) rfl)) all0)).ext E_17).trans K_53 all0).wr W_68 (Or.inl (List.mem_of_getElem? (i := 0) rfl))).wr W_73 (Or.inl (List.mem_of_getElem? (i := 0) rfl))), ⟨f_81, f_82, f_83, f_84, f_85, f_86, f_87, f_88, f_89, f_74, ⟨b_51, f_90⟩, f_75, f_76, f_77, f_78, f_79, f_80⟩⟩
theorem d4_0 : decode prog_32_method_2_code 0 = .ok (.aload_n 0, 1) := by decide +kernel
theorem d4_1 : decode prog_32_method_2_code 1 = .ok (.getfield 39, 3) := by decide +kernel
theorem d4_4 : decode prog_32_method_2_code 4 = .ok (.ifCond .ne 5, 3) := by decide +kernel
theorem d4_7 : decode prog_32_method_2_code 7 = .ok (.iconst 0, 1) := by decide +kernel
theorem d4_8 : decode prog_32_method_2_code 8 = .ok (.ireturn, 1) := by decide +kernel
set_option maxRecDepth 65536 in
set_option maxHeartbeats 40000000 in
theorem rm_sf00 (l : Launch) (Z : State) (a0 : Array Value) (hw : ∀ d ∈ tables_1, d.before a0 Z = true) (n0 : Nat) (t bk bs bv st en' bb : Addr) (qu : Addr) (ln : Int32) (kv : Value) (s0 : Int32) (v0 : Int64) (q0 q1 : Int64) (le lb : List Value) (h0 : Heap) (Z0 : n0 ≤ h0.size) (tr : Tr Z h0 t bk bs bv st en' bb (0 : Int32) ln (0 : Int32) kv s0 v0 [] le lb) (A_q : Ary Z h0 qu .long [.long q0, .long q1]) :
    Met1 l Z (⟨"com/example/vestalia/vestalia/locks/StepTrace", "startsFrom", "([J)Z"⟩ : MethodName) prog_32_method_2_code 3 (some .boolean) ({ frames := 0, cells := 0, slots := 0, locals := 0 } : Room) n0 #[(.ref t), (.ref qu)] h0 (fun v h => v = some (.int (0 : Int32)) ∧ h0 = h) := by
  refine met_of (plainFor_of_name own_pn_com_example_vestalia_vestalia_locks_StepTrace) (L0 := #[.val (.ref t), .val (.ref qu), .unset]) (by first | (simp [argsToLocals, Value.category]; done) | rfl) ?_
  intro B C
  change Ctx B l _ _ "com/example/vestalia/vestalia/locks/StepTrace" "startsFrom" _ _ Z at C
  have tr' := tr
  obtain ⟨E_t, T_kinds, T_slots, T_values, T_width, T_start, T_end, T_before, T_length, T_whole, T_written, A_kinds, A_slots, A_values, A_start, A_end, A_before⟩ := tr'
  refine g_aload_n C d4_0 (v := (.ref t)) rfl rfl (pc' := 1) rfl ?_
  refine g_getfield C (host := "") (v := (.int (0 : Int32))) (Or.inl (own_w hw 40 rfl)) Via.refl T_whole d4_1 (pc' := 4) rfl ?_
  refine g_if_n C d4_4 (Jvm.Free.XT.i0_ne_f (by decide)) (pc' := 7) rfl ?_
  refine g_iconst C d4_7 (v := (0 : Int32)) rfl (pc' := 8) rfl ?_
  refine g_ret C (v := (.int (0 : Int32))) (ty := .boolean) rfl rfl (Or.inl ⟨rfl, Or.inr (Or.inl rfl), _, rfl⟩) d4_8 (by decide) (by decide) ?_
  exact ⟨rfl, rfl⟩
theorem d4_9 : decode prog_32_method_2_code 9 = .ok (.iconst 0, 1) := by decide +kernel
theorem d4_10 : decode prog_32_method_2_code 10 = .ok (.istore_n 2, 1) := by decide +kernel
theorem d4_11 : decode prog_32_method_2_code 11 = .ok (.iload_n 2, 1) := by decide +kernel
theorem d4_12 : decode prog_32_method_2_code 12 = .ok (.aload_n 0, 1) := by decide +kernel
theorem d4_13 : decode prog_32_method_2_code 13 = .ok (.getfield 26, 3) := by decide +kernel
theorem d4_16 : decode prog_32_method_2_code 16 = .ok (.if_icmp .ge 24, 3) := by decide +kernel
theorem d4_40 : decode prog_32_method_2_code 40 = .ok (.iconst 1, 1) := by decide +kernel
theorem d4_41 : decode prog_32_method_2_code 41 = .ok (.ireturn, 1) := by decide +kernel
set_option maxRecDepth 65536 in
set_option maxHeartbeats 40000000 in
theorem rm_sf01 (l : Launch) (Z : State) (a0 : Array Value) (hw : ∀ d ∈ tables_1, d.before a0 Z = true) (n0 : Nat) (t bk bs bv st en' bb : Addr) (qu : Addr) (ln : Int32) (kv : Value) (s0 : Int32) (v0 : Int64) (q0 q1 : Int64) (le lb : List Value) (h0 : Heap) (Z0 : n0 ≤ h0.size) (tr : Tr Z h0 t bk bs bv st en' bb (0 : Int32) ln (1 : Int32) kv s0 v0 [] le lb) (A_q : Ary Z h0 qu .long [.long q0, .long q1]) :
    Met1 l Z (⟨"com/example/vestalia/vestalia/locks/StepTrace", "startsFrom", "([J)Z"⟩ : MethodName) prog_32_method_2_code 3 (some .boolean) ({ frames := 0, cells := 0, slots := 0, locals := 0 } : Room) n0 #[(.ref t), (.ref qu)] h0 (fun v h => v = some (.int (1 : Int32)) ∧ h0 = h) := by
  refine met_of (plainFor_of_name own_pn_com_example_vestalia_vestalia_locks_StepTrace) (L0 := #[.val (.ref t), .val (.ref qu), .unset]) (by first | (simp [argsToLocals, Value.category]; done) | rfl) ?_
  intro B C
  change Ctx B l _ _ "com/example/vestalia/vestalia/locks/StepTrace" "startsFrom" _ _ Z at C
  have tr' := tr
  obtain ⟨E_t, T_kinds, T_slots, T_values, T_width, T_start, T_end, T_before, T_length, T_whole, T_written, A_kinds, A_slots, A_values, A_start, A_end, A_before⟩ := tr'
  refine g_aload_n C d4_0 (v := (.ref t)) rfl rfl (pc' := 1) rfl ?_
  refine g_getfield C (host := "") (v := (.int (1 : Int32))) (Or.inl (own_w hw 40 rfl)) Via.refl T_whole d4_1 (pc' := 4) rfl ?_
  refine g_if_y C d4_4 (Jvm.Free.XT.i0_ne_t (by decide)) (pc' := 9) (by decide) (by decide) ?_
  refine g_iconst C d4_9 (v := (0 : Int32)) rfl (pc' := 10) rfl ?_
  refine g_istore_n C d4_10 (v := (0 : Int32)) (L' := #[.val (.ref t), .val (.ref qu), .val (.int (0 : Int32))]) rfl (pc' := 11) rfl ?_
  refine g_iload_n C d4_11 (v := (0 : Int32)) rfl (pc' := 12) rfl ?_
  refine g_aload_n C d4_12 (v := (.ref t)) rfl rfl (pc' := 13) rfl ?_
  refine g_getfield C (host := "") (v := (.int (0 : Int32))) (Or.inl (own_w hw 21 rfl)) Via.refl T_width d4_13 (pc' := 16) rfl ?_
  refine g_icmp_y C d4_16 (Jvm.Free.XT.ii_ge_t (by decide)) (pc' := 40) (by decide) (by decide) ?_
  refine g_iconst C d4_40 (v := (1 : Int32)) rfl (pc' := 41) rfl ?_
  refine g_ret C (v := (.int (1 : Int32))) (ty := .boolean) rfl rfl (Or.inl ⟨rfl, Or.inr (Or.inl rfl), _, rfl⟩) d4_41 (by decide) (by decide) ?_
  exact ⟨rfl, rfl⟩
set_option maxRecDepth 65536 in
set_option maxHeartbeats 40000000 in
theorem rm_sf10 (l : Launch) (Z : State) (a0 : Array Value) (hw : ∀ d ∈ tables_1, d.before a0 Z = true) (n0 : Nat) (t bk bs bv st en' bb : Addr) (qu : Addr) (ln : Int32) (kv : Value) (s0 : Int32) (v0 : Int64) (q0 q1 x0 : Int64) (le lb : List Value) (h0 : Heap) (Z0 : n0 ≤ h0.size) (tr : Tr Z h0 t bk bs bv st en' bb (1 : Int32) ln (0 : Int32) kv s0 v0 [(.long x0)] le lb) (A_q : Ary Z h0 qu .long [.long q0, .long q1]) :
    Met1 l Z (⟨"com/example/vestalia/vestalia/locks/StepTrace", "startsFrom", "([J)Z"⟩ : MethodName) prog_32_method_2_code 3 (some .boolean) ({ frames := 0, cells := 0, slots := 0, locals := 0 } : Room) n0 #[(.ref t), (.ref qu)] h0 (fun v h => v = some (.int (0 : Int32)) ∧ h0 = h) := by
  refine met_of (plainFor_of_name own_pn_com_example_vestalia_vestalia_locks_StepTrace) (L0 := #[.val (.ref t), .val (.ref qu), .unset]) (by first | (simp [argsToLocals, Value.category]; done) | rfl) ?_
  intro B C
  change Ctx B l _ _ "com/example/vestalia/vestalia/locks/StepTrace" "startsFrom" _ _ Z at C
  have tr' := tr
  obtain ⟨E_t, T_kinds, T_slots, T_values, T_width, T_start, T_end, T_before, T_length, T_whole, T_written, A_kinds, A_slots, A_values, A_start, A_end, A_before⟩ := tr'
  refine g_aload_n C d4_0 (v := (.ref t)) rfl rfl (pc' := 1) rfl ?_
  refine g_getfield C (host := "") (v := (.int (0 : Int32))) (Or.inl (own_w hw 40 rfl)) Via.refl T_whole d4_1 (pc' := 4) rfl ?_
  refine g_if_n C d4_4 (Jvm.Free.XT.i0_ne_f (by decide)) (pc' := 7) rfl ?_
  refine g_iconst C d4_7 (v := (0 : Int32)) rfl (pc' := 8) rfl ?_
  refine g_ret C (v := (.int (0 : Int32))) (ty := .boolean) rfl rfl (Or.inl ⟨rfl, Or.inr (Or.inl rfl), _, rfl⟩) d4_8 (by decide) (by decide) ?_
  exact ⟨rfl, rfl⟩
theorem d4_19 : decode prog_32_method_2_code 19 = .ok (.aload_n 0, 1) := by decide +kernel
theorem d4_20 : decode prog_32_method_2_code 20 = .ok (.getfield 30, 3) := by decide +kernel
theorem d4_23 : decode prog_32_method_2_code 23 = .ok (.iload_n 2, 1) := by decide +kernel
theorem d4_24 : decode prog_32_method_2_code 24 = .ok (.laload, 1) := by decide +kernel
theorem d4_25 : decode prog_32_method_2_code 25 = .ok (.aload_n 1, 1) := by decide +kernel
theorem d4_26 : decode prog_32_method_2_code 26 = .ok (.iload_n 2, 1) := by decide +kernel
theorem d4_27 : decode prog_32_method_2_code 27 = .ok (.laload, 1) := by decide +kernel
theorem d4_28 : decode prog_32_method_2_code 28 = .ok (.lcmp, 1) := by decide +kernel
theorem d4_29 : decode prog_32_method_2_code 29 = .ok (.ifCond .eq 5, 3) := by decide +kernel
theorem d4_32 : decode prog_32_method_2_code 32 = .ok (.iconst 0, 1) := by decide +kernel
theorem d4_33 : decode prog_32_method_2_code 33 = .ok (.ireturn, 1) := by decide +kernel
theorem d4_34 : decode prog_32_method_2_code 34 = .ok (.iinc 2 1, 3) := by decide +kernel
theorem d4_37 : decode prog_32_method_2_code 37 = .ok (.goto (-26), 3) := by decide +kernel
set_option maxRecDepth 65536 in
set_option maxHeartbeats 40000000 in
theorem rm_sf11 (l : Launch) (Z : State) (a0 : Array Value) (hw : ∀ d ∈ tables_1, d.before a0 Z = true) (n0 : Nat) (t bk bs bv st en' bb : Addr) (qu : Addr) (ln : Int32) (kv : Value) (s0 : Int32) (v0 : Int64) (q0 q1 x0 : Int64) (le lb : List Value) (h0 : Heap) (Z0 : n0 ≤ h0.size) (tr : Tr Z h0 t bk bs bv st en' bb (1 : Int32) ln (1 : Int32) kv s0 v0 [(.long x0)] le lb) (A_q : Ary Z h0 qu .long [.long q0, .long q1]) :
    Met1 l Z (⟨"com/example/vestalia/vestalia/locks/StepTrace", "startsFrom", "([J)Z"⟩ : MethodName) prog_32_method_2_code 3 (some .boolean) ({ frames := 0, cells := 0, slots := 0, locals := 0 } : Room) n0 #[(.ref t), (.ref qu)] h0 (fun v h => v = some (.int (sf1 x0 q0)) ∧ h0 = h) := by
  refine met_of (plainFor_of_name own_pn_com_example_vestalia_vestalia_locks_StepTrace) (L0 := #[.val (.ref t), .val (.ref qu), .unset]) (by first | (simp [argsToLocals, Value.category]; done) | rfl) ?_
  intro B C
  change Ctx B l _ _ "com/example/vestalia/vestalia/locks/StepTrace" "startsFrom" _ _ Z at C
  have tr' := tr
  obtain ⟨E_t, T_kinds, T_slots, T_values, T_width, T_start, T_end, T_before, T_length, T_whole, T_written, A_kinds, A_slots, A_values, A_start, A_end, A_before⟩ := tr'
  refine g_aload_n C d4_0 (v := (.ref t)) rfl rfl (pc' := 1) rfl ?_
  refine g_getfield C (host := "") (v := (.int (1 : Int32))) (Or.inl (own_w hw 40 rfl)) Via.refl T_whole d4_1 (pc' := 4) rfl ?_
  refine g_if_y C d4_4 (Jvm.Free.XT.i0_ne_t (by decide)) (pc' := 9) (by decide) (by decide) ?_
  refine g_iconst C d4_9 (v := (0 : Int32)) rfl (pc' := 10) rfl ?_
  refine g_istore_n C d4_10 (v := (0 : Int32)) (L' := #[.val (.ref t), .val (.ref qu), .val (.int (0 : Int32))]) rfl (pc' := 11) rfl ?_
  refine g_iload_n C d4_11 (v := (0 : Int32)) rfl (pc' := 12) rfl ?_
  refine g_aload_n C d4_12 (v := (.ref t)) rfl rfl (pc' := 13) rfl ?_
  refine g_getfield C (host := "") (v := (.int (1 : Int32))) (Or.inl (own_w hw 21 rfl)) Via.refl T_width d4_13 (pc' := 16) rfl ?_
  refine g_icmp_n C d4_16 (Jvm.Free.XT.ii_ge_f (by decide)) (pc' := 19) rfl ?_
  refine g_aload_n C d4_19 (v := (.ref t)) rfl rfl (pc' := 20) rfl ?_
  refine g_getfield C (host := "") (v := (.ref st)) (Or.inl (own_w hw 23 rfl)) Via.refl T_start d4_20 (pc' := 23) rfl ?_
  refine g_iload_n C d4_23 (v := (0 : Int32)) rfl (pc' := 24) rfl ?_
  refine g_laload C A_start (by decide) (i := 0) (by decide) (v := x0) rfl d4_24 (pc' := 25) rfl ?_
  refine g_aload_n C d4_25 (v := (.ref qu)) rfl rfl (pc' := 26) rfl ?_
  refine g_iload_n C d4_26 (v := (0 : Int32)) rfl (pc' := 27) rfl ?_
  refine g_laload C A_q (by decide) (i := 0) (by decide) (v := q0) rfl d4_27 (pc' := 28) rfl ?_
  refine g_lcmp C (x := x0) (y := q0) d4_28 (pc' := 29) rfl ?_
  by_cases hb_1 : x0 = q0
  · refine g_if_y C d4_29 (Jvm.Free.XT.ll_eq_t hb_1) (pc' := 34) (by decide) (by decide) ?_
    refine g_iinc C d4_34 (v := (0 : Int32)) (w := (1 : Int32)) rfl rfl (L' := #[.val (.ref t), .val (.ref qu), .val (.int (1 : Int32))]) rfl (pc' := 37) rfl ?_
    refine g_goto C d4_37 (pc' := 11) (by decide) (by decide) ?_
    refine g_iload_n C d4_11 (v := (1 : Int32)) rfl (pc' := 12) rfl ?_
    refine g_aload_n C d4_12 (v := (.ref t)) rfl rfl (pc' := 13) rfl ?_
    refine g_getfield C (host := "") (v := (.int (1 : Int32))) (Or.inl (own_w hw 21 rfl)) Via.refl T_width d4_13 (pc' := 16) rfl ?_
    refine g_icmp_y C d4_16 (Jvm.Free.XT.ii_ge_t (by decide)) (pc' := 40) (by decide) (by decide) ?_
    refine g_iconst C d4_40 (v := (1 : Int32)) rfl (pc' := 41) rfl ?_
    refine g_ret C (v := (.int (1 : Int32))) (ty := .boolean) rfl rfl (Or.inl ⟨rfl, Or.inr (Or.inl rfl), _, rfl⟩) d4_41 (by decide) (by decide) ?_
    exact ⟨by rw [sf1, if_pos hb_1], rfl⟩
  · refine g_if_n C d4_29 (Jvm.Free.XT.ll_eq_f hb_1) (pc' := 32) rfl ?_
    refine g_iconst C d4_32 (v := (0 : Int32)) rfl (pc' := 33) rfl ?_
    refine g_ret C (v := (.int (0 : Int32))) (ty := .boolean) rfl rfl (Or.inl ⟨rfl, Or.inr (Or.inl rfl), _, rfl⟩) d4_33 (by decide) (by decide) ?_
    exact ⟨by rw [sf1, if_neg hb_1], rfl⟩
set_option maxRecDepth 65536 in
set_option maxHeartbeats 40000000 in
theorem rm_sf20 (l : Launch) (Z : State) (a0 : Array Value) (hw : ∀ d ∈ tables_1, d.before a0 Z = true) (n0 : Nat) (t bk bs bv st en' bb : Addr) (qu : Addr) (ln : Int32) (kv : Value) (s0 : Int32) (v0 : Int64) (q0 q1 x0 x1 : Int64) (le lb : List Value) (h0 : Heap) (Z0 : n0 ≤ h0.size) (tr : Tr Z h0 t bk bs bv st en' bb (2 : Int32) ln (0 : Int32) kv s0 v0 [(.long x0), (.long x1)] le lb) (A_q : Ary Z h0 qu .long [.long q0, .long q1]) :
    Met1 l Z (⟨"com/example/vestalia/vestalia/locks/StepTrace", "startsFrom", "([J)Z"⟩ : MethodName) prog_32_method_2_code 3 (some .boolean) ({ frames := 0, cells := 0, slots := 0, locals := 0 } : Room) n0 #[(.ref t), (.ref qu)] h0 (fun v h => v = some (.int (0 : Int32)) ∧ h0 = h) := by
  refine met_of (plainFor_of_name own_pn_com_example_vestalia_vestalia_locks_StepTrace) (L0 := #[.val (.ref t), .val (.ref qu), .unset]) (by first | (simp [argsToLocals, Value.category]; done) | rfl) ?_
  intro B C
  change Ctx B l _ _ "com/example/vestalia/vestalia/locks/StepTrace" "startsFrom" _ _ Z at C
  have tr' := tr
  obtain ⟨E_t, T_kinds, T_slots, T_values, T_width, T_start, T_end, T_before, T_length, T_whole, T_written, A_kinds, A_slots, A_values, A_start, A_end, A_before⟩ := tr'
  refine g_aload_n C d4_0 (v := (.ref t)) rfl rfl (pc' := 1) rfl ?_
  refine g_getfield C (host := "") (v := (.int (0 : Int32))) (Or.inl (own_w hw 40 rfl)) Via.refl T_whole d4_1 (pc' := 4) rfl ?_
  refine g_if_n C d4_4 (Jvm.Free.XT.i0_ne_f (by decide)) (pc' := 7) rfl ?_
  refine g_iconst C d4_7 (v := (0 : Int32)) rfl (pc' := 8) rfl ?_
  refine g_ret C (v := (.int (0 : Int32))) (ty := .boolean) rfl rfl (Or.inl ⟨rfl, Or.inr (Or.inl rfl), _, rfl⟩) d4_8 (by decide) (by decide) ?_
  exact ⟨rfl, rfl⟩
set_option maxRecDepth 65536 in
set_option maxHeartbeats 40000000 in
theorem rm_sf21 (l : Launch) (Z : State) (a0 : Array Value) (hw : ∀ d ∈ tables_1, d.before a0 Z = true) (n0 : Nat) (t bk bs bv st en' bb : Addr) (qu : Addr) (ln : Int32) (kv : Value) (s0 : Int32) (v0 : Int64) (q0 q1 x0 x1 : Int64) (le lb : List Value) (h0 : Heap) (Z0 : n0 ≤ h0.size) (tr : Tr Z h0 t bk bs bv st en' bb (2 : Int32) ln (1 : Int32) kv s0 v0 [(.long x0), (.long x1)] le lb) (A_q : Ary Z h0 qu .long [.long q0, .long q1]) :
    Met1 l Z (⟨"com/example/vestalia/vestalia/locks/StepTrace", "startsFrom", "([J)Z"⟩ : MethodName) prog_32_method_2_code 3 (some .boolean) ({ frames := 0, cells := 0, slots := 0, locals := 0 } : Room) n0 #[(.ref t), (.ref qu)] h0 (fun v h => v = some (.int (sf2 x0 x1 q0 q1)) ∧ h0 = h) := by
  refine met_of (plainFor_of_name own_pn_com_example_vestalia_vestalia_locks_StepTrace) (L0 := #[.val (.ref t), .val (.ref qu), .unset]) (by first | (simp [argsToLocals, Value.category]; done) | rfl) ?_
  intro B C
  change Ctx B l _ _ "com/example/vestalia/vestalia/locks/StepTrace" "startsFrom" _ _ Z at C
  have tr' := tr
  obtain ⟨E_t, T_kinds, T_slots, T_values, T_width, T_start, T_end, T_before, T_length, T_whole, T_written, A_kinds, A_slots, A_values, A_start, A_end, A_before⟩ := tr'
  refine g_aload_n C d4_0 (v := (.ref t)) rfl rfl (pc' := 1) rfl ?_
  refine g_getfield C (host := "") (v := (.int (1 : Int32))) (Or.inl (own_w hw 40 rfl)) Via.refl T_whole d4_1 (pc' := 4) rfl ?_
  refine g_if_y C d4_4 (Jvm.Free.XT.i0_ne_t (by decide)) (pc' := 9) (by decide) (by decide) ?_
  refine g_iconst C d4_9 (v := (0 : Int32)) rfl (pc' := 10) rfl ?_
  refine g_istore_n C d4_10 (v := (0 : Int32)) (L' := #[.val (.ref t), .val (.ref qu), .val (.int (0 : Int32))]) rfl (pc' := 11) rfl ?_
  refine g_iload_n C d4_11 (v := (0 : Int32)) rfl (pc' := 12) rfl ?_
  refine g_aload_n C d4_12 (v := (.ref t)) rfl rfl (pc' := 13) rfl ?_
  refine g_getfield C (host := "") (v := (.int (2 : Int32))) (Or.inl (own_w hw 21 rfl)) Via.refl T_width d4_13 (pc' := 16) rfl ?_
  refine g_icmp_n C d4_16 (Jvm.Free.XT.ii_ge_f (by decide)) (pc' := 19) rfl ?_
  refine g_aload_n C d4_19 (v := (.ref t)) rfl rfl (pc' := 20) rfl ?_
  refine g_getfield C (host := "") (v := (.ref st)) (Or.inl (own_w hw 23 rfl)) Via.refl T_start d4_20 (pc' := 23) rfl ?_
  refine g_iload_n C d4_23 (v := (0 : Int32)) rfl (pc' := 24) rfl ?_
  refine g_laload C A_start (by decide) (i := 0) (by decide) (v := x0) rfl d4_24 (pc' := 25) rfl ?_
  refine g_aload_n C d4_25 (v := (.ref qu)) rfl rfl (pc' := 26) rfl ?_
  refine g_iload_n C d4_26 (v := (0 : Int32)) rfl (pc' := 27) rfl ?_
  refine g_laload C A_q (by decide) (i := 0) (by decide) (v := q0) rfl d4_27 (pc' := 28) rfl ?_
  refine g_lcmp C (x := x0) (y := q0) d4_28 (pc' := 29) rfl ?_
  by_cases hb_1 : x0 = q0
  · refine g_if_y C d4_29 (Jvm.Free.XT.ll_eq_t hb_1) (pc' := 34) (by decide) (by decide) ?_
    refine g_iinc C d4_34 (v := (0 : Int32)) (w := (1 : Int32)) rfl rfl (L' := #[.val (.ref t), .val (.ref qu), .val (.int (1 : Int32))]) rfl (pc' := 37) rfl ?_
    refine g_goto C d4_37 (pc' := 11) (by decide) (by decide) ?_
    refine g_iload_n C d4_11 (v := (1 : Int32)) rfl (pc' := 12) rfl ?_
    refine g_aload_n C d4_12 (v := (.ref t)) rfl rfl (pc' := 13) rfl ?_
    refine g_getfield C (host := "") (v := (.int (2 : Int32))) (Or.inl (own_w hw 21 rfl)) Via.refl T_width d4_13 (pc' := 16) rfl ?_
    refine g_icmp_n C d4_16 (Jvm.Free.XT.ii_ge_f (by decide)) (pc' := 19) rfl ?_
    refine g_aload_n C d4_19 (v := (.ref t)) rfl rfl (pc' := 20) rfl ?_
    refine g_getfield C (host := "") (v := (.ref st)) (Or.inl (own_w hw 23 rfl)) Via.refl T_start d4_20 (pc' := 23) rfl ?_
    refine g_iload_n C d4_23 (v := (1 : Int32)) rfl (pc' := 24) rfl ?_
    refine g_laload C A_start (by decide) (i := 1) (by decide) (v := x1) rfl d4_24 (pc' := 25) rfl ?_
    refine g_aload_n C d4_25 (v := (.ref qu)) rfl rfl (pc' := 26) rfl ?_
    refine g_iload_n C d4_26 (v := (1 : Int32)) rfl (pc' := 27) rfl ?_
    refine g_laload C A_q (by decide) (i := 1) (by decide) (v := q1) rfl d4_27 (pc' := 28) rfl ?_
    refine g_lcmp C (x := x1) (y := q1) d4_28 (pc' := 29) rfl ?_
    by_cases hb_2 : x1 = q1
    · refine g_if_y C d4_29 (Jvm.Free.XT.ll_eq_t hb_2) (pc' := 34) (by decide) (by decide) ?_
      refine g_iinc C d4_34 (v := (1 : Int32)) (w := (2 : Int32)) rfl rfl (L' := #[.val (.ref t), .val (.ref qu), .val (.int (2 : Int32))]) rfl (pc' := 37) rfl ?_
      refine g_goto C d4_37 (pc' := 11) (by decide) (by decide) ?_
      refine g_iload_n C d4_11 (v := (2 : Int32)) rfl (pc' := 12) rfl ?_
      refine g_aload_n C d4_12 (v := (.ref t)) rfl rfl (pc' := 13) rfl ?_
      refine g_getfield C (host := "") (v := (.int (2 : Int32))) (Or.inl (own_w hw 21 rfl)) Via.refl T_width d4_13 (pc' := 16) rfl ?_
      refine g_icmp_y C d4_16 (Jvm.Free.XT.ii_ge_t (by decide)) (pc' := 40) (by decide) (by decide) ?_
      refine g_iconst C d4_40 (v := (1 : Int32)) rfl (pc' := 41) rfl ?_
      refine g_ret C (v := (.int (1 : Int32))) (ty := .boolean) rfl rfl (Or.inl ⟨rfl, Or.inr (Or.inl rfl), _, rfl⟩) d4_41 (by decide) (by decide) ?_
      exact ⟨by rw [sf2, if_pos hb_1, if_pos hb_2], rfl⟩
    · refine g_if_n C d4_29 (Jvm.Free.XT.ll_eq_f hb_2) (pc' := 32) rfl ?_
      refine g_iconst C d4_32 (v := (0 : Int32)) rfl (pc' := 33) rfl ?_
      refine g_ret C (v := (.int (0 : Int32))) (ty := .boolean) rfl rfl (Or.inl ⟨rfl, Or.inr (Or.inl rfl), _, rfl⟩) d4_33 (by decide) (by decide) ?_
      exact ⟨by rw [sf2, if_pos hb_1, if_neg hb_2], rfl⟩
  · refine g_if_n C d4_29 (Jvm.Free.XT.ll_eq_f hb_1) (pc' := 32) rfl ?_
    refine g_iconst C d4_32 (v := (0 : Int32)) rfl (pc' := 33) rfl ?_
    refine g_ret C (v := (.int (0 : Int32))) (ty := .boolean) rfl rfl (Or.inl ⟨rfl, Or.inr (Or.inl rfl), _, rfl⟩) d4_33 (by decide) (by decide) ?_
    exact ⟨by rw [sf2, if_neg hb_1], rfl⟩
theorem own_split3 (i : Int32) (h0 : 0 ≤ i.toInt) (h1 : i.toInt < 3) : i = (0 : Int32) ∨ i = (1 : Int32) ∨ i = (2 : Int32) := by
  simp only [← Int32.toInt_inj, Int32.reduceToInt]; omega
theorem own_pd_1_init : parseMethodDescriptor "(I)V" = some ⟨[.int], none⟩ := by decide +kernel
theorem own_pd_6_begin : parseMethodDescriptor "([J)V" = some ⟨[(.array .long)], none⟩ := by decide +kernel
theorem own_pd_7_startsFrom : parseMethodDescriptor "([J)Z" = some ⟨[(.array .long)], (some .boolean)⟩ := by decide +kernel
theorem own_pd_6_end : parseMethodDescriptor "([J)V" = some ⟨[(.array .long)], none⟩ := by decide +kernel
theorem own_pd_9_add : parseMethodDescriptor "([JLcom/example/vestalia/vestalia/model/Step$Kind;IJ)V" = some ⟨[(.array .long), (.object "com/example/vestalia/vestalia/model/Step$Kind"), .int, .long], none⟩ := by decide +kernel
theorem own_pn_com_example_vestalia_vestalia_locks_StepTraceStartsFromPinLaw : plainName "com/example/vestalia/vestalia/locks/StepTraceStartsFromPinLaw" = true := by first | (simp [plainName, overriddenIn]; done) | decide +kernel
set_option maxRecDepth 65536 in
set_option maxHeartbeats 40000000 in
theorem rm_law (l : Launch) (Z : State) (a0 : Array Value) (hw : ∀ d ∈ tables_1, d.before a0 Z = true) (n0 : Nat) (p0 p1 p2 p3 p4 : Int64) (p5 : Int32) (e_WRITE e_READ : Addr) (h0 : Heap) (Z0 : n0 ≤ h0.size) (en : Ens Z e_WRITE e_READ) (O : Old Z n0 h0) :
    Met1 l Z x code maxLocals ret room_1 n0 #[(.long p0), (.long p1), (.long p2), (.long p3), (.long p4), (.int p5)] h0 (fun v h => v = some (.int 1)) := by
  refine met_of (plainFor_of_name own_pn_com_example_vestalia_vestalia_locks_StepTraceStartsFromPinLaw) (L0 := #[.val (.long p0), .second, .val (.long p1), .second, .val (.long p2), .second, .val (.long p3), .second, .val (.long p4), .second, .val (.int p5), .unset, .unset, .unset, .unset, .unset, .unset, .unset, .unset, .unset, .unset, .unset, .unset, .unset]) (by first | (simp [argsToLocals, Value.category, maxLocals]; done) | rfl) ?_
  intro B C
  change Ctx B l room_1 code "com/example/vestalia/vestalia/locks/StepTraceStartsFromPinLaw" "law" 24 (some .boolean) Z at C
  have en' := en
  obtain ⟨⟨S_WRITE, X_WRITE, D_WRITE⟩, ⟨S_READ, X_READ, D_READ⟩⟩ := en'
  refine g_iload C at_0 (v := p5) rfl (pc' := 2) rfl ?_
  refine g_iconst C at_2 (v := (3 : Int32)) rfl (pc' := 3) rfl ?_
  refine g_iand C (x := p5) (y := (3 : Int32)) at_3  (pc' := 4) rfl ?_
  refine g_iconst C at_4 (v := (3 : Int32)) rfl (pc' := 5) rfl ?_
  refine g_irem C (x := (p5 &&& (3 : Int32))) (y := (3 : Int32)) at_5 (by decide) (pc' := 6) rfl ?_
  refine g_istore C at_6 (v := ((p5 &&& (3 : Int32)) - ((p5 &&& (3 : Int32)) / (3 : Int32)) * (3 : Int32))) (L' := #[.val (.long p0), .second, .val (.long p1), .second, .val (.long p2), .second, .val (.long p3), .second, .val (.long p4), .second, .val (.int p5), .val (.int ((p5 &&& (3 : Int32)) - ((p5 &&& (3 : Int32)) / (3 : Int32)) * (3 : Int32))), .unset, .unset, .unset, .unset, .unset, .unset, .unset, .unset, .unset, .unset, .unset, .unset]) rfl (pc' := 8) rfl ?_
  obtain ⟨i_1, hi_2⟩ : ∃ z : Int32, z = ((p5 &&& (3 : Int32)) - ((p5 &&& (3 : Int32)) / (3 : Int32)) * (3 : Int32)) := ⟨_, rfl⟩
  rw [← hi_2]
  rcases own_split3 i_1 (by rw [hi_2]; exact (own_rem3 (own_m3 p5)).1) (by rw [hi_2]; exact (own_rem3 (own_m3 p5)).2) with i_1e | i_1e | i_1e
  · subst i_1e
    show Go B n0 _ h0 0 0 8 #[.val (.long p0), .second, .val (.long p1), .second, .val (.long p2), .second, .val (.long p3), .second, .val (.long p4), .second, .val (.int p5), .val (.int (0 : Int32)), .unset, .unset, .unset, .unset, .unset, .unset, .unset, .unset, .unset, .unset, .unset, .unset] []
    refine g_iload C at_8 (v := p5) rfl (pc' := 10) rfl ?_
    have t_3 : ∀ (b1 : Int32), Go B n0 (fun v h => v = some (.int 1)) h0 0 0 20 #[.val (.long p0), .second, .val (.long p1), .second, .val (.long p2), .second, .val (.long p3), .second, .val (.long p4), .second, .val (.int p5), .val (.int (0 : Int32)), .unset, .unset, .unset, .unset, .unset, .unset, .unset, .unset, .unset, .unset, .unset, .unset] [(.int b1)] := by
      intro b1
      refine g_istore C at_20 (v := b1) (L' := #[.val (.long p0), .second, .val (.long p1), .second, .val (.long p2), .second, .val (.long p3), .second, .val (.long p4), .second, .val (.int p5), .val (.int (0 : Int32)), .val (.int b1), .unset, .unset, .unset, .unset, .unset, .unset, .unset, .unset, .unset, .unset, .unset]) rfl (pc' := 22) rfl ?_
      have t_4 : ∀ (b2 : Int32), Go B n0 (fun v h => v = some (.int 1)) h0 0 0 35 #[.val (.long p0), .second, .val (.long p1), .second, .val (.long p2), .second, .val (.long p3), .second, .val (.long p4), .second, .val (.int p5), .val (.int (0 : Int32)), .val (.int b1), .unset, .unset, .unset, .unset, .unset, .unset, .unset, .unset, .unset, .unset, .unset] [(.int b2)] := by
        intro b2
        refine g_istore C at_35 (v := b2) (L' := #[.val (.long p0), .second, .val (.long p1), .second, .val (.long p2), .second, .val (.long p3), .second, .val (.long p4), .second, .val (.int p5), .val (.int (0 : Int32)), .val (.int b1), .val (.int b2), .unset, .unset, .unset, .unset, .unset, .unset, .unset, .unset, .unset, .unset]) rfl (pc' := 37) rfl ?_
        have t_5 : ∀ (b3 : Int32), Go B n0 (fun v h => v = some (.int 1)) h0 0 0 50 #[.val (.long p0), .second, .val (.long p1), .second, .val (.long p2), .second, .val (.long p3), .second, .val (.long p4), .second, .val (.int p5), .val (.int (0 : Int32)), .val (.int b1), .val (.int b2), .unset, .unset, .unset, .unset, .unset, .unset, .unset, .unset, .unset, .unset] [(.int b3)] := by
          intro b3
          refine g_istore C at_50 (v := b3) (L' := #[.val (.long p0), .second, .val (.long p1), .second, .val (.long p2), .second, .val (.long p3), .second, .val (.long p4), .second, .val (.int p5), .val (.int (0 : Int32)), .val (.int b1), .val (.int b2), .val (.int b3), .unset, .unset, .unset, .unset, .unset, .unset, .unset, .unset, .unset]) rfl (pc' := 52) rfl ?_
          have t_6 : ∀ (b4 : Int32), Go B n0 (fun v h => v = some (.int 1)) h0 0 0 65 #[.val (.long p0), .second, .val (.long p1), .second, .val (.long p2), .second, .val (.long p3), .second, .val (.long p4), .second, .val (.int p5), .val (.int (0 : Int32)), .val (.int b1), .val (.int b2), .val (.int b3), .unset, .unset, .unset, .unset, .unset, .unset, .unset, .unset, .unset] [(.int b4)] := by
            intro b4
            refine g_istore C at_65 (v := b4) (L' := #[.val (.long p0), .second, .val (.long p1), .second, .val (.long p2), .second, .val (.long p3), .second, .val (.long p4), .second, .val (.int p5), .val (.int (0 : Int32)), .val (.int b1), .val (.int b2), .val (.int b3), .val (.int b4), .unset, .unset, .unset, .unset, .unset, .unset, .unset, .unset]) rfl (pc' := 67) rfl ?_
            have t_7 : ∀ (b5 : Int32), Go B n0 (fun v h => v = some (.int 1)) h0 0 0 80 #[.val (.long p0), .second, .val (.long p1), .second, .val (.long p2), .second, .val (.long p3), .second, .val (.long p4), .second, .val (.int p5), .val (.int (0 : Int32)), .val (.int b1), .val (.int b2), .val (.int b3), .val (.int b4), .unset, .unset, .unset, .unset, .unset, .unset, .unset, .unset] [(.int b5)] := by
              intro b5
              refine g_istore C at_80 (v := b5) (L' := #[.val (.long p0), .second, .val (.long p1), .second, .val (.long p2), .second, .val (.long p3), .second, .val (.long p4), .second, .val (.int p5), .val (.int (0 : Int32)), .val (.int b1), .val (.int b2), .val (.int b3), .val (.int b4), .val (.int b5), .unset, .unset, .unset, .unset, .unset, .unset, .unset]) rfl (pc' := 82) rfl ?_
              have t_8 : ∀ (b6 : Int32), Go B n0 (fun v h => v = some (.int 1)) h0 0 0 96 #[.val (.long p0), .second, .val (.long p1), .second, .val (.long p2), .second, .val (.long p3), .second, .val (.long p4), .second, .val (.int p5), .val (.int (0 : Int32)), .val (.int b1), .val (.int b2), .val (.int b3), .val (.int b4), .val (.int b5), .unset, .unset, .unset, .unset, .unset, .unset, .unset] [(.int b6)] := by
                intro b6
                refine g_istore C at_96 (v := b6) (L' := #[.val (.long p0), .second, .val (.long p1), .second, .val (.long p2), .second, .val (.long p3), .second, .val (.long p4), .second, .val (.int p5), .val (.int (0 : Int32)), .val (.int b1), .val (.int b2), .val (.int b3), .val (.int b4), .val (.int b5), .val (.int b6), .unset, .unset, .unset, .unset, .unset, .unset]) rfl (pc' := 98) rfl ?_
                refine g_iconst C at_98 (v := (2 : Int32)) rfl (pc' := 99) rfl ?_
                refine g_newarray C (own_w hw 0 rfl) (ty := .long) rfl (by decide) (cap := 2) (by decide) (by decide) (by decide) (by decide) at_99 (pc' := 101) rfl ?_
                intro h_9 a_10 g_11 E_12 A_13
                have ne_14 : e_READ ≠ a_10 := ne_new (X_READ.ext O.2).lt g_11
                have ne_15 : e_WRITE ≠ a_10 := ne_new (X_WRITE.ext O.2).lt g_11
                have ge_a_10 : n0 ≤ a_10 := Nat.le_trans Z0 (Nat.le_of_eq g_11.symm)
                have gs_a_10 : h0.size ≤ a_10 := Nat.le_trans (Nat.le_refl h0.size) (Nat.le_of_eq g_11.symm)
                have f_16 : Ary Z h_9 a_10 .long [(.long (0 : Int64)), (.long (0 : Int64))] := A_13
                show Go B n0 _ h_9 1 2 101 #[.val (.long p0), .second, .val (.long p1), .second, .val (.long p2), .second, .val (.long p3), .second, .val (.long p4), .second, .val (.int p5), .val (.int (0 : Int32)), .val (.int b1), .val (.int b2), .val (.int b3), .val (.int b4), .val (.int b5), .val (.int b6), .unset, .unset, .unset, .unset, .unset, .unset] [(.ref a_10)]
                refine g_dup C at_101 rfl (pc' := 102) rfl ?_
                refine g_iconst C at_102 (v := (0 : Int32)) rfl (pc' := 103) rfl ?_
                refine g_lload_n C at_103 (v := p0) rfl (pc' := 104) rfl ?_
                refine g_lastore C f_16 (by decide) (i := 0) (by decide) (show 0 < 2 by decide) (w := (.long p0)) rfl ge_a_10 at_104 (pc' := 105) rfl ?_
                intro h_17 K_18 A_19
                have f_20 : Ary Z h_17 a_10 .long [(.long p0), (.long (0 : Int64))] := A_19
                refine g_dup C at_105 rfl (pc' := 106) rfl ?_
                refine g_iconst C at_106 (v := (1 : Int32)) rfl (pc' := 107) rfl ?_
                refine g_lload_n C at_107 (v := p1) rfl (pc' := 108) rfl ?_
                refine g_lastore C f_20 (by decide) (i := 1) (by decide) (show 1 < 2 by decide) (w := (.long p1)) rfl ge_a_10 at_108 (pc' := 109) rfl ?_
                intro h_21 K_22 A_23
                have f_24 : Ary Z h_21 a_10 .long [(.long p0), (.long p1)] := A_23
                refine g_astore C at_109 (v := (.ref a_10)) (L' := #[.val (.long p0), .second, .val (.long p1), .second, .val (.long p2), .second, .val (.long p3), .second, .val (.long p4), .second, .val (.int p5), .val (.int (0 : Int32)), .val (.int b1), .val (.int b2), .val (.int b3), .val (.int b4), .val (.int b5), .val (.int b6), .val (.ref a_10), .unset, .unset, .unset, .unset, .unset]) rfl rfl (pc' := 111) rfl ?_
                refine g_iconst C at_111 (v := (2 : Int32)) rfl (pc' := 112) rfl ?_
                have f_25 := ((((X_READ.ext O.2).ext E_12).keep K_18).keep K_22)
                have f_26 := ((((X_WRITE.ext O.2).ext E_12).keep K_18).keep K_22)
                refine g_newarray C (own_w hw 0 rfl) (ty := .long) rfl (by decide) (cap := 2) (by decide) (by decide) (by decide) (by decide) at_112 (pc' := 114) rfl ?_
                intro h_27 a_28 g_29 E_30 A_31
                have ne_32 : a_10 ≠ a_28 := ne_new f_24.lt g_29
                have ne_33 : e_READ ≠ a_28 := ne_new f_25.lt g_29
                have ne_34 : e_WRITE ≠ a_28 := ne_new f_26.lt g_29
                have f_35 := (Nat.le_trans (Nat.le_trans (Nat.le_trans Z0 E_12.1) K_18.1) K_22.1)
                have ge_a_28 : n0 ≤ a_28 := Nat.le_trans f_35 (Nat.le_of_eq g_29.symm)
                have f_36 := (Nat.le_trans (Nat.le_trans (Nat.le_trans (Nat.le_refl h0.size) E_12.1) K_18.1) K_22.1)
                have gs_a_28 : h0.size ≤ a_28 := Nat.le_trans f_36 (Nat.le_of_eq g_29.symm)
                have f_37 : Ary Z h_27 a_28 .long [(.long (0 : Int64)), (.long (0 : Int64))] := A_31
                show Go B n0 _ h_27 2 4 114 #[.val (.long p0), .second, .val (.long p1), .second, .val (.long p2), .second, .val (.long p3), .second, .val (.long p4), .second, .val (.int p5), .val (.int (0 : Int32)), .val (.int b1), .val (.int b2), .val (.int b3), .val (.int b4), .val (.int b5), .val (.int b6), .val (.ref a_10), .unset, .unset, .unset, .unset, .unset] [(.ref a_28)]
                refine g_dup C at_114 rfl (pc' := 115) rfl ?_
                refine g_iconst C at_115 (v := (0 : Int32)) rfl (pc' := 116) rfl ?_
                refine g_lload C at_116 (v := p2) rfl (pc' := 118) rfl ?_
                refine g_lastore C f_37 (by decide) (i := 0) (by decide) (show 0 < 2 by decide) (w := (.long p2)) rfl ge_a_28 at_118 (pc' := 119) rfl ?_
                intro h_38 K_39 A_40
                have f_41 : Ary Z h_38 a_28 .long [(.long p2), (.long (0 : Int64))] := A_40
                refine g_dup C at_119 rfl (pc' := 120) rfl ?_
                refine g_iconst C at_120 (v := (1 : Int32)) rfl (pc' := 121) rfl ?_
                refine g_lload C at_121 (v := p3) rfl (pc' := 123) rfl ?_
                refine g_lastore C f_41 (by decide) (i := 1) (by decide) (show 1 < 2 by decide) (w := (.long p3)) rfl ge_a_28 at_123 (pc' := 124) rfl ?_
                intro h_42 K_43 A_44
                have f_45 : Ary Z h_42 a_28 .long [(.long p2), (.long p3)] := A_44
                refine g_astore C at_124 (v := (.ref a_28)) (L' := #[.val (.long p0), .second, .val (.long p1), .second, .val (.long p2), .second, .val (.long p3), .second, .val (.long p4), .second, .val (.int p5), .val (.int (0 : Int32)), .val (.int b1), .val (.int b2), .val (.int b3), .val (.int b4), .val (.int b5), .val (.int b6), .val (.ref a_10), .val (.ref a_28), .unset, .unset, .unset, .unset]) rfl rfl (pc' := 126) rfl ?_
                refine g_iconst C at_126 (v := (2 : Int32)) rfl (pc' := 127) rfl ?_
                have f_46 := (((f_24.ext E_30).keep K_39 (ninS ne_32 nin0)).keep K_43 (ninS ne_32 nin0))
                have f_47 := (((f_25.ext E_30).keep K_39).keep K_43)
                have f_48 := (((f_26.ext E_30).keep K_39).keep K_43)
                refine g_newarray C (own_w hw 0 rfl) (ty := .long) rfl (by decide) (cap := 2) (by decide) (by decide) (by decide) (by decide) at_127 (pc' := 129) rfl ?_
                intro h_49 a_50 g_51 E_52 A_53
                have ne_54 : a_10 ≠ a_50 := ne_new f_46.lt g_51
                have ne_55 : a_28 ≠ a_50 := ne_new f_45.lt g_51
                have ne_56 : e_READ ≠ a_50 := ne_new f_47.lt g_51
                have ne_57 : e_WRITE ≠ a_50 := ne_new f_48.lt g_51
                have f_58 := (Nat.le_trans (Nat.le_trans (Nat.le_trans f_35 E_30.1) K_39.1) K_43.1)
                have ge_a_50 : n0 ≤ a_50 := Nat.le_trans f_58 (Nat.le_of_eq g_51.symm)
                have f_59 := (Nat.le_trans (Nat.le_trans (Nat.le_trans f_36 E_30.1) K_39.1) K_43.1)
                have gs_a_50 : h0.size ≤ a_50 := Nat.le_trans f_59 (Nat.le_of_eq g_51.symm)
                have f_60 : Ary Z h_49 a_50 .long [(.long (0 : Int64)), (.long (0 : Int64))] := A_53
                show Go B n0 _ h_49 3 6 129 #[.val (.long p0), .second, .val (.long p1), .second, .val (.long p2), .second, .val (.long p3), .second, .val (.long p4), .second, .val (.int p5), .val (.int (0 : Int32)), .val (.int b1), .val (.int b2), .val (.int b3), .val (.int b4), .val (.int b5), .val (.int b6), .val (.ref a_10), .val (.ref a_28), .unset, .unset, .unset, .unset] [(.ref a_50)]
                refine g_dup C at_129 rfl (pc' := 130) rfl ?_
                refine g_iconst C at_130 (v := (0 : Int32)) rfl (pc' := 131) rfl ?_
                have t_61 : ∀ (qa : Int64), Go B n0 (fun v h => v = some (.int 1)) h_49 3 6 142 #[.val (.long p0), .second, .val (.long p1), .second, .val (.long p2), .second, .val (.long p3), .second, .val (.long p4), .second, .val (.int p5), .val (.int (0 : Int32)), .val (.int b1), .val (.int b2), .val (.int b3), .val (.int b4), .val (.int b5), .val (.int b6), .val (.ref a_10), .val (.ref a_28), .unset, .unset, .unset, .unset] [(.long qa), (.int (0 : Int32)), (.ref a_50), (.ref a_50)] := by
                  intro qa
                  refine g_lastore C f_60 (by decide) (i := 0) (by decide) (show 0 < 2 by decide) (w := (.long qa)) rfl ge_a_50 at_142 (pc' := 143) rfl ?_
                  intro h_62 K_63 A_64
                  have f_65 : Ary Z h_62 a_50 .long [(.long qa), (.long (0 : Int64))] := A_64
                  refine g_dup C at_143 rfl (pc' := 144) rfl ?_
                  refine g_iconst C at_144 (v := (1 : Int32)) rfl (pc' := 145) rfl ?_
                  have t_66 : ∀ (qb : Int64), Go B n0 (fun v h => v = some (.int 1)) h_62 3 6 156 #[.val (.long p0), .second, .val (.long p1), .second, .val (.long p2), .second, .val (.long p3), .second, .val (.long p4), .second, .val (.int p5), .val (.int (0 : Int32)), .val (.int b1), .val (.int b2), .val (.int b3), .val (.int b4), .val (.int b5), .val (.int b6), .val (.ref a_10), .val (.ref a_28), .unset, .unset, .unset, .unset] [(.long qb), (.int (1 : Int32)), (.ref a_50), (.ref a_50)] := by
                    intro qb
                    refine g_lastore C f_65 (by decide) (i := 1) (by decide) (show 1 < 2 by decide) (w := (.long qb)) rfl ge_a_50 at_156 (pc' := 157) rfl ?_
                    intro h_67 K_68 A_69
                    have f_70 : Ary Z h_67 a_50 .long [(.long qa), (.long qb)] := A_69
                    refine g_astore C at_157 (v := (.ref a_50)) (L' := #[.val (.long p0), .second, .val (.long p1), .second, .val (.long p2), .second, .val (.long p3), .second, .val (.long p4), .second, .val (.int p5), .val (.int (0 : Int32)), .val (.int b1), .val (.int b2), .val (.int b3), .val (.int b4), .val (.int b5), .val (.int b6), .val (.ref a_10), .val (.ref a_28), .val (.ref a_50), .unset, .unset, .unset]) rfl rfl (pc' := 159) rfl ?_
                    have f_71 := (((f_46.ext E_52).keep K_63 (ninS ne_54 nin0)).keep K_68 (ninS ne_54 nin0))
                    have f_72 := (((f_45.ext E_52).keep K_63 (ninS ne_55 nin0)).keep K_68 (ninS ne_55 nin0))
                    have f_73 := (((f_47.ext E_52).keep K_63).keep K_68)
                    have f_74 := (((f_48.ext E_52).keep K_63).keep K_68)
                    refine g_new C (own_w hw 1 rfl) (own_w hw 2 rfl) (own_w hw 3 rfl) (by decide) (by decide) at_159 (pc' := 162) rfl ?_
                    intro h_75 a_76 g_77 E_78 A_79 D_80
                    have ne_81 : a_10 ≠ a_76 := ne_new f_71.lt g_77
                    have ne_82 : a_28 ≠ a_76 := ne_new f_72.lt g_77
                    have ne_83 : a_50 ≠ a_76 := ne_new f_70.lt g_77
                    have ne_84 : e_READ ≠ a_76 := ne_new f_73.lt g_77
                    have ne_85 : e_WRITE ≠ a_76 := ne_new f_74.lt g_77
                    have f_86 := (Nat.le_trans (Nat.le_trans (Nat.le_trans f_58 E_52.1) K_63.1) K_68.1)
                    have ge_a_76 : n0 ≤ a_76 := Nat.le_trans f_86 (Nat.le_of_eq g_77.symm)
                    have f_87 := (Nat.le_trans (Nat.le_trans (Nat.le_trans f_59 E_52.1) K_63.1) K_68.1)
                    have gs_a_76 : h0.size ≤ a_76 := Nat.le_trans f_87 (Nat.le_of_eq g_77.symm)
                    have f_88 : Fld Z h_75 a_76 "com/example/vestalia/vestalia/locks/StepTrace" "kinds" "[Lcom/example/vestalia/vestalia/model/Step$Kind;" .null := D_80 (Or.inl (own_w hw 13 rfl)) (ty := (.array (.object "com/example/vestalia/vestalia/model/Step$Kind"))) (by decide)
                    have f_89 : Fld Z h_75 a_76 "com/example/vestalia/vestalia/locks/StepTrace" "slots" "[I" .null := D_80 (Or.inl (own_w hw 16 rfl)) (ty := (.array .int)) (by decide)
                    have f_90 : Fld Z h_75 a_76 "com/example/vestalia/vestalia/locks/StepTrace" "values" "[J" .null := D_80 (Or.inl (own_w hw 18 rfl)) (ty := (.array .long)) (by decide)
                    have f_91 : Fld Z h_75 a_76 "com/example/vestalia/vestalia/locks/StepTrace" "written" "[I" .null := D_80 (Or.inl (own_w hw 20 rfl)) (ty := (.array .int)) (by decide)
                    have f_92 : Fld Z h_75 a_76 "com/example/vestalia/vestalia/locks/StepTrace" "width" "I" (.int (0 : Int32)) := D_80 (Or.inr (own_w hw 22 rfl)) (ty := .int) (by decide)
                    have f_93 : Fld Z h_75 a_76 "com/example/vestalia/vestalia/locks/StepTrace" "start" "[J" .null := D_80 (Or.inr (own_w hw 24 rfl)) (ty := (.array .long)) (by decide)
                    have f_94 : Fld Z h_75 a_76 "com/example/vestalia/vestalia/locks/StepTrace" "end" "[J" .null := D_80 (Or.inr (own_w hw 26 rfl)) (ty := (.array .long)) (by decide)
                    have f_95 : Fld Z h_75 a_76 "com/example/vestalia/vestalia/locks/StepTrace" "before" "[J" .null := D_80 (Or.inl (own_w hw 28 rfl)) (ty := (.array .long)) (by decide)
                    have f_96 : Fld Z h_75 a_76 "com/example/vestalia/vestalia/locks/StepTrace" "length" "I" (.int (0 : Int32)) := D_80 (Or.inl (own_w hw 39 rfl)) (ty := .int) (by decide)
                    have f_97 : Fld Z h_75 a_76 "com/example/vestalia/vestalia/locks/StepTrace" "whole" "Z" (.int (0 : Int32)) := D_80 (Or.inl (own_w hw 41 rfl)) (ty := .boolean) (by decide)
                    show Go B n0 _ h_75 4 16 162 #[.val (.long p0), .second, .val (.long p1), .second, .val (.long p2), .second, .val (.long p3), .second, .val (.long p4), .second, .val (.int p5), .val (.int (0 : Int32)), .val (.int b1), .val (.int b2), .val (.int b3), .val (.int b4), .val (.int b5), .val (.int b6), .val (.ref a_10), .val (.ref a_28), .val (.ref a_50), .unset, .unset, .unset] [(.ref a_76)]
                    refine g_dup C at_162 rfl (pc' := 163) rfl ?_
                    refine g_iload C at_163 (v := (0 : Int32)) rfl (pc' := 165) rfl ?_
                    have f_98 := (Nat.le_trans f_86 E_78.1)
                    have f_99 := (f_71.ext E_78)
                    have f_100 := (f_72.ext E_78)
                    have f_101 := (f_70.ext E_78)
                    have f_102 := (f_73.ext E_78)
                    have f_103 := (f_74.ext E_78)
                    have f_104 := (Nat.le_trans f_87 E_78.1)
                    refine g_special C (a := a_76) rfl (own_w hw 4 rfl) (own_w hw 5 rfl) (own_w hw 3 rfl) (own_w hw 6 rfl) (by decide) (rm_init0 l Z a0 hw n0 a_76 h_75 f_98 A_79 f_88 f_89 f_90 f_91 f_92 f_93 f_94 f_95 f_96 f_97 ge_a_76) (st := [(.ref a_76)]) [(.int (0 : Int32))] rfl rfl own_pd_1_init rfl rfl (by decide) (W := 1) (Nat.le_of_eq rfl) (by decide) (by decide) (by decide) at_165 (pc' := 168) rfl ?_
                    intro v_107 h_105 q_106
                    obtain ⟨rfl, K_120, b_108, b_109, b_110, b_111, b_112, b_113, ⟨le_114, le_115, le_116, le_117, le_118, le_119⟩, di_121, tr_122⟩ := q_106
                    have ne_123 : a_10 ≠ b_108 := ne_ge f_99.lt le_114
                    have ne_124 : a_28 ≠ b_108 := ne_ge f_100.lt le_114
                    have ne_125 : a_50 ≠ b_108 := ne_ge f_101.lt le_114
                    have ne_126 : a_76 ≠ b_108 := ne_ge A_79.lt le_114
                    have ne_127 : e_READ ≠ b_108 := ne_ge f_102.lt le_114
                    have ne_128 : e_WRITE ≠ b_108 := ne_ge f_103.lt le_114
                    have ge_b_108 : n0 ≤ b_108 := Nat.le_trans f_98 le_114
                    have gs_b_108 : h0.size ≤ b_108 := Nat.le_trans f_104 le_114
                    have ne_129 : a_10 ≠ b_109 := ne_ge f_99.lt le_115
                    have ne_130 : a_28 ≠ b_109 := ne_ge f_100.lt le_115
                    have ne_131 : a_50 ≠ b_109 := ne_ge f_101.lt le_115
                    have ne_132 : a_76 ≠ b_109 := ne_ge A_79.lt le_115
                    have ne_133 : e_READ ≠ b_109 := ne_ge f_102.lt le_115
                    have ne_134 : e_WRITE ≠ b_109 := ne_ge f_103.lt le_115
                    have ge_b_109 : n0 ≤ b_109 := Nat.le_trans f_98 le_115
                    have gs_b_109 : h0.size ≤ b_109 := Nat.le_trans f_104 le_115
                    have ne_135 : a_10 ≠ b_110 := ne_ge f_99.lt le_116
                    have ne_136 : a_28 ≠ b_110 := ne_ge f_100.lt le_116
                    have ne_137 : a_50 ≠ b_110 := ne_ge f_101.lt le_116
                    have ne_138 : a_76 ≠ b_110 := ne_ge A_79.lt le_116
                    have ne_139 : e_READ ≠ b_110 := ne_ge f_102.lt le_116
                    have ne_140 : e_WRITE ≠ b_110 := ne_ge f_103.lt le_116
                    have ge_b_110 : n0 ≤ b_110 := Nat.le_trans f_98 le_116
                    have gs_b_110 : h0.size ≤ b_110 := Nat.le_trans f_104 le_116
                    have ne_141 : a_10 ≠ b_111 := ne_ge f_99.lt le_117
                    have ne_142 : a_28 ≠ b_111 := ne_ge f_100.lt le_117
                    have ne_143 : a_50 ≠ b_111 := ne_ge f_101.lt le_117
                    have ne_144 : a_76 ≠ b_111 := ne_ge A_79.lt le_117
                    have ne_145 : e_READ ≠ b_111 := ne_ge f_102.lt le_117
                    have ne_146 : e_WRITE ≠ b_111 := ne_ge f_103.lt le_117
                    have ge_b_111 : n0 ≤ b_111 := Nat.le_trans f_98 le_117
                    have gs_b_111 : h0.size ≤ b_111 := Nat.le_trans f_104 le_117
                    have ne_147 : a_10 ≠ b_112 := ne_ge f_99.lt le_118
                    have ne_148 : a_28 ≠ b_112 := ne_ge f_100.lt le_118
                    have ne_149 : a_50 ≠ b_112 := ne_ge f_101.lt le_118
                    have ne_150 : a_76 ≠ b_112 := ne_ge A_79.lt le_118
                    have ne_151 : e_READ ≠ b_112 := ne_ge f_102.lt le_118
                    have ne_152 : e_WRITE ≠ b_112 := ne_ge f_103.lt le_118
                    have ge_b_112 : n0 ≤ b_112 := Nat.le_trans f_98 le_118
                    have gs_b_112 : h0.size ≤ b_112 := Nat.le_trans f_104 le_118
                    have ne_153 : a_10 ≠ b_113 := ne_ge f_99.lt le_119
                    have ne_154 : a_28 ≠ b_113 := ne_ge f_100.lt le_119
                    have ne_155 : a_50 ≠ b_113 := ne_ge f_101.lt le_119
                    have ne_156 : a_76 ≠ b_113 := ne_ge A_79.lt le_119
                    have ne_157 : e_READ ≠ b_113 := ne_ge f_102.lt le_119
                    have ne_158 : e_WRITE ≠ b_113 := ne_ge f_103.lt le_119
                    have ge_b_113 : n0 ≤ b_113 := Nat.le_trans f_98 le_119
                    have gs_b_113 : h0.size ≤ b_113 := Nat.le_trans f_104 le_119
                    show Go B n0 _ h_105 11 40 168 #[.val (.long p0), .second, .val (.long p1), .second, .val (.long p2), .second, .val (.long p3), .second, .val (.long p4), .second, .val (.int p5), .val (.int (0 : Int32)), .val (.int b1), .val (.int b2), .val (.int b3), .val (.int b4), .val (.int b5), .val (.int b6), .val (.ref a_10), .val (.ref a_28), .val (.ref a_50), .unset, .unset, .unset] [(.ref a_76)]
                    refine g_astore C at_168 (v := (.ref a_76)) (L' := #[.val (.long p0), .second, .val (.long p1), .second, .val (.long p2), .second, .val (.long p3), .second, .val (.long p4), .second, .val (.int p5), .val (.int (0 : Int32)), .val (.int b1), .val (.int b2), .val (.int b3), .val (.int b4), .val (.int b5), .val (.int b6), .val (.ref a_10), .val (.ref a_28), .val (.ref a_50), .val (.ref a_76), .unset, .unset]) rfl rfl (pc' := 170) rfl ?_
                    refine g_aload C at_170 (v := (.ref a_76)) rfl rfl (pc' := 172) rfl ?_
                    refine g_aload C at_172 (v := (.ref a_10)) rfl rfl (pc' := 174) rfl ?_
                    have f_159 := (f_99.keep K_120 (ninS ne_81 nin0))
                    have f_160 := (Nat.le_trans f_98 K_120.1)
                    refine g_virtual C (own_w hw 29 rfl) (own_w hw 30 rfl) (own_w hw 32 rfl) (own_w hw 31 rfl) (own_w hw 3 rfl) (own_w hw 33 rfl) (notFace_of_selects (args := #[]) (mvT C.2.2.2.2.1 (own_w hw 32 rfl))) (by decide) tr_122.1 (rm_begin0 l Z a0 hw n0 a_76 b_108 b_109 b_110 b_111 b_112 b_113 a_10 (0 : Int32) (0 : Int32) .null (0 : Int32) (0 : Int64) p0 p1  [] [] h_105 f_160 tr_122 di_121 ⟨ne_126, ne_132, ne_138, ne_144, ne_150, ne_156⟩ ⟨ge_b_108, ge_b_109, ge_b_110, ge_b_111, ge_b_112, ge_b_113, ge_a_76⟩ f_159 ne_141 ne_81) (st := []) [(.ref a_10)] rfl rfl own_pd_6_begin rfl rfl (by decide) (W := 0) (Nat.le_of_eq rfl) (by decide) (by decide) (by decide) at_174 (pc' := 177) rfl ?_
                    intro v_163 h_161 q_162
                    obtain ⟨rfl, K_164, tr_165⟩ := q_162
                    show Go B n0 _ h_161 11 40 177 #[.val (.long p0), .second, .val (.long p1), .second, .val (.long p2), .second, .val (.long p3), .second, .val (.long p4), .second, .val (.int p5), .val (.int (0 : Int32)), .val (.int b1), .val (.int b2), .val (.int b3), .val (.int b4), .val (.int b5), .val (.int b6), .val (.ref a_10), .val (.ref a_28), .val (.ref a_50), .val (.ref a_76), .unset, .unset] []
                    refine g_iload C at_177 (v := b5) rfl (pc' := 179) rfl ?_
                    by_cases hb_166 : b5 = (0 : Int32)
                    · refine g_if_y C at_179 (Jvm.Free.XT.i0_eq_t hb_166) (pc' := 208) (by decide) (by decide) ?_
                      refine g_iload C at_208 (v := b3) rfl (pc' := 210) rfl ?_
                      by_cases hb_167 : b3 = (0 : Int32)
                      · refine g_if_y C at_210 (Jvm.Free.XT.i0_eq_t hb_167) (pc' := 220) (by decide) (by decide) ?_
                        refine g_iload C at_220 (v := b4) rfl (pc' := 222) rfl ?_
                        by_cases hb_168 : b4 = (0 : Int32)
                        · refine g_if_y C at_222 (Jvm.Free.XT.i0_eq_t hb_168) (pc' := 232) (by decide) (by decide) ?_
                          refine g_aload C at_232 (v := (.ref a_76)) rfl rfl (pc' := 234) rfl ?_
                          refine g_aload C at_234 (v := (.ref a_50)) rfl rfl (pc' := 236) rfl ?_
                          have f_169 := ((f_101.keep K_120 (ninS ne_83 nin0)).keep K_164 (ninS ne_83 (ninS ne_143 nin0)))
                          have f_170 := (Nat.le_trans f_160 K_164.1)
                          refine g_virtual C (own_w hw 42 rfl) (own_w hw 43 rfl) (own_w hw 45 rfl) (own_w hw 44 rfl) (own_w hw 3 rfl) (own_w hw 46 rfl) (notFace_of_selects (args := #[]) (mvT C.2.2.2.2.1 (own_w hw 45 rfl))) (by decide) tr_165.1 (rm_sf00 l Z a0 hw n0 a_76 b_108 b_109 b_110 b_111 b_112 b_113 a_50 (0 : Int32) .null (0 : Int32) (0 : Int64) qa qb  [] [] h_161 f_170 tr_165 f_169) (st := []) [(.ref a_50)] rfl rfl own_pd_7_startsFrom rfl rfl (by decide) (W := 0) (Nat.le_of_eq rfl) (by decide) (by decide) (by decide) at_236 (pc' := 239) rfl ?_
                          intro v_173 h_171 q_172
                          obtain ⟨rfl, rfl⟩ := q_172
                          show Go B n0 _ h_161 11 40 239 #[.val (.long p0), .second, .val (.long p1), .second, .val (.long p2), .second, .val (.long p3), .second, .val (.long p4), .second, .val (.int p5), .val (.int (0 : Int32)), .val (.int b1), .val (.int b2), .val (.int b3), .val (.int b4), .val (.int b5), .val (.int b6), .val (.ref a_10), .val (.ref a_28), .val (.ref a_50), .val (.ref a_76), .unset, .unset] [(.int (0 : Int32))]
                          refine g_istore C at_239 (v := (0 : Int32)) (L' := #[.val (.long p0), .second, .val (.long p1), .second, .val (.long p2), .second, .val (.long p3), .second, .val (.long p4), .second, .val (.int p5), .val (.int (0 : Int32)), .val (.int b1), .val (.int b2), .val (.int b3), .val (.int b4), .val (.int b5), .val (.int b6), .val (.ref a_10), .val (.ref a_28), .val (.ref a_50), .val (.ref a_76), .val (.int (0 : Int32)), .unset]) rfl (pc' := 241) rfl ?_
                          refine g_iload C at_241 (v := b3) rfl (pc' := 243) rfl ?_
                          refine g_if_y C at_243 (Jvm.Free.XT.i0_eq_t hb_167) (pc' := 285) (by decide) (by decide) ?_
                          refine g_iconst C at_285 (v := (0 : Int32)) rfl (pc' := 286) rfl ?_
                          refine g_istore C at_286 (v := (0 : Int32)) (L' := #[.val (.long p0), .second, .val (.long p1), .second, .val (.long p2), .second, .val (.long p3), .second, .val (.long p4), .second, .val (.int p5), .val (.int (0 : Int32)), .val (.int b1), .val (.int b2), .val (.int b3), .val (.int b4), .val (.int b5), .val (.int b6), .val (.ref a_10), .val (.ref a_28), .val (.ref a_50), .val (.ref a_76), .val (.int (0 : Int32)), .val (.int (0 : Int32))]) rfl (pc' := 288) rfl ?_
                          refine g_iload C at_288 (v := (0 : Int32)) rfl (pc' := 290) rfl ?_
                          refine g_iload C at_290 (v := (0 : Int32)) rfl (pc' := 292) rfl ?_
                          refine g_icmp_n C at_292 (Jvm.Free.XT.ii_ne_f (by decide)) (pc' := 295) rfl ?_
                          refine g_iconst C at_295 (v := (1 : Int32)) rfl (pc' := 296) rfl ?_
                          refine g_goto C at_296 (pc' := 300) (by decide) (by decide) ?_
                          refine g_ret C (v := (.int (1 : Int32))) (ty := .boolean) rfl rfl (Or.inl ⟨rfl, Or.inr (Or.inl rfl), _, rfl⟩) at_300 (by decide) (by decide) ?_
                          rfl
                        · refine g_if_n C at_222 (Jvm.Free.XT.i0_eq_f hb_168) (pc' := 225) rfl ?_
                          refine g_aload C at_225 (v := (.ref a_76)) rfl rfl (pc' := 227) rfl ?_
                          refine g_aload C at_227 (v := (.ref a_10)) rfl rfl (pc' := 229) rfl ?_
                          have f_174 := (f_159.keep K_164 (ninS ne_81 (ninS ne_141 nin0)))
                          have f_175 := (Nat.le_trans f_160 K_164.1)
                          refine g_virtual C (own_w hw 29 rfl) (own_w hw 30 rfl) (own_w hw 32 rfl) (own_w hw 31 rfl) (own_w hw 3 rfl) (own_w hw 33 rfl) (notFace_of_selects (args := #[]) (mvT C.2.2.2.2.1 (own_w hw 32 rfl))) (by decide) tr_165.1 (rm_begin0 l Z a0 hw n0 a_76 b_108 b_109 b_110 b_111 b_112 b_113 a_10 (0 : Int32) (0 : Int32) .null (0 : Int32) (0 : Int64) p0 p1  [] [] h_161 f_175 tr_165 di_121 ⟨ne_126, ne_132, ne_138, ne_144, ne_150, ne_156⟩ ⟨ge_b_108, ge_b_109, ge_b_110, ge_b_111, ge_b_112, ge_b_113, ge_a_76⟩ f_174 ne_141 ne_81) (st := []) [(.ref a_10)] rfl rfl own_pd_6_begin rfl rfl (by decide) (W := 0) (Nat.le_of_eq rfl) (by decide) (by decide) (by decide) at_229 (pc' := 232) rfl ?_
                          intro v_178 h_176 q_177
                          obtain ⟨rfl, K_179, tr_180⟩ := q_177
                          show Go B n0 _ h_176 11 40 232 #[.val (.long p0), .second, .val (.long p1), .second, .val (.long p2), .second, .val (.long p3), .second, .val (.long p4), .second, .val (.int p5), .val (.int (0 : Int32)), .val (.int b1), .val (.int b2), .val (.int b3), .val (.int b4), .val (.int b5), .val (.int b6), .val (.ref a_10), .val (.ref a_28), .val (.ref a_50), .val (.ref a_76), .unset, .unset] []
                          refine g_aload C at_232 (v := (.ref a_76)) rfl rfl (pc' := 234) rfl ?_
                          refine g_aload C at_234 (v := (.ref a_50)) rfl rfl (pc' := 236) rfl ?_
                          have f_181 := (((f_101.keep K_120 (ninS ne_83 nin0)).keep K_164 (ninS ne_83 (ninS ne_143 nin0))).keep K_179 (ninS ne_83 (ninS ne_143 nin0)))
                          have f_182 := (Nat.le_trans f_175 K_179.1)
                          refine g_virtual C (own_w hw 42 rfl) (own_w hw 43 rfl) (own_w hw 45 rfl) (own_w hw 44 rfl) (own_w hw 3 rfl) (own_w hw 46 rfl) (notFace_of_selects (args := #[]) (mvT C.2.2.2.2.1 (own_w hw 45 rfl))) (by decide) tr_180.1 (rm_sf00 l Z a0 hw n0 a_76 b_108 b_109 b_110 b_111 b_112 b_113 a_50 (0 : Int32) .null (0 : Int32) (0 : Int64) qa qb  [] [] h_176 f_182 tr_180 f_181) (st := []) [(.ref a_50)] rfl rfl own_pd_7_startsFrom rfl rfl (by decide) (W := 0) (Nat.le_of_eq rfl) (by decide) (by decide) (by decide) at_236 (pc' := 239) rfl ?_
                          intro v_185 h_183 q_184
                          obtain ⟨rfl, rfl⟩ := q_184
                          show Go B n0 _ h_176 11 40 239 #[.val (.long p0), .second, .val (.long p1), .second, .val (.long p2), .second, .val (.long p3), .second, .val (.long p4), .second, .val (.int p5), .val (.int (0 : Int32)), .val (.int b1), .val (.int b2), .val (.int b3), .val (.int b4), .val (.int b5), .val (.int b6), .val (.ref a_10), .val (.ref a_28), .val (.ref a_50), .val (.ref a_76), .unset, .unset] [(.int (0 : Int32))]
                          refine g_istore C at_239 (v := (0 : Int32)) (L' := #[.val (.long p0), .second, .val (.long p1), .second, .val (.long p2), .second, .val (.long p3), .second, .val (.long p4), .second, .val (.int p5), .val (.int (0 : Int32)), .val (.int b1), .val (.int b2), .val (.int b3), .val (.int b4), .val (.int b5), .val (.int b6), .val (.ref a_10), .val (.ref a_28), .val (.ref a_50), .val (.ref a_76), .val (.int (0 : Int32)), .unset]) rfl (pc' := 241) rfl ?_
                          refine g_iload C at_241 (v := b3) rfl (pc' := 243) rfl ?_
                          refine g_if_y C at_243 (Jvm.Free.XT.i0_eq_t hb_167) (pc' := 285) (by decide) (by decide) ?_
                          refine g_iconst C at_285 (v := (0 : Int32)) rfl (pc' := 286) rfl ?_
                          refine g_istore C at_286 (v := (0 : Int32)) (L' := #[.val (.long p0), .second, .val (.long p1), .second, .val (.long p2), .second, .val (.long p3), .second, .val (.long p4), .second, .val (.int p5), .val (.int (0 : Int32)), .val (.int b1), .val (.int b2), .val (.int b3), .val (.int b4), .val (.int b5), .val (.int b6), .val (.ref a_10), .val (.ref a_28), .val (.ref a_50), .val (.ref a_76), .val (.int (0 : Int32)), .val (.int (0 : Int32))]) rfl (pc' := 288) rfl ?_
                          refine g_iload C at_288 (v := (0 : Int32)) rfl (pc' := 290) rfl ?_
                          refine g_iload C at_290 (v := (0 : Int32)) rfl (pc' := 292) rfl ?_
                          refine g_icmp_n C at_292 (Jvm.Free.XT.ii_ne_f (by decide)) (pc' := 295) rfl ?_
                          refine g_iconst C at_295 (v := (1 : Int32)) rfl (pc' := 296) rfl ?_
                          refine g_goto C at_296 (pc' := 300) (by decide) (by decide) ?_
                          refine g_ret C (v := (.int (1 : Int32))) (ty := .boolean) rfl rfl (Or.inl ⟨rfl, Or.inr (Or.inl rfl), _, rfl⟩) at_300 (by decide) (by decide) ?_
                          rfl
                      · refine g_if_n C at_210 (Jvm.Free.XT.i0_eq_f hb_167) (pc' := 213) rfl ?_
                        refine g_aload C at_213 (v := (.ref a_76)) rfl rfl (pc' := 215) rfl ?_
                        refine g_aload C at_215 (v := (.ref a_28)) rfl rfl (pc' := 217) rfl ?_
                        have f_186 := ((f_100.keep K_120 (ninS ne_82 nin0)).keep K_164 (ninS ne_82 (ninS ne_142 nin0)))
                        have f_187 := ((((((((((((O.ext E_12).keep K_18 (allS ge_a_10 all0)).keep K_22 (allS ge_a_10 all0)).ext E_30).keep K_39 (allS ge_a_28 all0)).keep K_43 (allS ge_a_28 all0)).ext E_52).keep K_63 (allS ge_a_50 all0)).keep K_68 (allS ge_a_50 all0)).ext E_78).keep K_120 (allS ge_a_76 all0)).keep K_164 (allS ge_a_76 (allS ge_b_111 all0)))
                        have f_188 := (Nat.le_trans f_160 K_164.1)
                        refine g_virtual C (own_w hw 47 rfl) (own_w hw 48 rfl) (own_w hw 50 rfl) (own_w hw 49 rfl) (own_w hw 3 rfl) (own_w hw 51 rfl) (notFace_of_selects (args := #[]) (mvT C.2.2.2.2.1 (own_w hw 50 rfl))) (by decide) tr_165.1 (rm_end_0none l Z a0 hw n0 a_76 b_108 b_109 b_110 b_111 b_112 b_113 a_28 (0 : Int32) (0 : Int32) (0 : Int64) p2 p3  [] [] e_WRITE e_READ h_161 f_188 tr_165 di_121 ⟨ne_126, ne_132, ne_138, ne_144, ne_150, ne_156⟩ ⟨ge_b_108, ge_b_109, ge_b_110, ge_b_111, ge_b_112, ge_b_113, ge_a_76⟩ f_186 ne_148 ne_82 en f_187) (st := []) [(.ref a_28)] rfl rfl own_pd_6_end rfl rfl (by decide) (W := 0) (Nat.le_of_eq rfl) (by decide) (by decide) (by decide) at_217 (pc' := 220) rfl ?_
                        intro v_191 h_189 q_190
                        obtain ⟨rfl, K_192, tr_193⟩ := q_190
                        show Go B n0 _ h_189 13 40 220 #[.val (.long p0), .second, .val (.long p1), .second, .val (.long p2), .second, .val (.long p3), .second, .val (.long p4), .second, .val (.int p5), .val (.int (0 : Int32)), .val (.int b1), .val (.int b2), .val (.int b3), .val (.int b4), .val (.int b5), .val (.int b6), .val (.ref a_10), .val (.ref a_28), .val (.ref a_50), .val (.ref a_76), .unset, .unset] []
                        refine g_iload C at_220 (v := b4) rfl (pc' := 222) rfl ?_
                        by_cases hb_194 : b4 = (0 : Int32)
                        · refine g_if_y C at_222 (Jvm.Free.XT.i0_eq_t hb_194) (pc' := 232) (by decide) (by decide) ?_
                          refine g_aload C at_232 (v := (.ref a_76)) rfl rfl (pc' := 234) rfl ?_
                          refine g_aload C at_234 (v := (.ref a_50)) rfl rfl (pc' := 236) rfl ?_
                          have f_195 := (((f_101.keep K_120 (ninS ne_83 nin0)).keep K_164 (ninS ne_83 (ninS ne_143 nin0))).keep K_192 (ninS ne_83 (ninS ne_149 nin0)))
                          have f_196 := (Nat.le_trans f_188 K_192.1)
                          refine g_virtual C (own_w hw 42 rfl) (own_w hw 43 rfl) (own_w hw 45 rfl) (own_w hw 44 rfl) (own_w hw 3 rfl) (own_w hw 46 rfl) (notFace_of_selects (args := #[]) (mvT C.2.2.2.2.1 (own_w hw 45 rfl))) (by decide) tr_193.1 (rm_sf01 l Z a0 hw n0 a_76 b_108 b_109 b_110 b_111 b_112 b_113 a_50 (0 : Int32) .null (0 : Int32) (0 : Int64) qa qb  [] [] h_189 f_196 tr_193 f_195) (st := []) [(.ref a_50)] rfl rfl own_pd_7_startsFrom rfl rfl (by decide) (W := 0) (Nat.le_of_eq rfl) (by decide) (by decide) (by decide) at_236 (pc' := 239) rfl ?_
                          intro v_199 h_197 q_198
                          obtain ⟨rfl, rfl⟩ := q_198
                          show Go B n0 _ h_189 13 40 239 #[.val (.long p0), .second, .val (.long p1), .second, .val (.long p2), .second, .val (.long p3), .second, .val (.long p4), .second, .val (.int p5), .val (.int (0 : Int32)), .val (.int b1), .val (.int b2), .val (.int b3), .val (.int b4), .val (.int b5), .val (.int b6), .val (.ref a_10), .val (.ref a_28), .val (.ref a_50), .val (.ref a_76), .unset, .unset] [(.int (1 : Int32))]
                          refine g_istore C at_239 (v := (1 : Int32)) (L' := #[.val (.long p0), .second, .val (.long p1), .second, .val (.long p2), .second, .val (.long p3), .second, .val (.long p4), .second, .val (.int p5), .val (.int (0 : Int32)), .val (.int b1), .val (.int b2), .val (.int b3), .val (.int b4), .val (.int b5), .val (.int b6), .val (.ref a_10), .val (.ref a_28), .val (.ref a_50), .val (.ref a_76), .val (.int (1 : Int32)), .unset]) rfl (pc' := 241) rfl ?_
                          refine g_iload C at_241 (v := b3) rfl (pc' := 243) rfl ?_
                          refine g_if_n C at_243 (Jvm.Free.XT.i0_eq_f hb_167) (pc' := 246) rfl ?_
                          refine g_iload C at_246 (v := b4) rfl (pc' := 248) rfl ?_
                          refine g_if_n C at_248 (Jvm.Free.XT.i0_ne_f hb_194) (pc' := 251) rfl ?_
                          refine g_iload C at_251 (v := (0 : Int32)) rfl (pc' := 253) rfl ?_
                          refine g_iconst C at_253 (v := (1 : Int32)) rfl (pc' := 254) rfl ?_
                          refine g_icmp_y C at_254 (Jvm.Free.XT.ii_lt_t (by decide)) (pc' := 266) (by decide) (by decide) ?_
                          refine g_iload C at_266 (v := (0 : Int32)) rfl (pc' := 268) rfl ?_
                          refine g_iconst C at_268 (v := (2 : Int32)) rfl (pc' := 269) rfl ?_
                          refine g_icmp_y C at_269 (Jvm.Free.XT.ii_lt_t (by decide)) (pc' := 281) (by decide) (by decide) ?_
                          refine g_iconst C at_281 (v := (1 : Int32)) rfl (pc' := 282) rfl ?_
                          refine g_goto C at_282 (pc' := 286) (by decide) (by decide) ?_
                          refine g_istore C at_286 (v := (1 : Int32)) (L' := #[.val (.long p0), .second, .val (.long p1), .second, .val (.long p2), .second, .val (.long p3), .second, .val (.long p4), .second, .val (.int p5), .val (.int (0 : Int32)), .val (.int b1), .val (.int b2), .val (.int b3), .val (.int b4), .val (.int b5), .val (.int b6), .val (.ref a_10), .val (.ref a_28), .val (.ref a_50), .val (.ref a_76), .val (.int (1 : Int32)), .val (.int (1 : Int32))]) rfl (pc' := 288) rfl ?_
                          refine g_iload C at_288 (v := (1 : Int32)) rfl (pc' := 290) rfl ?_
                          refine g_iload C at_290 (v := (1 : Int32)) rfl (pc' := 292) rfl ?_
                          refine g_icmp_n C at_292 (Jvm.Free.XT.ii_ne_f (by decide)) (pc' := 295) rfl ?_
                          refine g_iconst C at_295 (v := (1 : Int32)) rfl (pc' := 296) rfl ?_
                          refine g_goto C at_296 (pc' := 300) (by decide) (by decide) ?_
                          refine g_ret C (v := (.int (1 : Int32))) (ty := .boolean) rfl rfl (Or.inl ⟨rfl, Or.inr (Or.inl rfl), _, rfl⟩) at_300 (by decide) (by decide) ?_
                          rfl
                        · refine g_if_n C at_222 (Jvm.Free.XT.i0_eq_f hb_194) (pc' := 225) rfl ?_
                          refine g_aload C at_225 (v := (.ref a_76)) rfl rfl (pc' := 227) rfl ?_
                          refine g_aload C at_227 (v := (.ref a_10)) rfl rfl (pc' := 229) rfl ?_
                          have f_200 := ((f_159.keep K_164 (ninS ne_81 (ninS ne_141 nin0))).keep K_192 (ninS ne_81 (ninS ne_147 nin0)))
                          have f_201 := (Nat.le_trans f_188 K_192.1)
                          refine g_virtual C (own_w hw 29 rfl) (own_w hw 30 rfl) (own_w hw 32 rfl) (own_w hw 31 rfl) (own_w hw 3 rfl) (own_w hw 33 rfl) (notFace_of_selects (args := #[]) (mvT C.2.2.2.2.1 (own_w hw 32 rfl))) (by decide) tr_193.1 (rm_begin0 l Z a0 hw n0 a_76 b_108 b_109 b_110 b_111 b_112 b_113 a_10 (0 : Int32) (1 : Int32) .null (0 : Int32) (0 : Int64) p0 p1  [] [] h_189 f_201 tr_193 di_121 ⟨ne_126, ne_132, ne_138, ne_144, ne_150, ne_156⟩ ⟨ge_b_108, ge_b_109, ge_b_110, ge_b_111, ge_b_112, ge_b_113, ge_a_76⟩ f_200 ne_141 ne_81) (st := []) [(.ref a_10)] rfl rfl own_pd_6_begin rfl rfl (by decide) (W := 0) (Nat.le_of_eq rfl) (by decide) (by decide) (by decide) at_229 (pc' := 232) rfl ?_
                          intro v_204 h_202 q_203
                          obtain ⟨rfl, K_205, tr_206⟩ := q_203
                          show Go B n0 _ h_202 13 40 232 #[.val (.long p0), .second, .val (.long p1), .second, .val (.long p2), .second, .val (.long p3), .second, .val (.long p4), .second, .val (.int p5), .val (.int (0 : Int32)), .val (.int b1), .val (.int b2), .val (.int b3), .val (.int b4), .val (.int b5), .val (.int b6), .val (.ref a_10), .val (.ref a_28), .val (.ref a_50), .val (.ref a_76), .unset, .unset] []
                          refine g_aload C at_232 (v := (.ref a_76)) rfl rfl (pc' := 234) rfl ?_
                          refine g_aload C at_234 (v := (.ref a_50)) rfl rfl (pc' := 236) rfl ?_
                          have f_207 := ((((f_101.keep K_120 (ninS ne_83 nin0)).keep K_164 (ninS ne_83 (ninS ne_143 nin0))).keep K_192 (ninS ne_83 (ninS ne_149 nin0))).keep K_205 (ninS ne_83 (ninS ne_143 nin0)))
                          have f_208 := (Nat.le_trans f_201 K_205.1)
                          refine g_virtual C (own_w hw 42 rfl) (own_w hw 43 rfl) (own_w hw 45 rfl) (own_w hw 44 rfl) (own_w hw 3 rfl) (own_w hw 46 rfl) (notFace_of_selects (args := #[]) (mvT C.2.2.2.2.1 (own_w hw 45 rfl))) (by decide) tr_206.1 (rm_sf00 l Z a0 hw n0 a_76 b_108 b_109 b_110 b_111 b_112 b_113 a_50 (0 : Int32) .null (0 : Int32) (0 : Int64) qa qb  [] [] h_202 f_208 tr_206 f_207) (st := []) [(.ref a_50)] rfl rfl own_pd_7_startsFrom rfl rfl (by decide) (W := 0) (Nat.le_of_eq rfl) (by decide) (by decide) (by decide) at_236 (pc' := 239) rfl ?_
                          intro v_211 h_209 q_210
                          obtain ⟨rfl, rfl⟩ := q_210
                          show Go B n0 _ h_202 13 40 239 #[.val (.long p0), .second, .val (.long p1), .second, .val (.long p2), .second, .val (.long p3), .second, .val (.long p4), .second, .val (.int p5), .val (.int (0 : Int32)), .val (.int b1), .val (.int b2), .val (.int b3), .val (.int b4), .val (.int b5), .val (.int b6), .val (.ref a_10), .val (.ref a_28), .val (.ref a_50), .val (.ref a_76), .unset, .unset] [(.int (0 : Int32))]
                          refine g_istore C at_239 (v := (0 : Int32)) (L' := #[.val (.long p0), .second, .val (.long p1), .second, .val (.long p2), .second, .val (.long p3), .second, .val (.long p4), .second, .val (.int p5), .val (.int (0 : Int32)), .val (.int b1), .val (.int b2), .val (.int b3), .val (.int b4), .val (.int b5), .val (.int b6), .val (.ref a_10), .val (.ref a_28), .val (.ref a_50), .val (.ref a_76), .val (.int (0 : Int32)), .unset]) rfl (pc' := 241) rfl ?_
                          refine g_iload C at_241 (v := b3) rfl (pc' := 243) rfl ?_
                          refine g_if_n C at_243 (Jvm.Free.XT.i0_eq_f hb_167) (pc' := 246) rfl ?_
                          refine g_iload C at_246 (v := b4) rfl (pc' := 248) rfl ?_
                          refine g_if_y C at_248 (Jvm.Free.XT.i0_ne_t hb_194) (pc' := 285) (by decide) (by decide) ?_
                          refine g_iconst C at_285 (v := (0 : Int32)) rfl (pc' := 286) rfl ?_
                          refine g_istore C at_286 (v := (0 : Int32)) (L' := #[.val (.long p0), .second, .val (.long p1), .second, .val (.long p2), .second, .val (.long p3), .second, .val (.long p4), .second, .val (.int p5), .val (.int (0 : Int32)), .val (.int b1), .val (.int b2), .val (.int b3), .val (.int b4), .val (.int b5), .val (.int b6), .val (.ref a_10), .val (.ref a_28), .val (.ref a_50), .val (.ref a_76), .val (.int (0 : Int32)), .val (.int (0 : Int32))]) rfl (pc' := 288) rfl ?_
                          refine g_iload C at_288 (v := (0 : Int32)) rfl (pc' := 290) rfl ?_
                          refine g_iload C at_290 (v := (0 : Int32)) rfl (pc' := 292) rfl ?_
                          refine g_icmp_n C at_292 (Jvm.Free.XT.ii_ne_f (by decide)) (pc' := 295) rfl ?_
                          refine g_iconst C at_295 (v := (1 : Int32)) rfl (pc' := 296) rfl ?_
                          refine g_goto C at_296 (pc' := 300) (by decide) (by decide) ?_
                          refine g_ret C (v := (.int (1 : Int32))) (ty := .boolean) rfl rfl (Or.inl ⟨rfl, Or.inr (Or.inl rfl), _, rfl⟩) at_300 (by decide) (by decide) ?_
                          rfl
                    · refine g_if_n C at_179 (Jvm.Free.XT.i0_eq_f hb_166) (pc' := 182) rfl ?_
                      refine g_aload C at_182 (v := (.ref a_76)) rfl rfl (pc' := 184) rfl ?_
                      refine g_aload C at_184 (v := (.ref a_28)) rfl rfl (pc' := 186) rfl ?_
                      refine g_iload C at_186 (v := b6) rfl (pc' := 188) rfl ?_
                      by_cases hb_212 : b6 = (0 : Int32)
                      · refine g_if_y C at_188 (Jvm.Free.XT.i0_eq_t hb_212) (pc' := 197) (by decide) (by decide) ?_
                        have f_213 := ((((((((((((O.ext E_12).keep K_18 (allS ge_a_10 all0)).keep K_22 (allS ge_a_10 all0)).ext E_30).keep K_39 (allS ge_a_28 all0)).keep K_43 (allS ge_a_28 all0)).ext E_52).keep K_63 (allS ge_a_50 all0)).keep K_68 (allS ge_a_50 all0)).ext E_78).keep K_120 (allS ge_a_76 all0)).keep K_164 (allS ge_a_76 (allS ge_b_111 all0)))
                        refine g_getstatic C (host := "") (v := (.ref e_READ)) (Or.inl (own_w hw 83 rfl)) Via.refl (S_READ.ext f_213.2) at_197 (pc' := 200) rfl ?_
                        refine g_lload C at_200 (v := p4) rfl (pc' := 202) rfl ?_
                        refine g_l2i C (x := p4) at_202 (pc' := 203) rfl ?_
                        refine g_lload C at_203 (v := p4) rfl (pc' := 205) rfl ?_
                        have f_214 := ((f_100.keep K_120 (ninS ne_82 nin0)).keep K_164 (ninS ne_82 (ninS ne_142 nin0)))
                        have f_215 := (Nat.le_trans f_160 K_164.1)
                        refine g_virtual C (own_w hw 68 rfl) (own_w hw 69 rfl) (own_w hw 71 rfl) (own_w hw 70 rfl) (own_w hw 3 rfl) (own_w hw 72 rfl) (notFace_of_selects (args := #[]) (mvT C.2.2.2.2.1 (own_w hw 71 rfl))) (by decide) tr_165.1 (rm_add_0READ l Z a0 hw n0 a_76 b_108 b_109 b_110 b_111 b_112 b_113 a_28 (0 : Int32) (Int64.toInt32 p4) p4 p2 p3  [] e_WRITE e_READ h_161 f_215 tr_165 di_121 ⟨ne_126, ne_132, ne_138, ne_144, ne_150, ne_156⟩ ⟨ge_b_108, ge_b_109, ge_b_110, ge_b_111, ge_b_112, ge_b_113, ge_a_76⟩ f_214 ⟨ne_124, ne_130, ne_136, ne_142, ne_148, ne_154, ne_82⟩ en f_213) (st := []) [(.ref a_28), (.ref e_READ), (.int (Int64.toInt32 p4)), (.long p4)] rfl rfl own_pd_9_add rfl rfl (by decide) (W := 0) (Nat.le_of_eq rfl) (by decide) (by decide) (by decide) at_205 (pc' := 208) rfl ?_
                        intro v_218 h_216 q_217
                        obtain ⟨rfl, K_219, tr_220⟩ := q_217
                        show Go B n0 _ h_216 11 40 208 #[.val (.long p0), .second, .val (.long p1), .second, .val (.long p2), .second, .val (.long p3), .second, .val (.long p4), .second, .val (.int p5), .val (.int (0 : Int32)), .val (.int b1), .val (.int b2), .val (.int b3), .val (.int b4), .val (.int b5), .val (.int b6), .val (.ref a_10), .val (.ref a_28), .val (.ref a_50), .val (.ref a_76), .unset, .unset] []
                        refine g_iload C at_208 (v := b3) rfl (pc' := 210) rfl ?_
                        by_cases hb_221 : b3 = (0 : Int32)
                        · refine g_if_y C at_210 (Jvm.Free.XT.i0_eq_t hb_221) (pc' := 220) (by decide) (by decide) ?_
                          refine g_iload C at_220 (v := b4) rfl (pc' := 222) rfl ?_
                          by_cases hb_222 : b4 = (0 : Int32)
                          · refine g_if_y C at_222 (Jvm.Free.XT.i0_eq_t hb_222) (pc' := 232) (by decide) (by decide) ?_
                            refine g_aload C at_232 (v := (.ref a_76)) rfl rfl (pc' := 234) rfl ?_
                            refine g_aload C at_234 (v := (.ref a_50)) rfl rfl (pc' := 236) rfl ?_
                            have f_223 := (((f_101.keep K_120 (ninS ne_83 nin0)).keep K_164 (ninS ne_83 (ninS ne_143 nin0))).keep K_219 (ninS ne_83 (ninS ne_125 (ninS ne_131 (ninS ne_137 (ninS ne_155 nin0))))))
                            have f_224 := (Nat.le_trans f_215 K_219.1)
                            refine g_virtual C (own_w hw 42 rfl) (own_w hw 43 rfl) (own_w hw 45 rfl) (own_w hw 44 rfl) (own_w hw 3 rfl) (own_w hw 46 rfl) (notFace_of_selects (args := #[]) (mvT C.2.2.2.2.1 (own_w hw 45 rfl))) (by decide) tr_220.1 (rm_sf00 l Z a0 hw n0 a_76 b_108 b_109 b_110 b_111 b_112 b_113 a_50 (1 : Int32) (.ref e_READ) (Int64.toInt32 p4) p4 qa qb  [] [] h_216 f_224 tr_220 f_223) (st := []) [(.ref a_50)] rfl rfl own_pd_7_startsFrom rfl rfl (by decide) (W := 0) (Nat.le_of_eq rfl) (by decide) (by decide) (by decide) at_236 (pc' := 239) rfl ?_
                            intro v_227 h_225 q_226
                            obtain ⟨rfl, rfl⟩ := q_226
                            show Go B n0 _ h_216 11 40 239 #[.val (.long p0), .second, .val (.long p1), .second, .val (.long p2), .second, .val (.long p3), .second, .val (.long p4), .second, .val (.int p5), .val (.int (0 : Int32)), .val (.int b1), .val (.int b2), .val (.int b3), .val (.int b4), .val (.int b5), .val (.int b6), .val (.ref a_10), .val (.ref a_28), .val (.ref a_50), .val (.ref a_76), .unset, .unset] [(.int (0 : Int32))]
                            refine g_istore C at_239 (v := (0 : Int32)) (L' := #[.val (.long p0), .second, .val (.long p1), .second, .val (.long p2), .second, .val (.long p3), .second, .val (.long p4), .second, .val (.int p5), .val (.int (0 : Int32)), .val (.int b1), .val (.int b2), .val (.int b3), .val (.int b4), .val (.int b5), .val (.int b6), .val (.ref a_10), .val (.ref a_28), .val (.ref a_50), .val (.ref a_76), .val (.int (0 : Int32)), .unset]) rfl (pc' := 241) rfl ?_
                            refine g_iload C at_241 (v := b3) rfl (pc' := 243) rfl ?_
                            refine g_if_y C at_243 (Jvm.Free.XT.i0_eq_t hb_221) (pc' := 285) (by decide) (by decide) ?_
                            refine g_iconst C at_285 (v := (0 : Int32)) rfl (pc' := 286) rfl ?_
                            refine g_istore C at_286 (v := (0 : Int32)) (L' := #[.val (.long p0), .second, .val (.long p1), .second, .val (.long p2), .second, .val (.long p3), .second, .val (.long p4), .second, .val (.int p5), .val (.int (0 : Int32)), .val (.int b1), .val (.int b2), .val (.int b3), .val (.int b4), .val (.int b5), .val (.int b6), .val (.ref a_10), .val (.ref a_28), .val (.ref a_50), .val (.ref a_76), .val (.int (0 : Int32)), .val (.int (0 : Int32))]) rfl (pc' := 288) rfl ?_
                            refine g_iload C at_288 (v := (0 : Int32)) rfl (pc' := 290) rfl ?_
                            refine g_iload C at_290 (v := (0 : Int32)) rfl (pc' := 292) rfl ?_
                            refine g_icmp_n C at_292 (Jvm.Free.XT.ii_ne_f (by decide)) (pc' := 295) rfl ?_
                            refine g_iconst C at_295 (v := (1 : Int32)) rfl (pc' := 296) rfl ?_
                            refine g_goto C at_296 (pc' := 300) (by decide) (by decide) ?_
                            refine g_ret C (v := (.int (1 : Int32))) (ty := .boolean) rfl rfl (Or.inl ⟨rfl, Or.inr (Or.inl rfl), _, rfl⟩) at_300 (by decide) (by decide) ?_
                            rfl
                          · refine g_if_n C at_222 (Jvm.Free.XT.i0_eq_f hb_222) (pc' := 225) rfl ?_
                            refine g_aload C at_225 (v := (.ref a_76)) rfl rfl (pc' := 227) rfl ?_
                            refine g_aload C at_227 (v := (.ref a_10)) rfl rfl (pc' := 229) rfl ?_
                            have f_228 := ((f_159.keep K_164 (ninS ne_81 (ninS ne_141 nin0))).keep K_219 (ninS ne_81 (ninS ne_123 (ninS ne_129 (ninS ne_135 (ninS ne_153 nin0))))))
                            have f_229 := (Nat.le_trans f_215 K_219.1)
                            refine g_virtual C (own_w hw 29 rfl) (own_w hw 30 rfl) (own_w hw 32 rfl) (own_w hw 31 rfl) (own_w hw 3 rfl) (own_w hw 33 rfl) (notFace_of_selects (args := #[]) (mvT C.2.2.2.2.1 (own_w hw 32 rfl))) (by decide) tr_220.1 (rm_begin0 l Z a0 hw n0 a_76 b_108 b_109 b_110 b_111 b_112 b_113 a_10 (1 : Int32) (0 : Int32) (.ref e_READ) (Int64.toInt32 p4) p4 p0 p1  [] [] h_216 f_229 tr_220 di_121 ⟨ne_126, ne_132, ne_138, ne_144, ne_150, ne_156⟩ ⟨ge_b_108, ge_b_109, ge_b_110, ge_b_111, ge_b_112, ge_b_113, ge_a_76⟩ f_228 ne_141 ne_81) (st := []) [(.ref a_10)] rfl rfl own_pd_6_begin rfl rfl (by decide) (W := 0) (Nat.le_of_eq rfl) (by decide) (by decide) (by decide) at_229 (pc' := 232) rfl ?_
                            intro v_232 h_230 q_231
                            obtain ⟨rfl, K_233, tr_234⟩ := q_231
                            show Go B n0 _ h_230 11 40 232 #[.val (.long p0), .second, .val (.long p1), .second, .val (.long p2), .second, .val (.long p3), .second, .val (.long p4), .second, .val (.int p5), .val (.int (0 : Int32)), .val (.int b1), .val (.int b2), .val (.int b3), .val (.int b4), .val (.int b5), .val (.int b6), .val (.ref a_10), .val (.ref a_28), .val (.ref a_50), .val (.ref a_76), .unset, .unset] []
                            refine g_aload C at_232 (v := (.ref a_76)) rfl rfl (pc' := 234) rfl ?_
                            refine g_aload C at_234 (v := (.ref a_50)) rfl rfl (pc' := 236) rfl ?_
                            have f_235 := ((((f_101.keep K_120 (ninS ne_83 nin0)).keep K_164 (ninS ne_83 (ninS ne_143 nin0))).keep K_219 (ninS ne_83 (ninS ne_125 (ninS ne_131 (ninS ne_137 (ninS ne_155 nin0)))))).keep K_233 (ninS ne_83 (ninS ne_143 nin0)))
                            have f_236 := (Nat.le_trans f_229 K_233.1)
                            refine g_virtual C (own_w hw 42 rfl) (own_w hw 43 rfl) (own_w hw 45 rfl) (own_w hw 44 rfl) (own_w hw 3 rfl) (own_w hw 46 rfl) (notFace_of_selects (args := #[]) (mvT C.2.2.2.2.1 (own_w hw 45 rfl))) (by decide) tr_234.1 (rm_sf00 l Z a0 hw n0 a_76 b_108 b_109 b_110 b_111 b_112 b_113 a_50 (0 : Int32) (.ref e_READ) (Int64.toInt32 p4) p4 qa qb  [] [] h_230 f_236 tr_234 f_235) (st := []) [(.ref a_50)] rfl rfl own_pd_7_startsFrom rfl rfl (by decide) (W := 0) (Nat.le_of_eq rfl) (by decide) (by decide) (by decide) at_236 (pc' := 239) rfl ?_
                            intro v_239 h_237 q_238
                            obtain ⟨rfl, rfl⟩ := q_238
                            show Go B n0 _ h_230 11 40 239 #[.val (.long p0), .second, .val (.long p1), .second, .val (.long p2), .second, .val (.long p3), .second, .val (.long p4), .second, .val (.int p5), .val (.int (0 : Int32)), .val (.int b1), .val (.int b2), .val (.int b3), .val (.int b4), .val (.int b5), .val (.int b6), .val (.ref a_10), .val (.ref a_28), .val (.ref a_50), .val (.ref a_76), .unset, .unset] [(.int (0 : Int32))]
                            refine g_istore C at_239 (v := (0 : Int32)) (L' := #[.val (.long p0), .second, .val (.long p1), .second, .val (.long p2), .second, .val (.long p3), .second, .val (.long p4), .second, .val (.int p5), .val (.int (0 : Int32)), .val (.int b1), .val (.int b2), .val (.int b3), .val (.int b4), .val (.int b5), .val (.int b6), .val (.ref a_10), .val (.ref a_28), .val (.ref a_50), .val (.ref a_76), .val (.int (0 : Int32)), .unset]) rfl (pc' := 241) rfl ?_
                            refine g_iload C at_241 (v := b3) rfl (pc' := 243) rfl ?_
                            refine g_if_y C at_243 (Jvm.Free.XT.i0_eq_t hb_221) (pc' := 285) (by decide) (by decide) ?_
                            refine g_iconst C at_285 (v := (0 : Int32)) rfl (pc' := 286) rfl ?_
                            refine g_istore C at_286 (v := (0 : Int32)) (L' := #[.val (.long p0), .second, .val (.long p1), .second, .val (.long p2), .second, .val (.long p3), .second, .val (.long p4), .second, .val (.int p5), .val (.int (0 : Int32)), .val (.int b1), .val (.int b2), .val (.int b3), .val (.int b4), .val (.int b5), .val (.int b6), .val (.ref a_10), .val (.ref a_28), .val (.ref a_50), .val (.ref a_76), .val (.int (0 : Int32)), .val (.int (0 : Int32))]) rfl (pc' := 288) rfl ?_
                            refine g_iload C at_288 (v := (0 : Int32)) rfl (pc' := 290) rfl ?_
                            refine g_iload C at_290 (v := (0 : Int32)) rfl (pc' := 292) rfl ?_
                            refine g_icmp_n C at_292 (Jvm.Free.XT.ii_ne_f (by decide)) (pc' := 295) rfl ?_
                            refine g_iconst C at_295 (v := (1 : Int32)) rfl (pc' := 296) rfl ?_
                            refine g_goto C at_296 (pc' := 300) (by decide) (by decide) ?_
                            refine g_ret C (v := (.int (1 : Int32))) (ty := .boolean) rfl rfl (Or.inl ⟨rfl, Or.inr (Or.inl rfl), _, rfl⟩) at_300 (by decide) (by decide) ?_
                            rfl
                        · refine g_if_n C at_210 (Jvm.Free.XT.i0_eq_f hb_221) (pc' := 213) rfl ?_
                          refine g_aload C at_213 (v := (.ref a_76)) rfl rfl (pc' := 215) rfl ?_
                          refine g_aload C at_215 (v := (.ref a_28)) rfl rfl (pc' := 217) rfl ?_
                          have f_240 := (f_214.keep K_219 (ninS ne_82 (ninS ne_124 (ninS ne_130 (ninS ne_136 (ninS ne_154 nin0))))))
                          have f_241 := (f_213.keep K_219 (allS ge_a_76 (allS ge_b_108 (allS ge_b_109 (allS ge_b_110 (allS ge_b_113 all0))))))
                          have f_242 := (Nat.le_trans f_215 K_219.1)
                          refine g_virtual C (own_w hw 47 rfl) (own_w hw 48 rfl) (own_w hw 50 rfl) (own_w hw 49 rfl) (own_w hw 3 rfl) (own_w hw 51 rfl) (notFace_of_selects (args := #[]) (mvT C.2.2.2.2.1 (own_w hw 50 rfl))) (by decide) tr_220.1 (rm_end_0READ l Z a0 hw n0 a_76 b_108 b_109 b_110 b_111 b_112 b_113 a_28 (0 : Int32) (Int64.toInt32 p4) p4 p2 p3  [] [] e_WRITE e_READ h_216 f_242 tr_220 di_121 ⟨ne_126, ne_132, ne_138, ne_144, ne_150, ne_156⟩ ⟨ge_b_108, ge_b_109, ge_b_110, ge_b_111, ge_b_112, ge_b_113, ge_a_76⟩ f_240 ne_148 ne_82 en f_241) (st := []) [(.ref a_28)] rfl rfl own_pd_6_end rfl rfl (by decide) (W := 0) (Nat.le_of_eq rfl) (by decide) (by decide) (by decide) at_217 (pc' := 220) rfl ?_
                          intro v_245 h_243 q_244
                          obtain ⟨rfl, K_246, tr_247⟩ := q_244
                          show Go B n0 _ h_243 13 41 220 #[.val (.long p0), .second, .val (.long p1), .second, .val (.long p2), .second, .val (.long p3), .second, .val (.long p4), .second, .val (.int p5), .val (.int (0 : Int32)), .val (.int b1), .val (.int b2), .val (.int b3), .val (.int b4), .val (.int b5), .val (.int b6), .val (.ref a_10), .val (.ref a_28), .val (.ref a_50), .val (.ref a_76), .unset, .unset] []
                          refine g_iload C at_220 (v := b4) rfl (pc' := 222) rfl ?_
                          by_cases hb_248 : b4 = (0 : Int32)
                          · refine g_if_y C at_222 (Jvm.Free.XT.i0_eq_t hb_248) (pc' := 232) (by decide) (by decide) ?_
                            refine g_aload C at_232 (v := (.ref a_76)) rfl rfl (pc' := 234) rfl ?_
                            refine g_aload C at_234 (v := (.ref a_50)) rfl rfl (pc' := 236) rfl ?_
                            have f_249 := ((((f_101.keep K_120 (ninS ne_83 nin0)).keep K_164 (ninS ne_83 (ninS ne_143 nin0))).keep K_219 (ninS ne_83 (ninS ne_125 (ninS ne_131 (ninS ne_137 (ninS ne_155 nin0)))))).keep K_246 (ninS ne_83 (ninS ne_149 nin0)))
                            have f_250 := (Nat.le_trans f_242 K_246.1)
                            refine g_virtual C (own_w hw 42 rfl) (own_w hw 43 rfl) (own_w hw 45 rfl) (own_w hw 44 rfl) (own_w hw 3 rfl) (own_w hw 46 rfl) (notFace_of_selects (args := #[]) (mvT C.2.2.2.2.1 (own_w hw 45 rfl))) (by decide) tr_247.1 (rm_sf01 l Z a0 hw n0 a_76 b_108 b_109 b_110 b_111 b_112 b_113 a_50 (1 : Int32) (.ref e_READ) (Int64.toInt32 p4) p4 qa qb  [] [] h_243 f_250 tr_247 f_249) (st := []) [(.ref a_50)] rfl rfl own_pd_7_startsFrom rfl rfl (by decide) (W := 0) (Nat.le_of_eq rfl) (by decide) (by decide) (by decide) at_236 (pc' := 239) rfl ?_
                            intro v_253 h_251 q_252
                            obtain ⟨rfl, rfl⟩ := q_252
                            show Go B n0 _ h_243 13 41 239 #[.val (.long p0), .second, .val (.long p1), .second, .val (.long p2), .second, .val (.long p3), .second, .val (.long p4), .second, .val (.int p5), .val (.int (0 : Int32)), .val (.int b1), .val (.int b2), .val (.int b3), .val (.int b4), .val (.int b5), .val (.int b6), .val (.ref a_10), .val (.ref a_28), .val (.ref a_50), .val (.ref a_76), .unset, .unset] [(.int (1 : Int32))]
                            refine g_istore C at_239 (v := (1 : Int32)) (L' := #[.val (.long p0), .second, .val (.long p1), .second, .val (.long p2), .second, .val (.long p3), .second, .val (.long p4), .second, .val (.int p5), .val (.int (0 : Int32)), .val (.int b1), .val (.int b2), .val (.int b3), .val (.int b4), .val (.int b5), .val (.int b6), .val (.ref a_10), .val (.ref a_28), .val (.ref a_50), .val (.ref a_76), .val (.int (1 : Int32)), .unset]) rfl (pc' := 241) rfl ?_
                            refine g_iload C at_241 (v := b3) rfl (pc' := 243) rfl ?_
                            refine g_if_n C at_243 (Jvm.Free.XT.i0_eq_f hb_221) (pc' := 246) rfl ?_
                            refine g_iload C at_246 (v := b4) rfl (pc' := 248) rfl ?_
                            refine g_if_n C at_248 (Jvm.Free.XT.i0_ne_f hb_248) (pc' := 251) rfl ?_
                            refine g_iload C at_251 (v := (0 : Int32)) rfl (pc' := 253) rfl ?_
                            refine g_iconst C at_253 (v := (1 : Int32)) rfl (pc' := 254) rfl ?_
                            refine g_icmp_y C at_254 (Jvm.Free.XT.ii_lt_t (by decide)) (pc' := 266) (by decide) (by decide) ?_
                            refine g_iload C at_266 (v := (0 : Int32)) rfl (pc' := 268) rfl ?_
                            refine g_iconst C at_268 (v := (2 : Int32)) rfl (pc' := 269) rfl ?_
                            refine g_icmp_y C at_269 (Jvm.Free.XT.ii_lt_t (by decide)) (pc' := 281) (by decide) (by decide) ?_
                            refine g_iconst C at_281 (v := (1 : Int32)) rfl (pc' := 282) rfl ?_
                            refine g_goto C at_282 (pc' := 286) (by decide) (by decide) ?_
                            refine g_istore C at_286 (v := (1 : Int32)) (L' := #[.val (.long p0), .second, .val (.long p1), .second, .val (.long p2), .second, .val (.long p3), .second, .val (.long p4), .second, .val (.int p5), .val (.int (0 : Int32)), .val (.int b1), .val (.int b2), .val (.int b3), .val (.int b4), .val (.int b5), .val (.int b6), .val (.ref a_10), .val (.ref a_28), .val (.ref a_50), .val (.ref a_76), .val (.int (1 : Int32)), .val (.int (1 : Int32))]) rfl (pc' := 288) rfl ?_
                            refine g_iload C at_288 (v := (1 : Int32)) rfl (pc' := 290) rfl ?_
                            refine g_iload C at_290 (v := (1 : Int32)) rfl (pc' := 292) rfl ?_
                            refine g_icmp_n C at_292 (Jvm.Free.XT.ii_ne_f (by decide)) (pc' := 295) rfl ?_
                            refine g_iconst C at_295 (v := (1 : Int32)) rfl (pc' := 296) rfl ?_
                            refine g_goto C at_296 (pc' := 300) (by decide) (by decide) ?_
                            refine g_ret C (v := (.int (1 : Int32))) (ty := .boolean) rfl rfl (Or.inl ⟨rfl, Or.inr (Or.inl rfl), _, rfl⟩) at_300 (by decide) (by decide) ?_
                            rfl
                          · refine g_if_n C at_222 (Jvm.Free.XT.i0_eq_f hb_248) (pc' := 225) rfl ?_
                            refine g_aload C at_225 (v := (.ref a_76)) rfl rfl (pc' := 227) rfl ?_
                            refine g_aload C at_227 (v := (.ref a_10)) rfl rfl (pc' := 229) rfl ?_
                            have f_254 := (((f_159.keep K_164 (ninS ne_81 (ninS ne_141 nin0))).keep K_219 (ninS ne_81 (ninS ne_123 (ninS ne_129 (ninS ne_135 (ninS ne_153 nin0)))))).keep K_246 (ninS ne_81 (ninS ne_147 nin0)))
                            have f_255 := (Nat.le_trans f_242 K_246.1)
                            refine g_virtual C (own_w hw 29 rfl) (own_w hw 30 rfl) (own_w hw 32 rfl) (own_w hw 31 rfl) (own_w hw 3 rfl) (own_w hw 33 rfl) (notFace_of_selects (args := #[]) (mvT C.2.2.2.2.1 (own_w hw 32 rfl))) (by decide) tr_247.1 (rm_begin0 l Z a0 hw n0 a_76 b_108 b_109 b_110 b_111 b_112 b_113 a_10 (1 : Int32) (1 : Int32) (.ref e_READ) (Int64.toInt32 p4) p4 p0 p1  [] [] h_243 f_255 tr_247 di_121 ⟨ne_126, ne_132, ne_138, ne_144, ne_150, ne_156⟩ ⟨ge_b_108, ge_b_109, ge_b_110, ge_b_111, ge_b_112, ge_b_113, ge_a_76⟩ f_254 ne_141 ne_81) (st := []) [(.ref a_10)] rfl rfl own_pd_6_begin rfl rfl (by decide) (W := 0) (Nat.le_of_eq rfl) (by decide) (by decide) (by decide) at_229 (pc' := 232) rfl ?_
                            intro v_258 h_256 q_257
                            obtain ⟨rfl, K_259, tr_260⟩ := q_257
                            show Go B n0 _ h_256 13 41 232 #[.val (.long p0), .second, .val (.long p1), .second, .val (.long p2), .second, .val (.long p3), .second, .val (.long p4), .second, .val (.int p5), .val (.int (0 : Int32)), .val (.int b1), .val (.int b2), .val (.int b3), .val (.int b4), .val (.int b5), .val (.int b6), .val (.ref a_10), .val (.ref a_28), .val (.ref a_50), .val (.ref a_76), .unset, .unset] []
                            refine g_aload C at_232 (v := (.ref a_76)) rfl rfl (pc' := 234) rfl ?_
                            refine g_aload C at_234 (v := (.ref a_50)) rfl rfl (pc' := 236) rfl ?_
                            have f_261 := (((((f_101.keep K_120 (ninS ne_83 nin0)).keep K_164 (ninS ne_83 (ninS ne_143 nin0))).keep K_219 (ninS ne_83 (ninS ne_125 (ninS ne_131 (ninS ne_137 (ninS ne_155 nin0)))))).keep K_246 (ninS ne_83 (ninS ne_149 nin0))).keep K_259 (ninS ne_83 (ninS ne_143 nin0)))
                            have f_262 := (Nat.le_trans f_255 K_259.1)
                            refine g_virtual C (own_w hw 42 rfl) (own_w hw 43 rfl) (own_w hw 45 rfl) (own_w hw 44 rfl) (own_w hw 3 rfl) (own_w hw 46 rfl) (notFace_of_selects (args := #[]) (mvT C.2.2.2.2.1 (own_w hw 45 rfl))) (by decide) tr_260.1 (rm_sf00 l Z a0 hw n0 a_76 b_108 b_109 b_110 b_111 b_112 b_113 a_50 (0 : Int32) (.ref e_READ) (Int64.toInt32 p4) p4 qa qb  [] [] h_256 f_262 tr_260 f_261) (st := []) [(.ref a_50)] rfl rfl own_pd_7_startsFrom rfl rfl (by decide) (W := 0) (Nat.le_of_eq rfl) (by decide) (by decide) (by decide) at_236 (pc' := 239) rfl ?_
                            intro v_265 h_263 q_264
                            obtain ⟨rfl, rfl⟩ := q_264
                            show Go B n0 _ h_256 13 41 239 #[.val (.long p0), .second, .val (.long p1), .second, .val (.long p2), .second, .val (.long p3), .second, .val (.long p4), .second, .val (.int p5), .val (.int (0 : Int32)), .val (.int b1), .val (.int b2), .val (.int b3), .val (.int b4), .val (.int b5), .val (.int b6), .val (.ref a_10), .val (.ref a_28), .val (.ref a_50), .val (.ref a_76), .unset, .unset] [(.int (0 : Int32))]
                            refine g_istore C at_239 (v := (0 : Int32)) (L' := #[.val (.long p0), .second, .val (.long p1), .second, .val (.long p2), .second, .val (.long p3), .second, .val (.long p4), .second, .val (.int p5), .val (.int (0 : Int32)), .val (.int b1), .val (.int b2), .val (.int b3), .val (.int b4), .val (.int b5), .val (.int b6), .val (.ref a_10), .val (.ref a_28), .val (.ref a_50), .val (.ref a_76), .val (.int (0 : Int32)), .unset]) rfl (pc' := 241) rfl ?_
                            refine g_iload C at_241 (v := b3) rfl (pc' := 243) rfl ?_
                            refine g_if_n C at_243 (Jvm.Free.XT.i0_eq_f hb_221) (pc' := 246) rfl ?_
                            refine g_iload C at_246 (v := b4) rfl (pc' := 248) rfl ?_
                            refine g_if_y C at_248 (Jvm.Free.XT.i0_ne_t hb_248) (pc' := 285) (by decide) (by decide) ?_
                            refine g_iconst C at_285 (v := (0 : Int32)) rfl (pc' := 286) rfl ?_
                            refine g_istore C at_286 (v := (0 : Int32)) (L' := #[.val (.long p0), .second, .val (.long p1), .second, .val (.long p2), .second, .val (.long p3), .second, .val (.long p4), .second, .val (.int p5), .val (.int (0 : Int32)), .val (.int b1), .val (.int b2), .val (.int b3), .val (.int b4), .val (.int b5), .val (.int b6), .val (.ref a_10), .val (.ref a_28), .val (.ref a_50), .val (.ref a_76), .val (.int (0 : Int32)), .val (.int (0 : Int32))]) rfl (pc' := 288) rfl ?_
                            refine g_iload C at_288 (v := (0 : Int32)) rfl (pc' := 290) rfl ?_
                            refine g_iload C at_290 (v := (0 : Int32)) rfl (pc' := 292) rfl ?_
                            refine g_icmp_n C at_292 (Jvm.Free.XT.ii_ne_f (by decide)) (pc' := 295) rfl ?_
                            refine g_iconst C at_295 (v := (1 : Int32)) rfl (pc' := 296) rfl ?_
                            refine g_goto C at_296 (pc' := 300) (by decide) (by decide) ?_
                            refine g_ret C (v := (.int (1 : Int32))) (ty := .boolean) rfl rfl (Or.inl ⟨rfl, Or.inr (Or.inl rfl), _, rfl⟩) at_300 (by decide) (by decide) ?_
                            rfl
                      · refine g_if_n C at_188 (Jvm.Free.XT.i0_eq_f hb_212) (pc' := 191) rfl ?_
                        have f_266 := ((((((((((((O.ext E_12).keep K_18 (allS ge_a_10 all0)).keep K_22 (allS ge_a_10 all0)).ext E_30).keep K_39 (allS ge_a_28 all0)).keep K_43 (allS ge_a_28 all0)).ext E_52).keep K_63 (allS ge_a_50 all0)).keep K_68 (allS ge_a_50 all0)).ext E_78).keep K_120 (allS ge_a_76 all0)).keep K_164 (allS ge_a_76 (allS ge_b_111 all0)))
                        refine g_getstatic C (host := "") (v := (.ref e_WRITE)) (Or.inl (own_w hw 65 rfl)) Via.refl (S_WRITE.ext f_266.2) at_191 (pc' := 194) rfl ?_
                        refine g_goto C at_194 (pc' := 200) (by decide) (by decide) ?_
                        refine g_lload C at_200 (v := p4) rfl (pc' := 202) rfl ?_
                        refine g_l2i C (x := p4) at_202 (pc' := 203) rfl ?_
                        refine g_lload C at_203 (v := p4) rfl (pc' := 205) rfl ?_
                        have f_267 := ((f_100.keep K_120 (ninS ne_82 nin0)).keep K_164 (ninS ne_82 (ninS ne_142 nin0)))
                        have f_268 := (Nat.le_trans f_160 K_164.1)
                        refine g_virtual C (own_w hw 68 rfl) (own_w hw 69 rfl) (own_w hw 71 rfl) (own_w hw 70 rfl) (own_w hw 3 rfl) (own_w hw 72 rfl) (notFace_of_selects (args := #[]) (mvT C.2.2.2.2.1 (own_w hw 71 rfl))) (by decide) tr_165.1 (rm_add_0WRITE l Z a0 hw n0 a_76 b_108 b_109 b_110 b_111 b_112 b_113 a_28 (0 : Int32) (Int64.toInt32 p4) p4 p2 p3  [] e_WRITE e_READ h_161 f_268 tr_165 di_121 ⟨ne_126, ne_132, ne_138, ne_144, ne_150, ne_156⟩ ⟨ge_b_108, ge_b_109, ge_b_110, ge_b_111, ge_b_112, ge_b_113, ge_a_76⟩ f_267 ⟨ne_124, ne_130, ne_136, ne_142, ne_148, ne_154, ne_82⟩ en f_266) (st := []) [(.ref a_28), (.ref e_WRITE), (.int (Int64.toInt32 p4)), (.long p4)] rfl rfl own_pd_9_add rfl rfl (by decide) (W := 0) (Nat.le_of_eq rfl) (by decide) (by decide) (by decide) at_205 (pc' := 208) rfl ?_
                        intro v_271 h_269 q_270
                        obtain ⟨rfl, K_272, tr_273⟩ := q_270
                        show Go B n0 _ h_269 11 40 208 #[.val (.long p0), .second, .val (.long p1), .second, .val (.long p2), .second, .val (.long p3), .second, .val (.long p4), .second, .val (.int p5), .val (.int (0 : Int32)), .val (.int b1), .val (.int b2), .val (.int b3), .val (.int b4), .val (.int b5), .val (.int b6), .val (.ref a_10), .val (.ref a_28), .val (.ref a_50), .val (.ref a_76), .unset, .unset] []
                        refine g_iload C at_208 (v := b3) rfl (pc' := 210) rfl ?_
                        by_cases hb_274 : b3 = (0 : Int32)
                        · refine g_if_y C at_210 (Jvm.Free.XT.i0_eq_t hb_274) (pc' := 220) (by decide) (by decide) ?_
                          refine g_iload C at_220 (v := b4) rfl (pc' := 222) rfl ?_
                          by_cases hb_275 : b4 = (0 : Int32)
                          · refine g_if_y C at_222 (Jvm.Free.XT.i0_eq_t hb_275) (pc' := 232) (by decide) (by decide) ?_
                            refine g_aload C at_232 (v := (.ref a_76)) rfl rfl (pc' := 234) rfl ?_
                            refine g_aload C at_234 (v := (.ref a_50)) rfl rfl (pc' := 236) rfl ?_
                            have f_276 := (((f_101.keep K_120 (ninS ne_83 nin0)).keep K_164 (ninS ne_83 (ninS ne_143 nin0))).keep K_272 (ninS ne_83 (ninS ne_125 (ninS ne_131 (ninS ne_137 (ninS ne_155 nin0))))))
                            have f_277 := (Nat.le_trans f_268 K_272.1)
                            refine g_virtual C (own_w hw 42 rfl) (own_w hw 43 rfl) (own_w hw 45 rfl) (own_w hw 44 rfl) (own_w hw 3 rfl) (own_w hw 46 rfl) (notFace_of_selects (args := #[]) (mvT C.2.2.2.2.1 (own_w hw 45 rfl))) (by decide) tr_273.1 (rm_sf00 l Z a0 hw n0 a_76 b_108 b_109 b_110 b_111 b_112 b_113 a_50 (1 : Int32) (.ref e_WRITE) (Int64.toInt32 p4) p4 qa qb  [] [] h_269 f_277 tr_273 f_276) (st := []) [(.ref a_50)] rfl rfl own_pd_7_startsFrom rfl rfl (by decide) (W := 0) (Nat.le_of_eq rfl) (by decide) (by decide) (by decide) at_236 (pc' := 239) rfl ?_
                            intro v_280 h_278 q_279
                            obtain ⟨rfl, rfl⟩ := q_279
                            show Go B n0 _ h_269 11 40 239 #[.val (.long p0), .second, .val (.long p1), .second, .val (.long p2), .second, .val (.long p3), .second, .val (.long p4), .second, .val (.int p5), .val (.int (0 : Int32)), .val (.int b1), .val (.int b2), .val (.int b3), .val (.int b4), .val (.int b5), .val (.int b6), .val (.ref a_10), .val (.ref a_28), .val (.ref a_50), .val (.ref a_76), .unset, .unset] [(.int (0 : Int32))]
                            refine g_istore C at_239 (v := (0 : Int32)) (L' := #[.val (.long p0), .second, .val (.long p1), .second, .val (.long p2), .second, .val (.long p3), .second, .val (.long p4), .second, .val (.int p5), .val (.int (0 : Int32)), .val (.int b1), .val (.int b2), .val (.int b3), .val (.int b4), .val (.int b5), .val (.int b6), .val (.ref a_10), .val (.ref a_28), .val (.ref a_50), .val (.ref a_76), .val (.int (0 : Int32)), .unset]) rfl (pc' := 241) rfl ?_
                            refine g_iload C at_241 (v := b3) rfl (pc' := 243) rfl ?_
                            refine g_if_y C at_243 (Jvm.Free.XT.i0_eq_t hb_274) (pc' := 285) (by decide) (by decide) ?_
                            refine g_iconst C at_285 (v := (0 : Int32)) rfl (pc' := 286) rfl ?_
                            refine g_istore C at_286 (v := (0 : Int32)) (L' := #[.val (.long p0), .second, .val (.long p1), .second, .val (.long p2), .second, .val (.long p3), .second, .val (.long p4), .second, .val (.int p5), .val (.int (0 : Int32)), .val (.int b1), .val (.int b2), .val (.int b3), .val (.int b4), .val (.int b5), .val (.int b6), .val (.ref a_10), .val (.ref a_28), .val (.ref a_50), .val (.ref a_76), .val (.int (0 : Int32)), .val (.int (0 : Int32))]) rfl (pc' := 288) rfl ?_
                            refine g_iload C at_288 (v := (0 : Int32)) rfl (pc' := 290) rfl ?_
                            refine g_iload C at_290 (v := (0 : Int32)) rfl (pc' := 292) rfl ?_
                            refine g_icmp_n C at_292 (Jvm.Free.XT.ii_ne_f (by decide)) (pc' := 295) rfl ?_
                            refine g_iconst C at_295 (v := (1 : Int32)) rfl (pc' := 296) rfl ?_
                            refine g_goto C at_296 (pc' := 300) (by decide) (by decide) ?_
                            refine g_ret C (v := (.int (1 : Int32))) (ty := .boolean) rfl rfl (Or.inl ⟨rfl, Or.inr (Or.inl rfl), _, rfl⟩) at_300 (by decide) (by decide) ?_
                            rfl
                          · refine g_if_n C at_222 (Jvm.Free.XT.i0_eq_f hb_275) (pc' := 225) rfl ?_
                            refine g_aload C at_225 (v := (.ref a_76)) rfl rfl (pc' := 227) rfl ?_
                            refine g_aload C at_227 (v := (.ref a_10)) rfl rfl (pc' := 229) rfl ?_
                            have f_281 := ((f_159.keep K_164 (ninS ne_81 (ninS ne_141 nin0))).keep K_272 (ninS ne_81 (ninS ne_123 (ninS ne_129 (ninS ne_135 (ninS ne_153 nin0))))))
                            have f_282 := (Nat.le_trans f_268 K_272.1)
                            refine g_virtual C (own_w hw 29 rfl) (own_w hw 30 rfl) (own_w hw 32 rfl) (own_w hw 31 rfl) (own_w hw 3 rfl) (own_w hw 33 rfl) (notFace_of_selects (args := #[]) (mvT C.2.2.2.2.1 (own_w hw 32 rfl))) (by decide) tr_273.1 (rm_begin0 l Z a0 hw n0 a_76 b_108 b_109 b_110 b_111 b_112 b_113 a_10 (1 : Int32) (0 : Int32) (.ref e_WRITE) (Int64.toInt32 p4) p4 p0 p1  [] [] h_269 f_282 tr_273 di_121 ⟨ne_126, ne_132, ne_138, ne_144, ne_150, ne_156⟩ ⟨ge_b_108, ge_b_109, ge_b_110, ge_b_111, ge_b_112, ge_b_113, ge_a_76⟩ f_281 ne_141 ne_81) (st := []) [(.ref a_10)] rfl rfl own_pd_6_begin rfl rfl (by decide) (W := 0) (Nat.le_of_eq rfl) (by decide) (by decide) (by decide) at_229 (pc' := 232) rfl ?_
                            intro v_285 h_283 q_284
                            obtain ⟨rfl, K_286, tr_287⟩ := q_284
                            show Go B n0 _ h_283 11 40 232 #[.val (.long p0), .second, .val (.long p1), .second, .val (.long p2), .second, .val (.long p3), .second, .val (.long p4), .second, .val (.int p5), .val (.int (0 : Int32)), .val (.int b1), .val (.int b2), .val (.int b3), .val (.int b4), .val (.int b5), .val (.int b6), .val (.ref a_10), .val (.ref a_28), .val (.ref a_50), .val (.ref a_76), .unset, .unset] []
                            refine g_aload C at_232 (v := (.ref a_76)) rfl rfl (pc' := 234) rfl ?_
                            refine g_aload C at_234 (v := (.ref a_50)) rfl rfl (pc' := 236) rfl ?_
                            have f_288 := ((((f_101.keep K_120 (ninS ne_83 nin0)).keep K_164 (ninS ne_83 (ninS ne_143 nin0))).keep K_272 (ninS ne_83 (ninS ne_125 (ninS ne_131 (ninS ne_137 (ninS ne_155 nin0)))))).keep K_286 (ninS ne_83 (ninS ne_143 nin0)))
                            have f_289 := (Nat.le_trans f_282 K_286.1)
                            refine g_virtual C (own_w hw 42 rfl) (own_w hw 43 rfl) (own_w hw 45 rfl) (own_w hw 44 rfl) (own_w hw 3 rfl) (own_w hw 46 rfl) (notFace_of_selects (args := #[]) (mvT C.2.2.2.2.1 (own_w hw 45 rfl))) (by decide) tr_287.1 (rm_sf00 l Z a0 hw n0 a_76 b_108 b_109 b_110 b_111 b_112 b_113 a_50 (0 : Int32) (.ref e_WRITE) (Int64.toInt32 p4) p4 qa qb  [] [] h_283 f_289 tr_287 f_288) (st := []) [(.ref a_50)] rfl rfl own_pd_7_startsFrom rfl rfl (by decide) (W := 0) (Nat.le_of_eq rfl) (by decide) (by decide) (by decide) at_236 (pc' := 239) rfl ?_
                            intro v_292 h_290 q_291
                            obtain ⟨rfl, rfl⟩ := q_291
                            show Go B n0 _ h_283 11 40 239 #[.val (.long p0), .second, .val (.long p1), .second, .val (.long p2), .second, .val (.long p3), .second, .val (.long p4), .second, .val (.int p5), .val (.int (0 : Int32)), .val (.int b1), .val (.int b2), .val (.int b3), .val (.int b4), .val (.int b5), .val (.int b6), .val (.ref a_10), .val (.ref a_28), .val (.ref a_50), .val (.ref a_76), .unset, .unset] [(.int (0 : Int32))]
                            refine g_istore C at_239 (v := (0 : Int32)) (L' := #[.val (.long p0), .second, .val (.long p1), .second, .val (.long p2), .second, .val (.long p3), .second, .val (.long p4), .second, .val (.int p5), .val (.int (0 : Int32)), .val (.int b1), .val (.int b2), .val (.int b3), .val (.int b4), .val (.int b5), .val (.int b6), .val (.ref a_10), .val (.ref a_28), .val (.ref a_50), .val (.ref a_76), .val (.int (0 : Int32)), .unset]) rfl (pc' := 241) rfl ?_
                            refine g_iload C at_241 (v := b3) rfl (pc' := 243) rfl ?_
                            refine g_if_y C at_243 (Jvm.Free.XT.i0_eq_t hb_274) (pc' := 285) (by decide) (by decide) ?_
                            refine g_iconst C at_285 (v := (0 : Int32)) rfl (pc' := 286) rfl ?_
                            refine g_istore C at_286 (v := (0 : Int32)) (L' := #[.val (.long p0), .second, .val (.long p1), .second, .val (.long p2), .second, .val (.long p3), .second, .val (.long p4), .second, .val (.int p5), .val (.int (0 : Int32)), .val (.int b1), .val (.int b2), .val (.int b3), .val (.int b4), .val (.int b5), .val (.int b6), .val (.ref a_10), .val (.ref a_28), .val (.ref a_50), .val (.ref a_76), .val (.int (0 : Int32)), .val (.int (0 : Int32))]) rfl (pc' := 288) rfl ?_
                            refine g_iload C at_288 (v := (0 : Int32)) rfl (pc' := 290) rfl ?_
                            refine g_iload C at_290 (v := (0 : Int32)) rfl (pc' := 292) rfl ?_
                            refine g_icmp_n C at_292 (Jvm.Free.XT.ii_ne_f (by decide)) (pc' := 295) rfl ?_
                            refine g_iconst C at_295 (v := (1 : Int32)) rfl (pc' := 296) rfl ?_
                            refine g_goto C at_296 (pc' := 300) (by decide) (by decide) ?_
                            refine g_ret C (v := (.int (1 : Int32))) (ty := .boolean) rfl rfl (Or.inl ⟨rfl, Or.inr (Or.inl rfl), _, rfl⟩) at_300 (by decide) (by decide) ?_
                            rfl
                        · refine g_if_n C at_210 (Jvm.Free.XT.i0_eq_f hb_274) (pc' := 213) rfl ?_
                          refine g_aload C at_213 (v := (.ref a_76)) rfl rfl (pc' := 215) rfl ?_
                          refine g_aload C at_215 (v := (.ref a_28)) rfl rfl (pc' := 217) rfl ?_
                          have f_293 := (f_267.keep K_272 (ninS ne_82 (ninS ne_124 (ninS ne_130 (ninS ne_136 (ninS ne_154 nin0))))))
                          have f_294 := (f_266.keep K_272 (allS ge_a_76 (allS ge_b_108 (allS ge_b_109 (allS ge_b_110 (allS ge_b_113 all0))))))
                          have f_295 := (Nat.le_trans f_268 K_272.1)
                          refine g_virtual C (own_w hw 47 rfl) (own_w hw 48 rfl) (own_w hw 50 rfl) (own_w hw 49 rfl) (own_w hw 3 rfl) (own_w hw 51 rfl) (notFace_of_selects (args := #[]) (mvT C.2.2.2.2.1 (own_w hw 50 rfl))) (by decide) tr_273.1 (rm_end_0WRITE l Z a0 hw n0 a_76 b_108 b_109 b_110 b_111 b_112 b_113 a_28 (0 : Int32) (Int64.toInt32 p4) p4 p2 p3  [] [] e_WRITE e_READ h_269 f_295 tr_273 di_121 ⟨ne_126, ne_132, ne_138, ne_144, ne_150, ne_156⟩ ⟨ge_b_108, ge_b_109, ge_b_110, ge_b_111, ge_b_112, ge_b_113, ge_a_76⟩ f_293 ne_148 ne_82 en f_294) (st := []) [(.ref a_28)] rfl rfl own_pd_6_end rfl rfl (by decide) (W := 0) (Nat.le_of_eq rfl) (by decide) (by decide) (by decide) at_217 (pc' := 220) rfl ?_
                          intro v_298 h_296 q_297
                          obtain ⟨rfl, K_299, tr_300⟩ := q_297
                          show Go B n0 _ h_296 13 42 220 #[.val (.long p0), .second, .val (.long p1), .second, .val (.long p2), .second, .val (.long p3), .second, .val (.long p4), .second, .val (.int p5), .val (.int (0 : Int32)), .val (.int b1), .val (.int b2), .val (.int b3), .val (.int b4), .val (.int b5), .val (.int b6), .val (.ref a_10), .val (.ref a_28), .val (.ref a_50), .val (.ref a_76), .unset, .unset] []
                          refine g_iload C at_220 (v := b4) rfl (pc' := 222) rfl ?_
                          by_cases hb_301 : b4 = (0 : Int32)
                          · refine g_if_y C at_222 (Jvm.Free.XT.i0_eq_t hb_301) (pc' := 232) (by decide) (by decide) ?_
                            refine g_aload C at_232 (v := (.ref a_76)) rfl rfl (pc' := 234) rfl ?_
                            refine g_aload C at_234 (v := (.ref a_50)) rfl rfl (pc' := 236) rfl ?_
                            have f_302 := ((((f_101.keep K_120 (ninS ne_83 nin0)).keep K_164 (ninS ne_83 (ninS ne_143 nin0))).keep K_272 (ninS ne_83 (ninS ne_125 (ninS ne_131 (ninS ne_137 (ninS ne_155 nin0)))))).keep K_299 (ninS ne_83 (ninS ne_149 nin0)))
                            have f_303 := (Nat.le_trans f_295 K_299.1)
                            refine g_virtual C (own_w hw 42 rfl) (own_w hw 43 rfl) (own_w hw 45 rfl) (own_w hw 44 rfl) (own_w hw 3 rfl) (own_w hw 46 rfl) (notFace_of_selects (args := #[]) (mvT C.2.2.2.2.1 (own_w hw 45 rfl))) (by decide) tr_300.1 (rm_sf01 l Z a0 hw n0 a_76 b_108 b_109 b_110 b_111 b_112 b_113 a_50 (1 : Int32) (.ref e_WRITE) (Int64.toInt32 p4) p4 qa qb  [] [] h_296 f_303 tr_300 f_302) (st := []) [(.ref a_50)] rfl rfl own_pd_7_startsFrom rfl rfl (by decide) (W := 0) (Nat.le_of_eq rfl) (by decide) (by decide) (by decide) at_236 (pc' := 239) rfl ?_
                            intro v_306 h_304 q_305
                            obtain ⟨rfl, rfl⟩ := q_305
                            show Go B n0 _ h_296 13 42 239 #[.val (.long p0), .second, .val (.long p1), .second, .val (.long p2), .second, .val (.long p3), .second, .val (.long p4), .second, .val (.int p5), .val (.int (0 : Int32)), .val (.int b1), .val (.int b2), .val (.int b3), .val (.int b4), .val (.int b5), .val (.int b6), .val (.ref a_10), .val (.ref a_28), .val (.ref a_50), .val (.ref a_76), .unset, .unset] [(.int (1 : Int32))]
                            refine g_istore C at_239 (v := (1 : Int32)) (L' := #[.val (.long p0), .second, .val (.long p1), .second, .val (.long p2), .second, .val (.long p3), .second, .val (.long p4), .second, .val (.int p5), .val (.int (0 : Int32)), .val (.int b1), .val (.int b2), .val (.int b3), .val (.int b4), .val (.int b5), .val (.int b6), .val (.ref a_10), .val (.ref a_28), .val (.ref a_50), .val (.ref a_76), .val (.int (1 : Int32)), .unset]) rfl (pc' := 241) rfl ?_
                            refine g_iload C at_241 (v := b3) rfl (pc' := 243) rfl ?_
                            refine g_if_n C at_243 (Jvm.Free.XT.i0_eq_f hb_274) (pc' := 246) rfl ?_
                            refine g_iload C at_246 (v := b4) rfl (pc' := 248) rfl ?_
                            refine g_if_n C at_248 (Jvm.Free.XT.i0_ne_f hb_301) (pc' := 251) rfl ?_
                            refine g_iload C at_251 (v := (0 : Int32)) rfl (pc' := 253) rfl ?_
                            refine g_iconst C at_253 (v := (1 : Int32)) rfl (pc' := 254) rfl ?_
                            refine g_icmp_y C at_254 (Jvm.Free.XT.ii_lt_t (by decide)) (pc' := 266) (by decide) (by decide) ?_
                            refine g_iload C at_266 (v := (0 : Int32)) rfl (pc' := 268) rfl ?_
                            refine g_iconst C at_268 (v := (2 : Int32)) rfl (pc' := 269) rfl ?_
                            refine g_icmp_y C at_269 (Jvm.Free.XT.ii_lt_t (by decide)) (pc' := 281) (by decide) (by decide) ?_
                            refine g_iconst C at_281 (v := (1 : Int32)) rfl (pc' := 282) rfl ?_
                            refine g_goto C at_282 (pc' := 286) (by decide) (by decide) ?_
                            refine g_istore C at_286 (v := (1 : Int32)) (L' := #[.val (.long p0), .second, .val (.long p1), .second, .val (.long p2), .second, .val (.long p3), .second, .val (.long p4), .second, .val (.int p5), .val (.int (0 : Int32)), .val (.int b1), .val (.int b2), .val (.int b3), .val (.int b4), .val (.int b5), .val (.int b6), .val (.ref a_10), .val (.ref a_28), .val (.ref a_50), .val (.ref a_76), .val (.int (1 : Int32)), .val (.int (1 : Int32))]) rfl (pc' := 288) rfl ?_
                            refine g_iload C at_288 (v := (1 : Int32)) rfl (pc' := 290) rfl ?_
                            refine g_iload C at_290 (v := (1 : Int32)) rfl (pc' := 292) rfl ?_
                            refine g_icmp_n C at_292 (Jvm.Free.XT.ii_ne_f (by decide)) (pc' := 295) rfl ?_
                            refine g_iconst C at_295 (v := (1 : Int32)) rfl (pc' := 296) rfl ?_
                            refine g_goto C at_296 (pc' := 300) (by decide) (by decide) ?_
                            refine g_ret C (v := (.int (1 : Int32))) (ty := .boolean) rfl rfl (Or.inl ⟨rfl, Or.inr (Or.inl rfl), _, rfl⟩) at_300 (by decide) (by decide) ?_
                            rfl
                          · refine g_if_n C at_222 (Jvm.Free.XT.i0_eq_f hb_301) (pc' := 225) rfl ?_
                            refine g_aload C at_225 (v := (.ref a_76)) rfl rfl (pc' := 227) rfl ?_
                            refine g_aload C at_227 (v := (.ref a_10)) rfl rfl (pc' := 229) rfl ?_
                            have f_307 := (((f_159.keep K_164 (ninS ne_81 (ninS ne_141 nin0))).keep K_272 (ninS ne_81 (ninS ne_123 (ninS ne_129 (ninS ne_135 (ninS ne_153 nin0)))))).keep K_299 (ninS ne_81 (ninS ne_147 nin0)))
                            have f_308 := (Nat.le_trans f_295 K_299.1)
                            refine g_virtual C (own_w hw 29 rfl) (own_w hw 30 rfl) (own_w hw 32 rfl) (own_w hw 31 rfl) (own_w hw 3 rfl) (own_w hw 33 rfl) (notFace_of_selects (args := #[]) (mvT C.2.2.2.2.1 (own_w hw 32 rfl))) (by decide) tr_300.1 (rm_begin0 l Z a0 hw n0 a_76 b_108 b_109 b_110 b_111 b_112 b_113 a_10 (1 : Int32) (1 : Int32) (.ref e_WRITE) (Int64.toInt32 p4) p4 p0 p1  [] [] h_296 f_308 tr_300 di_121 ⟨ne_126, ne_132, ne_138, ne_144, ne_150, ne_156⟩ ⟨ge_b_108, ge_b_109, ge_b_110, ge_b_111, ge_b_112, ge_b_113, ge_a_76⟩ f_307 ne_141 ne_81) (st := []) [(.ref a_10)] rfl rfl own_pd_6_begin rfl rfl (by decide) (W := 0) (Nat.le_of_eq rfl) (by decide) (by decide) (by decide) at_229 (pc' := 232) rfl ?_
                            intro v_311 h_309 q_310
                            obtain ⟨rfl, K_312, tr_313⟩ := q_310
                            show Go B n0 _ h_309 13 42 232 #[.val (.long p0), .second, .val (.long p1), .second, .val (.long p2), .second, .val (.long p3), .second, .val (.long p4), .second, .val (.int p5), .val (.int (0 : Int32)), .val (.int b1), .val (.int b2), .val (.int b3), .val (.int b4), .val (.int b5), .val (.int b6), .val (.ref a_10), .val (.ref a_28), .val (.ref a_50), .val (.ref a_76), .unset, .unset] []
                            refine g_aload C at_232 (v := (.ref a_76)) rfl rfl (pc' := 234) rfl ?_
                            refine g_aload C at_234 (v := (.ref a_50)) rfl rfl (pc' := 236) rfl ?_
                            have f_314 := (((((f_101.keep K_120 (ninS ne_83 nin0)).keep K_164 (ninS ne_83 (ninS ne_143 nin0))).keep K_272 (ninS ne_83 (ninS ne_125 (ninS ne_131 (ninS ne_137 (ninS ne_155 nin0)))))).keep K_299 (ninS ne_83 (ninS ne_149 nin0))).keep K_312 (ninS ne_83 (ninS ne_143 nin0)))
                            have f_315 := (Nat.le_trans f_308 K_312.1)
                            refine g_virtual C (own_w hw 42 rfl) (own_w hw 43 rfl) (own_w hw 45 rfl) (own_w hw 44 rfl) (own_w hw 3 rfl) (own_w hw 46 rfl) (notFace_of_selects (args := #[]) (mvT C.2.2.2.2.1 (own_w hw 45 rfl))) (by decide) tr_313.1 (rm_sf00 l Z a0 hw n0 a_76 b_108 b_109 b_110 b_111 b_112 b_113 a_50 (0 : Int32) (.ref e_WRITE) (Int64.toInt32 p4) p4 qa qb  [] [] h_309 f_315 tr_313 f_314) (st := []) [(.ref a_50)] rfl rfl own_pd_7_startsFrom rfl rfl (by decide) (W := 0) (Nat.le_of_eq rfl) (by decide) (by decide) (by decide) at_236 (pc' := 239) rfl ?_
                            intro v_318 h_316 q_317
                            obtain ⟨rfl, rfl⟩ := q_317
                            show Go B n0 _ h_309 13 42 239 #[.val (.long p0), .second, .val (.long p1), .second, .val (.long p2), .second, .val (.long p3), .second, .val (.long p4), .second, .val (.int p5), .val (.int (0 : Int32)), .val (.int b1), .val (.int b2), .val (.int b3), .val (.int b4), .val (.int b5), .val (.int b6), .val (.ref a_10), .val (.ref a_28), .val (.ref a_50), .val (.ref a_76), .unset, .unset] [(.int (0 : Int32))]
                            refine g_istore C at_239 (v := (0 : Int32)) (L' := #[.val (.long p0), .second, .val (.long p1), .second, .val (.long p2), .second, .val (.long p3), .second, .val (.long p4), .second, .val (.int p5), .val (.int (0 : Int32)), .val (.int b1), .val (.int b2), .val (.int b3), .val (.int b4), .val (.int b5), .val (.int b6), .val (.ref a_10), .val (.ref a_28), .val (.ref a_50), .val (.ref a_76), .val (.int (0 : Int32)), .unset]) rfl (pc' := 241) rfl ?_
                            refine g_iload C at_241 (v := b3) rfl (pc' := 243) rfl ?_
                            refine g_if_n C at_243 (Jvm.Free.XT.i0_eq_f hb_274) (pc' := 246) rfl ?_
                            refine g_iload C at_246 (v := b4) rfl (pc' := 248) rfl ?_
                            refine g_if_y C at_248 (Jvm.Free.XT.i0_ne_t hb_301) (pc' := 285) (by decide) (by decide) ?_
                            refine g_iconst C at_285 (v := (0 : Int32)) rfl (pc' := 286) rfl ?_
                            refine g_istore C at_286 (v := (0 : Int32)) (L' := #[.val (.long p0), .second, .val (.long p1), .second, .val (.long p2), .second, .val (.long p3), .second, .val (.long p4), .second, .val (.int p5), .val (.int (0 : Int32)), .val (.int b1), .val (.int b2), .val (.int b3), .val (.int b4), .val (.int b5), .val (.int b6), .val (.ref a_10), .val (.ref a_28), .val (.ref a_50), .val (.ref a_76), .val (.int (0 : Int32)), .val (.int (0 : Int32))]) rfl (pc' := 288) rfl ?_
                            refine g_iload C at_288 (v := (0 : Int32)) rfl (pc' := 290) rfl ?_
                            refine g_iload C at_290 (v := (0 : Int32)) rfl (pc' := 292) rfl ?_
                            refine g_icmp_n C at_292 (Jvm.Free.XT.ii_ne_f (by decide)) (pc' := 295) rfl ?_
                            refine g_iconst C at_295 (v := (1 : Int32)) rfl (pc' := 296) rfl ?_
                            refine g_goto C at_296 (pc' := 300) (by decide) (by decide) ?_
                            refine g_ret C (v := (.int (1 : Int32))) (ty := .boolean) rfl rfl (Or.inl ⟨rfl, Or.inr (Or.inl rfl), _, rfl⟩) at_300 (by decide) (by decide) ?_
                            rfl
                  refine g_iload C at_145 (v := b2) rfl (pc' := 147) rfl ?_
                  by_cases hb_319 : b2 = (0 : Int32)
                  · refine g_if_y C at_147 (Jvm.Free.XT.i0_eq_t hb_319) (pc' := 154) (by decide) (by decide) ?_
                    refine g_lload C at_154 (v := p3) rfl (pc' := 156) rfl ?_
                    exact t_66 p3
                  · refine g_if_n C at_147 (Jvm.Free.XT.i0_eq_f hb_319) (pc' := 150) rfl ?_
                    refine g_lload_n C at_150 (v := p1) rfl (pc' := 151) rfl ?_
                    refine g_goto C at_151 (pc' := 156) (by decide) (by decide) ?_
                    exact t_66 p1
                refine g_iload C at_131 (v := b1) rfl (pc' := 133) rfl ?_
                by_cases hb_320 : b1 = (0 : Int32)
                · refine g_if_y C at_133 (Jvm.Free.XT.i0_eq_t hb_320) (pc' := 140) (by decide) (by decide) ?_
                  refine g_lload C at_140 (v := p2) rfl (pc' := 142) rfl ?_
                  exact t_61 p2
                · refine g_if_n C at_133 (Jvm.Free.XT.i0_eq_f hb_320) (pc' := 136) rfl ?_
                  refine g_lload_n C at_136 (v := p0) rfl (pc' := 137) rfl ?_
                  refine g_goto C at_137 (pc' := 142) (by decide) (by decide) ?_
                  exact t_61 p0
              refine g_iload C at_82 (v := p5) rfl (pc' := 84) rfl ?_
              refine g_sipush C at_84 (v := (128 : Int32)) rfl (pc' := 87) rfl ?_
              refine g_iand C (x := p5) (y := (128 : Int32)) at_87  (pc' := 88) rfl ?_
              by_cases hb_321 : (p5 &&& (128 : Int32)) = (0 : Int32)
              · refine g_if_y C at_88 (Jvm.Free.XT.i0_eq_t hb_321) (pc' := 95) (by decide) (by decide) ?_
                refine g_iconst C at_95 (v := (0 : Int32)) rfl (pc' := 96) rfl ?_
                exact t_8 (0 : Int32)
              · refine g_if_n C at_88 (Jvm.Free.XT.i0_eq_f hb_321) (pc' := 91) rfl ?_
                refine g_iconst C at_91 (v := (1 : Int32)) rfl (pc' := 92) rfl ?_
                refine g_goto C at_92 (pc' := 96) (by decide) (by decide) ?_
                exact t_8 (1 : Int32)
            refine g_iload C at_67 (v := p5) rfl (pc' := 69) rfl ?_
            refine g_bipush C at_69 (v := (64 : Int32)) rfl (pc' := 71) rfl ?_
            refine g_iand C (x := p5) (y := (64 : Int32)) at_71  (pc' := 72) rfl ?_
            by_cases hb_322 : (p5 &&& (64 : Int32)) = (0 : Int32)
            · refine g_if_y C at_72 (Jvm.Free.XT.i0_eq_t hb_322) (pc' := 79) (by decide) (by decide) ?_
              refine g_iconst C at_79 (v := (0 : Int32)) rfl (pc' := 80) rfl ?_
              exact t_7 (0 : Int32)
            · refine g_if_n C at_72 (Jvm.Free.XT.i0_eq_f hb_322) (pc' := 75) rfl ?_
              refine g_iconst C at_75 (v := (1 : Int32)) rfl (pc' := 76) rfl ?_
              refine g_goto C at_76 (pc' := 80) (by decide) (by decide) ?_
              exact t_7 (1 : Int32)
          refine g_iload C at_52 (v := p5) rfl (pc' := 54) rfl ?_
          refine g_bipush C at_54 (v := (32 : Int32)) rfl (pc' := 56) rfl ?_
          refine g_iand C (x := p5) (y := (32 : Int32)) at_56  (pc' := 57) rfl ?_
          by_cases hb_323 : (p5 &&& (32 : Int32)) = (0 : Int32)
          · refine g_if_y C at_57 (Jvm.Free.XT.i0_eq_t hb_323) (pc' := 64) (by decide) (by decide) ?_
            refine g_iconst C at_64 (v := (0 : Int32)) rfl (pc' := 65) rfl ?_
            exact t_6 (0 : Int32)
          · refine g_if_n C at_57 (Jvm.Free.XT.i0_eq_f hb_323) (pc' := 60) rfl ?_
            refine g_iconst C at_60 (v := (1 : Int32)) rfl (pc' := 61) rfl ?_
            refine g_goto C at_61 (pc' := 65) (by decide) (by decide) ?_
            exact t_6 (1 : Int32)
        refine g_iload C at_37 (v := p5) rfl (pc' := 39) rfl ?_
        refine g_bipush C at_39 (v := (16 : Int32)) rfl (pc' := 41) rfl ?_
        refine g_iand C (x := p5) (y := (16 : Int32)) at_41  (pc' := 42) rfl ?_
        by_cases hb_324 : (p5 &&& (16 : Int32)) = (0 : Int32)
        · refine g_if_y C at_42 (Jvm.Free.XT.i0_eq_t hb_324) (pc' := 49) (by decide) (by decide) ?_
          refine g_iconst C at_49 (v := (0 : Int32)) rfl (pc' := 50) rfl ?_
          exact t_5 (0 : Int32)
        · refine g_if_n C at_42 (Jvm.Free.XT.i0_eq_f hb_324) (pc' := 45) rfl ?_
          refine g_iconst C at_45 (v := (1 : Int32)) rfl (pc' := 46) rfl ?_
          refine g_goto C at_46 (pc' := 50) (by decide) (by decide) ?_
          exact t_5 (1 : Int32)
      refine g_iload C at_22 (v := p5) rfl (pc' := 24) rfl ?_
      refine g_bipush C at_24 (v := (8 : Int32)) rfl (pc' := 26) rfl ?_
      refine g_iand C (x := p5) (y := (8 : Int32)) at_26  (pc' := 27) rfl ?_
      by_cases hb_325 : (p5 &&& (8 : Int32)) = (0 : Int32)
      · refine g_if_y C at_27 (Jvm.Free.XT.i0_eq_t hb_325) (pc' := 34) (by decide) (by decide) ?_
        refine g_iconst C at_34 (v := (0 : Int32)) rfl (pc' := 35) rfl ?_
        exact t_4 (0 : Int32)
      · refine g_if_n C at_27 (Jvm.Free.XT.i0_eq_f hb_325) (pc' := 30) rfl ?_
        refine g_iconst C at_30 (v := (1 : Int32)) rfl (pc' := 31) rfl ?_
        refine g_goto C at_31 (pc' := 35) (by decide) (by decide) ?_
        exact t_4 (1 : Int32)
    refine g_iconst C at_10 (v := (4 : Int32)) rfl (pc' := 11) rfl ?_
    refine g_iand C (x := p5) (y := (4 : Int32)) at_11  (pc' := 12) rfl ?_
    by_cases hb_326 : (p5 &&& (4 : Int32)) = (0 : Int32)
    · refine g_if_y C at_12 (Jvm.Free.XT.i0_eq_t hb_326) (pc' := 19) (by decide) (by decide) ?_
      refine g_iconst C at_19 (v := (0 : Int32)) rfl (pc' := 20) rfl ?_
      exact t_3 (0 : Int32)
    · refine g_if_n C at_12 (Jvm.Free.XT.i0_eq_f hb_326) (pc' := 15) rfl ?_
      refine g_iconst C at_15 (v := (1 : Int32)) rfl (pc' := 16) rfl ?_
      refine g_goto C at_16 (pc' := 20) (by decide) (by decide) ?_
      exact t_3 (1 : Int32)
  · subst i_1e
    show Go B n0 _ h0 0 0 8 #[.val (.long p0), .second, .val (.long p1), .second, .val (.long p2), .second, .val (.long p3), .second, .val (.long p4), .second, .val (.int p5), .val (.int (1 : Int32)), .unset, .unset, .unset, .unset, .unset, .unset, .unset, .unset, .unset, .unset, .unset, .unset] []
    refine g_iload C at_8 (v := p5) rfl (pc' := 10) rfl ?_
    have t_327 : ∀ (b1 : Int32), Go B n0 (fun v h => v = some (.int 1)) h0 0 0 20 #[.val (.long p0), .second, .val (.long p1), .second, .val (.long p2), .second, .val (.long p3), .second, .val (.long p4), .second, .val (.int p5), .val (.int (1 : Int32)), .unset, .unset, .unset, .unset, .unset, .unset, .unset, .unset, .unset, .unset, .unset, .unset] [(.int b1)] := by
      intro b1
      refine g_istore C at_20 (v := b1) (L' := #[.val (.long p0), .second, .val (.long p1), .second, .val (.long p2), .second, .val (.long p3), .second, .val (.long p4), .second, .val (.int p5), .val (.int (1 : Int32)), .val (.int b1), .unset, .unset, .unset, .unset, .unset, .unset, .unset, .unset, .unset, .unset, .unset]) rfl (pc' := 22) rfl ?_
      have t_328 : ∀ (b2 : Int32), Go B n0 (fun v h => v = some (.int 1)) h0 0 0 35 #[.val (.long p0), .second, .val (.long p1), .second, .val (.long p2), .second, .val (.long p3), .second, .val (.long p4), .second, .val (.int p5), .val (.int (1 : Int32)), .val (.int b1), .unset, .unset, .unset, .unset, .unset, .unset, .unset, .unset, .unset, .unset, .unset] [(.int b2)] := by
        intro b2
        refine g_istore C at_35 (v := b2) (L' := #[.val (.long p0), .second, .val (.long p1), .second, .val (.long p2), .second, .val (.long p3), .second, .val (.long p4), .second, .val (.int p5), .val (.int (1 : Int32)), .val (.int b1), .val (.int b2), .unset, .unset, .unset, .unset, .unset, .unset, .unset, .unset, .unset, .unset]) rfl (pc' := 37) rfl ?_
        have t_329 : ∀ (b3 : Int32), Go B n0 (fun v h => v = some (.int 1)) h0 0 0 50 #[.val (.long p0), .second, .val (.long p1), .second, .val (.long p2), .second, .val (.long p3), .second, .val (.long p4), .second, .val (.int p5), .val (.int (1 : Int32)), .val (.int b1), .val (.int b2), .unset, .unset, .unset, .unset, .unset, .unset, .unset, .unset, .unset, .unset] [(.int b3)] := by
          intro b3
          refine g_istore C at_50 (v := b3) (L' := #[.val (.long p0), .second, .val (.long p1), .second, .val (.long p2), .second, .val (.long p3), .second, .val (.long p4), .second, .val (.int p5), .val (.int (1 : Int32)), .val (.int b1), .val (.int b2), .val (.int b3), .unset, .unset, .unset, .unset, .unset, .unset, .unset, .unset, .unset]) rfl (pc' := 52) rfl ?_
          have t_330 : ∀ (b4 : Int32), Go B n0 (fun v h => v = some (.int 1)) h0 0 0 65 #[.val (.long p0), .second, .val (.long p1), .second, .val (.long p2), .second, .val (.long p3), .second, .val (.long p4), .second, .val (.int p5), .val (.int (1 : Int32)), .val (.int b1), .val (.int b2), .val (.int b3), .unset, .unset, .unset, .unset, .unset, .unset, .unset, .unset, .unset] [(.int b4)] := by
            intro b4
            refine g_istore C at_65 (v := b4) (L' := #[.val (.long p0), .second, .val (.long p1), .second, .val (.long p2), .second, .val (.long p3), .second, .val (.long p4), .second, .val (.int p5), .val (.int (1 : Int32)), .val (.int b1), .val (.int b2), .val (.int b3), .val (.int b4), .unset, .unset, .unset, .unset, .unset, .unset, .unset, .unset]) rfl (pc' := 67) rfl ?_
            have t_331 : ∀ (b5 : Int32), Go B n0 (fun v h => v = some (.int 1)) h0 0 0 80 #[.val (.long p0), .second, .val (.long p1), .second, .val (.long p2), .second, .val (.long p3), .second, .val (.long p4), .second, .val (.int p5), .val (.int (1 : Int32)), .val (.int b1), .val (.int b2), .val (.int b3), .val (.int b4), .unset, .unset, .unset, .unset, .unset, .unset, .unset, .unset] [(.int b5)] := by
              intro b5
              refine g_istore C at_80 (v := b5) (L' := #[.val (.long p0), .second, .val (.long p1), .second, .val (.long p2), .second, .val (.long p3), .second, .val (.long p4), .second, .val (.int p5), .val (.int (1 : Int32)), .val (.int b1), .val (.int b2), .val (.int b3), .val (.int b4), .val (.int b5), .unset, .unset, .unset, .unset, .unset, .unset, .unset]) rfl (pc' := 82) rfl ?_
              have t_332 : ∀ (b6 : Int32), Go B n0 (fun v h => v = some (.int 1)) h0 0 0 96 #[.val (.long p0), .second, .val (.long p1), .second, .val (.long p2), .second, .val (.long p3), .second, .val (.long p4), .second, .val (.int p5), .val (.int (1 : Int32)), .val (.int b1), .val (.int b2), .val (.int b3), .val (.int b4), .val (.int b5), .unset, .unset, .unset, .unset, .unset, .unset, .unset] [(.int b6)] := by
                intro b6
                refine g_istore C at_96 (v := b6) (L' := #[.val (.long p0), .second, .val (.long p1), .second, .val (.long p2), .second, .val (.long p3), .second, .val (.long p4), .second, .val (.int p5), .val (.int (1 : Int32)), .val (.int b1), .val (.int b2), .val (.int b3), .val (.int b4), .val (.int b5), .val (.int b6), .unset, .unset, .unset, .unset, .unset, .unset]) rfl (pc' := 98) rfl ?_
                refine g_iconst C at_98 (v := (2 : Int32)) rfl (pc' := 99) rfl ?_
                refine g_newarray C (own_w hw 0 rfl) (ty := .long) rfl (by decide) (cap := 2) (by decide) (by decide) (by decide) (by decide) at_99 (pc' := 101) rfl ?_
                intro h_333 a_334 g_335 E_336 A_337
                have ne_338 : e_READ ≠ a_334 := ne_new (X_READ.ext O.2).lt g_335
                have ne_339 : e_WRITE ≠ a_334 := ne_new (X_WRITE.ext O.2).lt g_335
                have ge_a_334 : n0 ≤ a_334 := Nat.le_trans Z0 (Nat.le_of_eq g_335.symm)
                have gs_a_334 : h0.size ≤ a_334 := Nat.le_trans (Nat.le_refl h0.size) (Nat.le_of_eq g_335.symm)
                have f_340 : Ary Z h_333 a_334 .long [(.long (0 : Int64)), (.long (0 : Int64))] := A_337
                show Go B n0 _ h_333 1 2 101 #[.val (.long p0), .second, .val (.long p1), .second, .val (.long p2), .second, .val (.long p3), .second, .val (.long p4), .second, .val (.int p5), .val (.int (1 : Int32)), .val (.int b1), .val (.int b2), .val (.int b3), .val (.int b4), .val (.int b5), .val (.int b6), .unset, .unset, .unset, .unset, .unset, .unset] [(.ref a_334)]
                refine g_dup C at_101 rfl (pc' := 102) rfl ?_
                refine g_iconst C at_102 (v := (0 : Int32)) rfl (pc' := 103) rfl ?_
                refine g_lload_n C at_103 (v := p0) rfl (pc' := 104) rfl ?_
                refine g_lastore C f_340 (by decide) (i := 0) (by decide) (show 0 < 2 by decide) (w := (.long p0)) rfl ge_a_334 at_104 (pc' := 105) rfl ?_
                intro h_341 K_342 A_343
                have f_344 : Ary Z h_341 a_334 .long [(.long p0), (.long (0 : Int64))] := A_343
                refine g_dup C at_105 rfl (pc' := 106) rfl ?_
                refine g_iconst C at_106 (v := (1 : Int32)) rfl (pc' := 107) rfl ?_
                refine g_lload_n C at_107 (v := p1) rfl (pc' := 108) rfl ?_
                refine g_lastore C f_344 (by decide) (i := 1) (by decide) (show 1 < 2 by decide) (w := (.long p1)) rfl ge_a_334 at_108 (pc' := 109) rfl ?_
                intro h_345 K_346 A_347
                have f_348 : Ary Z h_345 a_334 .long [(.long p0), (.long p1)] := A_347
                refine g_astore C at_109 (v := (.ref a_334)) (L' := #[.val (.long p0), .second, .val (.long p1), .second, .val (.long p2), .second, .val (.long p3), .second, .val (.long p4), .second, .val (.int p5), .val (.int (1 : Int32)), .val (.int b1), .val (.int b2), .val (.int b3), .val (.int b4), .val (.int b5), .val (.int b6), .val (.ref a_334), .unset, .unset, .unset, .unset, .unset]) rfl rfl (pc' := 111) rfl ?_
                refine g_iconst C at_111 (v := (2 : Int32)) rfl (pc' := 112) rfl ?_
                have f_349 := ((((X_READ.ext O.2).ext E_336).keep K_342).keep K_346)
                have f_350 := ((((X_WRITE.ext O.2).ext E_336).keep K_342).keep K_346)
                refine g_newarray C (own_w hw 0 rfl) (ty := .long) rfl (by decide) (cap := 2) (by decide) (by decide) (by decide) (by decide) at_112 (pc' := 114) rfl ?_
                intro h_351 a_352 g_353 E_354 A_355
                have ne_356 : a_334 ≠ a_352 := ne_new f_348.lt g_353
                have ne_357 : e_READ ≠ a_352 := ne_new f_349.lt g_353
                have ne_358 : e_WRITE ≠ a_352 := ne_new f_350.lt g_353
                have f_359 := (Nat.le_trans (Nat.le_trans (Nat.le_trans Z0 E_336.1) K_342.1) K_346.1)
                have ge_a_352 : n0 ≤ a_352 := Nat.le_trans f_359 (Nat.le_of_eq g_353.symm)
                have f_360 := (Nat.le_trans (Nat.le_trans (Nat.le_trans (Nat.le_refl h0.size) E_336.1) K_342.1) K_346.1)
                have gs_a_352 : h0.size ≤ a_352 := Nat.le_trans f_360 (Nat.le_of_eq g_353.symm)
                have f_361 : Ary Z h_351 a_352 .long [(.long (0 : Int64)), (.long (0 : Int64))] := A_355
                show Go B n0 _ h_351 2 4 114 #[.val (.long p0), .second, .val (.long p1), .second, .val (.long p2), .second, .val (.long p3), .second, .val (.long p4), .second, .val (.int p5), .val (.int (1 : Int32)), .val (.int b1), .val (.int b2), .val (.int b3), .val (.int b4), .val (.int b5), .val (.int b6), .val (.ref a_334), .unset, .unset, .unset, .unset, .unset] [(.ref a_352)]
                refine g_dup C at_114 rfl (pc' := 115) rfl ?_
                refine g_iconst C at_115 (v := (0 : Int32)) rfl (pc' := 116) rfl ?_
                refine g_lload C at_116 (v := p2) rfl (pc' := 118) rfl ?_
                refine g_lastore C f_361 (by decide) (i := 0) (by decide) (show 0 < 2 by decide) (w := (.long p2)) rfl ge_a_352 at_118 (pc' := 119) rfl ?_
                intro h_362 K_363 A_364
                have f_365 : Ary Z h_362 a_352 .long [(.long p2), (.long (0 : Int64))] := A_364
                refine g_dup C at_119 rfl (pc' := 120) rfl ?_
                refine g_iconst C at_120 (v := (1 : Int32)) rfl (pc' := 121) rfl ?_
                refine g_lload C at_121 (v := p3) rfl (pc' := 123) rfl ?_
                refine g_lastore C f_365 (by decide) (i := 1) (by decide) (show 1 < 2 by decide) (w := (.long p3)) rfl ge_a_352 at_123 (pc' := 124) rfl ?_
                intro h_366 K_367 A_368
                have f_369 : Ary Z h_366 a_352 .long [(.long p2), (.long p3)] := A_368
                refine g_astore C at_124 (v := (.ref a_352)) (L' := #[.val (.long p0), .second, .val (.long p1), .second, .val (.long p2), .second, .val (.long p3), .second, .val (.long p4), .second, .val (.int p5), .val (.int (1 : Int32)), .val (.int b1), .val (.int b2), .val (.int b3), .val (.int b4), .val (.int b5), .val (.int b6), .val (.ref a_334), .val (.ref a_352), .unset, .unset, .unset, .unset]) rfl rfl (pc' := 126) rfl ?_
                refine g_iconst C at_126 (v := (2 : Int32)) rfl (pc' := 127) rfl ?_
                have f_370 := (((f_348.ext E_354).keep K_363 (ninS ne_356 nin0)).keep K_367 (ninS ne_356 nin0))
                have f_371 := (((f_349.ext E_354).keep K_363).keep K_367)
                have f_372 := (((f_350.ext E_354).keep K_363).keep K_367)
                refine g_newarray C (own_w hw 0 rfl) (ty := .long) rfl (by decide) (cap := 2) (by decide) (by decide) (by decide) (by decide) at_127 (pc' := 129) rfl ?_
                intro h_373 a_374 g_375 E_376 A_377
                have ne_378 : a_334 ≠ a_374 := ne_new f_370.lt g_375
                have ne_379 : a_352 ≠ a_374 := ne_new f_369.lt g_375
                have ne_380 : e_READ ≠ a_374 := ne_new f_371.lt g_375
                have ne_381 : e_WRITE ≠ a_374 := ne_new f_372.lt g_375
                have f_382 := (Nat.le_trans (Nat.le_trans (Nat.le_trans f_359 E_354.1) K_363.1) K_367.1)
                have ge_a_374 : n0 ≤ a_374 := Nat.le_trans f_382 (Nat.le_of_eq g_375.symm)
                have f_383 := (Nat.le_trans (Nat.le_trans (Nat.le_trans f_360 E_354.1) K_363.1) K_367.1)
                have gs_a_374 : h0.size ≤ a_374 := Nat.le_trans f_383 (Nat.le_of_eq g_375.symm)
                have f_384 : Ary Z h_373 a_374 .long [(.long (0 : Int64)), (.long (0 : Int64))] := A_377
                show Go B n0 _ h_373 3 6 129 #[.val (.long p0), .second, .val (.long p1), .second, .val (.long p2), .second, .val (.long p3), .second, .val (.long p4), .second, .val (.int p5), .val (.int (1 : Int32)), .val (.int b1), .val (.int b2), .val (.int b3), .val (.int b4), .val (.int b5), .val (.int b6), .val (.ref a_334), .val (.ref a_352), .unset, .unset, .unset, .unset] [(.ref a_374)]
                refine g_dup C at_129 rfl (pc' := 130) rfl ?_
                refine g_iconst C at_130 (v := (0 : Int32)) rfl (pc' := 131) rfl ?_
                have t_385 : ∀ (qa : Int64), Go B n0 (fun v h => v = some (.int 1)) h_373 3 6 142 #[.val (.long p0), .second, .val (.long p1), .second, .val (.long p2), .second, .val (.long p3), .second, .val (.long p4), .second, .val (.int p5), .val (.int (1 : Int32)), .val (.int b1), .val (.int b2), .val (.int b3), .val (.int b4), .val (.int b5), .val (.int b6), .val (.ref a_334), .val (.ref a_352), .unset, .unset, .unset, .unset] [(.long qa), (.int (0 : Int32)), (.ref a_374), (.ref a_374)] := by
                  intro qa
                  refine g_lastore C f_384 (by decide) (i := 0) (by decide) (show 0 < 2 by decide) (w := (.long qa)) rfl ge_a_374 at_142 (pc' := 143) rfl ?_
                  intro h_386 K_387 A_388
                  have f_389 : Ary Z h_386 a_374 .long [(.long qa), (.long (0 : Int64))] := A_388
                  refine g_dup C at_143 rfl (pc' := 144) rfl ?_
                  refine g_iconst C at_144 (v := (1 : Int32)) rfl (pc' := 145) rfl ?_
                  have t_390 : ∀ (qb : Int64), Go B n0 (fun v h => v = some (.int 1)) h_386 3 6 156 #[.val (.long p0), .second, .val (.long p1), .second, .val (.long p2), .second, .val (.long p3), .second, .val (.long p4), .second, .val (.int p5), .val (.int (1 : Int32)), .val (.int b1), .val (.int b2), .val (.int b3), .val (.int b4), .val (.int b5), .val (.int b6), .val (.ref a_334), .val (.ref a_352), .unset, .unset, .unset, .unset] [(.long qb), (.int (1 : Int32)), (.ref a_374), (.ref a_374)] := by
                    intro qb
                    refine g_lastore C f_389 (by decide) (i := 1) (by decide) (show 1 < 2 by decide) (w := (.long qb)) rfl ge_a_374 at_156 (pc' := 157) rfl ?_
                    intro h_391 K_392 A_393
                    have f_394 : Ary Z h_391 a_374 .long [(.long qa), (.long qb)] := A_393
                    refine g_astore C at_157 (v := (.ref a_374)) (L' := #[.val (.long p0), .second, .val (.long p1), .second, .val (.long p2), .second, .val (.long p3), .second, .val (.long p4), .second, .val (.int p5), .val (.int (1 : Int32)), .val (.int b1), .val (.int b2), .val (.int b3), .val (.int b4), .val (.int b5), .val (.int b6), .val (.ref a_334), .val (.ref a_352), .val (.ref a_374), .unset, .unset, .unset]) rfl rfl (pc' := 159) rfl ?_
                    have f_395 := (((f_370.ext E_376).keep K_387 (ninS ne_378 nin0)).keep K_392 (ninS ne_378 nin0))
                    have f_396 := (((f_369.ext E_376).keep K_387 (ninS ne_379 nin0)).keep K_392 (ninS ne_379 nin0))
                    have f_397 := (((f_371.ext E_376).keep K_387).keep K_392)
                    have f_398 := (((f_372.ext E_376).keep K_387).keep K_392)
                    refine g_new C (own_w hw 1 rfl) (own_w hw 2 rfl) (own_w hw 3 rfl) (by decide) (by decide) at_159 (pc' := 162) rfl ?_
                    intro h_399 a_400 g_401 E_402 A_403 D_404
                    have ne_405 : a_334 ≠ a_400 := ne_new f_395.lt g_401
                    have ne_406 : a_352 ≠ a_400 := ne_new f_396.lt g_401
                    have ne_407 : a_374 ≠ a_400 := ne_new f_394.lt g_401
                    have ne_408 : e_READ ≠ a_400 := ne_new f_397.lt g_401
                    have ne_409 : e_WRITE ≠ a_400 := ne_new f_398.lt g_401
                    have f_410 := (Nat.le_trans (Nat.le_trans (Nat.le_trans f_382 E_376.1) K_387.1) K_392.1)
                    have ge_a_400 : n0 ≤ a_400 := Nat.le_trans f_410 (Nat.le_of_eq g_401.symm)
                    have f_411 := (Nat.le_trans (Nat.le_trans (Nat.le_trans f_383 E_376.1) K_387.1) K_392.1)
                    have gs_a_400 : h0.size ≤ a_400 := Nat.le_trans f_411 (Nat.le_of_eq g_401.symm)
                    have f_412 : Fld Z h_399 a_400 "com/example/vestalia/vestalia/locks/StepTrace" "kinds" "[Lcom/example/vestalia/vestalia/model/Step$Kind;" .null := D_404 (Or.inl (own_w hw 13 rfl)) (ty := (.array (.object "com/example/vestalia/vestalia/model/Step$Kind"))) (by decide)
                    have f_413 : Fld Z h_399 a_400 "com/example/vestalia/vestalia/locks/StepTrace" "slots" "[I" .null := D_404 (Or.inl (own_w hw 16 rfl)) (ty := (.array .int)) (by decide)
                    have f_414 : Fld Z h_399 a_400 "com/example/vestalia/vestalia/locks/StepTrace" "values" "[J" .null := D_404 (Or.inl (own_w hw 18 rfl)) (ty := (.array .long)) (by decide)
                    have f_415 : Fld Z h_399 a_400 "com/example/vestalia/vestalia/locks/StepTrace" "written" "[I" .null := D_404 (Or.inl (own_w hw 20 rfl)) (ty := (.array .int)) (by decide)
                    have f_416 : Fld Z h_399 a_400 "com/example/vestalia/vestalia/locks/StepTrace" "width" "I" (.int (0 : Int32)) := D_404 (Or.inr (own_w hw 22 rfl)) (ty := .int) (by decide)
                    have f_417 : Fld Z h_399 a_400 "com/example/vestalia/vestalia/locks/StepTrace" "start" "[J" .null := D_404 (Or.inr (own_w hw 24 rfl)) (ty := (.array .long)) (by decide)
                    have f_418 : Fld Z h_399 a_400 "com/example/vestalia/vestalia/locks/StepTrace" "end" "[J" .null := D_404 (Or.inr (own_w hw 26 rfl)) (ty := (.array .long)) (by decide)
                    have f_419 : Fld Z h_399 a_400 "com/example/vestalia/vestalia/locks/StepTrace" "before" "[J" .null := D_404 (Or.inl (own_w hw 28 rfl)) (ty := (.array .long)) (by decide)
                    have f_420 : Fld Z h_399 a_400 "com/example/vestalia/vestalia/locks/StepTrace" "length" "I" (.int (0 : Int32)) := D_404 (Or.inl (own_w hw 39 rfl)) (ty := .int) (by decide)
                    have f_421 : Fld Z h_399 a_400 "com/example/vestalia/vestalia/locks/StepTrace" "whole" "Z" (.int (0 : Int32)) := D_404 (Or.inl (own_w hw 41 rfl)) (ty := .boolean) (by decide)
                    show Go B n0 _ h_399 4 16 162 #[.val (.long p0), .second, .val (.long p1), .second, .val (.long p2), .second, .val (.long p3), .second, .val (.long p4), .second, .val (.int p5), .val (.int (1 : Int32)), .val (.int b1), .val (.int b2), .val (.int b3), .val (.int b4), .val (.int b5), .val (.int b6), .val (.ref a_334), .val (.ref a_352), .val (.ref a_374), .unset, .unset, .unset] [(.ref a_400)]
                    refine g_dup C at_162 rfl (pc' := 163) rfl ?_
                    refine g_iload C at_163 (v := (1 : Int32)) rfl (pc' := 165) rfl ?_
                    have f_422 := (Nat.le_trans f_410 E_402.1)
                    have f_423 := (f_395.ext E_402)
                    have f_424 := (f_396.ext E_402)
                    have f_425 := (f_394.ext E_402)
                    have f_426 := (f_397.ext E_402)
                    have f_427 := (f_398.ext E_402)
                    have f_428 := (Nat.le_trans f_411 E_402.1)
                    refine g_special C (a := a_400) rfl (own_w hw 4 rfl) (own_w hw 5 rfl) (own_w hw 3 rfl) (own_w hw 6 rfl) (by decide) (rm_init1 l Z a0 hw n0 a_400 h_399 f_422 A_403 f_412 f_413 f_414 f_415 f_416 f_417 f_418 f_419 f_420 f_421 ge_a_400) (st := [(.ref a_400)]) [(.int (1 : Int32))] rfl rfl own_pd_1_init rfl rfl (by decide) (W := 1) (Nat.le_of_eq rfl) (by decide) (by decide) (by decide) at_165 (pc' := 168) rfl ?_
                    intro v_431 h_429 q_430
                    obtain ⟨rfl, K_444, b_432, b_433, b_434, b_435, b_436, b_437, ⟨le_438, le_439, le_440, le_441, le_442, le_443⟩, di_445, tr_446⟩ := q_430
                    have ne_447 : a_334 ≠ b_432 := ne_ge f_423.lt le_438
                    have ne_448 : a_352 ≠ b_432 := ne_ge f_424.lt le_438
                    have ne_449 : a_374 ≠ b_432 := ne_ge f_425.lt le_438
                    have ne_450 : a_400 ≠ b_432 := ne_ge A_403.lt le_438
                    have ne_451 : e_READ ≠ b_432 := ne_ge f_426.lt le_438
                    have ne_452 : e_WRITE ≠ b_432 := ne_ge f_427.lt le_438
                    have ge_b_432 : n0 ≤ b_432 := Nat.le_trans f_422 le_438
                    have gs_b_432 : h0.size ≤ b_432 := Nat.le_trans f_428 le_438
                    have ne_453 : a_334 ≠ b_433 := ne_ge f_423.lt le_439
                    have ne_454 : a_352 ≠ b_433 := ne_ge f_424.lt le_439
                    have ne_455 : a_374 ≠ b_433 := ne_ge f_425.lt le_439
                    have ne_456 : a_400 ≠ b_433 := ne_ge A_403.lt le_439
                    have ne_457 : e_READ ≠ b_433 := ne_ge f_426.lt le_439
                    have ne_458 : e_WRITE ≠ b_433 := ne_ge f_427.lt le_439
                    have ge_b_433 : n0 ≤ b_433 := Nat.le_trans f_422 le_439
                    have gs_b_433 : h0.size ≤ b_433 := Nat.le_trans f_428 le_439
                    have ne_459 : a_334 ≠ b_434 := ne_ge f_423.lt le_440
                    have ne_460 : a_352 ≠ b_434 := ne_ge f_424.lt le_440
                    have ne_461 : a_374 ≠ b_434 := ne_ge f_425.lt le_440
                    have ne_462 : a_400 ≠ b_434 := ne_ge A_403.lt le_440
                    have ne_463 : e_READ ≠ b_434 := ne_ge f_426.lt le_440
                    have ne_464 : e_WRITE ≠ b_434 := ne_ge f_427.lt le_440
                    have ge_b_434 : n0 ≤ b_434 := Nat.le_trans f_422 le_440
                    have gs_b_434 : h0.size ≤ b_434 := Nat.le_trans f_428 le_440
                    have ne_465 : a_334 ≠ b_435 := ne_ge f_423.lt le_441
                    have ne_466 : a_352 ≠ b_435 := ne_ge f_424.lt le_441
                    have ne_467 : a_374 ≠ b_435 := ne_ge f_425.lt le_441
                    have ne_468 : a_400 ≠ b_435 := ne_ge A_403.lt le_441
                    have ne_469 : e_READ ≠ b_435 := ne_ge f_426.lt le_441
                    have ne_470 : e_WRITE ≠ b_435 := ne_ge f_427.lt le_441
                    have ge_b_435 : n0 ≤ b_435 := Nat.le_trans f_422 le_441
                    have gs_b_435 : h0.size ≤ b_435 := Nat.le_trans f_428 le_441
                    have ne_471 : a_334 ≠ b_436 := ne_ge f_423.lt le_442
                    have ne_472 : a_352 ≠ b_436 := ne_ge f_424.lt le_442
                    have ne_473 : a_374 ≠ b_436 := ne_ge f_425.lt le_442
                    have ne_474 : a_400 ≠ b_436 := ne_ge A_403.lt le_442
                    have ne_475 : e_READ ≠ b_436 := ne_ge f_426.lt le_442
                    have ne_476 : e_WRITE ≠ b_436 := ne_ge f_427.lt le_442
                    have ge_b_436 : n0 ≤ b_436 := Nat.le_trans f_422 le_442
                    have gs_b_436 : h0.size ≤ b_436 := Nat.le_trans f_428 le_442
                    have ne_477 : a_334 ≠ b_437 := ne_ge f_423.lt le_443
                    have ne_478 : a_352 ≠ b_437 := ne_ge f_424.lt le_443
                    have ne_479 : a_374 ≠ b_437 := ne_ge f_425.lt le_443
                    have ne_480 : a_400 ≠ b_437 := ne_ge A_403.lt le_443
                    have ne_481 : e_READ ≠ b_437 := ne_ge f_426.lt le_443
                    have ne_482 : e_WRITE ≠ b_437 := ne_ge f_427.lt le_443
                    have ge_b_437 : n0 ≤ b_437 := Nat.le_trans f_422 le_443
                    have gs_b_437 : h0.size ≤ b_437 := Nat.le_trans f_428 le_443
                    show Go B n0 _ h_429 11 50 168 #[.val (.long p0), .second, .val (.long p1), .second, .val (.long p2), .second, .val (.long p3), .second, .val (.long p4), .second, .val (.int p5), .val (.int (1 : Int32)), .val (.int b1), .val (.int b2), .val (.int b3), .val (.int b4), .val (.int b5), .val (.int b6), .val (.ref a_334), .val (.ref a_352), .val (.ref a_374), .unset, .unset, .unset] [(.ref a_400)]
                    refine g_astore C at_168 (v := (.ref a_400)) (L' := #[.val (.long p0), .second, .val (.long p1), .second, .val (.long p2), .second, .val (.long p3), .second, .val (.long p4), .second, .val (.int p5), .val (.int (1 : Int32)), .val (.int b1), .val (.int b2), .val (.int b3), .val (.int b4), .val (.int b5), .val (.int b6), .val (.ref a_334), .val (.ref a_352), .val (.ref a_374), .val (.ref a_400), .unset, .unset]) rfl rfl (pc' := 170) rfl ?_
                    refine g_aload C at_170 (v := (.ref a_400)) rfl rfl (pc' := 172) rfl ?_
                    refine g_aload C at_172 (v := (.ref a_334)) rfl rfl (pc' := 174) rfl ?_
                    have f_483 := (f_423.keep K_444 (ninS ne_405 nin0))
                    have f_484 := (Nat.le_trans f_422 K_444.1)
                    refine g_virtual C (own_w hw 29 rfl) (own_w hw 30 rfl) (own_w hw 32 rfl) (own_w hw 31 rfl) (own_w hw 3 rfl) (own_w hw 33 rfl) (notFace_of_selects (args := #[]) (mvT C.2.2.2.2.1 (own_w hw 32 rfl))) (by decide) tr_446.1 (rm_begin1 l Z a0 hw n0 a_400 b_432 b_433 b_434 b_435 b_436 b_437 a_334 (0 : Int32) (0 : Int32) .null (0 : Int32) (0 : Int64) p0 p1 (0 : Int64) [(.long (0 : Int64))] [(.long (0 : Int64)), (.long (0 : Int64)), (.long (0 : Int64)), (.long (0 : Int64)), (.long (0 : Int64)), (.long (0 : Int64)), (.long (0 : Int64)), (.long (0 : Int64))] h_429 f_484 tr_446 di_445 ⟨ne_450, ne_456, ne_462, ne_468, ne_474, ne_480⟩ ⟨ge_b_432, ge_b_433, ge_b_434, ge_b_435, ge_b_436, ge_b_437, ge_a_400⟩ f_483 ne_465 ne_405) (st := []) [(.ref a_334)] rfl rfl own_pd_6_begin rfl rfl (by decide) (W := 0) (Nat.le_of_eq rfl) (by decide) (by decide) (by decide) at_174 (pc' := 177) rfl ?_
                    intro v_487 h_485 q_486
                    obtain ⟨rfl, K_488, tr_489⟩ := q_486
                    show Go B n0 _ h_485 11 50 177 #[.val (.long p0), .second, .val (.long p1), .second, .val (.long p2), .second, .val (.long p3), .second, .val (.long p4), .second, .val (.int p5), .val (.int (1 : Int32)), .val (.int b1), .val (.int b2), .val (.int b3), .val (.int b4), .val (.int b5), .val (.int b6), .val (.ref a_334), .val (.ref a_352), .val (.ref a_374), .val (.ref a_400), .unset, .unset] []
                    refine g_iload C at_177 (v := b5) rfl (pc' := 179) rfl ?_
                    by_cases hb_490 : b5 = (0 : Int32)
                    · refine g_if_y C at_179 (Jvm.Free.XT.i0_eq_t hb_490) (pc' := 208) (by decide) (by decide) ?_
                      refine g_iload C at_208 (v := b3) rfl (pc' := 210) rfl ?_
                      by_cases hb_491 : b3 = (0 : Int32)
                      · refine g_if_y C at_210 (Jvm.Free.XT.i0_eq_t hb_491) (pc' := 220) (by decide) (by decide) ?_
                        refine g_iload C at_220 (v := b4) rfl (pc' := 222) rfl ?_
                        by_cases hb_492 : b4 = (0 : Int32)
                        · refine g_if_y C at_222 (Jvm.Free.XT.i0_eq_t hb_492) (pc' := 232) (by decide) (by decide) ?_
                          refine g_aload C at_232 (v := (.ref a_400)) rfl rfl (pc' := 234) rfl ?_
                          refine g_aload C at_234 (v := (.ref a_374)) rfl rfl (pc' := 236) rfl ?_
                          have f_493 := ((f_425.keep K_444 (ninS ne_407 nin0)).keep K_488 (ninS ne_407 (ninS ne_467 nin0)))
                          have f_494 := (Nat.le_trans f_484 K_488.1)
                          refine g_virtual C (own_w hw 42 rfl) (own_w hw 43 rfl) (own_w hw 45 rfl) (own_w hw 44 rfl) (own_w hw 3 rfl) (own_w hw 46 rfl) (notFace_of_selects (args := #[]) (mvT C.2.2.2.2.1 (own_w hw 45 rfl))) (by decide) tr_489.1 (rm_sf10 l Z a0 hw n0 a_400 b_432 b_433 b_434 b_435 b_436 b_437 a_374 (0 : Int32) .null (0 : Int32) (0 : Int64) qa qb p0 [(.long (0 : Int64))] [(.long (0 : Int64)), (.long (0 : Int64)), (.long (0 : Int64)), (.long (0 : Int64)), (.long (0 : Int64)), (.long (0 : Int64)), (.long (0 : Int64)), (.long (0 : Int64))] h_485 f_494 tr_489 f_493) (st := []) [(.ref a_374)] rfl rfl own_pd_7_startsFrom rfl rfl (by decide) (W := 0) (Nat.le_of_eq rfl) (by decide) (by decide) (by decide) at_236 (pc' := 239) rfl ?_
                          intro v_497 h_495 q_496
                          obtain ⟨rfl, rfl⟩ := q_496
                          show Go B n0 _ h_485 11 50 239 #[.val (.long p0), .second, .val (.long p1), .second, .val (.long p2), .second, .val (.long p3), .second, .val (.long p4), .second, .val (.int p5), .val (.int (1 : Int32)), .val (.int b1), .val (.int b2), .val (.int b3), .val (.int b4), .val (.int b5), .val (.int b6), .val (.ref a_334), .val (.ref a_352), .val (.ref a_374), .val (.ref a_400), .unset, .unset] [(.int (0 : Int32))]
                          refine g_istore C at_239 (v := (0 : Int32)) (L' := #[.val (.long p0), .second, .val (.long p1), .second, .val (.long p2), .second, .val (.long p3), .second, .val (.long p4), .second, .val (.int p5), .val (.int (1 : Int32)), .val (.int b1), .val (.int b2), .val (.int b3), .val (.int b4), .val (.int b5), .val (.int b6), .val (.ref a_334), .val (.ref a_352), .val (.ref a_374), .val (.ref a_400), .val (.int (0 : Int32)), .unset]) rfl (pc' := 241) rfl ?_
                          refine g_iload C at_241 (v := b3) rfl (pc' := 243) rfl ?_
                          refine g_if_y C at_243 (Jvm.Free.XT.i0_eq_t hb_491) (pc' := 285) (by decide) (by decide) ?_
                          refine g_iconst C at_285 (v := (0 : Int32)) rfl (pc' := 286) rfl ?_
                          refine g_istore C at_286 (v := (0 : Int32)) (L' := #[.val (.long p0), .second, .val (.long p1), .second, .val (.long p2), .second, .val (.long p3), .second, .val (.long p4), .second, .val (.int p5), .val (.int (1 : Int32)), .val (.int b1), .val (.int b2), .val (.int b3), .val (.int b4), .val (.int b5), .val (.int b6), .val (.ref a_334), .val (.ref a_352), .val (.ref a_374), .val (.ref a_400), .val (.int (0 : Int32)), .val (.int (0 : Int32))]) rfl (pc' := 288) rfl ?_
                          refine g_iload C at_288 (v := (0 : Int32)) rfl (pc' := 290) rfl ?_
                          refine g_iload C at_290 (v := (0 : Int32)) rfl (pc' := 292) rfl ?_
                          refine g_icmp_n C at_292 (Jvm.Free.XT.ii_ne_f (by decide)) (pc' := 295) rfl ?_
                          refine g_iconst C at_295 (v := (1 : Int32)) rfl (pc' := 296) rfl ?_
                          refine g_goto C at_296 (pc' := 300) (by decide) (by decide) ?_
                          refine g_ret C (v := (.int (1 : Int32))) (ty := .boolean) rfl rfl (Or.inl ⟨rfl, Or.inr (Or.inl rfl), _, rfl⟩) at_300 (by decide) (by decide) ?_
                          rfl
                        · refine g_if_n C at_222 (Jvm.Free.XT.i0_eq_f hb_492) (pc' := 225) rfl ?_
                          refine g_aload C at_225 (v := (.ref a_400)) rfl rfl (pc' := 227) rfl ?_
                          refine g_aload C at_227 (v := (.ref a_334)) rfl rfl (pc' := 229) rfl ?_
                          have f_498 := (f_483.keep K_488 (ninS ne_405 (ninS ne_465 nin0)))
                          have f_499 := (Nat.le_trans f_484 K_488.1)
                          refine g_virtual C (own_w hw 29 rfl) (own_w hw 30 rfl) (own_w hw 32 rfl) (own_w hw 31 rfl) (own_w hw 3 rfl) (own_w hw 33 rfl) (notFace_of_selects (args := #[]) (mvT C.2.2.2.2.1 (own_w hw 32 rfl))) (by decide) tr_489.1 (rm_begin1 l Z a0 hw n0 a_400 b_432 b_433 b_434 b_435 b_436 b_437 a_334 (0 : Int32) (0 : Int32) .null (0 : Int32) (0 : Int64) p0 p1 p0 [(.long (0 : Int64))] [(.long (0 : Int64)), (.long (0 : Int64)), (.long (0 : Int64)), (.long (0 : Int64)), (.long (0 : Int64)), (.long (0 : Int64)), (.long (0 : Int64)), (.long (0 : Int64))] h_485 f_499 tr_489 di_445 ⟨ne_450, ne_456, ne_462, ne_468, ne_474, ne_480⟩ ⟨ge_b_432, ge_b_433, ge_b_434, ge_b_435, ge_b_436, ge_b_437, ge_a_400⟩ f_498 ne_465 ne_405) (st := []) [(.ref a_334)] rfl rfl own_pd_6_begin rfl rfl (by decide) (W := 0) (Nat.le_of_eq rfl) (by decide) (by decide) (by decide) at_229 (pc' := 232) rfl ?_
                          intro v_502 h_500 q_501
                          obtain ⟨rfl, K_503, tr_504⟩ := q_501
                          show Go B n0 _ h_500 11 50 232 #[.val (.long p0), .second, .val (.long p1), .second, .val (.long p2), .second, .val (.long p3), .second, .val (.long p4), .second, .val (.int p5), .val (.int (1 : Int32)), .val (.int b1), .val (.int b2), .val (.int b3), .val (.int b4), .val (.int b5), .val (.int b6), .val (.ref a_334), .val (.ref a_352), .val (.ref a_374), .val (.ref a_400), .unset, .unset] []
                          refine g_aload C at_232 (v := (.ref a_400)) rfl rfl (pc' := 234) rfl ?_
                          refine g_aload C at_234 (v := (.ref a_374)) rfl rfl (pc' := 236) rfl ?_
                          have f_505 := (((f_425.keep K_444 (ninS ne_407 nin0)).keep K_488 (ninS ne_407 (ninS ne_467 nin0))).keep K_503 (ninS ne_407 (ninS ne_467 nin0)))
                          have f_506 := (Nat.le_trans f_499 K_503.1)
                          refine g_virtual C (own_w hw 42 rfl) (own_w hw 43 rfl) (own_w hw 45 rfl) (own_w hw 44 rfl) (own_w hw 3 rfl) (own_w hw 46 rfl) (notFace_of_selects (args := #[]) (mvT C.2.2.2.2.1 (own_w hw 45 rfl))) (by decide) tr_504.1 (rm_sf10 l Z a0 hw n0 a_400 b_432 b_433 b_434 b_435 b_436 b_437 a_374 (0 : Int32) .null (0 : Int32) (0 : Int64) qa qb p0 [(.long (0 : Int64))] [(.long (0 : Int64)), (.long (0 : Int64)), (.long (0 : Int64)), (.long (0 : Int64)), (.long (0 : Int64)), (.long (0 : Int64)), (.long (0 : Int64)), (.long (0 : Int64))] h_500 f_506 tr_504 f_505) (st := []) [(.ref a_374)] rfl rfl own_pd_7_startsFrom rfl rfl (by decide) (W := 0) (Nat.le_of_eq rfl) (by decide) (by decide) (by decide) at_236 (pc' := 239) rfl ?_
                          intro v_509 h_507 q_508
                          obtain ⟨rfl, rfl⟩ := q_508
                          show Go B n0 _ h_500 11 50 239 #[.val (.long p0), .second, .val (.long p1), .second, .val (.long p2), .second, .val (.long p3), .second, .val (.long p4), .second, .val (.int p5), .val (.int (1 : Int32)), .val (.int b1), .val (.int b2), .val (.int b3), .val (.int b4), .val (.int b5), .val (.int b6), .val (.ref a_334), .val (.ref a_352), .val (.ref a_374), .val (.ref a_400), .unset, .unset] [(.int (0 : Int32))]
                          refine g_istore C at_239 (v := (0 : Int32)) (L' := #[.val (.long p0), .second, .val (.long p1), .second, .val (.long p2), .second, .val (.long p3), .second, .val (.long p4), .second, .val (.int p5), .val (.int (1 : Int32)), .val (.int b1), .val (.int b2), .val (.int b3), .val (.int b4), .val (.int b5), .val (.int b6), .val (.ref a_334), .val (.ref a_352), .val (.ref a_374), .val (.ref a_400), .val (.int (0 : Int32)), .unset]) rfl (pc' := 241) rfl ?_
                          refine g_iload C at_241 (v := b3) rfl (pc' := 243) rfl ?_
                          refine g_if_y C at_243 (Jvm.Free.XT.i0_eq_t hb_491) (pc' := 285) (by decide) (by decide) ?_
                          refine g_iconst C at_285 (v := (0 : Int32)) rfl (pc' := 286) rfl ?_
                          refine g_istore C at_286 (v := (0 : Int32)) (L' := #[.val (.long p0), .second, .val (.long p1), .second, .val (.long p2), .second, .val (.long p3), .second, .val (.long p4), .second, .val (.int p5), .val (.int (1 : Int32)), .val (.int b1), .val (.int b2), .val (.int b3), .val (.int b4), .val (.int b5), .val (.int b6), .val (.ref a_334), .val (.ref a_352), .val (.ref a_374), .val (.ref a_400), .val (.int (0 : Int32)), .val (.int (0 : Int32))]) rfl (pc' := 288) rfl ?_
                          refine g_iload C at_288 (v := (0 : Int32)) rfl (pc' := 290) rfl ?_
                          refine g_iload C at_290 (v := (0 : Int32)) rfl (pc' := 292) rfl ?_
                          refine g_icmp_n C at_292 (Jvm.Free.XT.ii_ne_f (by decide)) (pc' := 295) rfl ?_
                          refine g_iconst C at_295 (v := (1 : Int32)) rfl (pc' := 296) rfl ?_
                          refine g_goto C at_296 (pc' := 300) (by decide) (by decide) ?_
                          refine g_ret C (v := (.int (1 : Int32))) (ty := .boolean) rfl rfl (Or.inl ⟨rfl, Or.inr (Or.inl rfl), _, rfl⟩) at_300 (by decide) (by decide) ?_
                          rfl
                      · refine g_if_n C at_210 (Jvm.Free.XT.i0_eq_f hb_491) (pc' := 213) rfl ?_
                        refine g_aload C at_213 (v := (.ref a_400)) rfl rfl (pc' := 215) rfl ?_
                        refine g_aload C at_215 (v := (.ref a_352)) rfl rfl (pc' := 217) rfl ?_
                        have f_510 := ((f_424.keep K_444 (ninS ne_406 nin0)).keep K_488 (ninS ne_406 (ninS ne_466 nin0)))
                        have f_511 := ((((((((((((O.ext E_336).keep K_342 (allS ge_a_334 all0)).keep K_346 (allS ge_a_334 all0)).ext E_354).keep K_363 (allS ge_a_352 all0)).keep K_367 (allS ge_a_352 all0)).ext E_376).keep K_387 (allS ge_a_374 all0)).keep K_392 (allS ge_a_374 all0)).ext E_402).keep K_444 (allS ge_a_400 all0)).keep K_488 (allS ge_a_400 (allS ge_b_435 all0)))
                        have f_512 := (Nat.le_trans f_484 K_488.1)
                        refine g_virtual C (own_w hw 47 rfl) (own_w hw 48 rfl) (own_w hw 50 rfl) (own_w hw 49 rfl) (own_w hw 3 rfl) (own_w hw 51 rfl) (notFace_of_selects (args := #[]) (mvT C.2.2.2.2.1 (own_w hw 50 rfl))) (by decide) tr_489.1 (rm_end_1none l Z a0 hw n0 a_400 b_432 b_433 b_434 b_435 b_436 b_437 a_352 (0 : Int32) (0 : Int32) (0 : Int64) p2 p3 (0 : Int64) [(.long p0)] [(.long (0 : Int64)), (.long (0 : Int64)), (.long (0 : Int64)), (.long (0 : Int64)), (.long (0 : Int64)), (.long (0 : Int64)), (.long (0 : Int64)), (.long (0 : Int64))] e_WRITE e_READ h_485 f_512 tr_489 di_445 ⟨ne_450, ne_456, ne_462, ne_468, ne_474, ne_480⟩ ⟨ge_b_432, ge_b_433, ge_b_434, ge_b_435, ge_b_436, ge_b_437, ge_a_400⟩ f_510 ne_472 ne_406 en f_511) (st := []) [(.ref a_352)] rfl rfl own_pd_6_end rfl rfl (by decide) (W := 0) (Nat.le_of_eq rfl) (by decide) (by decide) (by decide) at_217 (pc' := 220) rfl ?_
                        intro v_515 h_513 q_514
                        obtain ⟨rfl, K_516, tr_517⟩ := q_514
                        show Go B n0 _ h_513 13 50 220 #[.val (.long p0), .second, .val (.long p1), .second, .val (.long p2), .second, .val (.long p3), .second, .val (.long p4), .second, .val (.int p5), .val (.int (1 : Int32)), .val (.int b1), .val (.int b2), .val (.int b3), .val (.int b4), .val (.int b5), .val (.int b6), .val (.ref a_334), .val (.ref a_352), .val (.ref a_374), .val (.ref a_400), .unset, .unset] []
                        refine g_iload C at_220 (v := b4) rfl (pc' := 222) rfl ?_
                        by_cases hb_518 : b4 = (0 : Int32)
                        · refine g_if_y C at_222 (Jvm.Free.XT.i0_eq_t hb_518) (pc' := 232) (by decide) (by decide) ?_
                          refine g_aload C at_232 (v := (.ref a_400)) rfl rfl (pc' := 234) rfl ?_
                          refine g_aload C at_234 (v := (.ref a_374)) rfl rfl (pc' := 236) rfl ?_
                          have f_519 := (((f_425.keep K_444 (ninS ne_407 nin0)).keep K_488 (ninS ne_407 (ninS ne_467 nin0))).keep K_516 (ninS ne_407 (ninS ne_473 nin0)))
                          have f_520 := (Nat.le_trans f_512 K_516.1)
                          refine g_virtual C (own_w hw 42 rfl) (own_w hw 43 rfl) (own_w hw 45 rfl) (own_w hw 44 rfl) (own_w hw 3 rfl) (own_w hw 46 rfl) (notFace_of_selects (args := #[]) (mvT C.2.2.2.2.1 (own_w hw 45 rfl))) (by decide) tr_517.1 (rm_sf11 l Z a0 hw n0 a_400 b_432 b_433 b_434 b_435 b_436 b_437 a_374 (0 : Int32) .null (0 : Int32) (0 : Int64) qa qb p0 [(.long p2)] [(.long (0 : Int64)), (.long (0 : Int64)), (.long (0 : Int64)), (.long (0 : Int64)), (.long (0 : Int64)), (.long (0 : Int64)), (.long (0 : Int64)), (.long (0 : Int64))] h_513 f_520 tr_517 f_519) (st := []) [(.ref a_374)] rfl rfl own_pd_7_startsFrom rfl rfl (by decide) (W := 0) (Nat.le_of_eq rfl) (by decide) (by decide) (by decide) at_236 (pc' := 239) rfl ?_
                          intro v_523 h_521 q_522
                          obtain ⟨rfl, rfl⟩ := q_522
                          show Go B n0 _ h_513 13 50 239 #[.val (.long p0), .second, .val (.long p1), .second, .val (.long p2), .second, .val (.long p3), .second, .val (.long p4), .second, .val (.int p5), .val (.int (1 : Int32)), .val (.int b1), .val (.int b2), .val (.int b3), .val (.int b4), .val (.int b5), .val (.int b6), .val (.ref a_334), .val (.ref a_352), .val (.ref a_374), .val (.ref a_400), .unset, .unset] [(.int (sf1 p0 qa))]
                          refine g_istore C at_239 (v := (sf1 p0 qa)) (L' := #[.val (.long p0), .second, .val (.long p1), .second, .val (.long p2), .second, .val (.long p3), .second, .val (.long p4), .second, .val (.int p5), .val (.int (1 : Int32)), .val (.int b1), .val (.int b2), .val (.int b3), .val (.int b4), .val (.int b5), .val (.int b6), .val (.ref a_334), .val (.ref a_352), .val (.ref a_374), .val (.ref a_400), .val (.int (sf1 p0 qa)), .unset]) rfl (pc' := 241) rfl ?_
                          refine g_iload C at_241 (v := b3) rfl (pc' := 243) rfl ?_
                          refine g_if_n C at_243 (Jvm.Free.XT.i0_eq_f hb_491) (pc' := 246) rfl ?_
                          refine g_iload C at_246 (v := b4) rfl (pc' := 248) rfl ?_
                          refine g_if_n C at_248 (Jvm.Free.XT.i0_ne_f hb_518) (pc' := 251) rfl ?_
                          refine g_iload C at_251 (v := (1 : Int32)) rfl (pc' := 253) rfl ?_
                          refine g_iconst C at_253 (v := (1 : Int32)) rfl (pc' := 254) rfl ?_
                          refine g_icmp_n C at_254 (Jvm.Free.XT.ii_lt_f (by decide)) (pc' := 257) rfl ?_
                          refine g_aload C at_257 (v := (.ref a_374)) rfl rfl (pc' := 259) rfl ?_
                          refine g_iconst C at_259 (v := (0 : Int32)) rfl (pc' := 260) rfl ?_
                          refine g_laload C f_519 (by decide) (i := 0) (by decide) (v := qa) rfl at_260 (pc' := 261) rfl ?_
                          refine g_lload_n C at_261 (v := p0) rfl (pc' := 262) rfl ?_
                          refine g_lcmp C (x := qa) (y := p0) at_262 (pc' := 263) rfl ?_
                          by_cases hb_524 : qa = p0
                          · refine g_if_n C at_263 (Jvm.Free.XT.ll_ne_f hb_524) (pc' := 266) rfl ?_
                            refine g_iload C at_266 (v := (1 : Int32)) rfl (pc' := 268) rfl ?_
                            refine g_iconst C at_268 (v := (2 : Int32)) rfl (pc' := 269) rfl ?_
                            refine g_icmp_y C at_269 (Jvm.Free.XT.ii_lt_t (by decide)) (pc' := 281) (by decide) (by decide) ?_
                            refine g_iconst C at_281 (v := (1 : Int32)) rfl (pc' := 282) rfl ?_
                            refine g_goto C at_282 (pc' := 286) (by decide) (by decide) ?_
                            refine g_istore C at_286 (v := (1 : Int32)) (L' := #[.val (.long p0), .second, .val (.long p1), .second, .val (.long p2), .second, .val (.long p3), .second, .val (.long p4), .second, .val (.int p5), .val (.int (1 : Int32)), .val (.int b1), .val (.int b2), .val (.int b3), .val (.int b4), .val (.int b5), .val (.int b6), .val (.ref a_334), .val (.ref a_352), .val (.ref a_374), .val (.ref a_400), .val (.int (sf1 p0 qa)), .val (.int (1 : Int32))]) rfl (pc' := 288) rfl ?_
                            refine g_iload C at_288 (v := (sf1 p0 qa)) rfl (pc' := 290) rfl ?_
                            refine g_iload C at_290 (v := (1 : Int32)) rfl (pc' := 292) rfl ?_
                            refine g_icmp_n C at_292 (Jvm.Free.XT.ii_ne_f (sf1_y (Eq.symm hb_524))) (pc' := 295) rfl ?_
                            refine g_iconst C at_295 (v := (1 : Int32)) rfl (pc' := 296) rfl ?_
                            refine g_goto C at_296 (pc' := 300) (by decide) (by decide) ?_
                            refine g_ret C (v := (.int (1 : Int32))) (ty := .boolean) rfl rfl (Or.inl ⟨rfl, Or.inr (Or.inl rfl), _, rfl⟩) at_300 (by decide) (by decide) ?_
                            rfl
                          · refine g_if_y C at_263 (Jvm.Free.XT.ll_ne_t hb_524) (pc' := 285) (by decide) (by decide) ?_
                            refine g_iconst C at_285 (v := (0 : Int32)) rfl (pc' := 286) rfl ?_
                            refine g_istore C at_286 (v := (0 : Int32)) (L' := #[.val (.long p0), .second, .val (.long p1), .second, .val (.long p2), .second, .val (.long p3), .second, .val (.long p4), .second, .val (.int p5), .val (.int (1 : Int32)), .val (.int b1), .val (.int b2), .val (.int b3), .val (.int b4), .val (.int b5), .val (.int b6), .val (.ref a_334), .val (.ref a_352), .val (.ref a_374), .val (.ref a_400), .val (.int (sf1 p0 qa)), .val (.int (0 : Int32))]) rfl (pc' := 288) rfl ?_
                            refine g_iload C at_288 (v := (sf1 p0 qa)) rfl (pc' := 290) rfl ?_
                            refine g_iload C at_290 (v := (0 : Int32)) rfl (pc' := 292) rfl ?_
                            refine g_icmp_n C at_292 (Jvm.Free.XT.ii_ne_f (sf1_n (fun q => hb_524 (Eq.symm q)))) (pc' := 295) rfl ?_
                            refine g_iconst C at_295 (v := (1 : Int32)) rfl (pc' := 296) rfl ?_
                            refine g_goto C at_296 (pc' := 300) (by decide) (by decide) ?_
                            refine g_ret C (v := (.int (1 : Int32))) (ty := .boolean) rfl rfl (Or.inl ⟨rfl, Or.inr (Or.inl rfl), _, rfl⟩) at_300 (by decide) (by decide) ?_
                            rfl
                        · refine g_if_n C at_222 (Jvm.Free.XT.i0_eq_f hb_518) (pc' := 225) rfl ?_
                          refine g_aload C at_225 (v := (.ref a_400)) rfl rfl (pc' := 227) rfl ?_
                          refine g_aload C at_227 (v := (.ref a_334)) rfl rfl (pc' := 229) rfl ?_
                          have f_525 := ((f_483.keep K_488 (ninS ne_405 (ninS ne_465 nin0))).keep K_516 (ninS ne_405 (ninS ne_471 nin0)))
                          have f_526 := (Nat.le_trans f_512 K_516.1)
                          refine g_virtual C (own_w hw 29 rfl) (own_w hw 30 rfl) (own_w hw 32 rfl) (own_w hw 31 rfl) (own_w hw 3 rfl) (own_w hw 33 rfl) (notFace_of_selects (args := #[]) (mvT C.2.2.2.2.1 (own_w hw 32 rfl))) (by decide) tr_517.1 (rm_begin1 l Z a0 hw n0 a_400 b_432 b_433 b_434 b_435 b_436 b_437 a_334 (0 : Int32) (1 : Int32) .null (0 : Int32) (0 : Int64) p0 p1 p0 [(.long p2)] [(.long (0 : Int64)), (.long (0 : Int64)), (.long (0 : Int64)), (.long (0 : Int64)), (.long (0 : Int64)), (.long (0 : Int64)), (.long (0 : Int64)), (.long (0 : Int64))] h_513 f_526 tr_517 di_445 ⟨ne_450, ne_456, ne_462, ne_468, ne_474, ne_480⟩ ⟨ge_b_432, ge_b_433, ge_b_434, ge_b_435, ge_b_436, ge_b_437, ge_a_400⟩ f_525 ne_465 ne_405) (st := []) [(.ref a_334)] rfl rfl own_pd_6_begin rfl rfl (by decide) (W := 0) (Nat.le_of_eq rfl) (by decide) (by decide) (by decide) at_229 (pc' := 232) rfl ?_
                          intro v_529 h_527 q_528
                          obtain ⟨rfl, K_530, tr_531⟩ := q_528
                          show Go B n0 _ h_527 13 50 232 #[.val (.long p0), .second, .val (.long p1), .second, .val (.long p2), .second, .val (.long p3), .second, .val (.long p4), .second, .val (.int p5), .val (.int (1 : Int32)), .val (.int b1), .val (.int b2), .val (.int b3), .val (.int b4), .val (.int b5), .val (.int b6), .val (.ref a_334), .val (.ref a_352), .val (.ref a_374), .val (.ref a_400), .unset, .unset] []
                          refine g_aload C at_232 (v := (.ref a_400)) rfl rfl (pc' := 234) rfl ?_
                          refine g_aload C at_234 (v := (.ref a_374)) rfl rfl (pc' := 236) rfl ?_
                          have f_532 := ((((f_425.keep K_444 (ninS ne_407 nin0)).keep K_488 (ninS ne_407 (ninS ne_467 nin0))).keep K_516 (ninS ne_407 (ninS ne_473 nin0))).keep K_530 (ninS ne_407 (ninS ne_467 nin0)))
                          have f_533 := (Nat.le_trans f_526 K_530.1)
                          refine g_virtual C (own_w hw 42 rfl) (own_w hw 43 rfl) (own_w hw 45 rfl) (own_w hw 44 rfl) (own_w hw 3 rfl) (own_w hw 46 rfl) (notFace_of_selects (args := #[]) (mvT C.2.2.2.2.1 (own_w hw 45 rfl))) (by decide) tr_531.1 (rm_sf10 l Z a0 hw n0 a_400 b_432 b_433 b_434 b_435 b_436 b_437 a_374 (0 : Int32) .null (0 : Int32) (0 : Int64) qa qb p0 [(.long p2)] [(.long (0 : Int64)), (.long (0 : Int64)), (.long (0 : Int64)), (.long (0 : Int64)), (.long (0 : Int64)), (.long (0 : Int64)), (.long (0 : Int64)), (.long (0 : Int64))] h_527 f_533 tr_531 f_532) (st := []) [(.ref a_374)] rfl rfl own_pd_7_startsFrom rfl rfl (by decide) (W := 0) (Nat.le_of_eq rfl) (by decide) (by decide) (by decide) at_236 (pc' := 239) rfl ?_
                          intro v_536 h_534 q_535
                          obtain ⟨rfl, rfl⟩ := q_535
                          show Go B n0 _ h_527 13 50 239 #[.val (.long p0), .second, .val (.long p1), .second, .val (.long p2), .second, .val (.long p3), .second, .val (.long p4), .second, .val (.int p5), .val (.int (1 : Int32)), .val (.int b1), .val (.int b2), .val (.int b3), .val (.int b4), .val (.int b5), .val (.int b6), .val (.ref a_334), .val (.ref a_352), .val (.ref a_374), .val (.ref a_400), .unset, .unset] [(.int (0 : Int32))]
                          refine g_istore C at_239 (v := (0 : Int32)) (L' := #[.val (.long p0), .second, .val (.long p1), .second, .val (.long p2), .second, .val (.long p3), .second, .val (.long p4), .second, .val (.int p5), .val (.int (1 : Int32)), .val (.int b1), .val (.int b2), .val (.int b3), .val (.int b4), .val (.int b5), .val (.int b6), .val (.ref a_334), .val (.ref a_352), .val (.ref a_374), .val (.ref a_400), .val (.int (0 : Int32)), .unset]) rfl (pc' := 241) rfl ?_
                          refine g_iload C at_241 (v := b3) rfl (pc' := 243) rfl ?_
                          refine g_if_n C at_243 (Jvm.Free.XT.i0_eq_f hb_491) (pc' := 246) rfl ?_
                          refine g_iload C at_246 (v := b4) rfl (pc' := 248) rfl ?_
                          refine g_if_y C at_248 (Jvm.Free.XT.i0_ne_t hb_518) (pc' := 285) (by decide) (by decide) ?_
                          refine g_iconst C at_285 (v := (0 : Int32)) rfl (pc' := 286) rfl ?_
                          refine g_istore C at_286 (v := (0 : Int32)) (L' := #[.val (.long p0), .second, .val (.long p1), .second, .val (.long p2), .second, .val (.long p3), .second, .val (.long p4), .second, .val (.int p5), .val (.int (1 : Int32)), .val (.int b1), .val (.int b2), .val (.int b3), .val (.int b4), .val (.int b5), .val (.int b6), .val (.ref a_334), .val (.ref a_352), .val (.ref a_374), .val (.ref a_400), .val (.int (0 : Int32)), .val (.int (0 : Int32))]) rfl (pc' := 288) rfl ?_
                          refine g_iload C at_288 (v := (0 : Int32)) rfl (pc' := 290) rfl ?_
                          refine g_iload C at_290 (v := (0 : Int32)) rfl (pc' := 292) rfl ?_
                          refine g_icmp_n C at_292 (Jvm.Free.XT.ii_ne_f (by decide)) (pc' := 295) rfl ?_
                          refine g_iconst C at_295 (v := (1 : Int32)) rfl (pc' := 296) rfl ?_
                          refine g_goto C at_296 (pc' := 300) (by decide) (by decide) ?_
                          refine g_ret C (v := (.int (1 : Int32))) (ty := .boolean) rfl rfl (Or.inl ⟨rfl, Or.inr (Or.inl rfl), _, rfl⟩) at_300 (by decide) (by decide) ?_
                          rfl
                    · refine g_if_n C at_179 (Jvm.Free.XT.i0_eq_f hb_490) (pc' := 182) rfl ?_
                      refine g_aload C at_182 (v := (.ref a_400)) rfl rfl (pc' := 184) rfl ?_
                      refine g_aload C at_184 (v := (.ref a_352)) rfl rfl (pc' := 186) rfl ?_
                      refine g_iload C at_186 (v := b6) rfl (pc' := 188) rfl ?_
                      by_cases hb_537 : b6 = (0 : Int32)
                      · refine g_if_y C at_188 (Jvm.Free.XT.i0_eq_t hb_537) (pc' := 197) (by decide) (by decide) ?_
                        have f_538 := ((((((((((((O.ext E_336).keep K_342 (allS ge_a_334 all0)).keep K_346 (allS ge_a_334 all0)).ext E_354).keep K_363 (allS ge_a_352 all0)).keep K_367 (allS ge_a_352 all0)).ext E_376).keep K_387 (allS ge_a_374 all0)).keep K_392 (allS ge_a_374 all0)).ext E_402).keep K_444 (allS ge_a_400 all0)).keep K_488 (allS ge_a_400 (allS ge_b_435 all0)))
                        refine g_getstatic C (host := "") (v := (.ref e_READ)) (Or.inl (own_w hw 83 rfl)) Via.refl (S_READ.ext f_538.2) at_197 (pc' := 200) rfl ?_
                        refine g_lload C at_200 (v := p4) rfl (pc' := 202) rfl ?_
                        refine g_l2i C (x := p4) at_202 (pc' := 203) rfl ?_
                        refine g_lload C at_203 (v := p4) rfl (pc' := 205) rfl ?_
                        have f_539 := ((f_424.keep K_444 (ninS ne_406 nin0)).keep K_488 (ninS ne_406 (ninS ne_466 nin0)))
                        have f_540 := (Nat.le_trans f_484 K_488.1)
                        refine g_virtual C (own_w hw 68 rfl) (own_w hw 69 rfl) (own_w hw 71 rfl) (own_w hw 70 rfl) (own_w hw 3 rfl) (own_w hw 72 rfl) (notFace_of_selects (args := #[]) (mvT C.2.2.2.2.1 (own_w hw 71 rfl))) (by decide) tr_489.1 (rm_add_1READ l Z a0 hw n0 a_400 b_432 b_433 b_434 b_435 b_436 b_437 a_352 (0 : Int32) (Int64.toInt32 p4) p4 p2 p3 p0 [(.long (0 : Int64))] e_WRITE e_READ h_485 f_540 tr_489 di_445 ⟨ne_450, ne_456, ne_462, ne_468, ne_474, ne_480⟩ ⟨ge_b_432, ge_b_433, ge_b_434, ge_b_435, ge_b_436, ge_b_437, ge_a_400⟩ f_539 ⟨ne_448, ne_454, ne_460, ne_466, ne_472, ne_478, ne_406⟩ en f_538) (st := []) [(.ref a_352), (.ref e_READ), (.int (Int64.toInt32 p4)), (.long p4)] rfl rfl own_pd_9_add rfl rfl (by decide) (W := 0) (Nat.le_of_eq rfl) (by decide) (by decide) (by decide) at_205 (pc' := 208) rfl ?_
                        intro v_543 h_541 q_542
                        obtain ⟨rfl, K_544, tr_545⟩ := q_542
                        show Go B n0 _ h_541 11 50 208 #[.val (.long p0), .second, .val (.long p1), .second, .val (.long p2), .second, .val (.long p3), .second, .val (.long p4), .second, .val (.int p5), .val (.int (1 : Int32)), .val (.int b1), .val (.int b2), .val (.int b3), .val (.int b4), .val (.int b5), .val (.int b6), .val (.ref a_334), .val (.ref a_352), .val (.ref a_374), .val (.ref a_400), .unset, .unset] []
                        refine g_iload C at_208 (v := b3) rfl (pc' := 210) rfl ?_
                        by_cases hb_546 : b3 = (0 : Int32)
                        · refine g_if_y C at_210 (Jvm.Free.XT.i0_eq_t hb_546) (pc' := 220) (by decide) (by decide) ?_
                          refine g_iload C at_220 (v := b4) rfl (pc' := 222) rfl ?_
                          by_cases hb_547 : b4 = (0 : Int32)
                          · refine g_if_y C at_222 (Jvm.Free.XT.i0_eq_t hb_547) (pc' := 232) (by decide) (by decide) ?_
                            refine g_aload C at_232 (v := (.ref a_400)) rfl rfl (pc' := 234) rfl ?_
                            refine g_aload C at_234 (v := (.ref a_374)) rfl rfl (pc' := 236) rfl ?_
                            have f_548 := (((f_425.keep K_444 (ninS ne_407 nin0)).keep K_488 (ninS ne_407 (ninS ne_467 nin0))).keep K_544 (ninS ne_407 (ninS ne_449 (ninS ne_455 (ninS ne_461 (ninS ne_479 nin0))))))
                            have f_549 := (Nat.le_trans f_540 K_544.1)
                            refine g_virtual C (own_w hw 42 rfl) (own_w hw 43 rfl) (own_w hw 45 rfl) (own_w hw 44 rfl) (own_w hw 3 rfl) (own_w hw 46 rfl) (notFace_of_selects (args := #[]) (mvT C.2.2.2.2.1 (own_w hw 45 rfl))) (by decide) tr_545.1 (rm_sf10 l Z a0 hw n0 a_400 b_432 b_433 b_434 b_435 b_436 b_437 a_374 (1 : Int32) (.ref e_READ) (Int64.toInt32 p4) p4 qa qb p0 [(.long (0 : Int64))] [(.long p2), (.long (0 : Int64)), (.long (0 : Int64)), (.long (0 : Int64)), (.long (0 : Int64)), (.long (0 : Int64)), (.long (0 : Int64)), (.long (0 : Int64))] h_541 f_549 tr_545 f_548) (st := []) [(.ref a_374)] rfl rfl own_pd_7_startsFrom rfl rfl (by decide) (W := 0) (Nat.le_of_eq rfl) (by decide) (by decide) (by decide) at_236 (pc' := 239) rfl ?_
                            intro v_552 h_550 q_551
                            obtain ⟨rfl, rfl⟩ := q_551
                            show Go B n0 _ h_541 11 50 239 #[.val (.long p0), .second, .val (.long p1), .second, .val (.long p2), .second, .val (.long p3), .second, .val (.long p4), .second, .val (.int p5), .val (.int (1 : Int32)), .val (.int b1), .val (.int b2), .val (.int b3), .val (.int b4), .val (.int b5), .val (.int b6), .val (.ref a_334), .val (.ref a_352), .val (.ref a_374), .val (.ref a_400), .unset, .unset] [(.int (0 : Int32))]
                            refine g_istore C at_239 (v := (0 : Int32)) (L' := #[.val (.long p0), .second, .val (.long p1), .second, .val (.long p2), .second, .val (.long p3), .second, .val (.long p4), .second, .val (.int p5), .val (.int (1 : Int32)), .val (.int b1), .val (.int b2), .val (.int b3), .val (.int b4), .val (.int b5), .val (.int b6), .val (.ref a_334), .val (.ref a_352), .val (.ref a_374), .val (.ref a_400), .val (.int (0 : Int32)), .unset]) rfl (pc' := 241) rfl ?_
                            refine g_iload C at_241 (v := b3) rfl (pc' := 243) rfl ?_
                            refine g_if_y C at_243 (Jvm.Free.XT.i0_eq_t hb_546) (pc' := 285) (by decide) (by decide) ?_
                            refine g_iconst C at_285 (v := (0 : Int32)) rfl (pc' := 286) rfl ?_
                            refine g_istore C at_286 (v := (0 : Int32)) (L' := #[.val (.long p0), .second, .val (.long p1), .second, .val (.long p2), .second, .val (.long p3), .second, .val (.long p4), .second, .val (.int p5), .val (.int (1 : Int32)), .val (.int b1), .val (.int b2), .val (.int b3), .val (.int b4), .val (.int b5), .val (.int b6), .val (.ref a_334), .val (.ref a_352), .val (.ref a_374), .val (.ref a_400), .val (.int (0 : Int32)), .val (.int (0 : Int32))]) rfl (pc' := 288) rfl ?_
                            refine g_iload C at_288 (v := (0 : Int32)) rfl (pc' := 290) rfl ?_
                            refine g_iload C at_290 (v := (0 : Int32)) rfl (pc' := 292) rfl ?_
                            refine g_icmp_n C at_292 (Jvm.Free.XT.ii_ne_f (by decide)) (pc' := 295) rfl ?_
                            refine g_iconst C at_295 (v := (1 : Int32)) rfl (pc' := 296) rfl ?_
                            refine g_goto C at_296 (pc' := 300) (by decide) (by decide) ?_
                            refine g_ret C (v := (.int (1 : Int32))) (ty := .boolean) rfl rfl (Or.inl ⟨rfl, Or.inr (Or.inl rfl), _, rfl⟩) at_300 (by decide) (by decide) ?_
                            rfl
                          · refine g_if_n C at_222 (Jvm.Free.XT.i0_eq_f hb_547) (pc' := 225) rfl ?_
                            refine g_aload C at_225 (v := (.ref a_400)) rfl rfl (pc' := 227) rfl ?_
                            refine g_aload C at_227 (v := (.ref a_334)) rfl rfl (pc' := 229) rfl ?_
                            have f_553 := ((f_483.keep K_488 (ninS ne_405 (ninS ne_465 nin0))).keep K_544 (ninS ne_405 (ninS ne_447 (ninS ne_453 (ninS ne_459 (ninS ne_477 nin0))))))
                            have f_554 := (Nat.le_trans f_540 K_544.1)
                            refine g_virtual C (own_w hw 29 rfl) (own_w hw 30 rfl) (own_w hw 32 rfl) (own_w hw 31 rfl) (own_w hw 3 rfl) (own_w hw 33 rfl) (notFace_of_selects (args := #[]) (mvT C.2.2.2.2.1 (own_w hw 32 rfl))) (by decide) tr_545.1 (rm_begin1 l Z a0 hw n0 a_400 b_432 b_433 b_434 b_435 b_436 b_437 a_334 (1 : Int32) (0 : Int32) (.ref e_READ) (Int64.toInt32 p4) p4 p0 p1 p0 [(.long (0 : Int64))] [(.long p2), (.long (0 : Int64)), (.long (0 : Int64)), (.long (0 : Int64)), (.long (0 : Int64)), (.long (0 : Int64)), (.long (0 : Int64)), (.long (0 : Int64))] h_541 f_554 tr_545 di_445 ⟨ne_450, ne_456, ne_462, ne_468, ne_474, ne_480⟩ ⟨ge_b_432, ge_b_433, ge_b_434, ge_b_435, ge_b_436, ge_b_437, ge_a_400⟩ f_553 ne_465 ne_405) (st := []) [(.ref a_334)] rfl rfl own_pd_6_begin rfl rfl (by decide) (W := 0) (Nat.le_of_eq rfl) (by decide) (by decide) (by decide) at_229 (pc' := 232) rfl ?_
                            intro v_557 h_555 q_556
                            obtain ⟨rfl, K_558, tr_559⟩ := q_556
                            show Go B n0 _ h_555 11 50 232 #[.val (.long p0), .second, .val (.long p1), .second, .val (.long p2), .second, .val (.long p3), .second, .val (.long p4), .second, .val (.int p5), .val (.int (1 : Int32)), .val (.int b1), .val (.int b2), .val (.int b3), .val (.int b4), .val (.int b5), .val (.int b6), .val (.ref a_334), .val (.ref a_352), .val (.ref a_374), .val (.ref a_400), .unset, .unset] []
                            refine g_aload C at_232 (v := (.ref a_400)) rfl rfl (pc' := 234) rfl ?_
                            refine g_aload C at_234 (v := (.ref a_374)) rfl rfl (pc' := 236) rfl ?_
                            have f_560 := ((((f_425.keep K_444 (ninS ne_407 nin0)).keep K_488 (ninS ne_407 (ninS ne_467 nin0))).keep K_544 (ninS ne_407 (ninS ne_449 (ninS ne_455 (ninS ne_461 (ninS ne_479 nin0)))))).keep K_558 (ninS ne_407 (ninS ne_467 nin0)))
                            have f_561 := (Nat.le_trans f_554 K_558.1)
                            refine g_virtual C (own_w hw 42 rfl) (own_w hw 43 rfl) (own_w hw 45 rfl) (own_w hw 44 rfl) (own_w hw 3 rfl) (own_w hw 46 rfl) (notFace_of_selects (args := #[]) (mvT C.2.2.2.2.1 (own_w hw 45 rfl))) (by decide) tr_559.1 (rm_sf10 l Z a0 hw n0 a_400 b_432 b_433 b_434 b_435 b_436 b_437 a_374 (0 : Int32) (.ref e_READ) (Int64.toInt32 p4) p4 qa qb p0 [(.long (0 : Int64))] [(.long p2), (.long (0 : Int64)), (.long (0 : Int64)), (.long (0 : Int64)), (.long (0 : Int64)), (.long (0 : Int64)), (.long (0 : Int64)), (.long (0 : Int64))] h_555 f_561 tr_559 f_560) (st := []) [(.ref a_374)] rfl rfl own_pd_7_startsFrom rfl rfl (by decide) (W := 0) (Nat.le_of_eq rfl) (by decide) (by decide) (by decide) at_236 (pc' := 239) rfl ?_
                            intro v_564 h_562 q_563
                            obtain ⟨rfl, rfl⟩ := q_563
                            show Go B n0 _ h_555 11 50 239 #[.val (.long p0), .second, .val (.long p1), .second, .val (.long p2), .second, .val (.long p3), .second, .val (.long p4), .second, .val (.int p5), .val (.int (1 : Int32)), .val (.int b1), .val (.int b2), .val (.int b3), .val (.int b4), .val (.int b5), .val (.int b6), .val (.ref a_334), .val (.ref a_352), .val (.ref a_374), .val (.ref a_400), .unset, .unset] [(.int (0 : Int32))]
                            refine g_istore C at_239 (v := (0 : Int32)) (L' := #[.val (.long p0), .second, .val (.long p1), .second, .val (.long p2), .second, .val (.long p3), .second, .val (.long p4), .second, .val (.int p5), .val (.int (1 : Int32)), .val (.int b1), .val (.int b2), .val (.int b3), .val (.int b4), .val (.int b5), .val (.int b6), .val (.ref a_334), .val (.ref a_352), .val (.ref a_374), .val (.ref a_400), .val (.int (0 : Int32)), .unset]) rfl (pc' := 241) rfl ?_
                            refine g_iload C at_241 (v := b3) rfl (pc' := 243) rfl ?_
                            refine g_if_y C at_243 (Jvm.Free.XT.i0_eq_t hb_546) (pc' := 285) (by decide) (by decide) ?_
                            refine g_iconst C at_285 (v := (0 : Int32)) rfl (pc' := 286) rfl ?_
                            refine g_istore C at_286 (v := (0 : Int32)) (L' := #[.val (.long p0), .second, .val (.long p1), .second, .val (.long p2), .second, .val (.long p3), .second, .val (.long p4), .second, .val (.int p5), .val (.int (1 : Int32)), .val (.int b1), .val (.int b2), .val (.int b3), .val (.int b4), .val (.int b5), .val (.int b6), .val (.ref a_334), .val (.ref a_352), .val (.ref a_374), .val (.ref a_400), .val (.int (0 : Int32)), .val (.int (0 : Int32))]) rfl (pc' := 288) rfl ?_
                            refine g_iload C at_288 (v := (0 : Int32)) rfl (pc' := 290) rfl ?_
                            refine g_iload C at_290 (v := (0 : Int32)) rfl (pc' := 292) rfl ?_
                            refine g_icmp_n C at_292 (Jvm.Free.XT.ii_ne_f (by decide)) (pc' := 295) rfl ?_
                            refine g_iconst C at_295 (v := (1 : Int32)) rfl (pc' := 296) rfl ?_
                            refine g_goto C at_296 (pc' := 300) (by decide) (by decide) ?_
                            refine g_ret C (v := (.int (1 : Int32))) (ty := .boolean) rfl rfl (Or.inl ⟨rfl, Or.inr (Or.inl rfl), _, rfl⟩) at_300 (by decide) (by decide) ?_
                            rfl
                        · refine g_if_n C at_210 (Jvm.Free.XT.i0_eq_f hb_546) (pc' := 213) rfl ?_
                          refine g_aload C at_213 (v := (.ref a_400)) rfl rfl (pc' := 215) rfl ?_
                          refine g_aload C at_215 (v := (.ref a_352)) rfl rfl (pc' := 217) rfl ?_
                          have f_565 := (f_539.keep K_544 (ninS ne_406 (ninS ne_448 (ninS ne_454 (ninS ne_460 (ninS ne_478 nin0))))))
                          have f_566 := (f_538.keep K_544 (allS ge_a_400 (allS ge_b_432 (allS ge_b_433 (allS ge_b_434 (allS ge_b_437 all0))))))
                          have f_567 := (Nat.le_trans f_540 K_544.1)
                          refine g_virtual C (own_w hw 47 rfl) (own_w hw 48 rfl) (own_w hw 50 rfl) (own_w hw 49 rfl) (own_w hw 3 rfl) (own_w hw 51 rfl) (notFace_of_selects (args := #[]) (mvT C.2.2.2.2.1 (own_w hw 50 rfl))) (by decide) tr_545.1 (rm_end_1READ l Z a0 hw n0 a_400 b_432 b_433 b_434 b_435 b_436 b_437 a_352 (0 : Int32) (Int64.toInt32 p4) p4 p2 p3 (0 : Int64) [(.long p0)] [(.long p2), (.long (0 : Int64)), (.long (0 : Int64)), (.long (0 : Int64)), (.long (0 : Int64)), (.long (0 : Int64)), (.long (0 : Int64)), (.long (0 : Int64))] e_WRITE e_READ h_541 f_567 tr_545 di_445 ⟨ne_450, ne_456, ne_462, ne_468, ne_474, ne_480⟩ ⟨ge_b_432, ge_b_433, ge_b_434, ge_b_435, ge_b_436, ge_b_437, ge_a_400⟩ f_565 ne_472 ne_406 en f_566) (st := []) [(.ref a_352)] rfl rfl own_pd_6_end rfl rfl (by decide) (W := 0) (Nat.le_of_eq rfl) (by decide) (by decide) (by decide) at_217 (pc' := 220) rfl ?_
                          intro v_570 h_568 q_569
                          obtain ⟨rfl, K_571, tr_572⟩ := q_569
                          show Go B n0 _ h_568 13 51 220 #[.val (.long p0), .second, .val (.long p1), .second, .val (.long p2), .second, .val (.long p3), .second, .val (.long p4), .second, .val (.int p5), .val (.int (1 : Int32)), .val (.int b1), .val (.int b2), .val (.int b3), .val (.int b4), .val (.int b5), .val (.int b6), .val (.ref a_334), .val (.ref a_352), .val (.ref a_374), .val (.ref a_400), .unset, .unset] []
                          refine g_iload C at_220 (v := b4) rfl (pc' := 222) rfl ?_
                          by_cases hb_573 : b4 = (0 : Int32)
                          · refine g_if_y C at_222 (Jvm.Free.XT.i0_eq_t hb_573) (pc' := 232) (by decide) (by decide) ?_
                            refine g_aload C at_232 (v := (.ref a_400)) rfl rfl (pc' := 234) rfl ?_
                            refine g_aload C at_234 (v := (.ref a_374)) rfl rfl (pc' := 236) rfl ?_
                            have f_574 := ((((f_425.keep K_444 (ninS ne_407 nin0)).keep K_488 (ninS ne_407 (ninS ne_467 nin0))).keep K_544 (ninS ne_407 (ninS ne_449 (ninS ne_455 (ninS ne_461 (ninS ne_479 nin0)))))).keep K_571 (ninS ne_407 (ninS ne_473 nin0)))
                            have f_575 := (Nat.le_trans f_567 K_571.1)
                            refine g_virtual C (own_w hw 42 rfl) (own_w hw 43 rfl) (own_w hw 45 rfl) (own_w hw 44 rfl) (own_w hw 3 rfl) (own_w hw 46 rfl) (notFace_of_selects (args := #[]) (mvT C.2.2.2.2.1 (own_w hw 45 rfl))) (by decide) tr_572.1 (rm_sf11 l Z a0 hw n0 a_400 b_432 b_433 b_434 b_435 b_436 b_437 a_374 (1 : Int32) (.ref e_READ) (Int64.toInt32 p4) p4 qa qb p0 [(.long p2)] [(.long p2), (.long (0 : Int64)), (.long (0 : Int64)), (.long (0 : Int64)), (.long (0 : Int64)), (.long (0 : Int64)), (.long (0 : Int64)), (.long (0 : Int64))] h_568 f_575 tr_572 f_574) (st := []) [(.ref a_374)] rfl rfl own_pd_7_startsFrom rfl rfl (by decide) (W := 0) (Nat.le_of_eq rfl) (by decide) (by decide) (by decide) at_236 (pc' := 239) rfl ?_
                            intro v_578 h_576 q_577
                            obtain ⟨rfl, rfl⟩ := q_577
                            show Go B n0 _ h_568 13 51 239 #[.val (.long p0), .second, .val (.long p1), .second, .val (.long p2), .second, .val (.long p3), .second, .val (.long p4), .second, .val (.int p5), .val (.int (1 : Int32)), .val (.int b1), .val (.int b2), .val (.int b3), .val (.int b4), .val (.int b5), .val (.int b6), .val (.ref a_334), .val (.ref a_352), .val (.ref a_374), .val (.ref a_400), .unset, .unset] [(.int (sf1 p0 qa))]
                            refine g_istore C at_239 (v := (sf1 p0 qa)) (L' := #[.val (.long p0), .second, .val (.long p1), .second, .val (.long p2), .second, .val (.long p3), .second, .val (.long p4), .second, .val (.int p5), .val (.int (1 : Int32)), .val (.int b1), .val (.int b2), .val (.int b3), .val (.int b4), .val (.int b5), .val (.int b6), .val (.ref a_334), .val (.ref a_352), .val (.ref a_374), .val (.ref a_400), .val (.int (sf1 p0 qa)), .unset]) rfl (pc' := 241) rfl ?_
                            refine g_iload C at_241 (v := b3) rfl (pc' := 243) rfl ?_
                            refine g_if_n C at_243 (Jvm.Free.XT.i0_eq_f hb_546) (pc' := 246) rfl ?_
                            refine g_iload C at_246 (v := b4) rfl (pc' := 248) rfl ?_
                            refine g_if_n C at_248 (Jvm.Free.XT.i0_ne_f hb_573) (pc' := 251) rfl ?_
                            refine g_iload C at_251 (v := (1 : Int32)) rfl (pc' := 253) rfl ?_
                            refine g_iconst C at_253 (v := (1 : Int32)) rfl (pc' := 254) rfl ?_
                            refine g_icmp_n C at_254 (Jvm.Free.XT.ii_lt_f (by decide)) (pc' := 257) rfl ?_
                            refine g_aload C at_257 (v := (.ref a_374)) rfl rfl (pc' := 259) rfl ?_
                            refine g_iconst C at_259 (v := (0 : Int32)) rfl (pc' := 260) rfl ?_
                            refine g_laload C f_574 (by decide) (i := 0) (by decide) (v := qa) rfl at_260 (pc' := 261) rfl ?_
                            refine g_lload_n C at_261 (v := p0) rfl (pc' := 262) rfl ?_
                            refine g_lcmp C (x := qa) (y := p0) at_262 (pc' := 263) rfl ?_
                            by_cases hb_579 : qa = p0
                            · refine g_if_n C at_263 (Jvm.Free.XT.ll_ne_f hb_579) (pc' := 266) rfl ?_
                              refine g_iload C at_266 (v := (1 : Int32)) rfl (pc' := 268) rfl ?_
                              refine g_iconst C at_268 (v := (2 : Int32)) rfl (pc' := 269) rfl ?_
                              refine g_icmp_y C at_269 (Jvm.Free.XT.ii_lt_t (by decide)) (pc' := 281) (by decide) (by decide) ?_
                              refine g_iconst C at_281 (v := (1 : Int32)) rfl (pc' := 282) rfl ?_
                              refine g_goto C at_282 (pc' := 286) (by decide) (by decide) ?_
                              refine g_istore C at_286 (v := (1 : Int32)) (L' := #[.val (.long p0), .second, .val (.long p1), .second, .val (.long p2), .second, .val (.long p3), .second, .val (.long p4), .second, .val (.int p5), .val (.int (1 : Int32)), .val (.int b1), .val (.int b2), .val (.int b3), .val (.int b4), .val (.int b5), .val (.int b6), .val (.ref a_334), .val (.ref a_352), .val (.ref a_374), .val (.ref a_400), .val (.int (sf1 p0 qa)), .val (.int (1 : Int32))]) rfl (pc' := 288) rfl ?_
                              refine g_iload C at_288 (v := (sf1 p0 qa)) rfl (pc' := 290) rfl ?_
                              refine g_iload C at_290 (v := (1 : Int32)) rfl (pc' := 292) rfl ?_
                              refine g_icmp_n C at_292 (Jvm.Free.XT.ii_ne_f (sf1_y (Eq.symm hb_579))) (pc' := 295) rfl ?_
                              refine g_iconst C at_295 (v := (1 : Int32)) rfl (pc' := 296) rfl ?_
                              refine g_goto C at_296 (pc' := 300) (by decide) (by decide) ?_
                              refine g_ret C (v := (.int (1 : Int32))) (ty := .boolean) rfl rfl (Or.inl ⟨rfl, Or.inr (Or.inl rfl), _, rfl⟩) at_300 (by decide) (by decide) ?_
                              rfl
                            · refine g_if_y C at_263 (Jvm.Free.XT.ll_ne_t hb_579) (pc' := 285) (by decide) (by decide) ?_
                              refine g_iconst C at_285 (v := (0 : Int32)) rfl (pc' := 286) rfl ?_
                              refine g_istore C at_286 (v := (0 : Int32)) (L' := #[.val (.long p0), .second, .val (.long p1), .second, .val (.long p2), .second, .val (.long p3), .second, .val (.long p4), .second, .val (.int p5), .val (.int (1 : Int32)), .val (.int b1), .val (.int b2), .val (.int b3), .val (.int b4), .val (.int b5), .val (.int b6), .val (.ref a_334), .val (.ref a_352), .val (.ref a_374), .val (.ref a_400), .val (.int (sf1 p0 qa)), .val (.int (0 : Int32))]) rfl (pc' := 288) rfl ?_
                              refine g_iload C at_288 (v := (sf1 p0 qa)) rfl (pc' := 290) rfl ?_
                              refine g_iload C at_290 (v := (0 : Int32)) rfl (pc' := 292) rfl ?_
                              refine g_icmp_n C at_292 (Jvm.Free.XT.ii_ne_f (sf1_n (fun q => hb_579 (Eq.symm q)))) (pc' := 295) rfl ?_
                              refine g_iconst C at_295 (v := (1 : Int32)) rfl (pc' := 296) rfl ?_
                              refine g_goto C at_296 (pc' := 300) (by decide) (by decide) ?_
                              refine g_ret C (v := (.int (1 : Int32))) (ty := .boolean) rfl rfl (Or.inl ⟨rfl, Or.inr (Or.inl rfl), _, rfl⟩) at_300 (by decide) (by decide) ?_
                              rfl
                          · refine g_if_n C at_222 (Jvm.Free.XT.i0_eq_f hb_573) (pc' := 225) rfl ?_
                            refine g_aload C at_225 (v := (.ref a_400)) rfl rfl (pc' := 227) rfl ?_
                            refine g_aload C at_227 (v := (.ref a_334)) rfl rfl (pc' := 229) rfl ?_
                            have f_580 := (((f_483.keep K_488 (ninS ne_405 (ninS ne_465 nin0))).keep K_544 (ninS ne_405 (ninS ne_447 (ninS ne_453 (ninS ne_459 (ninS ne_477 nin0)))))).keep K_571 (ninS ne_405 (ninS ne_471 nin0)))
                            have f_581 := (Nat.le_trans f_567 K_571.1)
                            refine g_virtual C (own_w hw 29 rfl) (own_w hw 30 rfl) (own_w hw 32 rfl) (own_w hw 31 rfl) (own_w hw 3 rfl) (own_w hw 33 rfl) (notFace_of_selects (args := #[]) (mvT C.2.2.2.2.1 (own_w hw 32 rfl))) (by decide) tr_572.1 (rm_begin1 l Z a0 hw n0 a_400 b_432 b_433 b_434 b_435 b_436 b_437 a_334 (1 : Int32) (1 : Int32) (.ref e_READ) (Int64.toInt32 p4) p4 p0 p1 p0 [(.long p2)] [(.long p2), (.long (0 : Int64)), (.long (0 : Int64)), (.long (0 : Int64)), (.long (0 : Int64)), (.long (0 : Int64)), (.long (0 : Int64)), (.long (0 : Int64))] h_568 f_581 tr_572 di_445 ⟨ne_450, ne_456, ne_462, ne_468, ne_474, ne_480⟩ ⟨ge_b_432, ge_b_433, ge_b_434, ge_b_435, ge_b_436, ge_b_437, ge_a_400⟩ f_580 ne_465 ne_405) (st := []) [(.ref a_334)] rfl rfl own_pd_6_begin rfl rfl (by decide) (W := 0) (Nat.le_of_eq rfl) (by decide) (by decide) (by decide) at_229 (pc' := 232) rfl ?_
                            intro v_584 h_582 q_583
                            obtain ⟨rfl, K_585, tr_586⟩ := q_583
                            show Go B n0 _ h_582 13 51 232 #[.val (.long p0), .second, .val (.long p1), .second, .val (.long p2), .second, .val (.long p3), .second, .val (.long p4), .second, .val (.int p5), .val (.int (1 : Int32)), .val (.int b1), .val (.int b2), .val (.int b3), .val (.int b4), .val (.int b5), .val (.int b6), .val (.ref a_334), .val (.ref a_352), .val (.ref a_374), .val (.ref a_400), .unset, .unset] []
                            refine g_aload C at_232 (v := (.ref a_400)) rfl rfl (pc' := 234) rfl ?_
                            refine g_aload C at_234 (v := (.ref a_374)) rfl rfl (pc' := 236) rfl ?_
                            have f_587 := (((((f_425.keep K_444 (ninS ne_407 nin0)).keep K_488 (ninS ne_407 (ninS ne_467 nin0))).keep K_544 (ninS ne_407 (ninS ne_449 (ninS ne_455 (ninS ne_461 (ninS ne_479 nin0)))))).keep K_571 (ninS ne_407 (ninS ne_473 nin0))).keep K_585 (ninS ne_407 (ninS ne_467 nin0)))
                            have f_588 := (Nat.le_trans f_581 K_585.1)
                            refine g_virtual C (own_w hw 42 rfl) (own_w hw 43 rfl) (own_w hw 45 rfl) (own_w hw 44 rfl) (own_w hw 3 rfl) (own_w hw 46 rfl) (notFace_of_selects (args := #[]) (mvT C.2.2.2.2.1 (own_w hw 45 rfl))) (by decide) tr_586.1 (rm_sf10 l Z a0 hw n0 a_400 b_432 b_433 b_434 b_435 b_436 b_437 a_374 (0 : Int32) (.ref e_READ) (Int64.toInt32 p4) p4 qa qb p0 [(.long p2)] [(.long p2), (.long (0 : Int64)), (.long (0 : Int64)), (.long (0 : Int64)), (.long (0 : Int64)), (.long (0 : Int64)), (.long (0 : Int64)), (.long (0 : Int64))] h_582 f_588 tr_586 f_587) (st := []) [(.ref a_374)] rfl rfl own_pd_7_startsFrom rfl rfl (by decide) (W := 0) (Nat.le_of_eq rfl) (by decide) (by decide) (by decide) at_236 (pc' := 239) rfl ?_
                            intro v_591 h_589 q_590
                            obtain ⟨rfl, rfl⟩ := q_590
                            show Go B n0 _ h_582 13 51 239 #[.val (.long p0), .second, .val (.long p1), .second, .val (.long p2), .second, .val (.long p3), .second, .val (.long p4), .second, .val (.int p5), .val (.int (1 : Int32)), .val (.int b1), .val (.int b2), .val (.int b3), .val (.int b4), .val (.int b5), .val (.int b6), .val (.ref a_334), .val (.ref a_352), .val (.ref a_374), .val (.ref a_400), .unset, .unset] [(.int (0 : Int32))]
                            refine g_istore C at_239 (v := (0 : Int32)) (L' := #[.val (.long p0), .second, .val (.long p1), .second, .val (.long p2), .second, .val (.long p3), .second, .val (.long p4), .second, .val (.int p5), .val (.int (1 : Int32)), .val (.int b1), .val (.int b2), .val (.int b3), .val (.int b4), .val (.int b5), .val (.int b6), .val (.ref a_334), .val (.ref a_352), .val (.ref a_374), .val (.ref a_400), .val (.int (0 : Int32)), .unset]) rfl (pc' := 241) rfl ?_
                            refine g_iload C at_241 (v := b3) rfl (pc' := 243) rfl ?_
                            refine g_if_n C at_243 (Jvm.Free.XT.i0_eq_f hb_546) (pc' := 246) rfl ?_
                            refine g_iload C at_246 (v := b4) rfl (pc' := 248) rfl ?_
                            refine g_if_y C at_248 (Jvm.Free.XT.i0_ne_t hb_573) (pc' := 285) (by decide) (by decide) ?_
                            refine g_iconst C at_285 (v := (0 : Int32)) rfl (pc' := 286) rfl ?_
                            refine g_istore C at_286 (v := (0 : Int32)) (L' := #[.val (.long p0), .second, .val (.long p1), .second, .val (.long p2), .second, .val (.long p3), .second, .val (.long p4), .second, .val (.int p5), .val (.int (1 : Int32)), .val (.int b1), .val (.int b2), .val (.int b3), .val (.int b4), .val (.int b5), .val (.int b6), .val (.ref a_334), .val (.ref a_352), .val (.ref a_374), .val (.ref a_400), .val (.int (0 : Int32)), .val (.int (0 : Int32))]) rfl (pc' := 288) rfl ?_
                            refine g_iload C at_288 (v := (0 : Int32)) rfl (pc' := 290) rfl ?_
                            refine g_iload C at_290 (v := (0 : Int32)) rfl (pc' := 292) rfl ?_
                            refine g_icmp_n C at_292 (Jvm.Free.XT.ii_ne_f (by decide)) (pc' := 295) rfl ?_
                            refine g_iconst C at_295 (v := (1 : Int32)) rfl (pc' := 296) rfl ?_
                            refine g_goto C at_296 (pc' := 300) (by decide) (by decide) ?_
                            refine g_ret C (v := (.int (1 : Int32))) (ty := .boolean) rfl rfl (Or.inl ⟨rfl, Or.inr (Or.inl rfl), _, rfl⟩) at_300 (by decide) (by decide) ?_
                            rfl
                      · refine g_if_n C at_188 (Jvm.Free.XT.i0_eq_f hb_537) (pc' := 191) rfl ?_
                        have f_592 := ((((((((((((O.ext E_336).keep K_342 (allS ge_a_334 all0)).keep K_346 (allS ge_a_334 all0)).ext E_354).keep K_363 (allS ge_a_352 all0)).keep K_367 (allS ge_a_352 all0)).ext E_376).keep K_387 (allS ge_a_374 all0)).keep K_392 (allS ge_a_374 all0)).ext E_402).keep K_444 (allS ge_a_400 all0)).keep K_488 (allS ge_a_400 (allS ge_b_435 all0)))
                        refine g_getstatic C (host := "") (v := (.ref e_WRITE)) (Or.inl (own_w hw 65 rfl)) Via.refl (S_WRITE.ext f_592.2) at_191 (pc' := 194) rfl ?_
                        refine g_goto C at_194 (pc' := 200) (by decide) (by decide) ?_
                        refine g_lload C at_200 (v := p4) rfl (pc' := 202) rfl ?_
                        refine g_l2i C (x := p4) at_202 (pc' := 203) rfl ?_
                        refine g_lload C at_203 (v := p4) rfl (pc' := 205) rfl ?_
                        have f_593 := ((f_424.keep K_444 (ninS ne_406 nin0)).keep K_488 (ninS ne_406 (ninS ne_466 nin0)))
                        have f_594 := (Nat.le_trans f_484 K_488.1)
                        refine g_virtual C (own_w hw 68 rfl) (own_w hw 69 rfl) (own_w hw 71 rfl) (own_w hw 70 rfl) (own_w hw 3 rfl) (own_w hw 72 rfl) (notFace_of_selects (args := #[]) (mvT C.2.2.2.2.1 (own_w hw 71 rfl))) (by decide) tr_489.1 (rm_add_1WRITE l Z a0 hw n0 a_400 b_432 b_433 b_434 b_435 b_436 b_437 a_352 (0 : Int32) (Int64.toInt32 p4) p4 p2 p3 p0 [(.long (0 : Int64))] e_WRITE e_READ h_485 f_594 tr_489 di_445 ⟨ne_450, ne_456, ne_462, ne_468, ne_474, ne_480⟩ ⟨ge_b_432, ge_b_433, ge_b_434, ge_b_435, ge_b_436, ge_b_437, ge_a_400⟩ f_593 ⟨ne_448, ne_454, ne_460, ne_466, ne_472, ne_478, ne_406⟩ en f_592) (st := []) [(.ref a_352), (.ref e_WRITE), (.int (Int64.toInt32 p4)), (.long p4)] rfl rfl own_pd_9_add rfl rfl (by decide) (W := 0) (Nat.le_of_eq rfl) (by decide) (by decide) (by decide) at_205 (pc' := 208) rfl ?_
                        intro v_597 h_595 q_596
                        obtain ⟨rfl, K_598, tr_599⟩ := q_596
                        show Go B n0 _ h_595 11 50 208 #[.val (.long p0), .second, .val (.long p1), .second, .val (.long p2), .second, .val (.long p3), .second, .val (.long p4), .second, .val (.int p5), .val (.int (1 : Int32)), .val (.int b1), .val (.int b2), .val (.int b3), .val (.int b4), .val (.int b5), .val (.int b6), .val (.ref a_334), .val (.ref a_352), .val (.ref a_374), .val (.ref a_400), .unset, .unset] []
                        refine g_iload C at_208 (v := b3) rfl (pc' := 210) rfl ?_
                        by_cases hb_600 : b3 = (0 : Int32)
                        · refine g_if_y C at_210 (Jvm.Free.XT.i0_eq_t hb_600) (pc' := 220) (by decide) (by decide) ?_
                          refine g_iload C at_220 (v := b4) rfl (pc' := 222) rfl ?_
                          by_cases hb_601 : b4 = (0 : Int32)
                          · refine g_if_y C at_222 (Jvm.Free.XT.i0_eq_t hb_601) (pc' := 232) (by decide) (by decide) ?_
                            refine g_aload C at_232 (v := (.ref a_400)) rfl rfl (pc' := 234) rfl ?_
                            refine g_aload C at_234 (v := (.ref a_374)) rfl rfl (pc' := 236) rfl ?_
                            have f_602 := (((f_425.keep K_444 (ninS ne_407 nin0)).keep K_488 (ninS ne_407 (ninS ne_467 nin0))).keep K_598 (ninS ne_407 (ninS ne_449 (ninS ne_455 (ninS ne_461 (ninS ne_479 nin0))))))
                            have f_603 := (Nat.le_trans f_594 K_598.1)
                            refine g_virtual C (own_w hw 42 rfl) (own_w hw 43 rfl) (own_w hw 45 rfl) (own_w hw 44 rfl) (own_w hw 3 rfl) (own_w hw 46 rfl) (notFace_of_selects (args := #[]) (mvT C.2.2.2.2.1 (own_w hw 45 rfl))) (by decide) tr_599.1 (rm_sf10 l Z a0 hw n0 a_400 b_432 b_433 b_434 b_435 b_436 b_437 a_374 (1 : Int32) (.ref e_WRITE) (Int64.toInt32 p4) p4 qa qb p0 [(.long (0 : Int64))] [(.long p2), (.long (0 : Int64)), (.long (0 : Int64)), (.long (0 : Int64)), (.long (0 : Int64)), (.long (0 : Int64)), (.long (0 : Int64)), (.long (0 : Int64))] h_595 f_603 tr_599 f_602) (st := []) [(.ref a_374)] rfl rfl own_pd_7_startsFrom rfl rfl (by decide) (W := 0) (Nat.le_of_eq rfl) (by decide) (by decide) (by decide) at_236 (pc' := 239) rfl ?_
                            intro v_606 h_604 q_605
                            obtain ⟨rfl, rfl⟩ := q_605
                            show Go B n0 _ h_595 11 50 239 #[.val (.long p0), .second, .val (.long p1), .second, .val (.long p2), .second, .val (.long p3), .second, .val (.long p4), .second, .val (.int p5), .val (.int (1 : Int32)), .val (.int b1), .val (.int b2), .val (.int b3), .val (.int b4), .val (.int b5), .val (.int b6), .val (.ref a_334), .val (.ref a_352), .val (.ref a_374), .val (.ref a_400), .unset, .unset] [(.int (0 : Int32))]
                            refine g_istore C at_239 (v := (0 : Int32)) (L' := #[.val (.long p0), .second, .val (.long p1), .second, .val (.long p2), .second, .val (.long p3), .second, .val (.long p4), .second, .val (.int p5), .val (.int (1 : Int32)), .val (.int b1), .val (.int b2), .val (.int b3), .val (.int b4), .val (.int b5), .val (.int b6), .val (.ref a_334), .val (.ref a_352), .val (.ref a_374), .val (.ref a_400), .val (.int (0 : Int32)), .unset]) rfl (pc' := 241) rfl ?_
                            refine g_iload C at_241 (v := b3) rfl (pc' := 243) rfl ?_
                            refine g_if_y C at_243 (Jvm.Free.XT.i0_eq_t hb_600) (pc' := 285) (by decide) (by decide) ?_
                            refine g_iconst C at_285 (v := (0 : Int32)) rfl (pc' := 286) rfl ?_
                            refine g_istore C at_286 (v := (0 : Int32)) (L' := #[.val (.long p0), .second, .val (.long p1), .second, .val (.long p2), .second, .val (.long p3), .second, .val (.long p4), .second, .val (.int p5), .val (.int (1 : Int32)), .val (.int b1), .val (.int b2), .val (.int b3), .val (.int b4), .val (.int b5), .val (.int b6), .val (.ref a_334), .val (.ref a_352), .val (.ref a_374), .val (.ref a_400), .val (.int (0 : Int32)), .val (.int (0 : Int32))]) rfl (pc' := 288) rfl ?_
                            refine g_iload C at_288 (v := (0 : Int32)) rfl (pc' := 290) rfl ?_
                            refine g_iload C at_290 (v := (0 : Int32)) rfl (pc' := 292) rfl ?_
                            refine g_icmp_n C at_292 (Jvm.Free.XT.ii_ne_f (by decide)) (pc' := 295) rfl ?_
                            refine g_iconst C at_295 (v := (1 : Int32)) rfl (pc' := 296) rfl ?_
                            refine g_goto C at_296 (pc' := 300) (by decide) (by decide) ?_
                            refine g_ret C (v := (.int (1 : Int32))) (ty := .boolean) rfl rfl (Or.inl ⟨rfl, Or.inr (Or.inl rfl), _, rfl⟩) at_300 (by decide) (by decide) ?_
                            rfl
                          · refine g_if_n C at_222 (Jvm.Free.XT.i0_eq_f hb_601) (pc' := 225) rfl ?_
                            refine g_aload C at_225 (v := (.ref a_400)) rfl rfl (pc' := 227) rfl ?_
                            refine g_aload C at_227 (v := (.ref a_334)) rfl rfl (pc' := 229) rfl ?_
                            have f_607 := ((f_483.keep K_488 (ninS ne_405 (ninS ne_465 nin0))).keep K_598 (ninS ne_405 (ninS ne_447 (ninS ne_453 (ninS ne_459 (ninS ne_477 nin0))))))
                            have f_608 := (Nat.le_trans f_594 K_598.1)
                            refine g_virtual C (own_w hw 29 rfl) (own_w hw 30 rfl) (own_w hw 32 rfl) (own_w hw 31 rfl) (own_w hw 3 rfl) (own_w hw 33 rfl) (notFace_of_selects (args := #[]) (mvT C.2.2.2.2.1 (own_w hw 32 rfl))) (by decide) tr_599.1 (rm_begin1 l Z a0 hw n0 a_400 b_432 b_433 b_434 b_435 b_436 b_437 a_334 (1 : Int32) (0 : Int32) (.ref e_WRITE) (Int64.toInt32 p4) p4 p0 p1 p0 [(.long (0 : Int64))] [(.long p2), (.long (0 : Int64)), (.long (0 : Int64)), (.long (0 : Int64)), (.long (0 : Int64)), (.long (0 : Int64)), (.long (0 : Int64)), (.long (0 : Int64))] h_595 f_608 tr_599 di_445 ⟨ne_450, ne_456, ne_462, ne_468, ne_474, ne_480⟩ ⟨ge_b_432, ge_b_433, ge_b_434, ge_b_435, ge_b_436, ge_b_437, ge_a_400⟩ f_607 ne_465 ne_405) (st := []) [(.ref a_334)] rfl rfl own_pd_6_begin rfl rfl (by decide) (W := 0) (Nat.le_of_eq rfl) (by decide) (by decide) (by decide) at_229 (pc' := 232) rfl ?_
                            intro v_611 h_609 q_610
                            obtain ⟨rfl, K_612, tr_613⟩ := q_610
                            show Go B n0 _ h_609 11 50 232 #[.val (.long p0), .second, .val (.long p1), .second, .val (.long p2), .second, .val (.long p3), .second, .val (.long p4), .second, .val (.int p5), .val (.int (1 : Int32)), .val (.int b1), .val (.int b2), .val (.int b3), .val (.int b4), .val (.int b5), .val (.int b6), .val (.ref a_334), .val (.ref a_352), .val (.ref a_374), .val (.ref a_400), .unset, .unset] []
                            refine g_aload C at_232 (v := (.ref a_400)) rfl rfl (pc' := 234) rfl ?_
                            refine g_aload C at_234 (v := (.ref a_374)) rfl rfl (pc' := 236) rfl ?_
                            have f_614 := ((((f_425.keep K_444 (ninS ne_407 nin0)).keep K_488 (ninS ne_407 (ninS ne_467 nin0))).keep K_598 (ninS ne_407 (ninS ne_449 (ninS ne_455 (ninS ne_461 (ninS ne_479 nin0)))))).keep K_612 (ninS ne_407 (ninS ne_467 nin0)))
                            have f_615 := (Nat.le_trans f_608 K_612.1)
                            refine g_virtual C (own_w hw 42 rfl) (own_w hw 43 rfl) (own_w hw 45 rfl) (own_w hw 44 rfl) (own_w hw 3 rfl) (own_w hw 46 rfl) (notFace_of_selects (args := #[]) (mvT C.2.2.2.2.1 (own_w hw 45 rfl))) (by decide) tr_613.1 (rm_sf10 l Z a0 hw n0 a_400 b_432 b_433 b_434 b_435 b_436 b_437 a_374 (0 : Int32) (.ref e_WRITE) (Int64.toInt32 p4) p4 qa qb p0 [(.long (0 : Int64))] [(.long p2), (.long (0 : Int64)), (.long (0 : Int64)), (.long (0 : Int64)), (.long (0 : Int64)), (.long (0 : Int64)), (.long (0 : Int64)), (.long (0 : Int64))] h_609 f_615 tr_613 f_614) (st := []) [(.ref a_374)] rfl rfl own_pd_7_startsFrom rfl rfl (by decide) (W := 0) (Nat.le_of_eq rfl) (by decide) (by decide) (by decide) at_236 (pc' := 239) rfl ?_
                            intro v_618 h_616 q_617
                            obtain ⟨rfl, rfl⟩ := q_617
                            show Go B n0 _ h_609 11 50 239 #[.val (.long p0), .second, .val (.long p1), .second, .val (.long p2), .second, .val (.long p3), .second, .val (.long p4), .second, .val (.int p5), .val (.int (1 : Int32)), .val (.int b1), .val (.int b2), .val (.int b3), .val (.int b4), .val (.int b5), .val (.int b6), .val (.ref a_334), .val (.ref a_352), .val (.ref a_374), .val (.ref a_400), .unset, .unset] [(.int (0 : Int32))]
                            refine g_istore C at_239 (v := (0 : Int32)) (L' := #[.val (.long p0), .second, .val (.long p1), .second, .val (.long p2), .second, .val (.long p3), .second, .val (.long p4), .second, .val (.int p5), .val (.int (1 : Int32)), .val (.int b1), .val (.int b2), .val (.int b3), .val (.int b4), .val (.int b5), .val (.int b6), .val (.ref a_334), .val (.ref a_352), .val (.ref a_374), .val (.ref a_400), .val (.int (0 : Int32)), .unset]) rfl (pc' := 241) rfl ?_
                            refine g_iload C at_241 (v := b3) rfl (pc' := 243) rfl ?_
                            refine g_if_y C at_243 (Jvm.Free.XT.i0_eq_t hb_600) (pc' := 285) (by decide) (by decide) ?_
                            refine g_iconst C at_285 (v := (0 : Int32)) rfl (pc' := 286) rfl ?_
                            refine g_istore C at_286 (v := (0 : Int32)) (L' := #[.val (.long p0), .second, .val (.long p1), .second, .val (.long p2), .second, .val (.long p3), .second, .val (.long p4), .second, .val (.int p5), .val (.int (1 : Int32)), .val (.int b1), .val (.int b2), .val (.int b3), .val (.int b4), .val (.int b5), .val (.int b6), .val (.ref a_334), .val (.ref a_352), .val (.ref a_374), .val (.ref a_400), .val (.int (0 : Int32)), .val (.int (0 : Int32))]) rfl (pc' := 288) rfl ?_
                            refine g_iload C at_288 (v := (0 : Int32)) rfl (pc' := 290) rfl ?_
                            refine g_iload C at_290 (v := (0 : Int32)) rfl (pc' := 292) rfl ?_
                            refine g_icmp_n C at_292 (Jvm.Free.XT.ii_ne_f (by decide)) (pc' := 295) rfl ?_
                            refine g_iconst C at_295 (v := (1 : Int32)) rfl (pc' := 296) rfl ?_
                            refine g_goto C at_296 (pc' := 300) (by decide) (by decide) ?_
                            refine g_ret C (v := (.int (1 : Int32))) (ty := .boolean) rfl rfl (Or.inl ⟨rfl, Or.inr (Or.inl rfl), _, rfl⟩) at_300 (by decide) (by decide) ?_
                            rfl
                        · refine g_if_n C at_210 (Jvm.Free.XT.i0_eq_f hb_600) (pc' := 213) rfl ?_
                          refine g_aload C at_213 (v := (.ref a_400)) rfl rfl (pc' := 215) rfl ?_
                          refine g_aload C at_215 (v := (.ref a_352)) rfl rfl (pc' := 217) rfl ?_
                          have f_619 := (f_593.keep K_598 (ninS ne_406 (ninS ne_448 (ninS ne_454 (ninS ne_460 (ninS ne_478 nin0))))))
                          have f_620 := (f_592.keep K_598 (allS ge_a_400 (allS ge_b_432 (allS ge_b_433 (allS ge_b_434 (allS ge_b_437 all0))))))
                          have f_621 := (Nat.le_trans f_594 K_598.1)
                          refine g_virtual C (own_w hw 47 rfl) (own_w hw 48 rfl) (own_w hw 50 rfl) (own_w hw 49 rfl) (own_w hw 3 rfl) (own_w hw 51 rfl) (notFace_of_selects (args := #[]) (mvT C.2.2.2.2.1 (own_w hw 50 rfl))) (by decide) tr_599.1 (rm_end_1WRITE l Z a0 hw n0 a_400 b_432 b_433 b_434 b_435 b_436 b_437 a_352 (0 : Int32) (Int64.toInt32 p4) p4 p2 p3 (0 : Int64) [(.long p0)] [(.long p2), (.long (0 : Int64)), (.long (0 : Int64)), (.long (0 : Int64)), (.long (0 : Int64)), (.long (0 : Int64)), (.long (0 : Int64)), (.long (0 : Int64))] e_WRITE e_READ h_595 f_621 tr_599 di_445 ⟨ne_450, ne_456, ne_462, ne_468, ne_474, ne_480⟩ ⟨ge_b_432, ge_b_433, ge_b_434, ge_b_435, ge_b_436, ge_b_437, ge_a_400⟩ f_619 ne_472 ne_406 en f_620) (st := []) [(.ref a_352)] rfl rfl own_pd_6_end rfl rfl (by decide) (W := 0) (Nat.le_of_eq rfl) (by decide) (by decide) (by decide) at_217 (pc' := 220) rfl ?_
                          intro v_624 h_622 q_623
                          obtain ⟨rfl, K_625, tr_626⟩ := q_623
                          show Go B n0 _ h_622 13 52 220 #[.val (.long p0), .second, .val (.long p1), .second, .val (.long p2), .second, .val (.long p3), .second, .val (.long p4), .second, .val (.int p5), .val (.int (1 : Int32)), .val (.int b1), .val (.int b2), .val (.int b3), .val (.int b4), .val (.int b5), .val (.int b6), .val (.ref a_334), .val (.ref a_352), .val (.ref a_374), .val (.ref a_400), .unset, .unset] []
                          refine g_iload C at_220 (v := b4) rfl (pc' := 222) rfl ?_
                          by_cases hb_627 : b4 = (0 : Int32)
                          · refine g_if_y C at_222 (Jvm.Free.XT.i0_eq_t hb_627) (pc' := 232) (by decide) (by decide) ?_
                            refine g_aload C at_232 (v := (.ref a_400)) rfl rfl (pc' := 234) rfl ?_
                            refine g_aload C at_234 (v := (.ref a_374)) rfl rfl (pc' := 236) rfl ?_
                            have f_628 := ((((f_425.keep K_444 (ninS ne_407 nin0)).keep K_488 (ninS ne_407 (ninS ne_467 nin0))).keep K_598 (ninS ne_407 (ninS ne_449 (ninS ne_455 (ninS ne_461 (ninS ne_479 nin0)))))).keep K_625 (ninS ne_407 (ninS ne_473 nin0)))
                            have f_629 := (Nat.le_trans f_621 K_625.1)
                            refine g_virtual C (own_w hw 42 rfl) (own_w hw 43 rfl) (own_w hw 45 rfl) (own_w hw 44 rfl) (own_w hw 3 rfl) (own_w hw 46 rfl) (notFace_of_selects (args := #[]) (mvT C.2.2.2.2.1 (own_w hw 45 rfl))) (by decide) tr_626.1 (rm_sf11 l Z a0 hw n0 a_400 b_432 b_433 b_434 b_435 b_436 b_437 a_374 (1 : Int32) (.ref e_WRITE) (Int64.toInt32 p4) p4 qa qb p0 [(.long p2)] [(.long p2), (.long (0 : Int64)), (.long (0 : Int64)), (.long (0 : Int64)), (.long (0 : Int64)), (.long (0 : Int64)), (.long (0 : Int64)), (.long (0 : Int64))] h_622 f_629 tr_626 f_628) (st := []) [(.ref a_374)] rfl rfl own_pd_7_startsFrom rfl rfl (by decide) (W := 0) (Nat.le_of_eq rfl) (by decide) (by decide) (by decide) at_236 (pc' := 239) rfl ?_
                            intro v_632 h_630 q_631
                            obtain ⟨rfl, rfl⟩ := q_631
                            show Go B n0 _ h_622 13 52 239 #[.val (.long p0), .second, .val (.long p1), .second, .val (.long p2), .second, .val (.long p3), .second, .val (.long p4), .second, .val (.int p5), .val (.int (1 : Int32)), .val (.int b1), .val (.int b2), .val (.int b3), .val (.int b4), .val (.int b5), .val (.int b6), .val (.ref a_334), .val (.ref a_352), .val (.ref a_374), .val (.ref a_400), .unset, .unset] [(.int (sf1 p0 qa))]
                            refine g_istore C at_239 (v := (sf1 p0 qa)) (L' := #[.val (.long p0), .second, .val (.long p1), .second, .val (.long p2), .second, .val (.long p3), .second, .val (.long p4), .second, .val (.int p5), .val (.int (1 : Int32)), .val (.int b1), .val (.int b2), .val (.int b3), .val (.int b4), .val (.int b5), .val (.int b6), .val (.ref a_334), .val (.ref a_352), .val (.ref a_374), .val (.ref a_400), .val (.int (sf1 p0 qa)), .unset]) rfl (pc' := 241) rfl ?_
                            refine g_iload C at_241 (v := b3) rfl (pc' := 243) rfl ?_
                            refine g_if_n C at_243 (Jvm.Free.XT.i0_eq_f hb_600) (pc' := 246) rfl ?_
                            refine g_iload C at_246 (v := b4) rfl (pc' := 248) rfl ?_
                            refine g_if_n C at_248 (Jvm.Free.XT.i0_ne_f hb_627) (pc' := 251) rfl ?_
                            refine g_iload C at_251 (v := (1 : Int32)) rfl (pc' := 253) rfl ?_
                            refine g_iconst C at_253 (v := (1 : Int32)) rfl (pc' := 254) rfl ?_
                            refine g_icmp_n C at_254 (Jvm.Free.XT.ii_lt_f (by decide)) (pc' := 257) rfl ?_
                            refine g_aload C at_257 (v := (.ref a_374)) rfl rfl (pc' := 259) rfl ?_
                            refine g_iconst C at_259 (v := (0 : Int32)) rfl (pc' := 260) rfl ?_
                            refine g_laload C f_628 (by decide) (i := 0) (by decide) (v := qa) rfl at_260 (pc' := 261) rfl ?_
                            refine g_lload_n C at_261 (v := p0) rfl (pc' := 262) rfl ?_
                            refine g_lcmp C (x := qa) (y := p0) at_262 (pc' := 263) rfl ?_
                            by_cases hb_633 : qa = p0
                            · refine g_if_n C at_263 (Jvm.Free.XT.ll_ne_f hb_633) (pc' := 266) rfl ?_
                              refine g_iload C at_266 (v := (1 : Int32)) rfl (pc' := 268) rfl ?_
                              refine g_iconst C at_268 (v := (2 : Int32)) rfl (pc' := 269) rfl ?_
                              refine g_icmp_y C at_269 (Jvm.Free.XT.ii_lt_t (by decide)) (pc' := 281) (by decide) (by decide) ?_
                              refine g_iconst C at_281 (v := (1 : Int32)) rfl (pc' := 282) rfl ?_
                              refine g_goto C at_282 (pc' := 286) (by decide) (by decide) ?_
                              refine g_istore C at_286 (v := (1 : Int32)) (L' := #[.val (.long p0), .second, .val (.long p1), .second, .val (.long p2), .second, .val (.long p3), .second, .val (.long p4), .second, .val (.int p5), .val (.int (1 : Int32)), .val (.int b1), .val (.int b2), .val (.int b3), .val (.int b4), .val (.int b5), .val (.int b6), .val (.ref a_334), .val (.ref a_352), .val (.ref a_374), .val (.ref a_400), .val (.int (sf1 p0 qa)), .val (.int (1 : Int32))]) rfl (pc' := 288) rfl ?_
                              refine g_iload C at_288 (v := (sf1 p0 qa)) rfl (pc' := 290) rfl ?_
                              refine g_iload C at_290 (v := (1 : Int32)) rfl (pc' := 292) rfl ?_
                              refine g_icmp_n C at_292 (Jvm.Free.XT.ii_ne_f (sf1_y (Eq.symm hb_633))) (pc' := 295) rfl ?_
                              refine g_iconst C at_295 (v := (1 : Int32)) rfl (pc' := 296) rfl ?_
                              refine g_goto C at_296 (pc' := 300) (by decide) (by decide) ?_
                              refine g_ret C (v := (.int (1 : Int32))) (ty := .boolean) rfl rfl (Or.inl ⟨rfl, Or.inr (Or.inl rfl), _, rfl⟩) at_300 (by decide) (by decide) ?_
                              rfl
                            · refine g_if_y C at_263 (Jvm.Free.XT.ll_ne_t hb_633) (pc' := 285) (by decide) (by decide) ?_
                              refine g_iconst C at_285 (v := (0 : Int32)) rfl (pc' := 286) rfl ?_
                              refine g_istore C at_286 (v := (0 : Int32)) (L' := #[.val (.long p0), .second, .val (.long p1), .second, .val (.long p2), .second, .val (.long p3), .second, .val (.long p4), .second, .val (.int p5), .val (.int (1 : Int32)), .val (.int b1), .val (.int b2), .val (.int b3), .val (.int b4), .val (.int b5), .val (.int b6), .val (.ref a_334), .val (.ref a_352), .val (.ref a_374), .val (.ref a_400), .val (.int (sf1 p0 qa)), .val (.int (0 : Int32))]) rfl (pc' := 288) rfl ?_
                              refine g_iload C at_288 (v := (sf1 p0 qa)) rfl (pc' := 290) rfl ?_
                              refine g_iload C at_290 (v := (0 : Int32)) rfl (pc' := 292) rfl ?_
                              refine g_icmp_n C at_292 (Jvm.Free.XT.ii_ne_f (sf1_n (fun q => hb_633 (Eq.symm q)))) (pc' := 295) rfl ?_
                              refine g_iconst C at_295 (v := (1 : Int32)) rfl (pc' := 296) rfl ?_
                              refine g_goto C at_296 (pc' := 300) (by decide) (by decide) ?_
                              refine g_ret C (v := (.int (1 : Int32))) (ty := .boolean) rfl rfl (Or.inl ⟨rfl, Or.inr (Or.inl rfl), _, rfl⟩) at_300 (by decide) (by decide) ?_
                              rfl
                          · refine g_if_n C at_222 (Jvm.Free.XT.i0_eq_f hb_627) (pc' := 225) rfl ?_
                            refine g_aload C at_225 (v := (.ref a_400)) rfl rfl (pc' := 227) rfl ?_
                            refine g_aload C at_227 (v := (.ref a_334)) rfl rfl (pc' := 229) rfl ?_
                            have f_634 := (((f_483.keep K_488 (ninS ne_405 (ninS ne_465 nin0))).keep K_598 (ninS ne_405 (ninS ne_447 (ninS ne_453 (ninS ne_459 (ninS ne_477 nin0)))))).keep K_625 (ninS ne_405 (ninS ne_471 nin0)))
                            have f_635 := (Nat.le_trans f_621 K_625.1)
                            refine g_virtual C (own_w hw 29 rfl) (own_w hw 30 rfl) (own_w hw 32 rfl) (own_w hw 31 rfl) (own_w hw 3 rfl) (own_w hw 33 rfl) (notFace_of_selects (args := #[]) (mvT C.2.2.2.2.1 (own_w hw 32 rfl))) (by decide) tr_626.1 (rm_begin1 l Z a0 hw n0 a_400 b_432 b_433 b_434 b_435 b_436 b_437 a_334 (1 : Int32) (1 : Int32) (.ref e_WRITE) (Int64.toInt32 p4) p4 p0 p1 p0 [(.long p2)] [(.long p2), (.long (0 : Int64)), (.long (0 : Int64)), (.long (0 : Int64)), (.long (0 : Int64)), (.long (0 : Int64)), (.long (0 : Int64)), (.long (0 : Int64))] h_622 f_635 tr_626 di_445 ⟨ne_450, ne_456, ne_462, ne_468, ne_474, ne_480⟩ ⟨ge_b_432, ge_b_433, ge_b_434, ge_b_435, ge_b_436, ge_b_437, ge_a_400⟩ f_634 ne_465 ne_405) (st := []) [(.ref a_334)] rfl rfl own_pd_6_begin rfl rfl (by decide) (W := 0) (Nat.le_of_eq rfl) (by decide) (by decide) (by decide) at_229 (pc' := 232) rfl ?_
                            intro v_638 h_636 q_637
                            obtain ⟨rfl, K_639, tr_640⟩ := q_637
                            show Go B n0 _ h_636 13 52 232 #[.val (.long p0), .second, .val (.long p1), .second, .val (.long p2), .second, .val (.long p3), .second, .val (.long p4), .second, .val (.int p5), .val (.int (1 : Int32)), .val (.int b1), .val (.int b2), .val (.int b3), .val (.int b4), .val (.int b5), .val (.int b6), .val (.ref a_334), .val (.ref a_352), .val (.ref a_374), .val (.ref a_400), .unset, .unset] []
                            refine g_aload C at_232 (v := (.ref a_400)) rfl rfl (pc' := 234) rfl ?_
                            refine g_aload C at_234 (v := (.ref a_374)) rfl rfl (pc' := 236) rfl ?_
                            have f_641 := (((((f_425.keep K_444 (ninS ne_407 nin0)).keep K_488 (ninS ne_407 (ninS ne_467 nin0))).keep K_598 (ninS ne_407 (ninS ne_449 (ninS ne_455 (ninS ne_461 (ninS ne_479 nin0)))))).keep K_625 (ninS ne_407 (ninS ne_473 nin0))).keep K_639 (ninS ne_407 (ninS ne_467 nin0)))
                            have f_642 := (Nat.le_trans f_635 K_639.1)
                            refine g_virtual C (own_w hw 42 rfl) (own_w hw 43 rfl) (own_w hw 45 rfl) (own_w hw 44 rfl) (own_w hw 3 rfl) (own_w hw 46 rfl) (notFace_of_selects (args := #[]) (mvT C.2.2.2.2.1 (own_w hw 45 rfl))) (by decide) tr_640.1 (rm_sf10 l Z a0 hw n0 a_400 b_432 b_433 b_434 b_435 b_436 b_437 a_374 (0 : Int32) (.ref e_WRITE) (Int64.toInt32 p4) p4 qa qb p0 [(.long p2)] [(.long p2), (.long (0 : Int64)), (.long (0 : Int64)), (.long (0 : Int64)), (.long (0 : Int64)), (.long (0 : Int64)), (.long (0 : Int64)), (.long (0 : Int64))] h_636 f_642 tr_640 f_641) (st := []) [(.ref a_374)] rfl rfl own_pd_7_startsFrom rfl rfl (by decide) (W := 0) (Nat.le_of_eq rfl) (by decide) (by decide) (by decide) at_236 (pc' := 239) rfl ?_
                            intro v_645 h_643 q_644
                            obtain ⟨rfl, rfl⟩ := q_644
                            show Go B n0 _ h_636 13 52 239 #[.val (.long p0), .second, .val (.long p1), .second, .val (.long p2), .second, .val (.long p3), .second, .val (.long p4), .second, .val (.int p5), .val (.int (1 : Int32)), .val (.int b1), .val (.int b2), .val (.int b3), .val (.int b4), .val (.int b5), .val (.int b6), .val (.ref a_334), .val (.ref a_352), .val (.ref a_374), .val (.ref a_400), .unset, .unset] [(.int (0 : Int32))]
                            refine g_istore C at_239 (v := (0 : Int32)) (L' := #[.val (.long p0), .second, .val (.long p1), .second, .val (.long p2), .second, .val (.long p3), .second, .val (.long p4), .second, .val (.int p5), .val (.int (1 : Int32)), .val (.int b1), .val (.int b2), .val (.int b3), .val (.int b4), .val (.int b5), .val (.int b6), .val (.ref a_334), .val (.ref a_352), .val (.ref a_374), .val (.ref a_400), .val (.int (0 : Int32)), .unset]) rfl (pc' := 241) rfl ?_
                            refine g_iload C at_241 (v := b3) rfl (pc' := 243) rfl ?_
                            refine g_if_n C at_243 (Jvm.Free.XT.i0_eq_f hb_600) (pc' := 246) rfl ?_
                            refine g_iload C at_246 (v := b4) rfl (pc' := 248) rfl ?_
                            refine g_if_y C at_248 (Jvm.Free.XT.i0_ne_t hb_627) (pc' := 285) (by decide) (by decide) ?_
                            refine g_iconst C at_285 (v := (0 : Int32)) rfl (pc' := 286) rfl ?_
                            refine g_istore C at_286 (v := (0 : Int32)) (L' := #[.val (.long p0), .second, .val (.long p1), .second, .val (.long p2), .second, .val (.long p3), .second, .val (.long p4), .second, .val (.int p5), .val (.int (1 : Int32)), .val (.int b1), .val (.int b2), .val (.int b3), .val (.int b4), .val (.int b5), .val (.int b6), .val (.ref a_334), .val (.ref a_352), .val (.ref a_374), .val (.ref a_400), .val (.int (0 : Int32)), .val (.int (0 : Int32))]) rfl (pc' := 288) rfl ?_
                            refine g_iload C at_288 (v := (0 : Int32)) rfl (pc' := 290) rfl ?_
                            refine g_iload C at_290 (v := (0 : Int32)) rfl (pc' := 292) rfl ?_
                            refine g_icmp_n C at_292 (Jvm.Free.XT.ii_ne_f (by decide)) (pc' := 295) rfl ?_
                            refine g_iconst C at_295 (v := (1 : Int32)) rfl (pc' := 296) rfl ?_
                            refine g_goto C at_296 (pc' := 300) (by decide) (by decide) ?_
                            refine g_ret C (v := (.int (1 : Int32))) (ty := .boolean) rfl rfl (Or.inl ⟨rfl, Or.inr (Or.inl rfl), _, rfl⟩) at_300 (by decide) (by decide) ?_
                            rfl
                  refine g_iload C at_145 (v := b2) rfl (pc' := 147) rfl ?_
                  by_cases hb_646 : b2 = (0 : Int32)
                  · refine g_if_y C at_147 (Jvm.Free.XT.i0_eq_t hb_646) (pc' := 154) (by decide) (by decide) ?_
                    refine g_lload C at_154 (v := p3) rfl (pc' := 156) rfl ?_
                    exact t_390 p3
                  · refine g_if_n C at_147 (Jvm.Free.XT.i0_eq_f hb_646) (pc' := 150) rfl ?_
                    refine g_lload_n C at_150 (v := p1) rfl (pc' := 151) rfl ?_
                    refine g_goto C at_151 (pc' := 156) (by decide) (by decide) ?_
                    exact t_390 p1
                refine g_iload C at_131 (v := b1) rfl (pc' := 133) rfl ?_
                by_cases hb_647 : b1 = (0 : Int32)
                · refine g_if_y C at_133 (Jvm.Free.XT.i0_eq_t hb_647) (pc' := 140) (by decide) (by decide) ?_
                  refine g_lload C at_140 (v := p2) rfl (pc' := 142) rfl ?_
                  exact t_385 p2
                · refine g_if_n C at_133 (Jvm.Free.XT.i0_eq_f hb_647) (pc' := 136) rfl ?_
                  refine g_lload_n C at_136 (v := p0) rfl (pc' := 137) rfl ?_
                  refine g_goto C at_137 (pc' := 142) (by decide) (by decide) ?_
                  exact t_385 p0
              refine g_iload C at_82 (v := p5) rfl (pc' := 84) rfl ?_
              refine g_sipush C at_84 (v := (128 : Int32)) rfl (pc' := 87) rfl ?_
              refine g_iand C (x := p5) (y := (128 : Int32)) at_87  (pc' := 88) rfl ?_
              by_cases hb_648 : (p5 &&& (128 : Int32)) = (0 : Int32)
              · refine g_if_y C at_88 (Jvm.Free.XT.i0_eq_t hb_648) (pc' := 95) (by decide) (by decide) ?_
                refine g_iconst C at_95 (v := (0 : Int32)) rfl (pc' := 96) rfl ?_
                exact t_332 (0 : Int32)
              · refine g_if_n C at_88 (Jvm.Free.XT.i0_eq_f hb_648) (pc' := 91) rfl ?_
                refine g_iconst C at_91 (v := (1 : Int32)) rfl (pc' := 92) rfl ?_
                refine g_goto C at_92 (pc' := 96) (by decide) (by decide) ?_
                exact t_332 (1 : Int32)
            refine g_iload C at_67 (v := p5) rfl (pc' := 69) rfl ?_
            refine g_bipush C at_69 (v := (64 : Int32)) rfl (pc' := 71) rfl ?_
            refine g_iand C (x := p5) (y := (64 : Int32)) at_71  (pc' := 72) rfl ?_
            by_cases hb_649 : (p5 &&& (64 : Int32)) = (0 : Int32)
            · refine g_if_y C at_72 (Jvm.Free.XT.i0_eq_t hb_649) (pc' := 79) (by decide) (by decide) ?_
              refine g_iconst C at_79 (v := (0 : Int32)) rfl (pc' := 80) rfl ?_
              exact t_331 (0 : Int32)
            · refine g_if_n C at_72 (Jvm.Free.XT.i0_eq_f hb_649) (pc' := 75) rfl ?_
              refine g_iconst C at_75 (v := (1 : Int32)) rfl (pc' := 76) rfl ?_
              refine g_goto C at_76 (pc' := 80) (by decide) (by decide) ?_
              exact t_331 (1 : Int32)
          refine g_iload C at_52 (v := p5) rfl (pc' := 54) rfl ?_
          refine g_bipush C at_54 (v := (32 : Int32)) rfl (pc' := 56) rfl ?_
          refine g_iand C (x := p5) (y := (32 : Int32)) at_56  (pc' := 57) rfl ?_
          by_cases hb_650 : (p5 &&& (32 : Int32)) = (0 : Int32)
          · refine g_if_y C at_57 (Jvm.Free.XT.i0_eq_t hb_650) (pc' := 64) (by decide) (by decide) ?_
            refine g_iconst C at_64 (v := (0 : Int32)) rfl (pc' := 65) rfl ?_
            exact t_330 (0 : Int32)
          · refine g_if_n C at_57 (Jvm.Free.XT.i0_eq_f hb_650) (pc' := 60) rfl ?_
            refine g_iconst C at_60 (v := (1 : Int32)) rfl (pc' := 61) rfl ?_
            refine g_goto C at_61 (pc' := 65) (by decide) (by decide) ?_
            exact t_330 (1 : Int32)
        refine g_iload C at_37 (v := p5) rfl (pc' := 39) rfl ?_
        refine g_bipush C at_39 (v := (16 : Int32)) rfl (pc' := 41) rfl ?_
        refine g_iand C (x := p5) (y := (16 : Int32)) at_41  (pc' := 42) rfl ?_
        by_cases hb_651 : (p5 &&& (16 : Int32)) = (0 : Int32)
        · refine g_if_y C at_42 (Jvm.Free.XT.i0_eq_t hb_651) (pc' := 49) (by decide) (by decide) ?_
          refine g_iconst C at_49 (v := (0 : Int32)) rfl (pc' := 50) rfl ?_
          exact t_329 (0 : Int32)
        · refine g_if_n C at_42 (Jvm.Free.XT.i0_eq_f hb_651) (pc' := 45) rfl ?_
          refine g_iconst C at_45 (v := (1 : Int32)) rfl (pc' := 46) rfl ?_
          refine g_goto C at_46 (pc' := 50) (by decide) (by decide) ?_
          exact t_329 (1 : Int32)
      refine g_iload C at_22 (v := p5) rfl (pc' := 24) rfl ?_
      refine g_bipush C at_24 (v := (8 : Int32)) rfl (pc' := 26) rfl ?_
      refine g_iand C (x := p5) (y := (8 : Int32)) at_26  (pc' := 27) rfl ?_
      by_cases hb_652 : (p5 &&& (8 : Int32)) = (0 : Int32)
      · refine g_if_y C at_27 (Jvm.Free.XT.i0_eq_t hb_652) (pc' := 34) (by decide) (by decide) ?_
        refine g_iconst C at_34 (v := (0 : Int32)) rfl (pc' := 35) rfl ?_
        exact t_328 (0 : Int32)
      · refine g_if_n C at_27 (Jvm.Free.XT.i0_eq_f hb_652) (pc' := 30) rfl ?_
        refine g_iconst C at_30 (v := (1 : Int32)) rfl (pc' := 31) rfl ?_
        refine g_goto C at_31 (pc' := 35) (by decide) (by decide) ?_
        exact t_328 (1 : Int32)
    refine g_iconst C at_10 (v := (4 : Int32)) rfl (pc' := 11) rfl ?_
    refine g_iand C (x := p5) (y := (4 : Int32)) at_11  (pc' := 12) rfl ?_
    by_cases hb_653 : (p5 &&& (4 : Int32)) = (0 : Int32)
    · refine g_if_y C at_12 (Jvm.Free.XT.i0_eq_t hb_653) (pc' := 19) (by decide) (by decide) ?_
      refine g_iconst C at_19 (v := (0 : Int32)) rfl (pc' := 20) rfl ?_
      exact t_327 (0 : Int32)
    · refine g_if_n C at_12 (Jvm.Free.XT.i0_eq_f hb_653) (pc' := 15) rfl ?_
      refine g_iconst C at_15 (v := (1 : Int32)) rfl (pc' := 16) rfl ?_
      refine g_goto C at_16 (pc' := 20) (by decide) (by decide) ?_
      exact t_327 (1 : Int32)
  · subst i_1e
    show Go B n0 _ h0 0 0 8 #[.val (.long p0), .second, .val (.long p1), .second, .val (.long p2), .second, .val (.long p3), .second, .val (.long p4), .second, .val (.int p5), .val (.int (2 : Int32)), .unset, .unset, .unset, .unset, .unset, .unset, .unset, .unset, .unset, .unset, .unset, .unset] []
    refine g_iload C at_8 (v := p5) rfl (pc' := 10) rfl ?_
    have t_654 : ∀ (b1 : Int32), Go B n0 (fun v h => v = some (.int 1)) h0 0 0 20 #[.val (.long p0), .second, .val (.long p1), .second, .val (.long p2), .second, .val (.long p3), .second, .val (.long p4), .second, .val (.int p5), .val (.int (2 : Int32)), .unset, .unset, .unset, .unset, .unset, .unset, .unset, .unset, .unset, .unset, .unset, .unset] [(.int b1)] := by
      intro b1
      refine g_istore C at_20 (v := b1) (L' := #[.val (.long p0), .second, .val (.long p1), .second, .val (.long p2), .second, .val (.long p3), .second, .val (.long p4), .second, .val (.int p5), .val (.int (2 : Int32)), .val (.int b1), .unset, .unset, .unset, .unset, .unset, .unset, .unset, .unset, .unset, .unset, .unset]) rfl (pc' := 22) rfl ?_
      have t_655 : ∀ (b2 : Int32), Go B n0 (fun v h => v = some (.int 1)) h0 0 0 35 #[.val (.long p0), .second, .val (.long p1), .second, .val (.long p2), .second, .val (.long p3), .second, .val (.long p4), .second, .val (.int p5), .val (.int (2 : Int32)), .val (.int b1), .unset, .unset, .unset, .unset, .unset, .unset, .unset, .unset, .unset, .unset, .unset] [(.int b2)] := by
        intro b2
        refine g_istore C at_35 (v := b2) (L' := #[.val (.long p0), .second, .val (.long p1), .second, .val (.long p2), .second, .val (.long p3), .second, .val (.long p4), .second, .val (.int p5), .val (.int (2 : Int32)), .val (.int b1), .val (.int b2), .unset, .unset, .unset, .unset, .unset, .unset, .unset, .unset, .unset, .unset]) rfl (pc' := 37) rfl ?_
        have t_656 : ∀ (b3 : Int32), Go B n0 (fun v h => v = some (.int 1)) h0 0 0 50 #[.val (.long p0), .second, .val (.long p1), .second, .val (.long p2), .second, .val (.long p3), .second, .val (.long p4), .second, .val (.int p5), .val (.int (2 : Int32)), .val (.int b1), .val (.int b2), .unset, .unset, .unset, .unset, .unset, .unset, .unset, .unset, .unset, .unset] [(.int b3)] := by
          intro b3
          refine g_istore C at_50 (v := b3) (L' := #[.val (.long p0), .second, .val (.long p1), .second, .val (.long p2), .second, .val (.long p3), .second, .val (.long p4), .second, .val (.int p5), .val (.int (2 : Int32)), .val (.int b1), .val (.int b2), .val (.int b3), .unset, .unset, .unset, .unset, .unset, .unset, .unset, .unset, .unset]) rfl (pc' := 52) rfl ?_
          have t_657 : ∀ (b4 : Int32), Go B n0 (fun v h => v = some (.int 1)) h0 0 0 65 #[.val (.long p0), .second, .val (.long p1), .second, .val (.long p2), .second, .val (.long p3), .second, .val (.long p4), .second, .val (.int p5), .val (.int (2 : Int32)), .val (.int b1), .val (.int b2), .val (.int b3), .unset, .unset, .unset, .unset, .unset, .unset, .unset, .unset, .unset] [(.int b4)] := by
            intro b4
            refine g_istore C at_65 (v := b4) (L' := #[.val (.long p0), .second, .val (.long p1), .second, .val (.long p2), .second, .val (.long p3), .second, .val (.long p4), .second, .val (.int p5), .val (.int (2 : Int32)), .val (.int b1), .val (.int b2), .val (.int b3), .val (.int b4), .unset, .unset, .unset, .unset, .unset, .unset, .unset, .unset]) rfl (pc' := 67) rfl ?_
            have t_658 : ∀ (b5 : Int32), Go B n0 (fun v h => v = some (.int 1)) h0 0 0 80 #[.val (.long p0), .second, .val (.long p1), .second, .val (.long p2), .second, .val (.long p3), .second, .val (.long p4), .second, .val (.int p5), .val (.int (2 : Int32)), .val (.int b1), .val (.int b2), .val (.int b3), .val (.int b4), .unset, .unset, .unset, .unset, .unset, .unset, .unset, .unset] [(.int b5)] := by
              intro b5
              refine g_istore C at_80 (v := b5) (L' := #[.val (.long p0), .second, .val (.long p1), .second, .val (.long p2), .second, .val (.long p3), .second, .val (.long p4), .second, .val (.int p5), .val (.int (2 : Int32)), .val (.int b1), .val (.int b2), .val (.int b3), .val (.int b4), .val (.int b5), .unset, .unset, .unset, .unset, .unset, .unset, .unset]) rfl (pc' := 82) rfl ?_
              have t_659 : ∀ (b6 : Int32), Go B n0 (fun v h => v = some (.int 1)) h0 0 0 96 #[.val (.long p0), .second, .val (.long p1), .second, .val (.long p2), .second, .val (.long p3), .second, .val (.long p4), .second, .val (.int p5), .val (.int (2 : Int32)), .val (.int b1), .val (.int b2), .val (.int b3), .val (.int b4), .val (.int b5), .unset, .unset, .unset, .unset, .unset, .unset, .unset] [(.int b6)] := by
                intro b6
                refine g_istore C at_96 (v := b6) (L' := #[.val (.long p0), .second, .val (.long p1), .second, .val (.long p2), .second, .val (.long p3), .second, .val (.long p4), .second, .val (.int p5), .val (.int (2 : Int32)), .val (.int b1), .val (.int b2), .val (.int b3), .val (.int b4), .val (.int b5), .val (.int b6), .unset, .unset, .unset, .unset, .unset, .unset]) rfl (pc' := 98) rfl ?_
                refine g_iconst C at_98 (v := (2 : Int32)) rfl (pc' := 99) rfl ?_
                refine g_newarray C (own_w hw 0 rfl) (ty := .long) rfl (by decide) (cap := 2) (by decide) (by decide) (by decide) (by decide) at_99 (pc' := 101) rfl ?_
                intro h_660 a_661 g_662 E_663 A_664
                have ne_665 : e_READ ≠ a_661 := ne_new (X_READ.ext O.2).lt g_662
                have ne_666 : e_WRITE ≠ a_661 := ne_new (X_WRITE.ext O.2).lt g_662
                have ge_a_661 : n0 ≤ a_661 := Nat.le_trans Z0 (Nat.le_of_eq g_662.symm)
                have gs_a_661 : h0.size ≤ a_661 := Nat.le_trans (Nat.le_refl h0.size) (Nat.le_of_eq g_662.symm)
                have f_667 : Ary Z h_660 a_661 .long [(.long (0 : Int64)), (.long (0 : Int64))] := A_664
                show Go B n0 _ h_660 1 2 101 #[.val (.long p0), .second, .val (.long p1), .second, .val (.long p2), .second, .val (.long p3), .second, .val (.long p4), .second, .val (.int p5), .val (.int (2 : Int32)), .val (.int b1), .val (.int b2), .val (.int b3), .val (.int b4), .val (.int b5), .val (.int b6), .unset, .unset, .unset, .unset, .unset, .unset] [(.ref a_661)]
                refine g_dup C at_101 rfl (pc' := 102) rfl ?_
                refine g_iconst C at_102 (v := (0 : Int32)) rfl (pc' := 103) rfl ?_
                refine g_lload_n C at_103 (v := p0) rfl (pc' := 104) rfl ?_
                refine g_lastore C f_667 (by decide) (i := 0) (by decide) (show 0 < 2 by decide) (w := (.long p0)) rfl ge_a_661 at_104 (pc' := 105) rfl ?_
                intro h_668 K_669 A_670
                have f_671 : Ary Z h_668 a_661 .long [(.long p0), (.long (0 : Int64))] := A_670
                refine g_dup C at_105 rfl (pc' := 106) rfl ?_
                refine g_iconst C at_106 (v := (1 : Int32)) rfl (pc' := 107) rfl ?_
                refine g_lload_n C at_107 (v := p1) rfl (pc' := 108) rfl ?_
                refine g_lastore C f_671 (by decide) (i := 1) (by decide) (show 1 < 2 by decide) (w := (.long p1)) rfl ge_a_661 at_108 (pc' := 109) rfl ?_
                intro h_672 K_673 A_674
                have f_675 : Ary Z h_672 a_661 .long [(.long p0), (.long p1)] := A_674
                refine g_astore C at_109 (v := (.ref a_661)) (L' := #[.val (.long p0), .second, .val (.long p1), .second, .val (.long p2), .second, .val (.long p3), .second, .val (.long p4), .second, .val (.int p5), .val (.int (2 : Int32)), .val (.int b1), .val (.int b2), .val (.int b3), .val (.int b4), .val (.int b5), .val (.int b6), .val (.ref a_661), .unset, .unset, .unset, .unset, .unset]) rfl rfl (pc' := 111) rfl ?_
                refine g_iconst C at_111 (v := (2 : Int32)) rfl (pc' := 112) rfl ?_
                have f_676 := ((((X_READ.ext O.2).ext E_663).keep K_669).keep K_673)
                have f_677 := ((((X_WRITE.ext O.2).ext E_663).keep K_669).keep K_673)
                refine g_newarray C (own_w hw 0 rfl) (ty := .long) rfl (by decide) (cap := 2) (by decide) (by decide) (by decide) (by decide) at_112 (pc' := 114) rfl ?_
                intro h_678 a_679 g_680 E_681 A_682
                have ne_683 : a_661 ≠ a_679 := ne_new f_675.lt g_680
                have ne_684 : e_READ ≠ a_679 := ne_new f_676.lt g_680
                have ne_685 : e_WRITE ≠ a_679 := ne_new f_677.lt g_680
                have f_686 := (Nat.le_trans (Nat.le_trans (Nat.le_trans Z0 E_663.1) K_669.1) K_673.1)
                have ge_a_679 : n0 ≤ a_679 := Nat.le_trans f_686 (Nat.le_of_eq g_680.symm)
                have f_687 := (Nat.le_trans (Nat.le_trans (Nat.le_trans (Nat.le_refl h0.size) E_663.1) K_669.1) K_673.1)
                have gs_a_679 : h0.size ≤ a_679 := Nat.le_trans f_687 (Nat.le_of_eq g_680.symm)
                have f_688 : Ary Z h_678 a_679 .long [(.long (0 : Int64)), (.long (0 : Int64))] := A_682
                show Go B n0 _ h_678 2 4 114 #[.val (.long p0), .second, .val (.long p1), .second, .val (.long p2), .second, .val (.long p3), .second, .val (.long p4), .second, .val (.int p5), .val (.int (2 : Int32)), .val (.int b1), .val (.int b2), .val (.int b3), .val (.int b4), .val (.int b5), .val (.int b6), .val (.ref a_661), .unset, .unset, .unset, .unset, .unset] [(.ref a_679)]
                refine g_dup C at_114 rfl (pc' := 115) rfl ?_
                refine g_iconst C at_115 (v := (0 : Int32)) rfl (pc' := 116) rfl ?_
                refine g_lload C at_116 (v := p2) rfl (pc' := 118) rfl ?_
                refine g_lastore C f_688 (by decide) (i := 0) (by decide) (show 0 < 2 by decide) (w := (.long p2)) rfl ge_a_679 at_118 (pc' := 119) rfl ?_
                intro h_689 K_690 A_691
                have f_692 : Ary Z h_689 a_679 .long [(.long p2), (.long (0 : Int64))] := A_691
                refine g_dup C at_119 rfl (pc' := 120) rfl ?_
                refine g_iconst C at_120 (v := (1 : Int32)) rfl (pc' := 121) rfl ?_
                refine g_lload C at_121 (v := p3) rfl (pc' := 123) rfl ?_
                refine g_lastore C f_692 (by decide) (i := 1) (by decide) (show 1 < 2 by decide) (w := (.long p3)) rfl ge_a_679 at_123 (pc' := 124) rfl ?_
                intro h_693 K_694 A_695
                have f_696 : Ary Z h_693 a_679 .long [(.long p2), (.long p3)] := A_695
                refine g_astore C at_124 (v := (.ref a_679)) (L' := #[.val (.long p0), .second, .val (.long p1), .second, .val (.long p2), .second, .val (.long p3), .second, .val (.long p4), .second, .val (.int p5), .val (.int (2 : Int32)), .val (.int b1), .val (.int b2), .val (.int b3), .val (.int b4), .val (.int b5), .val (.int b6), .val (.ref a_661), .val (.ref a_679), .unset, .unset, .unset, .unset]) rfl rfl (pc' := 126) rfl ?_
                refine g_iconst C at_126 (v := (2 : Int32)) rfl (pc' := 127) rfl ?_
                have f_697 := (((f_675.ext E_681).keep K_690 (ninS ne_683 nin0)).keep K_694 (ninS ne_683 nin0))
                have f_698 := (((f_676.ext E_681).keep K_690).keep K_694)
                have f_699 := (((f_677.ext E_681).keep K_690).keep K_694)
                refine g_newarray C (own_w hw 0 rfl) (ty := .long) rfl (by decide) (cap := 2) (by decide) (by decide) (by decide) (by decide) at_127 (pc' := 129) rfl ?_
                intro h_700 a_701 g_702 E_703 A_704
                have ne_705 : a_661 ≠ a_701 := ne_new f_697.lt g_702
                have ne_706 : a_679 ≠ a_701 := ne_new f_696.lt g_702
                have ne_707 : e_READ ≠ a_701 := ne_new f_698.lt g_702
                have ne_708 : e_WRITE ≠ a_701 := ne_new f_699.lt g_702
                have f_709 := (Nat.le_trans (Nat.le_trans (Nat.le_trans f_686 E_681.1) K_690.1) K_694.1)
                have ge_a_701 : n0 ≤ a_701 := Nat.le_trans f_709 (Nat.le_of_eq g_702.symm)
                have f_710 := (Nat.le_trans (Nat.le_trans (Nat.le_trans f_687 E_681.1) K_690.1) K_694.1)
                have gs_a_701 : h0.size ≤ a_701 := Nat.le_trans f_710 (Nat.le_of_eq g_702.symm)
                have f_711 : Ary Z h_700 a_701 .long [(.long (0 : Int64)), (.long (0 : Int64))] := A_704
                show Go B n0 _ h_700 3 6 129 #[.val (.long p0), .second, .val (.long p1), .second, .val (.long p2), .second, .val (.long p3), .second, .val (.long p4), .second, .val (.int p5), .val (.int (2 : Int32)), .val (.int b1), .val (.int b2), .val (.int b3), .val (.int b4), .val (.int b5), .val (.int b6), .val (.ref a_661), .val (.ref a_679), .unset, .unset, .unset, .unset] [(.ref a_701)]
                refine g_dup C at_129 rfl (pc' := 130) rfl ?_
                refine g_iconst C at_130 (v := (0 : Int32)) rfl (pc' := 131) rfl ?_
                have t_712 : ∀ (qa : Int64), Go B n0 (fun v h => v = some (.int 1)) h_700 3 6 142 #[.val (.long p0), .second, .val (.long p1), .second, .val (.long p2), .second, .val (.long p3), .second, .val (.long p4), .second, .val (.int p5), .val (.int (2 : Int32)), .val (.int b1), .val (.int b2), .val (.int b3), .val (.int b4), .val (.int b5), .val (.int b6), .val (.ref a_661), .val (.ref a_679), .unset, .unset, .unset, .unset] [(.long qa), (.int (0 : Int32)), (.ref a_701), (.ref a_701)] := by
                  intro qa
                  refine g_lastore C f_711 (by decide) (i := 0) (by decide) (show 0 < 2 by decide) (w := (.long qa)) rfl ge_a_701 at_142 (pc' := 143) rfl ?_
                  intro h_713 K_714 A_715
                  have f_716 : Ary Z h_713 a_701 .long [(.long qa), (.long (0 : Int64))] := A_715
                  refine g_dup C at_143 rfl (pc' := 144) rfl ?_
                  refine g_iconst C at_144 (v := (1 : Int32)) rfl (pc' := 145) rfl ?_
                  have t_717 : ∀ (qb : Int64), Go B n0 (fun v h => v = some (.int 1)) h_713 3 6 156 #[.val (.long p0), .second, .val (.long p1), .second, .val (.long p2), .second, .val (.long p3), .second, .val (.long p4), .second, .val (.int p5), .val (.int (2 : Int32)), .val (.int b1), .val (.int b2), .val (.int b3), .val (.int b4), .val (.int b5), .val (.int b6), .val (.ref a_661), .val (.ref a_679), .unset, .unset, .unset, .unset] [(.long qb), (.int (1 : Int32)), (.ref a_701), (.ref a_701)] := by
                    intro qb
                    refine g_lastore C f_716 (by decide) (i := 1) (by decide) (show 1 < 2 by decide) (w := (.long qb)) rfl ge_a_701 at_156 (pc' := 157) rfl ?_
                    intro h_718 K_719 A_720
                    have f_721 : Ary Z h_718 a_701 .long [(.long qa), (.long qb)] := A_720
                    refine g_astore C at_157 (v := (.ref a_701)) (L' := #[.val (.long p0), .second, .val (.long p1), .second, .val (.long p2), .second, .val (.long p3), .second, .val (.long p4), .second, .val (.int p5), .val (.int (2 : Int32)), .val (.int b1), .val (.int b2), .val (.int b3), .val (.int b4), .val (.int b5), .val (.int b6), .val (.ref a_661), .val (.ref a_679), .val (.ref a_701), .unset, .unset, .unset]) rfl rfl (pc' := 159) rfl ?_
                    have f_722 := (((f_697.ext E_703).keep K_714 (ninS ne_705 nin0)).keep K_719 (ninS ne_705 nin0))
                    have f_723 := (((f_696.ext E_703).keep K_714 (ninS ne_706 nin0)).keep K_719 (ninS ne_706 nin0))
                    have f_724 := (((f_698.ext E_703).keep K_714).keep K_719)
                    have f_725 := (((f_699.ext E_703).keep K_714).keep K_719)
                    refine g_new C (own_w hw 1 rfl) (own_w hw 2 rfl) (own_w hw 3 rfl) (by decide) (by decide) at_159 (pc' := 162) rfl ?_
                    intro h_726 a_727 g_728 E_729 A_730 D_731
                    have ne_732 : a_661 ≠ a_727 := ne_new f_722.lt g_728
                    have ne_733 : a_679 ≠ a_727 := ne_new f_723.lt g_728
                    have ne_734 : a_701 ≠ a_727 := ne_new f_721.lt g_728
                    have ne_735 : e_READ ≠ a_727 := ne_new f_724.lt g_728
                    have ne_736 : e_WRITE ≠ a_727 := ne_new f_725.lt g_728
                    have f_737 := (Nat.le_trans (Nat.le_trans (Nat.le_trans f_709 E_703.1) K_714.1) K_719.1)
                    have ge_a_727 : n0 ≤ a_727 := Nat.le_trans f_737 (Nat.le_of_eq g_728.symm)
                    have f_738 := (Nat.le_trans (Nat.le_trans (Nat.le_trans f_710 E_703.1) K_714.1) K_719.1)
                    have gs_a_727 : h0.size ≤ a_727 := Nat.le_trans f_738 (Nat.le_of_eq g_728.symm)
                    have f_739 : Fld Z h_726 a_727 "com/example/vestalia/vestalia/locks/StepTrace" "kinds" "[Lcom/example/vestalia/vestalia/model/Step$Kind;" .null := D_731 (Or.inl (own_w hw 13 rfl)) (ty := (.array (.object "com/example/vestalia/vestalia/model/Step$Kind"))) (by decide)
                    have f_740 : Fld Z h_726 a_727 "com/example/vestalia/vestalia/locks/StepTrace" "slots" "[I" .null := D_731 (Or.inl (own_w hw 16 rfl)) (ty := (.array .int)) (by decide)
                    have f_741 : Fld Z h_726 a_727 "com/example/vestalia/vestalia/locks/StepTrace" "values" "[J" .null := D_731 (Or.inl (own_w hw 18 rfl)) (ty := (.array .long)) (by decide)
                    have f_742 : Fld Z h_726 a_727 "com/example/vestalia/vestalia/locks/StepTrace" "written" "[I" .null := D_731 (Or.inl (own_w hw 20 rfl)) (ty := (.array .int)) (by decide)
                    have f_743 : Fld Z h_726 a_727 "com/example/vestalia/vestalia/locks/StepTrace" "width" "I" (.int (0 : Int32)) := D_731 (Or.inr (own_w hw 22 rfl)) (ty := .int) (by decide)
                    have f_744 : Fld Z h_726 a_727 "com/example/vestalia/vestalia/locks/StepTrace" "start" "[J" .null := D_731 (Or.inr (own_w hw 24 rfl)) (ty := (.array .long)) (by decide)
                    have f_745 : Fld Z h_726 a_727 "com/example/vestalia/vestalia/locks/StepTrace" "end" "[J" .null := D_731 (Or.inr (own_w hw 26 rfl)) (ty := (.array .long)) (by decide)
                    have f_746 : Fld Z h_726 a_727 "com/example/vestalia/vestalia/locks/StepTrace" "before" "[J" .null := D_731 (Or.inl (own_w hw 28 rfl)) (ty := (.array .long)) (by decide)
                    have f_747 : Fld Z h_726 a_727 "com/example/vestalia/vestalia/locks/StepTrace" "length" "I" (.int (0 : Int32)) := D_731 (Or.inl (own_w hw 39 rfl)) (ty := .int) (by decide)
                    have f_748 : Fld Z h_726 a_727 "com/example/vestalia/vestalia/locks/StepTrace" "whole" "Z" (.int (0 : Int32)) := D_731 (Or.inl (own_w hw 41 rfl)) (ty := .boolean) (by decide)
                    show Go B n0 _ h_726 4 16 162 #[.val (.long p0), .second, .val (.long p1), .second, .val (.long p2), .second, .val (.long p3), .second, .val (.long p4), .second, .val (.int p5), .val (.int (2 : Int32)), .val (.int b1), .val (.int b2), .val (.int b3), .val (.int b4), .val (.int b5), .val (.int b6), .val (.ref a_661), .val (.ref a_679), .val (.ref a_701), .unset, .unset, .unset] [(.ref a_727)]
                    refine g_dup C at_162 rfl (pc' := 163) rfl ?_
                    refine g_iload C at_163 (v := (2 : Int32)) rfl (pc' := 165) rfl ?_
                    have f_749 := (Nat.le_trans f_737 E_729.1)
                    have f_750 := (f_722.ext E_729)
                    have f_751 := (f_723.ext E_729)
                    have f_752 := (f_721.ext E_729)
                    have f_753 := (f_724.ext E_729)
                    have f_754 := (f_725.ext E_729)
                    have f_755 := (Nat.le_trans f_738 E_729.1)
                    refine g_special C (a := a_727) rfl (own_w hw 4 rfl) (own_w hw 5 rfl) (own_w hw 3 rfl) (own_w hw 6 rfl) (by decide) (rm_init2 l Z a0 hw n0 a_727 h_726 f_749 A_730 f_739 f_740 f_741 f_742 f_743 f_744 f_745 f_746 f_747 f_748 ge_a_727) (st := [(.ref a_727)]) [(.int (2 : Int32))] rfl rfl own_pd_1_init rfl rfl (by decide) (W := 1) (Nat.le_of_eq rfl) (by decide) (by decide) (by decide) at_165 (pc' := 168) rfl ?_
                    intro v_758 h_756 q_757
                    obtain ⟨rfl, K_771, b_759, b_760, b_761, b_762, b_763, b_764, ⟨le_765, le_766, le_767, le_768, le_769, le_770⟩, di_772, tr_773⟩ := q_757
                    have ne_774 : a_661 ≠ b_759 := ne_ge f_750.lt le_765
                    have ne_775 : a_679 ≠ b_759 := ne_ge f_751.lt le_765
                    have ne_776 : a_701 ≠ b_759 := ne_ge f_752.lt le_765
                    have ne_777 : a_727 ≠ b_759 := ne_ge A_730.lt le_765
                    have ne_778 : e_READ ≠ b_759 := ne_ge f_753.lt le_765
                    have ne_779 : e_WRITE ≠ b_759 := ne_ge f_754.lt le_765
                    have ge_b_759 : n0 ≤ b_759 := Nat.le_trans f_749 le_765
                    have gs_b_759 : h0.size ≤ b_759 := Nat.le_trans f_755 le_765
                    have ne_780 : a_661 ≠ b_760 := ne_ge f_750.lt le_766
                    have ne_781 : a_679 ≠ b_760 := ne_ge f_751.lt le_766
                    have ne_782 : a_701 ≠ b_760 := ne_ge f_752.lt le_766
                    have ne_783 : a_727 ≠ b_760 := ne_ge A_730.lt le_766
                    have ne_784 : e_READ ≠ b_760 := ne_ge f_753.lt le_766
                    have ne_785 : e_WRITE ≠ b_760 := ne_ge f_754.lt le_766
                    have ge_b_760 : n0 ≤ b_760 := Nat.le_trans f_749 le_766
                    have gs_b_760 : h0.size ≤ b_760 := Nat.le_trans f_755 le_766
                    have ne_786 : a_661 ≠ b_761 := ne_ge f_750.lt le_767
                    have ne_787 : a_679 ≠ b_761 := ne_ge f_751.lt le_767
                    have ne_788 : a_701 ≠ b_761 := ne_ge f_752.lt le_767
                    have ne_789 : a_727 ≠ b_761 := ne_ge A_730.lt le_767
                    have ne_790 : e_READ ≠ b_761 := ne_ge f_753.lt le_767
                    have ne_791 : e_WRITE ≠ b_761 := ne_ge f_754.lt le_767
                    have ge_b_761 : n0 ≤ b_761 := Nat.le_trans f_749 le_767
                    have gs_b_761 : h0.size ≤ b_761 := Nat.le_trans f_755 le_767
                    have ne_792 : a_661 ≠ b_762 := ne_ge f_750.lt le_768
                    have ne_793 : a_679 ≠ b_762 := ne_ge f_751.lt le_768
                    have ne_794 : a_701 ≠ b_762 := ne_ge f_752.lt le_768
                    have ne_795 : a_727 ≠ b_762 := ne_ge A_730.lt le_768
                    have ne_796 : e_READ ≠ b_762 := ne_ge f_753.lt le_768
                    have ne_797 : e_WRITE ≠ b_762 := ne_ge f_754.lt le_768
                    have ge_b_762 : n0 ≤ b_762 := Nat.le_trans f_749 le_768
                    have gs_b_762 : h0.size ≤ b_762 := Nat.le_trans f_755 le_768
                    have ne_798 : a_661 ≠ b_763 := ne_ge f_750.lt le_769
                    have ne_799 : a_679 ≠ b_763 := ne_ge f_751.lt le_769
                    have ne_800 : a_701 ≠ b_763 := ne_ge f_752.lt le_769
                    have ne_801 : a_727 ≠ b_763 := ne_ge A_730.lt le_769
                    have ne_802 : e_READ ≠ b_763 := ne_ge f_753.lt le_769
                    have ne_803 : e_WRITE ≠ b_763 := ne_ge f_754.lt le_769
                    have ge_b_763 : n0 ≤ b_763 := Nat.le_trans f_749 le_769
                    have gs_b_763 : h0.size ≤ b_763 := Nat.le_trans f_755 le_769
                    have ne_804 : a_661 ≠ b_764 := ne_ge f_750.lt le_770
                    have ne_805 : a_679 ≠ b_764 := ne_ge f_751.lt le_770
                    have ne_806 : a_701 ≠ b_764 := ne_ge f_752.lt le_770
                    have ne_807 : a_727 ≠ b_764 := ne_ge A_730.lt le_770
                    have ne_808 : e_READ ≠ b_764 := ne_ge f_753.lt le_770
                    have ne_809 : e_WRITE ≠ b_764 := ne_ge f_754.lt le_770
                    have ge_b_764 : n0 ≤ b_764 := Nat.le_trans f_749 le_770
                    have gs_b_764 : h0.size ≤ b_764 := Nat.le_trans f_755 le_770
                    show Go B n0 _ h_756 11 60 168 #[.val (.long p0), .second, .val (.long p1), .second, .val (.long p2), .second, .val (.long p3), .second, .val (.long p4), .second, .val (.int p5), .val (.int (2 : Int32)), .val (.int b1), .val (.int b2), .val (.int b3), .val (.int b4), .val (.int b5), .val (.int b6), .val (.ref a_661), .val (.ref a_679), .val (.ref a_701), .unset, .unset, .unset] [(.ref a_727)]
                    refine g_astore C at_168 (v := (.ref a_727)) (L' := #[.val (.long p0), .second, .val (.long p1), .second, .val (.long p2), .second, .val (.long p3), .second, .val (.long p4), .second, .val (.int p5), .val (.int (2 : Int32)), .val (.int b1), .val (.int b2), .val (.int b3), .val (.int b4), .val (.int b5), .val (.int b6), .val (.ref a_661), .val (.ref a_679), .val (.ref a_701), .val (.ref a_727), .unset, .unset]) rfl rfl (pc' := 170) rfl ?_
                    refine g_aload C at_170 (v := (.ref a_727)) rfl rfl (pc' := 172) rfl ?_
                    refine g_aload C at_172 (v := (.ref a_661)) rfl rfl (pc' := 174) rfl ?_
                    have f_810 := (f_750.keep K_771 (ninS ne_732 nin0))
                    have f_811 := (Nat.le_trans f_749 K_771.1)
                    refine g_virtual C (own_w hw 29 rfl) (own_w hw 30 rfl) (own_w hw 32 rfl) (own_w hw 31 rfl) (own_w hw 3 rfl) (own_w hw 33 rfl) (notFace_of_selects (args := #[]) (mvT C.2.2.2.2.1 (own_w hw 32 rfl))) (by decide) tr_773.1 (rm_begin2 l Z a0 hw n0 a_727 b_759 b_760 b_761 b_762 b_763 b_764 a_661 (0 : Int32) (0 : Int32) .null (0 : Int32) (0 : Int64) p0 p1 (0 : Int64) (0 : Int64) [(.long (0 : Int64)), (.long (0 : Int64))] [(.long (0 : Int64)), (.long (0 : Int64)), (.long (0 : Int64)), (.long (0 : Int64)), (.long (0 : Int64)), (.long (0 : Int64)), (.long (0 : Int64)), (.long (0 : Int64)), (.long (0 : Int64)), (.long (0 : Int64)), (.long (0 : Int64)), (.long (0 : Int64)), (.long (0 : Int64)), (.long (0 : Int64)), (.long (0 : Int64)), (.long (0 : Int64))] h_756 f_811 tr_773 di_772 ⟨ne_777, ne_783, ne_789, ne_795, ne_801, ne_807⟩ ⟨ge_b_759, ge_b_760, ge_b_761, ge_b_762, ge_b_763, ge_b_764, ge_a_727⟩ f_810 ne_792 ne_732) (st := []) [(.ref a_661)] rfl rfl own_pd_6_begin rfl rfl (by decide) (W := 0) (Nat.le_of_eq rfl) (by decide) (by decide) (by decide) at_174 (pc' := 177) rfl ?_
                    intro v_814 h_812 q_813
                    obtain ⟨rfl, K_815, tr_816⟩ := q_813
                    show Go B n0 _ h_812 11 60 177 #[.val (.long p0), .second, .val (.long p1), .second, .val (.long p2), .second, .val (.long p3), .second, .val (.long p4), .second, .val (.int p5), .val (.int (2 : Int32)), .val (.int b1), .val (.int b2), .val (.int b3), .val (.int b4), .val (.int b5), .val (.int b6), .val (.ref a_661), .val (.ref a_679), .val (.ref a_701), .val (.ref a_727), .unset, .unset] []
                    refine g_iload C at_177 (v := b5) rfl (pc' := 179) rfl ?_
                    by_cases hb_817 : b5 = (0 : Int32)
                    · refine g_if_y C at_179 (Jvm.Free.XT.i0_eq_t hb_817) (pc' := 208) (by decide) (by decide) ?_
                      refine g_iload C at_208 (v := b3) rfl (pc' := 210) rfl ?_
                      by_cases hb_818 : b3 = (0 : Int32)
                      · refine g_if_y C at_210 (Jvm.Free.XT.i0_eq_t hb_818) (pc' := 220) (by decide) (by decide) ?_
                        refine g_iload C at_220 (v := b4) rfl (pc' := 222) rfl ?_
                        by_cases hb_819 : b4 = (0 : Int32)
                        · refine g_if_y C at_222 (Jvm.Free.XT.i0_eq_t hb_819) (pc' := 232) (by decide) (by decide) ?_
                          refine g_aload C at_232 (v := (.ref a_727)) rfl rfl (pc' := 234) rfl ?_
                          refine g_aload C at_234 (v := (.ref a_701)) rfl rfl (pc' := 236) rfl ?_
                          have f_820 := ((f_752.keep K_771 (ninS ne_734 nin0)).keep K_815 (ninS ne_734 (ninS ne_794 nin0)))
                          have f_821 := (Nat.le_trans f_811 K_815.1)
                          refine g_virtual C (own_w hw 42 rfl) (own_w hw 43 rfl) (own_w hw 45 rfl) (own_w hw 44 rfl) (own_w hw 3 rfl) (own_w hw 46 rfl) (notFace_of_selects (args := #[]) (mvT C.2.2.2.2.1 (own_w hw 45 rfl))) (by decide) tr_816.1 (rm_sf20 l Z a0 hw n0 a_727 b_759 b_760 b_761 b_762 b_763 b_764 a_701 (0 : Int32) .null (0 : Int32) (0 : Int64) qa qb p0 p1 [(.long (0 : Int64)), (.long (0 : Int64))] [(.long (0 : Int64)), (.long (0 : Int64)), (.long (0 : Int64)), (.long (0 : Int64)), (.long (0 : Int64)), (.long (0 : Int64)), (.long (0 : Int64)), (.long (0 : Int64)), (.long (0 : Int64)), (.long (0 : Int64)), (.long (0 : Int64)), (.long (0 : Int64)), (.long (0 : Int64)), (.long (0 : Int64)), (.long (0 : Int64)), (.long (0 : Int64))] h_812 f_821 tr_816 f_820) (st := []) [(.ref a_701)] rfl rfl own_pd_7_startsFrom rfl rfl (by decide) (W := 0) (Nat.le_of_eq rfl) (by decide) (by decide) (by decide) at_236 (pc' := 239) rfl ?_
                          intro v_824 h_822 q_823
                          obtain ⟨rfl, rfl⟩ := q_823
                          show Go B n0 _ h_812 11 60 239 #[.val (.long p0), .second, .val (.long p1), .second, .val (.long p2), .second, .val (.long p3), .second, .val (.long p4), .second, .val (.int p5), .val (.int (2 : Int32)), .val (.int b1), .val (.int b2), .val (.int b3), .val (.int b4), .val (.int b5), .val (.int b6), .val (.ref a_661), .val (.ref a_679), .val (.ref a_701), .val (.ref a_727), .unset, .unset] [(.int (0 : Int32))]
                          refine g_istore C at_239 (v := (0 : Int32)) (L' := #[.val (.long p0), .second, .val (.long p1), .second, .val (.long p2), .second, .val (.long p3), .second, .val (.long p4), .second, .val (.int p5), .val (.int (2 : Int32)), .val (.int b1), .val (.int b2), .val (.int b3), .val (.int b4), .val (.int b5), .val (.int b6), .val (.ref a_661), .val (.ref a_679), .val (.ref a_701), .val (.ref a_727), .val (.int (0 : Int32)), .unset]) rfl (pc' := 241) rfl ?_
                          refine g_iload C at_241 (v := b3) rfl (pc' := 243) rfl ?_
                          refine g_if_y C at_243 (Jvm.Free.XT.i0_eq_t hb_818) (pc' := 285) (by decide) (by decide) ?_
                          refine g_iconst C at_285 (v := (0 : Int32)) rfl (pc' := 286) rfl ?_
                          refine g_istore C at_286 (v := (0 : Int32)) (L' := #[.val (.long p0), .second, .val (.long p1), .second, .val (.long p2), .second, .val (.long p3), .second, .val (.long p4), .second, .val (.int p5), .val (.int (2 : Int32)), .val (.int b1), .val (.int b2), .val (.int b3), .val (.int b4), .val (.int b5), .val (.int b6), .val (.ref a_661), .val (.ref a_679), .val (.ref a_701), .val (.ref a_727), .val (.int (0 : Int32)), .val (.int (0 : Int32))]) rfl (pc' := 288) rfl ?_
                          refine g_iload C at_288 (v := (0 : Int32)) rfl (pc' := 290) rfl ?_
                          refine g_iload C at_290 (v := (0 : Int32)) rfl (pc' := 292) rfl ?_
                          refine g_icmp_n C at_292 (Jvm.Free.XT.ii_ne_f (by decide)) (pc' := 295) rfl ?_
                          refine g_iconst C at_295 (v := (1 : Int32)) rfl (pc' := 296) rfl ?_
                          refine g_goto C at_296 (pc' := 300) (by decide) (by decide) ?_
                          refine g_ret C (v := (.int (1 : Int32))) (ty := .boolean) rfl rfl (Or.inl ⟨rfl, Or.inr (Or.inl rfl), _, rfl⟩) at_300 (by decide) (by decide) ?_
                          rfl
                        · refine g_if_n C at_222 (Jvm.Free.XT.i0_eq_f hb_819) (pc' := 225) rfl ?_
                          refine g_aload C at_225 (v := (.ref a_727)) rfl rfl (pc' := 227) rfl ?_
                          refine g_aload C at_227 (v := (.ref a_661)) rfl rfl (pc' := 229) rfl ?_
                          have f_825 := (f_810.keep K_815 (ninS ne_732 (ninS ne_792 nin0)))
                          have f_826 := (Nat.le_trans f_811 K_815.1)
                          refine g_virtual C (own_w hw 29 rfl) (own_w hw 30 rfl) (own_w hw 32 rfl) (own_w hw 31 rfl) (own_w hw 3 rfl) (own_w hw 33 rfl) (notFace_of_selects (args := #[]) (mvT C.2.2.2.2.1 (own_w hw 32 rfl))) (by decide) tr_816.1 (rm_begin2 l Z a0 hw n0 a_727 b_759 b_760 b_761 b_762 b_763 b_764 a_661 (0 : Int32) (0 : Int32) .null (0 : Int32) (0 : Int64) p0 p1 p0 p1 [(.long (0 : Int64)), (.long (0 : Int64))] [(.long (0 : Int64)), (.long (0 : Int64)), (.long (0 : Int64)), (.long (0 : Int64)), (.long (0 : Int64)), (.long (0 : Int64)), (.long (0 : Int64)), (.long (0 : Int64)), (.long (0 : Int64)), (.long (0 : Int64)), (.long (0 : Int64)), (.long (0 : Int64)), (.long (0 : Int64)), (.long (0 : Int64)), (.long (0 : Int64)), (.long (0 : Int64))] h_812 f_826 tr_816 di_772 ⟨ne_777, ne_783, ne_789, ne_795, ne_801, ne_807⟩ ⟨ge_b_759, ge_b_760, ge_b_761, ge_b_762, ge_b_763, ge_b_764, ge_a_727⟩ f_825 ne_792 ne_732) (st := []) [(.ref a_661)] rfl rfl own_pd_6_begin rfl rfl (by decide) (W := 0) (Nat.le_of_eq rfl) (by decide) (by decide) (by decide) at_229 (pc' := 232) rfl ?_
                          intro v_829 h_827 q_828
                          obtain ⟨rfl, K_830, tr_831⟩ := q_828
                          show Go B n0 _ h_827 11 60 232 #[.val (.long p0), .second, .val (.long p1), .second, .val (.long p2), .second, .val (.long p3), .second, .val (.long p4), .second, .val (.int p5), .val (.int (2 : Int32)), .val (.int b1), .val (.int b2), .val (.int b3), .val (.int b4), .val (.int b5), .val (.int b6), .val (.ref a_661), .val (.ref a_679), .val (.ref a_701), .val (.ref a_727), .unset, .unset] []
                          refine g_aload C at_232 (v := (.ref a_727)) rfl rfl (pc' := 234) rfl ?_
                          refine g_aload C at_234 (v := (.ref a_701)) rfl rfl (pc' := 236) rfl ?_
                          have f_832 := (((f_752.keep K_771 (ninS ne_734 nin0)).keep K_815 (ninS ne_734 (ninS ne_794 nin0))).keep K_830 (ninS ne_734 (ninS ne_794 nin0)))
                          have f_833 := (Nat.le_trans f_826 K_830.1)
                          refine g_virtual C (own_w hw 42 rfl) (own_w hw 43 rfl) (own_w hw 45 rfl) (own_w hw 44 rfl) (own_w hw 3 rfl) (own_w hw 46 rfl) (notFace_of_selects (args := #[]) (mvT C.2.2.2.2.1 (own_w hw 45 rfl))) (by decide) tr_831.1 (rm_sf20 l Z a0 hw n0 a_727 b_759 b_760 b_761 b_762 b_763 b_764 a_701 (0 : Int32) .null (0 : Int32) (0 : Int64) qa qb p0 p1 [(.long (0 : Int64)), (.long (0 : Int64))] [(.long (0 : Int64)), (.long (0 : Int64)), (.long (0 : Int64)), (.long (0 : Int64)), (.long (0 : Int64)), (.long (0 : Int64)), (.long (0 : Int64)), (.long (0 : Int64)), (.long (0 : Int64)), (.long (0 : Int64)), (.long (0 : Int64)), (.long (0 : Int64)), (.long (0 : Int64)), (.long (0 : Int64)), (.long (0 : Int64)), (.long (0 : Int64))] h_827 f_833 tr_831 f_832) (st := []) [(.ref a_701)] rfl rfl own_pd_7_startsFrom rfl rfl (by decide) (W := 0) (Nat.le_of_eq rfl) (by decide) (by decide) (by decide) at_236 (pc' := 239) rfl ?_
                          intro v_836 h_834 q_835
                          obtain ⟨rfl, rfl⟩ := q_835
                          show Go B n0 _ h_827 11 60 239 #[.val (.long p0), .second, .val (.long p1), .second, .val (.long p2), .second, .val (.long p3), .second, .val (.long p4), .second, .val (.int p5), .val (.int (2 : Int32)), .val (.int b1), .val (.int b2), .val (.int b3), .val (.int b4), .val (.int b5), .val (.int b6), .val (.ref a_661), .val (.ref a_679), .val (.ref a_701), .val (.ref a_727), .unset, .unset] [(.int (0 : Int32))]
                          refine g_istore C at_239 (v := (0 : Int32)) (L' := #[.val (.long p0), .second, .val (.long p1), .second, .val (.long p2), .second, .val (.long p3), .second, .val (.long p4), .second, .val (.int p5), .val (.int (2 : Int32)), .val (.int b1), .val (.int b2), .val (.int b3), .val (.int b4), .val (.int b5), .val (.int b6), .val (.ref a_661), .val (.ref a_679), .val (.ref a_701), .val (.ref a_727), .val (.int (0 : Int32)), .unset]) rfl (pc' := 241) rfl ?_
                          refine g_iload C at_241 (v := b3) rfl (pc' := 243) rfl ?_
                          refine g_if_y C at_243 (Jvm.Free.XT.i0_eq_t hb_818) (pc' := 285) (by decide) (by decide) ?_
                          refine g_iconst C at_285 (v := (0 : Int32)) rfl (pc' := 286) rfl ?_
                          refine g_istore C at_286 (v := (0 : Int32)) (L' := #[.val (.long p0), .second, .val (.long p1), .second, .val (.long p2), .second, .val (.long p3), .second, .val (.long p4), .second, .val (.int p5), .val (.int (2 : Int32)), .val (.int b1), .val (.int b2), .val (.int b3), .val (.int b4), .val (.int b5), .val (.int b6), .val (.ref a_661), .val (.ref a_679), .val (.ref a_701), .val (.ref a_727), .val (.int (0 : Int32)), .val (.int (0 : Int32))]) rfl (pc' := 288) rfl ?_
                          refine g_iload C at_288 (v := (0 : Int32)) rfl (pc' := 290) rfl ?_
                          refine g_iload C at_290 (v := (0 : Int32)) rfl (pc' := 292) rfl ?_
                          refine g_icmp_n C at_292 (Jvm.Free.XT.ii_ne_f (by decide)) (pc' := 295) rfl ?_
                          refine g_iconst C at_295 (v := (1 : Int32)) rfl (pc' := 296) rfl ?_
                          refine g_goto C at_296 (pc' := 300) (by decide) (by decide) ?_
                          refine g_ret C (v := (.int (1 : Int32))) (ty := .boolean) rfl rfl (Or.inl ⟨rfl, Or.inr (Or.inl rfl), _, rfl⟩) at_300 (by decide) (by decide) ?_
                          rfl
                      · refine g_if_n C at_210 (Jvm.Free.XT.i0_eq_f hb_818) (pc' := 213) rfl ?_
                        refine g_aload C at_213 (v := (.ref a_727)) rfl rfl (pc' := 215) rfl ?_
                        refine g_aload C at_215 (v := (.ref a_679)) rfl rfl (pc' := 217) rfl ?_
                        have f_837 := ((f_751.keep K_771 (ninS ne_733 nin0)).keep K_815 (ninS ne_733 (ninS ne_793 nin0)))
                        have f_838 := ((((((((((((O.ext E_663).keep K_669 (allS ge_a_661 all0)).keep K_673 (allS ge_a_661 all0)).ext E_681).keep K_690 (allS ge_a_679 all0)).keep K_694 (allS ge_a_679 all0)).ext E_703).keep K_714 (allS ge_a_701 all0)).keep K_719 (allS ge_a_701 all0)).ext E_729).keep K_771 (allS ge_a_727 all0)).keep K_815 (allS ge_a_727 (allS ge_b_762 all0)))
                        have f_839 := (Nat.le_trans f_811 K_815.1)
                        refine g_virtual C (own_w hw 47 rfl) (own_w hw 48 rfl) (own_w hw 50 rfl) (own_w hw 49 rfl) (own_w hw 3 rfl) (own_w hw 51 rfl) (notFace_of_selects (args := #[]) (mvT C.2.2.2.2.1 (own_w hw 50 rfl))) (by decide) tr_816.1 (rm_end_2none l Z a0 hw n0 a_727 b_759 b_760 b_761 b_762 b_763 b_764 a_679 (0 : Int32) (0 : Int32) (0 : Int64) p2 p3 (0 : Int64) (0 : Int64) [(.long p0), (.long p1)] [(.long (0 : Int64)), (.long (0 : Int64)), (.long (0 : Int64)), (.long (0 : Int64)), (.long (0 : Int64)), (.long (0 : Int64)), (.long (0 : Int64)), (.long (0 : Int64)), (.long (0 : Int64)), (.long (0 : Int64)), (.long (0 : Int64)), (.long (0 : Int64)), (.long (0 : Int64)), (.long (0 : Int64)), (.long (0 : Int64)), (.long (0 : Int64))] e_WRITE e_READ h_812 f_839 tr_816 di_772 ⟨ne_777, ne_783, ne_789, ne_795, ne_801, ne_807⟩ ⟨ge_b_759, ge_b_760, ge_b_761, ge_b_762, ge_b_763, ge_b_764, ge_a_727⟩ f_837 ne_799 ne_733 en f_838) (st := []) [(.ref a_679)] rfl rfl own_pd_6_end rfl rfl (by decide) (W := 0) (Nat.le_of_eq rfl) (by decide) (by decide) (by decide) at_217 (pc' := 220) rfl ?_
                        intro v_842 h_840 q_841
                        obtain ⟨rfl, K_843, tr_844⟩ := q_841
                        show Go B n0 _ h_840 13 60 220 #[.val (.long p0), .second, .val (.long p1), .second, .val (.long p2), .second, .val (.long p3), .second, .val (.long p4), .second, .val (.int p5), .val (.int (2 : Int32)), .val (.int b1), .val (.int b2), .val (.int b3), .val (.int b4), .val (.int b5), .val (.int b6), .val (.ref a_661), .val (.ref a_679), .val (.ref a_701), .val (.ref a_727), .unset, .unset] []
                        refine g_iload C at_220 (v := b4) rfl (pc' := 222) rfl ?_
                        by_cases hb_845 : b4 = (0 : Int32)
                        · refine g_if_y C at_222 (Jvm.Free.XT.i0_eq_t hb_845) (pc' := 232) (by decide) (by decide) ?_
                          refine g_aload C at_232 (v := (.ref a_727)) rfl rfl (pc' := 234) rfl ?_
                          refine g_aload C at_234 (v := (.ref a_701)) rfl rfl (pc' := 236) rfl ?_
                          have f_846 := (((f_752.keep K_771 (ninS ne_734 nin0)).keep K_815 (ninS ne_734 (ninS ne_794 nin0))).keep K_843 (ninS ne_734 (ninS ne_800 nin0)))
                          have f_847 := (Nat.le_trans f_839 K_843.1)
                          refine g_virtual C (own_w hw 42 rfl) (own_w hw 43 rfl) (own_w hw 45 rfl) (own_w hw 44 rfl) (own_w hw 3 rfl) (own_w hw 46 rfl) (notFace_of_selects (args := #[]) (mvT C.2.2.2.2.1 (own_w hw 45 rfl))) (by decide) tr_844.1 (rm_sf21 l Z a0 hw n0 a_727 b_759 b_760 b_761 b_762 b_763 b_764 a_701 (0 : Int32) .null (0 : Int32) (0 : Int64) qa qb p0 p1 [(.long p2), (.long p3)] [(.long (0 : Int64)), (.long (0 : Int64)), (.long (0 : Int64)), (.long (0 : Int64)), (.long (0 : Int64)), (.long (0 : Int64)), (.long (0 : Int64)), (.long (0 : Int64)), (.long (0 : Int64)), (.long (0 : Int64)), (.long (0 : Int64)), (.long (0 : Int64)), (.long (0 : Int64)), (.long (0 : Int64)), (.long (0 : Int64)), (.long (0 : Int64))] h_840 f_847 tr_844 f_846) (st := []) [(.ref a_701)] rfl rfl own_pd_7_startsFrom rfl rfl (by decide) (W := 0) (Nat.le_of_eq rfl) (by decide) (by decide) (by decide) at_236 (pc' := 239) rfl ?_
                          intro v_850 h_848 q_849
                          obtain ⟨rfl, rfl⟩ := q_849
                          show Go B n0 _ h_840 13 60 239 #[.val (.long p0), .second, .val (.long p1), .second, .val (.long p2), .second, .val (.long p3), .second, .val (.long p4), .second, .val (.int p5), .val (.int (2 : Int32)), .val (.int b1), .val (.int b2), .val (.int b3), .val (.int b4), .val (.int b5), .val (.int b6), .val (.ref a_661), .val (.ref a_679), .val (.ref a_701), .val (.ref a_727), .unset, .unset] [(.int (sf2 p0 p1 qa qb))]
                          refine g_istore C at_239 (v := (sf2 p0 p1 qa qb)) (L' := #[.val (.long p0), .second, .val (.long p1), .second, .val (.long p2), .second, .val (.long p3), .second, .val (.long p4), .second, .val (.int p5), .val (.int (2 : Int32)), .val (.int b1), .val (.int b2), .val (.int b3), .val (.int b4), .val (.int b5), .val (.int b6), .val (.ref a_661), .val (.ref a_679), .val (.ref a_701), .val (.ref a_727), .val (.int (sf2 p0 p1 qa qb)), .unset]) rfl (pc' := 241) rfl ?_
                          refine g_iload C at_241 (v := b3) rfl (pc' := 243) rfl ?_
                          refine g_if_n C at_243 (Jvm.Free.XT.i0_eq_f hb_818) (pc' := 246) rfl ?_
                          refine g_iload C at_246 (v := b4) rfl (pc' := 248) rfl ?_
                          refine g_if_n C at_248 (Jvm.Free.XT.i0_ne_f hb_845) (pc' := 251) rfl ?_
                          refine g_iload C at_251 (v := (2 : Int32)) rfl (pc' := 253) rfl ?_
                          refine g_iconst C at_253 (v := (1 : Int32)) rfl (pc' := 254) rfl ?_
                          refine g_icmp_n C at_254 (Jvm.Free.XT.ii_lt_f (by decide)) (pc' := 257) rfl ?_
                          refine g_aload C at_257 (v := (.ref a_701)) rfl rfl (pc' := 259) rfl ?_
                          refine g_iconst C at_259 (v := (0 : Int32)) rfl (pc' := 260) rfl ?_
                          refine g_laload C f_846 (by decide) (i := 0) (by decide) (v := qa) rfl at_260 (pc' := 261) rfl ?_
                          refine g_lload_n C at_261 (v := p0) rfl (pc' := 262) rfl ?_
                          refine g_lcmp C (x := qa) (y := p0) at_262 (pc' := 263) rfl ?_
                          by_cases hb_851 : qa = p0
                          · refine g_if_n C at_263 (Jvm.Free.XT.ll_ne_f hb_851) (pc' := 266) rfl ?_
                            refine g_iload C at_266 (v := (2 : Int32)) rfl (pc' := 268) rfl ?_
                            refine g_iconst C at_268 (v := (2 : Int32)) rfl (pc' := 269) rfl ?_
                            refine g_icmp_n C at_269 (Jvm.Free.XT.ii_lt_f (by decide)) (pc' := 272) rfl ?_
                            refine g_aload C at_272 (v := (.ref a_701)) rfl rfl (pc' := 274) rfl ?_
                            refine g_iconst C at_274 (v := (1 : Int32)) rfl (pc' := 275) rfl ?_
                            refine g_laload C f_846 (by decide) (i := 1) (by decide) (v := qb) rfl at_275 (pc' := 276) rfl ?_
                            refine g_lload_n C at_276 (v := p1) rfl (pc' := 277) rfl ?_
                            refine g_lcmp C (x := qb) (y := p1) at_277 (pc' := 278) rfl ?_
                            by_cases hb_852 : qb = p1
                            · refine g_if_n C at_278 (Jvm.Free.XT.ll_ne_f hb_852) (pc' := 281) rfl ?_
                              refine g_iconst C at_281 (v := (1 : Int32)) rfl (pc' := 282) rfl ?_
                              refine g_goto C at_282 (pc' := 286) (by decide) (by decide) ?_
                              refine g_istore C at_286 (v := (1 : Int32)) (L' := #[.val (.long p0), .second, .val (.long p1), .second, .val (.long p2), .second, .val (.long p3), .second, .val (.long p4), .second, .val (.int p5), .val (.int (2 : Int32)), .val (.int b1), .val (.int b2), .val (.int b3), .val (.int b4), .val (.int b5), .val (.int b6), .val (.ref a_661), .val (.ref a_679), .val (.ref a_701), .val (.ref a_727), .val (.int (sf2 p0 p1 qa qb)), .val (.int (1 : Int32))]) rfl (pc' := 288) rfl ?_
                              refine g_iload C at_288 (v := (sf2 p0 p1 qa qb)) rfl (pc' := 290) rfl ?_
                              refine g_iload C at_290 (v := (1 : Int32)) rfl (pc' := 292) rfl ?_
                              refine g_icmp_n C at_292 (Jvm.Free.XT.ii_ne_f (sf2_y (Eq.symm hb_851) (Eq.symm hb_852))) (pc' := 295) rfl ?_
                              refine g_iconst C at_295 (v := (1 : Int32)) rfl (pc' := 296) rfl ?_
                              refine g_goto C at_296 (pc' := 300) (by decide) (by decide) ?_
                              refine g_ret C (v := (.int (1 : Int32))) (ty := .boolean) rfl rfl (Or.inl ⟨rfl, Or.inr (Or.inl rfl), _, rfl⟩) at_300 (by decide) (by decide) ?_
                              rfl
                            · refine g_if_y C at_278 (Jvm.Free.XT.ll_ne_t hb_852) (pc' := 285) (by decide) (by decide) ?_
                              refine g_iconst C at_285 (v := (0 : Int32)) rfl (pc' := 286) rfl ?_
                              refine g_istore C at_286 (v := (0 : Int32)) (L' := #[.val (.long p0), .second, .val (.long p1), .second, .val (.long p2), .second, .val (.long p3), .second, .val (.long p4), .second, .val (.int p5), .val (.int (2 : Int32)), .val (.int b1), .val (.int b2), .val (.int b3), .val (.int b4), .val (.int b5), .val (.int b6), .val (.ref a_661), .val (.ref a_679), .val (.ref a_701), .val (.ref a_727), .val (.int (sf2 p0 p1 qa qb)), .val (.int (0 : Int32))]) rfl (pc' := 288) rfl ?_
                              refine g_iload C at_288 (v := (sf2 p0 p1 qa qb)) rfl (pc' := 290) rfl ?_
                              refine g_iload C at_290 (v := (0 : Int32)) rfl (pc' := 292) rfl ?_
                              refine g_icmp_n C at_292 (Jvm.Free.XT.ii_ne_f (sf2_b (fun q => hb_852 (Eq.symm q)))) (pc' := 295) rfl ?_
                              refine g_iconst C at_295 (v := (1 : Int32)) rfl (pc' := 296) rfl ?_
                              refine g_goto C at_296 (pc' := 300) (by decide) (by decide) ?_
                              refine g_ret C (v := (.int (1 : Int32))) (ty := .boolean) rfl rfl (Or.inl ⟨rfl, Or.inr (Or.inl rfl), _, rfl⟩) at_300 (by decide) (by decide) ?_
                              rfl
                          · refine g_if_y C at_263 (Jvm.Free.XT.ll_ne_t hb_851) (pc' := 285) (by decide) (by decide) ?_
                            refine g_iconst C at_285 (v := (0 : Int32)) rfl (pc' := 286) rfl ?_
                            refine g_istore C at_286 (v := (0 : Int32)) (L' := #[.val (.long p0), .second, .val (.long p1), .second, .val (.long p2), .second, .val (.long p3), .second, .val (.long p4), .second, .val (.int p5), .val (.int (2 : Int32)), .val (.int b1), .val (.int b2), .val (.int b3), .val (.int b4), .val (.int b5), .val (.int b6), .val (.ref a_661), .val (.ref a_679), .val (.ref a_701), .val (.ref a_727), .val (.int (sf2 p0 p1 qa qb)), .val (.int (0 : Int32))]) rfl (pc' := 288) rfl ?_
                            refine g_iload C at_288 (v := (sf2 p0 p1 qa qb)) rfl (pc' := 290) rfl ?_
                            refine g_iload C at_290 (v := (0 : Int32)) rfl (pc' := 292) rfl ?_
                            refine g_icmp_n C at_292 (Jvm.Free.XT.ii_ne_f (sf2_a (fun q => hb_851 (Eq.symm q)))) (pc' := 295) rfl ?_
                            refine g_iconst C at_295 (v := (1 : Int32)) rfl (pc' := 296) rfl ?_
                            refine g_goto C at_296 (pc' := 300) (by decide) (by decide) ?_
                            refine g_ret C (v := (.int (1 : Int32))) (ty := .boolean) rfl rfl (Or.inl ⟨rfl, Or.inr (Or.inl rfl), _, rfl⟩) at_300 (by decide) (by decide) ?_
                            rfl
                        · refine g_if_n C at_222 (Jvm.Free.XT.i0_eq_f hb_845) (pc' := 225) rfl ?_
                          refine g_aload C at_225 (v := (.ref a_727)) rfl rfl (pc' := 227) rfl ?_
                          refine g_aload C at_227 (v := (.ref a_661)) rfl rfl (pc' := 229) rfl ?_
                          have f_853 := ((f_810.keep K_815 (ninS ne_732 (ninS ne_792 nin0))).keep K_843 (ninS ne_732 (ninS ne_798 nin0)))
                          have f_854 := (Nat.le_trans f_839 K_843.1)
                          refine g_virtual C (own_w hw 29 rfl) (own_w hw 30 rfl) (own_w hw 32 rfl) (own_w hw 31 rfl) (own_w hw 3 rfl) (own_w hw 33 rfl) (notFace_of_selects (args := #[]) (mvT C.2.2.2.2.1 (own_w hw 32 rfl))) (by decide) tr_844.1 (rm_begin2 l Z a0 hw n0 a_727 b_759 b_760 b_761 b_762 b_763 b_764 a_661 (0 : Int32) (1 : Int32) .null (0 : Int32) (0 : Int64) p0 p1 p0 p1 [(.long p2), (.long p3)] [(.long (0 : Int64)), (.long (0 : Int64)), (.long (0 : Int64)), (.long (0 : Int64)), (.long (0 : Int64)), (.long (0 : Int64)), (.long (0 : Int64)), (.long (0 : Int64)), (.long (0 : Int64)), (.long (0 : Int64)), (.long (0 : Int64)), (.long (0 : Int64)), (.long (0 : Int64)), (.long (0 : Int64)), (.long (0 : Int64)), (.long (0 : Int64))] h_840 f_854 tr_844 di_772 ⟨ne_777, ne_783, ne_789, ne_795, ne_801, ne_807⟩ ⟨ge_b_759, ge_b_760, ge_b_761, ge_b_762, ge_b_763, ge_b_764, ge_a_727⟩ f_853 ne_792 ne_732) (st := []) [(.ref a_661)] rfl rfl own_pd_6_begin rfl rfl (by decide) (W := 0) (Nat.le_of_eq rfl) (by decide) (by decide) (by decide) at_229 (pc' := 232) rfl ?_
                          intro v_857 h_855 q_856
                          obtain ⟨rfl, K_858, tr_859⟩ := q_856
                          show Go B n0 _ h_855 13 60 232 #[.val (.long p0), .second, .val (.long p1), .second, .val (.long p2), .second, .val (.long p3), .second, .val (.long p4), .second, .val (.int p5), .val (.int (2 : Int32)), .val (.int b1), .val (.int b2), .val (.int b3), .val (.int b4), .val (.int b5), .val (.int b6), .val (.ref a_661), .val (.ref a_679), .val (.ref a_701), .val (.ref a_727), .unset, .unset] []
                          refine g_aload C at_232 (v := (.ref a_727)) rfl rfl (pc' := 234) rfl ?_
                          refine g_aload C at_234 (v := (.ref a_701)) rfl rfl (pc' := 236) rfl ?_
                          have f_860 := ((((f_752.keep K_771 (ninS ne_734 nin0)).keep K_815 (ninS ne_734 (ninS ne_794 nin0))).keep K_843 (ninS ne_734 (ninS ne_800 nin0))).keep K_858 (ninS ne_734 (ninS ne_794 nin0)))
                          have f_861 := (Nat.le_trans f_854 K_858.1)
                          refine g_virtual C (own_w hw 42 rfl) (own_w hw 43 rfl) (own_w hw 45 rfl) (own_w hw 44 rfl) (own_w hw 3 rfl) (own_w hw 46 rfl) (notFace_of_selects (args := #[]) (mvT C.2.2.2.2.1 (own_w hw 45 rfl))) (by decide) tr_859.1 (rm_sf20 l Z a0 hw n0 a_727 b_759 b_760 b_761 b_762 b_763 b_764 a_701 (0 : Int32) .null (0 : Int32) (0 : Int64) qa qb p0 p1 [(.long p2), (.long p3)] [(.long (0 : Int64)), (.long (0 : Int64)), (.long (0 : Int64)), (.long (0 : Int64)), (.long (0 : Int64)), (.long (0 : Int64)), (.long (0 : Int64)), (.long (0 : Int64)), (.long (0 : Int64)), (.long (0 : Int64)), (.long (0 : Int64)), (.long (0 : Int64)), (.long (0 : Int64)), (.long (0 : Int64)), (.long (0 : Int64)), (.long (0 : Int64))] h_855 f_861 tr_859 f_860) (st := []) [(.ref a_701)] rfl rfl own_pd_7_startsFrom rfl rfl (by decide) (W := 0) (Nat.le_of_eq rfl) (by decide) (by decide) (by decide) at_236 (pc' := 239) rfl ?_
                          intro v_864 h_862 q_863
                          obtain ⟨rfl, rfl⟩ := q_863
                          show Go B n0 _ h_855 13 60 239 #[.val (.long p0), .second, .val (.long p1), .second, .val (.long p2), .second, .val (.long p3), .second, .val (.long p4), .second, .val (.int p5), .val (.int (2 : Int32)), .val (.int b1), .val (.int b2), .val (.int b3), .val (.int b4), .val (.int b5), .val (.int b6), .val (.ref a_661), .val (.ref a_679), .val (.ref a_701), .val (.ref a_727), .unset, .unset] [(.int (0 : Int32))]
                          refine g_istore C at_239 (v := (0 : Int32)) (L' := #[.val (.long p0), .second, .val (.long p1), .second, .val (.long p2), .second, .val (.long p3), .second, .val (.long p4), .second, .val (.int p5), .val (.int (2 : Int32)), .val (.int b1), .val (.int b2), .val (.int b3), .val (.int b4), .val (.int b5), .val (.int b6), .val (.ref a_661), .val (.ref a_679), .val (.ref a_701), .val (.ref a_727), .val (.int (0 : Int32)), .unset]) rfl (pc' := 241) rfl ?_
                          refine g_iload C at_241 (v := b3) rfl (pc' := 243) rfl ?_
                          refine g_if_n C at_243 (Jvm.Free.XT.i0_eq_f hb_818) (pc' := 246) rfl ?_
                          refine g_iload C at_246 (v := b4) rfl (pc' := 248) rfl ?_
                          refine g_if_y C at_248 (Jvm.Free.XT.i0_ne_t hb_845) (pc' := 285) (by decide) (by decide) ?_
                          refine g_iconst C at_285 (v := (0 : Int32)) rfl (pc' := 286) rfl ?_
                          refine g_istore C at_286 (v := (0 : Int32)) (L' := #[.val (.long p0), .second, .val (.long p1), .second, .val (.long p2), .second, .val (.long p3), .second, .val (.long p4), .second, .val (.int p5), .val (.int (2 : Int32)), .val (.int b1), .val (.int b2), .val (.int b3), .val (.int b4), .val (.int b5), .val (.int b6), .val (.ref a_661), .val (.ref a_679), .val (.ref a_701), .val (.ref a_727), .val (.int (0 : Int32)), .val (.int (0 : Int32))]) rfl (pc' := 288) rfl ?_
                          refine g_iload C at_288 (v := (0 : Int32)) rfl (pc' := 290) rfl ?_
                          refine g_iload C at_290 (v := (0 : Int32)) rfl (pc' := 292) rfl ?_
                          refine g_icmp_n C at_292 (Jvm.Free.XT.ii_ne_f (by decide)) (pc' := 295) rfl ?_
                          refine g_iconst C at_295 (v := (1 : Int32)) rfl (pc' := 296) rfl ?_
                          refine g_goto C at_296 (pc' := 300) (by decide) (by decide) ?_
                          refine g_ret C (v := (.int (1 : Int32))) (ty := .boolean) rfl rfl (Or.inl ⟨rfl, Or.inr (Or.inl rfl), _, rfl⟩) at_300 (by decide) (by decide) ?_
                          rfl
                    · refine g_if_n C at_179 (Jvm.Free.XT.i0_eq_f hb_817) (pc' := 182) rfl ?_
                      refine g_aload C at_182 (v := (.ref a_727)) rfl rfl (pc' := 184) rfl ?_
                      refine g_aload C at_184 (v := (.ref a_679)) rfl rfl (pc' := 186) rfl ?_
                      refine g_iload C at_186 (v := b6) rfl (pc' := 188) rfl ?_
                      by_cases hb_865 : b6 = (0 : Int32)
                      · refine g_if_y C at_188 (Jvm.Free.XT.i0_eq_t hb_865) (pc' := 197) (by decide) (by decide) ?_
                        have f_866 := ((((((((((((O.ext E_663).keep K_669 (allS ge_a_661 all0)).keep K_673 (allS ge_a_661 all0)).ext E_681).keep K_690 (allS ge_a_679 all0)).keep K_694 (allS ge_a_679 all0)).ext E_703).keep K_714 (allS ge_a_701 all0)).keep K_719 (allS ge_a_701 all0)).ext E_729).keep K_771 (allS ge_a_727 all0)).keep K_815 (allS ge_a_727 (allS ge_b_762 all0)))
                        refine g_getstatic C (host := "") (v := (.ref e_READ)) (Or.inl (own_w hw 83 rfl)) Via.refl (S_READ.ext f_866.2) at_197 (pc' := 200) rfl ?_
                        refine g_lload C at_200 (v := p4) rfl (pc' := 202) rfl ?_
                        refine g_l2i C (x := p4) at_202 (pc' := 203) rfl ?_
                        refine g_lload C at_203 (v := p4) rfl (pc' := 205) rfl ?_
                        have f_867 := ((f_751.keep K_771 (ninS ne_733 nin0)).keep K_815 (ninS ne_733 (ninS ne_793 nin0)))
                        have f_868 := (Nat.le_trans f_811 K_815.1)
                        refine g_virtual C (own_w hw 68 rfl) (own_w hw 69 rfl) (own_w hw 71 rfl) (own_w hw 70 rfl) (own_w hw 3 rfl) (own_w hw 72 rfl) (notFace_of_selects (args := #[]) (mvT C.2.2.2.2.1 (own_w hw 71 rfl))) (by decide) tr_816.1 (rm_add_2READ l Z a0 hw n0 a_727 b_759 b_760 b_761 b_762 b_763 b_764 a_679 (0 : Int32) (Int64.toInt32 p4) p4 p2 p3 p0 p1 [(.long (0 : Int64)), (.long (0 : Int64))] e_WRITE e_READ h_812 f_868 tr_816 di_772 ⟨ne_777, ne_783, ne_789, ne_795, ne_801, ne_807⟩ ⟨ge_b_759, ge_b_760, ge_b_761, ge_b_762, ge_b_763, ge_b_764, ge_a_727⟩ f_867 ⟨ne_775, ne_781, ne_787, ne_793, ne_799, ne_805, ne_733⟩ en f_866) (st := []) [(.ref a_679), (.ref e_READ), (.int (Int64.toInt32 p4)), (.long p4)] rfl rfl own_pd_9_add rfl rfl (by decide) (W := 0) (Nat.le_of_eq rfl) (by decide) (by decide) (by decide) at_205 (pc' := 208) rfl ?_
                        intro v_871 h_869 q_870
                        obtain ⟨rfl, K_872, tr_873⟩ := q_870
                        show Go B n0 _ h_869 11 60 208 #[.val (.long p0), .second, .val (.long p1), .second, .val (.long p2), .second, .val (.long p3), .second, .val (.long p4), .second, .val (.int p5), .val (.int (2 : Int32)), .val (.int b1), .val (.int b2), .val (.int b3), .val (.int b4), .val (.int b5), .val (.int b6), .val (.ref a_661), .val (.ref a_679), .val (.ref a_701), .val (.ref a_727), .unset, .unset] []
                        refine g_iload C at_208 (v := b3) rfl (pc' := 210) rfl ?_
                        by_cases hb_874 : b3 = (0 : Int32)
                        · refine g_if_y C at_210 (Jvm.Free.XT.i0_eq_t hb_874) (pc' := 220) (by decide) (by decide) ?_
                          refine g_iload C at_220 (v := b4) rfl (pc' := 222) rfl ?_
                          by_cases hb_875 : b4 = (0 : Int32)
                          · refine g_if_y C at_222 (Jvm.Free.XT.i0_eq_t hb_875) (pc' := 232) (by decide) (by decide) ?_
                            refine g_aload C at_232 (v := (.ref a_727)) rfl rfl (pc' := 234) rfl ?_
                            refine g_aload C at_234 (v := (.ref a_701)) rfl rfl (pc' := 236) rfl ?_
                            have f_876 := (((f_752.keep K_771 (ninS ne_734 nin0)).keep K_815 (ninS ne_734 (ninS ne_794 nin0))).keep K_872 (ninS ne_734 (ninS ne_776 (ninS ne_782 (ninS ne_788 (ninS ne_806 nin0))))))
                            have f_877 := (Nat.le_trans f_868 K_872.1)
                            refine g_virtual C (own_w hw 42 rfl) (own_w hw 43 rfl) (own_w hw 45 rfl) (own_w hw 44 rfl) (own_w hw 3 rfl) (own_w hw 46 rfl) (notFace_of_selects (args := #[]) (mvT C.2.2.2.2.1 (own_w hw 45 rfl))) (by decide) tr_873.1 (rm_sf20 l Z a0 hw n0 a_727 b_759 b_760 b_761 b_762 b_763 b_764 a_701 (1 : Int32) (.ref e_READ) (Int64.toInt32 p4) p4 qa qb p0 p1 [(.long (0 : Int64)), (.long (0 : Int64))] [(.long p2), (.long p3), (.long (0 : Int64)), (.long (0 : Int64)), (.long (0 : Int64)), (.long (0 : Int64)), (.long (0 : Int64)), (.long (0 : Int64)), (.long (0 : Int64)), (.long (0 : Int64)), (.long (0 : Int64)), (.long (0 : Int64)), (.long (0 : Int64)), (.long (0 : Int64)), (.long (0 : Int64)), (.long (0 : Int64))] h_869 f_877 tr_873 f_876) (st := []) [(.ref a_701)] rfl rfl own_pd_7_startsFrom rfl rfl (by decide) (W := 0) (Nat.le_of_eq rfl) (by decide) (by decide) (by decide) at_236 (pc' := 239) rfl ?_
                            intro v_880 h_878 q_879
                            obtain ⟨rfl, rfl⟩ := q_879
                            show Go B n0 _ h_869 11 60 239 #[.val (.long p0), .second, .val (.long p1), .second, .val (.long p2), .second, .val (.long p3), .second, .val (.long p4), .second, .val (.int p5), .val (.int (2 : Int32)), .val (.int b1), .val (.int b2), .val (.int b3), .val (.int b4), .val (.int b5), .val (.int b6), .val (.ref a_661), .val (.ref a_679), .val (.ref a_701), .val (.ref a_727), .unset, .unset] [(.int (0 : Int32))]
                            refine g_istore C at_239 (v := (0 : Int32)) (L' := #[.val (.long p0), .second, .val (.long p1), .second, .val (.long p2), .second, .val (.long p3), .second, .val (.long p4), .second, .val (.int p5), .val (.int (2 : Int32)), .val (.int b1), .val (.int b2), .val (.int b3), .val (.int b4), .val (.int b5), .val (.int b6), .val (.ref a_661), .val (.ref a_679), .val (.ref a_701), .val (.ref a_727), .val (.int (0 : Int32)), .unset]) rfl (pc' := 241) rfl ?_
                            refine g_iload C at_241 (v := b3) rfl (pc' := 243) rfl ?_
                            refine g_if_y C at_243 (Jvm.Free.XT.i0_eq_t hb_874) (pc' := 285) (by decide) (by decide) ?_
                            refine g_iconst C at_285 (v := (0 : Int32)) rfl (pc' := 286) rfl ?_
                            refine g_istore C at_286 (v := (0 : Int32)) (L' := #[.val (.long p0), .second, .val (.long p1), .second, .val (.long p2), .second, .val (.long p3), .second, .val (.long p4), .second, .val (.int p5), .val (.int (2 : Int32)), .val (.int b1), .val (.int b2), .val (.int b3), .val (.int b4), .val (.int b5), .val (.int b6), .val (.ref a_661), .val (.ref a_679), .val (.ref a_701), .val (.ref a_727), .val (.int (0 : Int32)), .val (.int (0 : Int32))]) rfl (pc' := 288) rfl ?_
                            refine g_iload C at_288 (v := (0 : Int32)) rfl (pc' := 290) rfl ?_
                            refine g_iload C at_290 (v := (0 : Int32)) rfl (pc' := 292) rfl ?_
                            refine g_icmp_n C at_292 (Jvm.Free.XT.ii_ne_f (by decide)) (pc' := 295) rfl ?_
                            refine g_iconst C at_295 (v := (1 : Int32)) rfl (pc' := 296) rfl ?_
                            refine g_goto C at_296 (pc' := 300) (by decide) (by decide) ?_
                            refine g_ret C (v := (.int (1 : Int32))) (ty := .boolean) rfl rfl (Or.inl ⟨rfl, Or.inr (Or.inl rfl), _, rfl⟩) at_300 (by decide) (by decide) ?_
                            rfl
                          · refine g_if_n C at_222 (Jvm.Free.XT.i0_eq_f hb_875) (pc' := 225) rfl ?_
                            refine g_aload C at_225 (v := (.ref a_727)) rfl rfl (pc' := 227) rfl ?_
                            refine g_aload C at_227 (v := (.ref a_661)) rfl rfl (pc' := 229) rfl ?_
                            have f_881 := ((f_810.keep K_815 (ninS ne_732 (ninS ne_792 nin0))).keep K_872 (ninS ne_732 (ninS ne_774 (ninS ne_780 (ninS ne_786 (ninS ne_804 nin0))))))
                            have f_882 := (Nat.le_trans f_868 K_872.1)
                            refine g_virtual C (own_w hw 29 rfl) (own_w hw 30 rfl) (own_w hw 32 rfl) (own_w hw 31 rfl) (own_w hw 3 rfl) (own_w hw 33 rfl) (notFace_of_selects (args := #[]) (mvT C.2.2.2.2.1 (own_w hw 32 rfl))) (by decide) tr_873.1 (rm_begin2 l Z a0 hw n0 a_727 b_759 b_760 b_761 b_762 b_763 b_764 a_661 (1 : Int32) (0 : Int32) (.ref e_READ) (Int64.toInt32 p4) p4 p0 p1 p0 p1 [(.long (0 : Int64)), (.long (0 : Int64))] [(.long p2), (.long p3), (.long (0 : Int64)), (.long (0 : Int64)), (.long (0 : Int64)), (.long (0 : Int64)), (.long (0 : Int64)), (.long (0 : Int64)), (.long (0 : Int64)), (.long (0 : Int64)), (.long (0 : Int64)), (.long (0 : Int64)), (.long (0 : Int64)), (.long (0 : Int64)), (.long (0 : Int64)), (.long (0 : Int64))] h_869 f_882 tr_873 di_772 ⟨ne_777, ne_783, ne_789, ne_795, ne_801, ne_807⟩ ⟨ge_b_759, ge_b_760, ge_b_761, ge_b_762, ge_b_763, ge_b_764, ge_a_727⟩ f_881 ne_792 ne_732) (st := []) [(.ref a_661)] rfl rfl own_pd_6_begin rfl rfl (by decide) (W := 0) (Nat.le_of_eq rfl) (by decide) (by decide) (by decide) at_229 (pc' := 232) rfl ?_
                            intro v_885 h_883 q_884
                            obtain ⟨rfl, K_886, tr_887⟩ := q_884
                            show Go B n0 _ h_883 11 60 232 #[.val (.long p0), .second, .val (.long p1), .second, .val (.long p2), .second, .val (.long p3), .second, .val (.long p4), .second, .val (.int p5), .val (.int (2 : Int32)), .val (.int b1), .val (.int b2), .val (.int b3), .val (.int b4), .val (.int b5), .val (.int b6), .val (.ref a_661), .val (.ref a_679), .val (.ref a_701), .val (.ref a_727), .unset, .unset] []
                            refine g_aload C at_232 (v := (.ref a_727)) rfl rfl (pc' := 234) rfl ?_
                            refine g_aload C at_234 (v := (.ref a_701)) rfl rfl (pc' := 236) rfl ?_
                            have f_888 := ((((f_752.keep K_771 (ninS ne_734 nin0)).keep K_815 (ninS ne_734 (ninS ne_794 nin0))).keep K_872 (ninS ne_734 (ninS ne_776 (ninS ne_782 (ninS ne_788 (ninS ne_806 nin0)))))).keep K_886 (ninS ne_734 (ninS ne_794 nin0)))
                            have f_889 := (Nat.le_trans f_882 K_886.1)
                            refine g_virtual C (own_w hw 42 rfl) (own_w hw 43 rfl) (own_w hw 45 rfl) (own_w hw 44 rfl) (own_w hw 3 rfl) (own_w hw 46 rfl) (notFace_of_selects (args := #[]) (mvT C.2.2.2.2.1 (own_w hw 45 rfl))) (by decide) tr_887.1 (rm_sf20 l Z a0 hw n0 a_727 b_759 b_760 b_761 b_762 b_763 b_764 a_701 (0 : Int32) (.ref e_READ) (Int64.toInt32 p4) p4 qa qb p0 p1 [(.long (0 : Int64)), (.long (0 : Int64))] [(.long p2), (.long p3), (.long (0 : Int64)), (.long (0 : Int64)), (.long (0 : Int64)), (.long (0 : Int64)), (.long (0 : Int64)), (.long (0 : Int64)), (.long (0 : Int64)), (.long (0 : Int64)), (.long (0 : Int64)), (.long (0 : Int64)), (.long (0 : Int64)), (.long (0 : Int64)), (.long (0 : Int64)), (.long (0 : Int64))] h_883 f_889 tr_887 f_888) (st := []) [(.ref a_701)] rfl rfl own_pd_7_startsFrom rfl rfl (by decide) (W := 0) (Nat.le_of_eq rfl) (by decide) (by decide) (by decide) at_236 (pc' := 239) rfl ?_
                            intro v_892 h_890 q_891
                            obtain ⟨rfl, rfl⟩ := q_891
                            show Go B n0 _ h_883 11 60 239 #[.val (.long p0), .second, .val (.long p1), .second, .val (.long p2), .second, .val (.long p3), .second, .val (.long p4), .second, .val (.int p5), .val (.int (2 : Int32)), .val (.int b1), .val (.int b2), .val (.int b3), .val (.int b4), .val (.int b5), .val (.int b6), .val (.ref a_661), .val (.ref a_679), .val (.ref a_701), .val (.ref a_727), .unset, .unset] [(.int (0 : Int32))]
                            refine g_istore C at_239 (v := (0 : Int32)) (L' := #[.val (.long p0), .second, .val (.long p1), .second, .val (.long p2), .second, .val (.long p3), .second, .val (.long p4), .second, .val (.int p5), .val (.int (2 : Int32)), .val (.int b1), .val (.int b2), .val (.int b3), .val (.int b4), .val (.int b5), .val (.int b6), .val (.ref a_661), .val (.ref a_679), .val (.ref a_701), .val (.ref a_727), .val (.int (0 : Int32)), .unset]) rfl (pc' := 241) rfl ?_
                            refine g_iload C at_241 (v := b3) rfl (pc' := 243) rfl ?_
                            refine g_if_y C at_243 (Jvm.Free.XT.i0_eq_t hb_874) (pc' := 285) (by decide) (by decide) ?_
                            refine g_iconst C at_285 (v := (0 : Int32)) rfl (pc' := 286) rfl ?_
                            refine g_istore C at_286 (v := (0 : Int32)) (L' := #[.val (.long p0), .second, .val (.long p1), .second, .val (.long p2), .second, .val (.long p3), .second, .val (.long p4), .second, .val (.int p5), .val (.int (2 : Int32)), .val (.int b1), .val (.int b2), .val (.int b3), .val (.int b4), .val (.int b5), .val (.int b6), .val (.ref a_661), .val (.ref a_679), .val (.ref a_701), .val (.ref a_727), .val (.int (0 : Int32)), .val (.int (0 : Int32))]) rfl (pc' := 288) rfl ?_
                            refine g_iload C at_288 (v := (0 : Int32)) rfl (pc' := 290) rfl ?_
                            refine g_iload C at_290 (v := (0 : Int32)) rfl (pc' := 292) rfl ?_
                            refine g_icmp_n C at_292 (Jvm.Free.XT.ii_ne_f (by decide)) (pc' := 295) rfl ?_
                            refine g_iconst C at_295 (v := (1 : Int32)) rfl (pc' := 296) rfl ?_
                            refine g_goto C at_296 (pc' := 300) (by decide) (by decide) ?_
                            refine g_ret C (v := (.int (1 : Int32))) (ty := .boolean) rfl rfl (Or.inl ⟨rfl, Or.inr (Or.inl rfl), _, rfl⟩) at_300 (by decide) (by decide) ?_
                            rfl
                        · refine g_if_n C at_210 (Jvm.Free.XT.i0_eq_f hb_874) (pc' := 213) rfl ?_
                          refine g_aload C at_213 (v := (.ref a_727)) rfl rfl (pc' := 215) rfl ?_
                          refine g_aload C at_215 (v := (.ref a_679)) rfl rfl (pc' := 217) rfl ?_
                          have f_893 := (f_867.keep K_872 (ninS ne_733 (ninS ne_775 (ninS ne_781 (ninS ne_787 (ninS ne_805 nin0))))))
                          have f_894 := (f_866.keep K_872 (allS ge_a_727 (allS ge_b_759 (allS ge_b_760 (allS ge_b_761 (allS ge_b_764 all0))))))
                          have f_895 := (Nat.le_trans f_868 K_872.1)
                          refine g_virtual C (own_w hw 47 rfl) (own_w hw 48 rfl) (own_w hw 50 rfl) (own_w hw 49 rfl) (own_w hw 3 rfl) (own_w hw 51 rfl) (notFace_of_selects (args := #[]) (mvT C.2.2.2.2.1 (own_w hw 50 rfl))) (by decide) tr_873.1 (rm_end_2READ l Z a0 hw n0 a_727 b_759 b_760 b_761 b_762 b_763 b_764 a_679 (0 : Int32) (Int64.toInt32 p4) p4 p2 p3 (0 : Int64) (0 : Int64) [(.long p0), (.long p1)] [(.long p2), (.long p3), (.long (0 : Int64)), (.long (0 : Int64)), (.long (0 : Int64)), (.long (0 : Int64)), (.long (0 : Int64)), (.long (0 : Int64)), (.long (0 : Int64)), (.long (0 : Int64)), (.long (0 : Int64)), (.long (0 : Int64)), (.long (0 : Int64)), (.long (0 : Int64)), (.long (0 : Int64)), (.long (0 : Int64))] e_WRITE e_READ h_869 f_895 tr_873 di_772 ⟨ne_777, ne_783, ne_789, ne_795, ne_801, ne_807⟩ ⟨ge_b_759, ge_b_760, ge_b_761, ge_b_762, ge_b_763, ge_b_764, ge_a_727⟩ f_893 ne_799 ne_733 en f_894) (st := []) [(.ref a_679)] rfl rfl own_pd_6_end rfl rfl (by decide) (W := 0) (Nat.le_of_eq rfl) (by decide) (by decide) (by decide) at_217 (pc' := 220) rfl ?_
                          intro v_898 h_896 q_897
                          obtain ⟨rfl, K_899, tr_900⟩ := q_897
                          show Go B n0 _ h_896 13 61 220 #[.val (.long p0), .second, .val (.long p1), .second, .val (.long p2), .second, .val (.long p3), .second, .val (.long p4), .second, .val (.int p5), .val (.int (2 : Int32)), .val (.int b1), .val (.int b2), .val (.int b3), .val (.int b4), .val (.int b5), .val (.int b6), .val (.ref a_661), .val (.ref a_679), .val (.ref a_701), .val (.ref a_727), .unset, .unset] []
                          refine g_iload C at_220 (v := b4) rfl (pc' := 222) rfl ?_
                          by_cases hb_901 : b4 = (0 : Int32)
                          · refine g_if_y C at_222 (Jvm.Free.XT.i0_eq_t hb_901) (pc' := 232) (by decide) (by decide) ?_
                            refine g_aload C at_232 (v := (.ref a_727)) rfl rfl (pc' := 234) rfl ?_
                            refine g_aload C at_234 (v := (.ref a_701)) rfl rfl (pc' := 236) rfl ?_
                            have f_902 := ((((f_752.keep K_771 (ninS ne_734 nin0)).keep K_815 (ninS ne_734 (ninS ne_794 nin0))).keep K_872 (ninS ne_734 (ninS ne_776 (ninS ne_782 (ninS ne_788 (ninS ne_806 nin0)))))).keep K_899 (ninS ne_734 (ninS ne_800 nin0)))
                            have f_903 := (Nat.le_trans f_895 K_899.1)
                            refine g_virtual C (own_w hw 42 rfl) (own_w hw 43 rfl) (own_w hw 45 rfl) (own_w hw 44 rfl) (own_w hw 3 rfl) (own_w hw 46 rfl) (notFace_of_selects (args := #[]) (mvT C.2.2.2.2.1 (own_w hw 45 rfl))) (by decide) tr_900.1 (rm_sf21 l Z a0 hw n0 a_727 b_759 b_760 b_761 b_762 b_763 b_764 a_701 (1 : Int32) (.ref e_READ) (Int64.toInt32 p4) p4 qa qb p0 p1 [(.long p2), (.long p3)] [(.long p2), (.long p3), (.long (0 : Int64)), (.long (0 : Int64)), (.long (0 : Int64)), (.long (0 : Int64)), (.long (0 : Int64)), (.long (0 : Int64)), (.long (0 : Int64)), (.long (0 : Int64)), (.long (0 : Int64)), (.long (0 : Int64)), (.long (0 : Int64)), (.long (0 : Int64)), (.long (0 : Int64)), (.long (0 : Int64))] h_896 f_903 tr_900 f_902) (st := []) [(.ref a_701)] rfl rfl own_pd_7_startsFrom rfl rfl (by decide) (W := 0) (Nat.le_of_eq rfl) (by decide) (by decide) (by decide) at_236 (pc' := 239) rfl ?_
                            intro v_906 h_904 q_905
                            obtain ⟨rfl, rfl⟩ := q_905
                            show Go B n0 _ h_896 13 61 239 #[.val (.long p0), .second, .val (.long p1), .second, .val (.long p2), .second, .val (.long p3), .second, .val (.long p4), .second, .val (.int p5), .val (.int (2 : Int32)), .val (.int b1), .val (.int b2), .val (.int b3), .val (.int b4), .val (.int b5), .val (.int b6), .val (.ref a_661), .val (.ref a_679), .val (.ref a_701), .val (.ref a_727), .unset, .unset] [(.int (sf2 p0 p1 qa qb))]
                            refine g_istore C at_239 (v := (sf2 p0 p1 qa qb)) (L' := #[.val (.long p0), .second, .val (.long p1), .second, .val (.long p2), .second, .val (.long p3), .second, .val (.long p4), .second, .val (.int p5), .val (.int (2 : Int32)), .val (.int b1), .val (.int b2), .val (.int b3), .val (.int b4), .val (.int b5), .val (.int b6), .val (.ref a_661), .val (.ref a_679), .val (.ref a_701), .val (.ref a_727), .val (.int (sf2 p0 p1 qa qb)), .unset]) rfl (pc' := 241) rfl ?_
                            refine g_iload C at_241 (v := b3) rfl (pc' := 243) rfl ?_
                            refine g_if_n C at_243 (Jvm.Free.XT.i0_eq_f hb_874) (pc' := 246) rfl ?_
                            refine g_iload C at_246 (v := b4) rfl (pc' := 248) rfl ?_
                            refine g_if_n C at_248 (Jvm.Free.XT.i0_ne_f hb_901) (pc' := 251) rfl ?_
                            refine g_iload C at_251 (v := (2 : Int32)) rfl (pc' := 253) rfl ?_
                            refine g_iconst C at_253 (v := (1 : Int32)) rfl (pc' := 254) rfl ?_
                            refine g_icmp_n C at_254 (Jvm.Free.XT.ii_lt_f (by decide)) (pc' := 257) rfl ?_
                            refine g_aload C at_257 (v := (.ref a_701)) rfl rfl (pc' := 259) rfl ?_
                            refine g_iconst C at_259 (v := (0 : Int32)) rfl (pc' := 260) rfl ?_
                            refine g_laload C f_902 (by decide) (i := 0) (by decide) (v := qa) rfl at_260 (pc' := 261) rfl ?_
                            refine g_lload_n C at_261 (v := p0) rfl (pc' := 262) rfl ?_
                            refine g_lcmp C (x := qa) (y := p0) at_262 (pc' := 263) rfl ?_
                            by_cases hb_907 : qa = p0
                            · refine g_if_n C at_263 (Jvm.Free.XT.ll_ne_f hb_907) (pc' := 266) rfl ?_
                              refine g_iload C at_266 (v := (2 : Int32)) rfl (pc' := 268) rfl ?_
                              refine g_iconst C at_268 (v := (2 : Int32)) rfl (pc' := 269) rfl ?_
                              refine g_icmp_n C at_269 (Jvm.Free.XT.ii_lt_f (by decide)) (pc' := 272) rfl ?_
                              refine g_aload C at_272 (v := (.ref a_701)) rfl rfl (pc' := 274) rfl ?_
                              refine g_iconst C at_274 (v := (1 : Int32)) rfl (pc' := 275) rfl ?_
                              refine g_laload C f_902 (by decide) (i := 1) (by decide) (v := qb) rfl at_275 (pc' := 276) rfl ?_
                              refine g_lload_n C at_276 (v := p1) rfl (pc' := 277) rfl ?_
                              refine g_lcmp C (x := qb) (y := p1) at_277 (pc' := 278) rfl ?_
                              by_cases hb_908 : qb = p1
                              · refine g_if_n C at_278 (Jvm.Free.XT.ll_ne_f hb_908) (pc' := 281) rfl ?_
                                refine g_iconst C at_281 (v := (1 : Int32)) rfl (pc' := 282) rfl ?_
                                refine g_goto C at_282 (pc' := 286) (by decide) (by decide) ?_
                                refine g_istore C at_286 (v := (1 : Int32)) (L' := #[.val (.long p0), .second, .val (.long p1), .second, .val (.long p2), .second, .val (.long p3), .second, .val (.long p4), .second, .val (.int p5), .val (.int (2 : Int32)), .val (.int b1), .val (.int b2), .val (.int b3), .val (.int b4), .val (.int b5), .val (.int b6), .val (.ref a_661), .val (.ref a_679), .val (.ref a_701), .val (.ref a_727), .val (.int (sf2 p0 p1 qa qb)), .val (.int (1 : Int32))]) rfl (pc' := 288) rfl ?_
                                refine g_iload C at_288 (v := (sf2 p0 p1 qa qb)) rfl (pc' := 290) rfl ?_
                                refine g_iload C at_290 (v := (1 : Int32)) rfl (pc' := 292) rfl ?_
                                refine g_icmp_n C at_292 (Jvm.Free.XT.ii_ne_f (sf2_y (Eq.symm hb_907) (Eq.symm hb_908))) (pc' := 295) rfl ?_
                                refine g_iconst C at_295 (v := (1 : Int32)) rfl (pc' := 296) rfl ?_
                                refine g_goto C at_296 (pc' := 300) (by decide) (by decide) ?_
                                refine g_ret C (v := (.int (1 : Int32))) (ty := .boolean) rfl rfl (Or.inl ⟨rfl, Or.inr (Or.inl rfl), _, rfl⟩) at_300 (by decide) (by decide) ?_
                                rfl
                              · refine g_if_y C at_278 (Jvm.Free.XT.ll_ne_t hb_908) (pc' := 285) (by decide) (by decide) ?_
                                refine g_iconst C at_285 (v := (0 : Int32)) rfl (pc' := 286) rfl ?_
                                refine g_istore C at_286 (v := (0 : Int32)) (L' := #[.val (.long p0), .second, .val (.long p1), .second, .val (.long p2), .second, .val (.long p3), .second, .val (.long p4), .second, .val (.int p5), .val (.int (2 : Int32)), .val (.int b1), .val (.int b2), .val (.int b3), .val (.int b4), .val (.int b5), .val (.int b6), .val (.ref a_661), .val (.ref a_679), .val (.ref a_701), .val (.ref a_727), .val (.int (sf2 p0 p1 qa qb)), .val (.int (0 : Int32))]) rfl (pc' := 288) rfl ?_
                                refine g_iload C at_288 (v := (sf2 p0 p1 qa qb)) rfl (pc' := 290) rfl ?_
                                refine g_iload C at_290 (v := (0 : Int32)) rfl (pc' := 292) rfl ?_
                                refine g_icmp_n C at_292 (Jvm.Free.XT.ii_ne_f (sf2_b (fun q => hb_908 (Eq.symm q)))) (pc' := 295) rfl ?_
                                refine g_iconst C at_295 (v := (1 : Int32)) rfl (pc' := 296) rfl ?_
                                refine g_goto C at_296 (pc' := 300) (by decide) (by decide) ?_
                                refine g_ret C (v := (.int (1 : Int32))) (ty := .boolean) rfl rfl (Or.inl ⟨rfl, Or.inr (Or.inl rfl), _, rfl⟩) at_300 (by decide) (by decide) ?_
                                rfl
                            · refine g_if_y C at_263 (Jvm.Free.XT.ll_ne_t hb_907) (pc' := 285) (by decide) (by decide) ?_
                              refine g_iconst C at_285 (v := (0 : Int32)) rfl (pc' := 286) rfl ?_
                              refine g_istore C at_286 (v := (0 : Int32)) (L' := #[.val (.long p0), .second, .val (.long p1), .second, .val (.long p2), .second, .val (.long p3), .second, .val (.long p4), .second, .val (.int p5), .val (.int (2 : Int32)), .val (.int b1), .val (.int b2), .val (.int b3), .val (.int b4), .val (.int b5), .val (.int b6), .val (.ref a_661), .val (.ref a_679), .val (.ref a_701), .val (.ref a_727), .val (.int (sf2 p0 p1 qa qb)), .val (.int (0 : Int32))]) rfl (pc' := 288) rfl ?_
                              refine g_iload C at_288 (v := (sf2 p0 p1 qa qb)) rfl (pc' := 290) rfl ?_
                              refine g_iload C at_290 (v := (0 : Int32)) rfl (pc' := 292) rfl ?_
                              refine g_icmp_n C at_292 (Jvm.Free.XT.ii_ne_f (sf2_a (fun q => hb_907 (Eq.symm q)))) (pc' := 295) rfl ?_
                              refine g_iconst C at_295 (v := (1 : Int32)) rfl (pc' := 296) rfl ?_
                              refine g_goto C at_296 (pc' := 300) (by decide) (by decide) ?_
                              refine g_ret C (v := (.int (1 : Int32))) (ty := .boolean) rfl rfl (Or.inl ⟨rfl, Or.inr (Or.inl rfl), _, rfl⟩) at_300 (by decide) (by decide) ?_
                              rfl
                          · refine g_if_n C at_222 (Jvm.Free.XT.i0_eq_f hb_901) (pc' := 225) rfl ?_
                            refine g_aload C at_225 (v := (.ref a_727)) rfl rfl (pc' := 227) rfl ?_
                            refine g_aload C at_227 (v := (.ref a_661)) rfl rfl (pc' := 229) rfl ?_
                            have f_909 := (((f_810.keep K_815 (ninS ne_732 (ninS ne_792 nin0))).keep K_872 (ninS ne_732 (ninS ne_774 (ninS ne_780 (ninS ne_786 (ninS ne_804 nin0)))))).keep K_899 (ninS ne_732 (ninS ne_798 nin0)))
                            have f_910 := (Nat.le_trans f_895 K_899.1)
                            refine g_virtual C (own_w hw 29 rfl) (own_w hw 30 rfl) (own_w hw 32 rfl) (own_w hw 31 rfl) (own_w hw 3 rfl) (own_w hw 33 rfl) (notFace_of_selects (args := #[]) (mvT C.2.2.2.2.1 (own_w hw 32 rfl))) (by decide) tr_900.1 (rm_begin2 l Z a0 hw n0 a_727 b_759 b_760 b_761 b_762 b_763 b_764 a_661 (1 : Int32) (1 : Int32) (.ref e_READ) (Int64.toInt32 p4) p4 p0 p1 p0 p1 [(.long p2), (.long p3)] [(.long p2), (.long p3), (.long (0 : Int64)), (.long (0 : Int64)), (.long (0 : Int64)), (.long (0 : Int64)), (.long (0 : Int64)), (.long (0 : Int64)), (.long (0 : Int64)), (.long (0 : Int64)), (.long (0 : Int64)), (.long (0 : Int64)), (.long (0 : Int64)), (.long (0 : Int64)), (.long (0 : Int64)), (.long (0 : Int64))] h_896 f_910 tr_900 di_772 ⟨ne_777, ne_783, ne_789, ne_795, ne_801, ne_807⟩ ⟨ge_b_759, ge_b_760, ge_b_761, ge_b_762, ge_b_763, ge_b_764, ge_a_727⟩ f_909 ne_792 ne_732) (st := []) [(.ref a_661)] rfl rfl own_pd_6_begin rfl rfl (by decide) (W := 0) (Nat.le_of_eq rfl) (by decide) (by decide) (by decide) at_229 (pc' := 232) rfl ?_
                            intro v_913 h_911 q_912
                            obtain ⟨rfl, K_914, tr_915⟩ := q_912
                            show Go B n0 _ h_911 13 61 232 #[.val (.long p0), .second, .val (.long p1), .second, .val (.long p2), .second, .val (.long p3), .second, .val (.long p4), .second, .val (.int p5), .val (.int (2 : Int32)), .val (.int b1), .val (.int b2), .val (.int b3), .val (.int b4), .val (.int b5), .val (.int b6), .val (.ref a_661), .val (.ref a_679), .val (.ref a_701), .val (.ref a_727), .unset, .unset] []
                            refine g_aload C at_232 (v := (.ref a_727)) rfl rfl (pc' := 234) rfl ?_
                            refine g_aload C at_234 (v := (.ref a_701)) rfl rfl (pc' := 236) rfl ?_
                            have f_916 := (((((f_752.keep K_771 (ninS ne_734 nin0)).keep K_815 (ninS ne_734 (ninS ne_794 nin0))).keep K_872 (ninS ne_734 (ninS ne_776 (ninS ne_782 (ninS ne_788 (ninS ne_806 nin0)))))).keep K_899 (ninS ne_734 (ninS ne_800 nin0))).keep K_914 (ninS ne_734 (ninS ne_794 nin0)))
                            have f_917 := (Nat.le_trans f_910 K_914.1)
                            refine g_virtual C (own_w hw 42 rfl) (own_w hw 43 rfl) (own_w hw 45 rfl) (own_w hw 44 rfl) (own_w hw 3 rfl) (own_w hw 46 rfl) (notFace_of_selects (args := #[]) (mvT C.2.2.2.2.1 (own_w hw 45 rfl))) (by decide) tr_915.1 (rm_sf20 l Z a0 hw n0 a_727 b_759 b_760 b_761 b_762 b_763 b_764 a_701 (0 : Int32) (.ref e_READ) (Int64.toInt32 p4) p4 qa qb p0 p1 [(.long p2), (.long p3)] [(.long p2), (.long p3), (.long (0 : Int64)), (.long (0 : Int64)), (.long (0 : Int64)), (.long (0 : Int64)), (.long (0 : Int64)), (.long (0 : Int64)), (.long (0 : Int64)), (.long (0 : Int64)), (.long (0 : Int64)), (.long (0 : Int64)), (.long (0 : Int64)), (.long (0 : Int64)), (.long (0 : Int64)), (.long (0 : Int64))] h_911 f_917 tr_915 f_916) (st := []) [(.ref a_701)] rfl rfl own_pd_7_startsFrom rfl rfl (by decide) (W := 0) (Nat.le_of_eq rfl) (by decide) (by decide) (by decide) at_236 (pc' := 239) rfl ?_
                            intro v_920 h_918 q_919
                            obtain ⟨rfl, rfl⟩ := q_919
                            show Go B n0 _ h_911 13 61 239 #[.val (.long p0), .second, .val (.long p1), .second, .val (.long p2), .second, .val (.long p3), .second, .val (.long p4), .second, .val (.int p5), .val (.int (2 : Int32)), .val (.int b1), .val (.int b2), .val (.int b3), .val (.int b4), .val (.int b5), .val (.int b6), .val (.ref a_661), .val (.ref a_679), .val (.ref a_701), .val (.ref a_727), .unset, .unset] [(.int (0 : Int32))]
                            refine g_istore C at_239 (v := (0 : Int32)) (L' := #[.val (.long p0), .second, .val (.long p1), .second, .val (.long p2), .second, .val (.long p3), .second, .val (.long p4), .second, .val (.int p5), .val (.int (2 : Int32)), .val (.int b1), .val (.int b2), .val (.int b3), .val (.int b4), .val (.int b5), .val (.int b6), .val (.ref a_661), .val (.ref a_679), .val (.ref a_701), .val (.ref a_727), .val (.int (0 : Int32)), .unset]) rfl (pc' := 241) rfl ?_
                            refine g_iload C at_241 (v := b3) rfl (pc' := 243) rfl ?_
                            refine g_if_n C at_243 (Jvm.Free.XT.i0_eq_f hb_874) (pc' := 246) rfl ?_
                            refine g_iload C at_246 (v := b4) rfl (pc' := 248) rfl ?_
                            refine g_if_y C at_248 (Jvm.Free.XT.i0_ne_t hb_901) (pc' := 285) (by decide) (by decide) ?_
                            refine g_iconst C at_285 (v := (0 : Int32)) rfl (pc' := 286) rfl ?_
                            refine g_istore C at_286 (v := (0 : Int32)) (L' := #[.val (.long p0), .second, .val (.long p1), .second, .val (.long p2), .second, .val (.long p3), .second, .val (.long p4), .second, .val (.int p5), .val (.int (2 : Int32)), .val (.int b1), .val (.int b2), .val (.int b3), .val (.int b4), .val (.int b5), .val (.int b6), .val (.ref a_661), .val (.ref a_679), .val (.ref a_701), .val (.ref a_727), .val (.int (0 : Int32)), .val (.int (0 : Int32))]) rfl (pc' := 288) rfl ?_
                            refine g_iload C at_288 (v := (0 : Int32)) rfl (pc' := 290) rfl ?_
                            refine g_iload C at_290 (v := (0 : Int32)) rfl (pc' := 292) rfl ?_
                            refine g_icmp_n C at_292 (Jvm.Free.XT.ii_ne_f (by decide)) (pc' := 295) rfl ?_
                            refine g_iconst C at_295 (v := (1 : Int32)) rfl (pc' := 296) rfl ?_
                            refine g_goto C at_296 (pc' := 300) (by decide) (by decide) ?_
                            refine g_ret C (v := (.int (1 : Int32))) (ty := .boolean) rfl rfl (Or.inl ⟨rfl, Or.inr (Or.inl rfl), _, rfl⟩) at_300 (by decide) (by decide) ?_
                            rfl
                      · refine g_if_n C at_188 (Jvm.Free.XT.i0_eq_f hb_865) (pc' := 191) rfl ?_
                        have f_921 := ((((((((((((O.ext E_663).keep K_669 (allS ge_a_661 all0)).keep K_673 (allS ge_a_661 all0)).ext E_681).keep K_690 (allS ge_a_679 all0)).keep K_694 (allS ge_a_679 all0)).ext E_703).keep K_714 (allS ge_a_701 all0)).keep K_719 (allS ge_a_701 all0)).ext E_729).keep K_771 (allS ge_a_727 all0)).keep K_815 (allS ge_a_727 (allS ge_b_762 all0)))
                        refine g_getstatic C (host := "") (v := (.ref e_WRITE)) (Or.inl (own_w hw 65 rfl)) Via.refl (S_WRITE.ext f_921.2) at_191 (pc' := 194) rfl ?_
                        refine g_goto C at_194 (pc' := 200) (by decide) (by decide) ?_
                        refine g_lload C at_200 (v := p4) rfl (pc' := 202) rfl ?_
                        refine g_l2i C (x := p4) at_202 (pc' := 203) rfl ?_
                        refine g_lload C at_203 (v := p4) rfl (pc' := 205) rfl ?_
                        have f_922 := ((f_751.keep K_771 (ninS ne_733 nin0)).keep K_815 (ninS ne_733 (ninS ne_793 nin0)))
                        have f_923 := (Nat.le_trans f_811 K_815.1)
                        refine g_virtual C (own_w hw 68 rfl) (own_w hw 69 rfl) (own_w hw 71 rfl) (own_w hw 70 rfl) (own_w hw 3 rfl) (own_w hw 72 rfl) (notFace_of_selects (args := #[]) (mvT C.2.2.2.2.1 (own_w hw 71 rfl))) (by decide) tr_816.1 (rm_add_2WRITE l Z a0 hw n0 a_727 b_759 b_760 b_761 b_762 b_763 b_764 a_679 (0 : Int32) (Int64.toInt32 p4) p4 p2 p3 p0 p1 [(.long (0 : Int64)), (.long (0 : Int64))] e_WRITE e_READ h_812 f_923 tr_816 di_772 ⟨ne_777, ne_783, ne_789, ne_795, ne_801, ne_807⟩ ⟨ge_b_759, ge_b_760, ge_b_761, ge_b_762, ge_b_763, ge_b_764, ge_a_727⟩ f_922 ⟨ne_775, ne_781, ne_787, ne_793, ne_799, ne_805, ne_733⟩ en f_921) (st := []) [(.ref a_679), (.ref e_WRITE), (.int (Int64.toInt32 p4)), (.long p4)] rfl rfl own_pd_9_add rfl rfl (by decide) (W := 0) (Nat.le_of_eq rfl) (by decide) (by decide) (by decide) at_205 (pc' := 208) rfl ?_
                        intro v_926 h_924 q_925
                        obtain ⟨rfl, K_927, tr_928⟩ := q_925
                        show Go B n0 _ h_924 11 60 208 #[.val (.long p0), .second, .val (.long p1), .second, .val (.long p2), .second, .val (.long p3), .second, .val (.long p4), .second, .val (.int p5), .val (.int (2 : Int32)), .val (.int b1), .val (.int b2), .val (.int b3), .val (.int b4), .val (.int b5), .val (.int b6), .val (.ref a_661), .val (.ref a_679), .val (.ref a_701), .val (.ref a_727), .unset, .unset] []
                        refine g_iload C at_208 (v := b3) rfl (pc' := 210) rfl ?_
                        by_cases hb_929 : b3 = (0 : Int32)
                        · refine g_if_y C at_210 (Jvm.Free.XT.i0_eq_t hb_929) (pc' := 220) (by decide) (by decide) ?_
                          refine g_iload C at_220 (v := b4) rfl (pc' := 222) rfl ?_
                          by_cases hb_930 : b4 = (0 : Int32)
                          · refine g_if_y C at_222 (Jvm.Free.XT.i0_eq_t hb_930) (pc' := 232) (by decide) (by decide) ?_
                            refine g_aload C at_232 (v := (.ref a_727)) rfl rfl (pc' := 234) rfl ?_
                            refine g_aload C at_234 (v := (.ref a_701)) rfl rfl (pc' := 236) rfl ?_
                            have f_931 := (((f_752.keep K_771 (ninS ne_734 nin0)).keep K_815 (ninS ne_734 (ninS ne_794 nin0))).keep K_927 (ninS ne_734 (ninS ne_776 (ninS ne_782 (ninS ne_788 (ninS ne_806 nin0))))))
                            have f_932 := (Nat.le_trans f_923 K_927.1)
                            refine g_virtual C (own_w hw 42 rfl) (own_w hw 43 rfl) (own_w hw 45 rfl) (own_w hw 44 rfl) (own_w hw 3 rfl) (own_w hw 46 rfl) (notFace_of_selects (args := #[]) (mvT C.2.2.2.2.1 (own_w hw 45 rfl))) (by decide) tr_928.1 (rm_sf20 l Z a0 hw n0 a_727 b_759 b_760 b_761 b_762 b_763 b_764 a_701 (1 : Int32) (.ref e_WRITE) (Int64.toInt32 p4) p4 qa qb p0 p1 [(.long (0 : Int64)), (.long (0 : Int64))] [(.long p2), (.long p3), (.long (0 : Int64)), (.long (0 : Int64)), (.long (0 : Int64)), (.long (0 : Int64)), (.long (0 : Int64)), (.long (0 : Int64)), (.long (0 : Int64)), (.long (0 : Int64)), (.long (0 : Int64)), (.long (0 : Int64)), (.long (0 : Int64)), (.long (0 : Int64)), (.long (0 : Int64)), (.long (0 : Int64))] h_924 f_932 tr_928 f_931) (st := []) [(.ref a_701)] rfl rfl own_pd_7_startsFrom rfl rfl (by decide) (W := 0) (Nat.le_of_eq rfl) (by decide) (by decide) (by decide) at_236 (pc' := 239) rfl ?_
                            intro v_935 h_933 q_934
                            obtain ⟨rfl, rfl⟩ := q_934
                            show Go B n0 _ h_924 11 60 239 #[.val (.long p0), .second, .val (.long p1), .second, .val (.long p2), .second, .val (.long p3), .second, .val (.long p4), .second, .val (.int p5), .val (.int (2 : Int32)), .val (.int b1), .val (.int b2), .val (.int b3), .val (.int b4), .val (.int b5), .val (.int b6), .val (.ref a_661), .val (.ref a_679), .val (.ref a_701), .val (.ref a_727), .unset, .unset] [(.int (0 : Int32))]
                            refine g_istore C at_239 (v := (0 : Int32)) (L' := #[.val (.long p0), .second, .val (.long p1), .second, .val (.long p2), .second, .val (.long p3), .second, .val (.long p4), .second, .val (.int p5), .val (.int (2 : Int32)), .val (.int b1), .val (.int b2), .val (.int b3), .val (.int b4), .val (.int b5), .val (.int b6), .val (.ref a_661), .val (.ref a_679), .val (.ref a_701), .val (.ref a_727), .val (.int (0 : Int32)), .unset]) rfl (pc' := 241) rfl ?_
                            refine g_iload C at_241 (v := b3) rfl (pc' := 243) rfl ?_
                            refine g_if_y C at_243 (Jvm.Free.XT.i0_eq_t hb_929) (pc' := 285) (by decide) (by decide) ?_
                            refine g_iconst C at_285 (v := (0 : Int32)) rfl (pc' := 286) rfl ?_
                            refine g_istore C at_286 (v := (0 : Int32)) (L' := #[.val (.long p0), .second, .val (.long p1), .second, .val (.long p2), .second, .val (.long p3), .second, .val (.long p4), .second, .val (.int p5), .val (.int (2 : Int32)), .val (.int b1), .val (.int b2), .val (.int b3), .val (.int b4), .val (.int b5), .val (.int b6), .val (.ref a_661), .val (.ref a_679), .val (.ref a_701), .val (.ref a_727), .val (.int (0 : Int32)), .val (.int (0 : Int32))]) rfl (pc' := 288) rfl ?_
                            refine g_iload C at_288 (v := (0 : Int32)) rfl (pc' := 290) rfl ?_
                            refine g_iload C at_290 (v := (0 : Int32)) rfl (pc' := 292) rfl ?_
                            refine g_icmp_n C at_292 (Jvm.Free.XT.ii_ne_f (by decide)) (pc' := 295) rfl ?_
                            refine g_iconst C at_295 (v := (1 : Int32)) rfl (pc' := 296) rfl ?_
                            refine g_goto C at_296 (pc' := 300) (by decide) (by decide) ?_
                            refine g_ret C (v := (.int (1 : Int32))) (ty := .boolean) rfl rfl (Or.inl ⟨rfl, Or.inr (Or.inl rfl), _, rfl⟩) at_300 (by decide) (by decide) ?_
                            rfl
                          · refine g_if_n C at_222 (Jvm.Free.XT.i0_eq_f hb_930) (pc' := 225) rfl ?_
                            refine g_aload C at_225 (v := (.ref a_727)) rfl rfl (pc' := 227) rfl ?_
                            refine g_aload C at_227 (v := (.ref a_661)) rfl rfl (pc' := 229) rfl ?_
                            have f_936 := ((f_810.keep K_815 (ninS ne_732 (ninS ne_792 nin0))).keep K_927 (ninS ne_732 (ninS ne_774 (ninS ne_780 (ninS ne_786 (ninS ne_804 nin0))))))
                            have f_937 := (Nat.le_trans f_923 K_927.1)
                            refine g_virtual C (own_w hw 29 rfl) (own_w hw 30 rfl) (own_w hw 32 rfl) (own_w hw 31 rfl) (own_w hw 3 rfl) (own_w hw 33 rfl) (notFace_of_selects (args := #[]) (mvT C.2.2.2.2.1 (own_w hw 32 rfl))) (by decide) tr_928.1 (rm_begin2 l Z a0 hw n0 a_727 b_759 b_760 b_761 b_762 b_763 b_764 a_661 (1 : Int32) (0 : Int32) (.ref e_WRITE) (Int64.toInt32 p4) p4 p0 p1 p0 p1 [(.long (0 : Int64)), (.long (0 : Int64))] [(.long p2), (.long p3), (.long (0 : Int64)), (.long (0 : Int64)), (.long (0 : Int64)), (.long (0 : Int64)), (.long (0 : Int64)), (.long (0 : Int64)), (.long (0 : Int64)), (.long (0 : Int64)), (.long (0 : Int64)), (.long (0 : Int64)), (.long (0 : Int64)), (.long (0 : Int64)), (.long (0 : Int64)), (.long (0 : Int64))] h_924 f_937 tr_928 di_772 ⟨ne_777, ne_783, ne_789, ne_795, ne_801, ne_807⟩ ⟨ge_b_759, ge_b_760, ge_b_761, ge_b_762, ge_b_763, ge_b_764, ge_a_727⟩ f_936 ne_792 ne_732) (st := []) [(.ref a_661)] rfl rfl own_pd_6_begin rfl rfl (by decide) (W := 0) (Nat.le_of_eq rfl) (by decide) (by decide) (by decide) at_229 (pc' := 232) rfl ?_
                            intro v_940 h_938 q_939
                            obtain ⟨rfl, K_941, tr_942⟩ := q_939
                            show Go B n0 _ h_938 11 60 232 #[.val (.long p0), .second, .val (.long p1), .second, .val (.long p2), .second, .val (.long p3), .second, .val (.long p4), .second, .val (.int p5), .val (.int (2 : Int32)), .val (.int b1), .val (.int b2), .val (.int b3), .val (.int b4), .val (.int b5), .val (.int b6), .val (.ref a_661), .val (.ref a_679), .val (.ref a_701), .val (.ref a_727), .unset, .unset] []
                            refine g_aload C at_232 (v := (.ref a_727)) rfl rfl (pc' := 234) rfl ?_
                            refine g_aload C at_234 (v := (.ref a_701)) rfl rfl (pc' := 236) rfl ?_
                            have f_943 := ((((f_752.keep K_771 (ninS ne_734 nin0)).keep K_815 (ninS ne_734 (ninS ne_794 nin0))).keep K_927 (ninS ne_734 (ninS ne_776 (ninS ne_782 (ninS ne_788 (ninS ne_806 nin0)))))).keep K_941 (ninS ne_734 (ninS ne_794 nin0)))
                            have f_944 := (Nat.le_trans f_937 K_941.1)
                            refine g_virtual C (own_w hw 42 rfl) (own_w hw 43 rfl) (own_w hw 45 rfl) (own_w hw 44 rfl) (own_w hw 3 rfl) (own_w hw 46 rfl) (notFace_of_selects (args := #[]) (mvT C.2.2.2.2.1 (own_w hw 45 rfl))) (by decide) tr_942.1 (rm_sf20 l Z a0 hw n0 a_727 b_759 b_760 b_761 b_762 b_763 b_764 a_701 (0 : Int32) (.ref e_WRITE) (Int64.toInt32 p4) p4 qa qb p0 p1 [(.long (0 : Int64)), (.long (0 : Int64))] [(.long p2), (.long p3), (.long (0 : Int64)), (.long (0 : Int64)), (.long (0 : Int64)), (.long (0 : Int64)), (.long (0 : Int64)), (.long (0 : Int64)), (.long (0 : Int64)), (.long (0 : Int64)), (.long (0 : Int64)), (.long (0 : Int64)), (.long (0 : Int64)), (.long (0 : Int64)), (.long (0 : Int64)), (.long (0 : Int64))] h_938 f_944 tr_942 f_943) (st := []) [(.ref a_701)] rfl rfl own_pd_7_startsFrom rfl rfl (by decide) (W := 0) (Nat.le_of_eq rfl) (by decide) (by decide) (by decide) at_236 (pc' := 239) rfl ?_
                            intro v_947 h_945 q_946
                            obtain ⟨rfl, rfl⟩ := q_946
                            show Go B n0 _ h_938 11 60 239 #[.val (.long p0), .second, .val (.long p1), .second, .val (.long p2), .second, .val (.long p3), .second, .val (.long p4), .second, .val (.int p5), .val (.int (2 : Int32)), .val (.int b1), .val (.int b2), .val (.int b3), .val (.int b4), .val (.int b5), .val (.int b6), .val (.ref a_661), .val (.ref a_679), .val (.ref a_701), .val (.ref a_727), .unset, .unset] [(.int (0 : Int32))]
                            refine g_istore C at_239 (v := (0 : Int32)) (L' := #[.val (.long p0), .second, .val (.long p1), .second, .val (.long p2), .second, .val (.long p3), .second, .val (.long p4), .second, .val (.int p5), .val (.int (2 : Int32)), .val (.int b1), .val (.int b2), .val (.int b3), .val (.int b4), .val (.int b5), .val (.int b6), .val (.ref a_661), .val (.ref a_679), .val (.ref a_701), .val (.ref a_727), .val (.int (0 : Int32)), .unset]) rfl (pc' := 241) rfl ?_
                            refine g_iload C at_241 (v := b3) rfl (pc' := 243) rfl ?_
                            refine g_if_y C at_243 (Jvm.Free.XT.i0_eq_t hb_929) (pc' := 285) (by decide) (by decide) ?_
                            refine g_iconst C at_285 (v := (0 : Int32)) rfl (pc' := 286) rfl ?_
                            refine g_istore C at_286 (v := (0 : Int32)) (L' := #[.val (.long p0), .second, .val (.long p1), .second, .val (.long p2), .second, .val (.long p3), .second, .val (.long p4), .second, .val (.int p5), .val (.int (2 : Int32)), .val (.int b1), .val (.int b2), .val (.int b3), .val (.int b4), .val (.int b5), .val (.int b6), .val (.ref a_661), .val (.ref a_679), .val (.ref a_701), .val (.ref a_727), .val (.int (0 : Int32)), .val (.int (0 : Int32))]) rfl (pc' := 288) rfl ?_
                            refine g_iload C at_288 (v := (0 : Int32)) rfl (pc' := 290) rfl ?_
                            refine g_iload C at_290 (v := (0 : Int32)) rfl (pc' := 292) rfl ?_
                            refine g_icmp_n C at_292 (Jvm.Free.XT.ii_ne_f (by decide)) (pc' := 295) rfl ?_
                            refine g_iconst C at_295 (v := (1 : Int32)) rfl (pc' := 296) rfl ?_
                            refine g_goto C at_296 (pc' := 300) (by decide) (by decide) ?_
                            refine g_ret C (v := (.int (1 : Int32))) (ty := .boolean) rfl rfl (Or.inl ⟨rfl, Or.inr (Or.inl rfl), _, rfl⟩) at_300 (by decide) (by decide) ?_
                            rfl
                        · refine g_if_n C at_210 (Jvm.Free.XT.i0_eq_f hb_929) (pc' := 213) rfl ?_
                          refine g_aload C at_213 (v := (.ref a_727)) rfl rfl (pc' := 215) rfl ?_
                          refine g_aload C at_215 (v := (.ref a_679)) rfl rfl (pc' := 217) rfl ?_
                          have f_948 := (f_922.keep K_927 (ninS ne_733 (ninS ne_775 (ninS ne_781 (ninS ne_787 (ninS ne_805 nin0))))))
                          have f_949 := (f_921.keep K_927 (allS ge_a_727 (allS ge_b_759 (allS ge_b_760 (allS ge_b_761 (allS ge_b_764 all0))))))
                          have f_950 := (Nat.le_trans f_923 K_927.1)
                          refine g_virtual C (own_w hw 47 rfl) (own_w hw 48 rfl) (own_w hw 50 rfl) (own_w hw 49 rfl) (own_w hw 3 rfl) (own_w hw 51 rfl) (notFace_of_selects (args := #[]) (mvT C.2.2.2.2.1 (own_w hw 50 rfl))) (by decide) tr_928.1 (rm_end_2WRITE l Z a0 hw n0 a_727 b_759 b_760 b_761 b_762 b_763 b_764 a_679 (0 : Int32) (Int64.toInt32 p4) p4 p2 p3 (0 : Int64) (0 : Int64) [(.long p0), (.long p1)] [(.long p2), (.long p3), (.long (0 : Int64)), (.long (0 : Int64)), (.long (0 : Int64)), (.long (0 : Int64)), (.long (0 : Int64)), (.long (0 : Int64)), (.long (0 : Int64)), (.long (0 : Int64)), (.long (0 : Int64)), (.long (0 : Int64)), (.long (0 : Int64)), (.long (0 : Int64)), (.long (0 : Int64)), (.long (0 : Int64))] e_WRITE e_READ h_924 f_950 tr_928 di_772 ⟨ne_777, ne_783, ne_789, ne_795, ne_801, ne_807⟩ ⟨ge_b_759, ge_b_760, ge_b_761, ge_b_762, ge_b_763, ge_b_764, ge_a_727⟩ f_948 ne_799 ne_733 en f_949) (st := []) [(.ref a_679)] rfl rfl own_pd_6_end rfl rfl (by decide) (W := 0) (Nat.le_of_eq rfl) (by decide) (by decide) (by decide) at_217 (pc' := 220) rfl ?_
                          intro v_953 h_951 q_952
                          obtain ⟨rfl, K_954, tr_955⟩ := q_952
                          show Go B n0 _ h_951 13 62 220 #[.val (.long p0), .second, .val (.long p1), .second, .val (.long p2), .second, .val (.long p3), .second, .val (.long p4), .second, .val (.int p5), .val (.int (2 : Int32)), .val (.int b1), .val (.int b2), .val (.int b3), .val (.int b4), .val (.int b5), .val (.int b6), .val (.ref a_661), .val (.ref a_679), .val (.ref a_701), .val (.ref a_727), .unset, .unset] []
                          refine g_iload C at_220 (v := b4) rfl (pc' := 222) rfl ?_
                          by_cases hb_956 : b4 = (0 : Int32)
                          · refine g_if_y C at_222 (Jvm.Free.XT.i0_eq_t hb_956) (pc' := 232) (by decide) (by decide) ?_
                            refine g_aload C at_232 (v := (.ref a_727)) rfl rfl (pc' := 234) rfl ?_
                            refine g_aload C at_234 (v := (.ref a_701)) rfl rfl (pc' := 236) rfl ?_
                            have f_957 := ((((f_752.keep K_771 (ninS ne_734 nin0)).keep K_815 (ninS ne_734 (ninS ne_794 nin0))).keep K_927 (ninS ne_734 (ninS ne_776 (ninS ne_782 (ninS ne_788 (ninS ne_806 nin0)))))).keep K_954 (ninS ne_734 (ninS ne_800 nin0)))
                            have f_958 := (Nat.le_trans f_950 K_954.1)
                            refine g_virtual C (own_w hw 42 rfl) (own_w hw 43 rfl) (own_w hw 45 rfl) (own_w hw 44 rfl) (own_w hw 3 rfl) (own_w hw 46 rfl) (notFace_of_selects (args := #[]) (mvT C.2.2.2.2.1 (own_w hw 45 rfl))) (by decide) tr_955.1 (rm_sf21 l Z a0 hw n0 a_727 b_759 b_760 b_761 b_762 b_763 b_764 a_701 (1 : Int32) (.ref e_WRITE) (Int64.toInt32 p4) p4 qa qb p0 p1 [(.long p2), (.long p3)] [(.long p2), (.long p3), (.long (0 : Int64)), (.long (0 : Int64)), (.long (0 : Int64)), (.long (0 : Int64)), (.long (0 : Int64)), (.long (0 : Int64)), (.long (0 : Int64)), (.long (0 : Int64)), (.long (0 : Int64)), (.long (0 : Int64)), (.long (0 : Int64)), (.long (0 : Int64)), (.long (0 : Int64)), (.long (0 : Int64))] h_951 f_958 tr_955 f_957) (st := []) [(.ref a_701)] rfl rfl own_pd_7_startsFrom rfl rfl (by decide) (W := 0) (Nat.le_of_eq rfl) (by decide) (by decide) (by decide) at_236 (pc' := 239) rfl ?_
                            intro v_961 h_959 q_960
                            obtain ⟨rfl, rfl⟩ := q_960
                            show Go B n0 _ h_951 13 62 239 #[.val (.long p0), .second, .val (.long p1), .second, .val (.long p2), .second, .val (.long p3), .second, .val (.long p4), .second, .val (.int p5), .val (.int (2 : Int32)), .val (.int b1), .val (.int b2), .val (.int b3), .val (.int b4), .val (.int b5), .val (.int b6), .val (.ref a_661), .val (.ref a_679), .val (.ref a_701), .val (.ref a_727), .unset, .unset] [(.int (sf2 p0 p1 qa qb))]
                            refine g_istore C at_239 (v := (sf2 p0 p1 qa qb)) (L' := #[.val (.long p0), .second, .val (.long p1), .second, .val (.long p2), .second, .val (.long p3), .second, .val (.long p4), .second, .val (.int p5), .val (.int (2 : Int32)), .val (.int b1), .val (.int b2), .val (.int b3), .val (.int b4), .val (.int b5), .val (.int b6), .val (.ref a_661), .val (.ref a_679), .val (.ref a_701), .val (.ref a_727), .val (.int (sf2 p0 p1 qa qb)), .unset]) rfl (pc' := 241) rfl ?_
                            refine g_iload C at_241 (v := b3) rfl (pc' := 243) rfl ?_
                            refine g_if_n C at_243 (Jvm.Free.XT.i0_eq_f hb_929) (pc' := 246) rfl ?_
                            refine g_iload C at_246 (v := b4) rfl (pc' := 248) rfl ?_
                            refine g_if_n C at_248 (Jvm.Free.XT.i0_ne_f hb_956) (pc' := 251) rfl ?_
                            refine g_iload C at_251 (v := (2 : Int32)) rfl (pc' := 253) rfl ?_
                            refine g_iconst C at_253 (v := (1 : Int32)) rfl (pc' := 254) rfl ?_
                            refine g_icmp_n C at_254 (Jvm.Free.XT.ii_lt_f (by decide)) (pc' := 257) rfl ?_
                            refine g_aload C at_257 (v := (.ref a_701)) rfl rfl (pc' := 259) rfl ?_
                            refine g_iconst C at_259 (v := (0 : Int32)) rfl (pc' := 260) rfl ?_
                            refine g_laload C f_957 (by decide) (i := 0) (by decide) (v := qa) rfl at_260 (pc' := 261) rfl ?_
                            refine g_lload_n C at_261 (v := p0) rfl (pc' := 262) rfl ?_
                            refine g_lcmp C (x := qa) (y := p0) at_262 (pc' := 263) rfl ?_
                            by_cases hb_962 : qa = p0
                            · refine g_if_n C at_263 (Jvm.Free.XT.ll_ne_f hb_962) (pc' := 266) rfl ?_
                              refine g_iload C at_266 (v := (2 : Int32)) rfl (pc' := 268) rfl ?_
                              refine g_iconst C at_268 (v := (2 : Int32)) rfl (pc' := 269) rfl ?_
                              refine g_icmp_n C at_269 (Jvm.Free.XT.ii_lt_f (by decide)) (pc' := 272) rfl ?_
                              refine g_aload C at_272 (v := (.ref a_701)) rfl rfl (pc' := 274) rfl ?_
                              refine g_iconst C at_274 (v := (1 : Int32)) rfl (pc' := 275) rfl ?_
                              refine g_laload C f_957 (by decide) (i := 1) (by decide) (v := qb) rfl at_275 (pc' := 276) rfl ?_
                              refine g_lload_n C at_276 (v := p1) rfl (pc' := 277) rfl ?_
                              refine g_lcmp C (x := qb) (y := p1) at_277 (pc' := 278) rfl ?_
                              by_cases hb_963 : qb = p1
                              · refine g_if_n C at_278 (Jvm.Free.XT.ll_ne_f hb_963) (pc' := 281) rfl ?_
                                refine g_iconst C at_281 (v := (1 : Int32)) rfl (pc' := 282) rfl ?_
                                refine g_goto C at_282 (pc' := 286) (by decide) (by decide) ?_
                                refine g_istore C at_286 (v := (1 : Int32)) (L' := #[.val (.long p0), .second, .val (.long p1), .second, .val (.long p2), .second, .val (.long p3), .second, .val (.long p4), .second, .val (.int p5), .val (.int (2 : Int32)), .val (.int b1), .val (.int b2), .val (.int b3), .val (.int b4), .val (.int b5), .val (.int b6), .val (.ref a_661), .val (.ref a_679), .val (.ref a_701), .val (.ref a_727), .val (.int (sf2 p0 p1 qa qb)), .val (.int (1 : Int32))]) rfl (pc' := 288) rfl ?_
                                refine g_iload C at_288 (v := (sf2 p0 p1 qa qb)) rfl (pc' := 290) rfl ?_
                                refine g_iload C at_290 (v := (1 : Int32)) rfl (pc' := 292) rfl ?_
                                refine g_icmp_n C at_292 (Jvm.Free.XT.ii_ne_f (sf2_y (Eq.symm hb_962) (Eq.symm hb_963))) (pc' := 295) rfl ?_
                                refine g_iconst C at_295 (v := (1 : Int32)) rfl (pc' := 296) rfl ?_
                                refine g_goto C at_296 (pc' := 300) (by decide) (by decide) ?_
                                refine g_ret C (v := (.int (1 : Int32))) (ty := .boolean) rfl rfl (Or.inl ⟨rfl, Or.inr (Or.inl rfl), _, rfl⟩) at_300 (by decide) (by decide) ?_
                                rfl
                              · refine g_if_y C at_278 (Jvm.Free.XT.ll_ne_t hb_963) (pc' := 285) (by decide) (by decide) ?_
                                refine g_iconst C at_285 (v := (0 : Int32)) rfl (pc' := 286) rfl ?_
                                refine g_istore C at_286 (v := (0 : Int32)) (L' := #[.val (.long p0), .second, .val (.long p1), .second, .val (.long p2), .second, .val (.long p3), .second, .val (.long p4), .second, .val (.int p5), .val (.int (2 : Int32)), .val (.int b1), .val (.int b2), .val (.int b3), .val (.int b4), .val (.int b5), .val (.int b6), .val (.ref a_661), .val (.ref a_679), .val (.ref a_701), .val (.ref a_727), .val (.int (sf2 p0 p1 qa qb)), .val (.int (0 : Int32))]) rfl (pc' := 288) rfl ?_
                                refine g_iload C at_288 (v := (sf2 p0 p1 qa qb)) rfl (pc' := 290) rfl ?_
                                refine g_iload C at_290 (v := (0 : Int32)) rfl (pc' := 292) rfl ?_
                                refine g_icmp_n C at_292 (Jvm.Free.XT.ii_ne_f (sf2_b (fun q => hb_963 (Eq.symm q)))) (pc' := 295) rfl ?_
                                refine g_iconst C at_295 (v := (1 : Int32)) rfl (pc' := 296) rfl ?_
                                refine g_goto C at_296 (pc' := 300) (by decide) (by decide) ?_
                                refine g_ret C (v := (.int (1 : Int32))) (ty := .boolean) rfl rfl (Or.inl ⟨rfl, Or.inr (Or.inl rfl), _, rfl⟩) at_300 (by decide) (by decide) ?_
                                rfl
                            · refine g_if_y C at_263 (Jvm.Free.XT.ll_ne_t hb_962) (pc' := 285) (by decide) (by decide) ?_
                              refine g_iconst C at_285 (v := (0 : Int32)) rfl (pc' := 286) rfl ?_
                              refine g_istore C at_286 (v := (0 : Int32)) (L' := #[.val (.long p0), .second, .val (.long p1), .second, .val (.long p2), .second, .val (.long p3), .second, .val (.long p4), .second, .val (.int p5), .val (.int (2 : Int32)), .val (.int b1), .val (.int b2), .val (.int b3), .val (.int b4), .val (.int b5), .val (.int b6), .val (.ref a_661), .val (.ref a_679), .val (.ref a_701), .val (.ref a_727), .val (.int (sf2 p0 p1 qa qb)), .val (.int (0 : Int32))]) rfl (pc' := 288) rfl ?_
                              refine g_iload C at_288 (v := (sf2 p0 p1 qa qb)) rfl (pc' := 290) rfl ?_
                              refine g_iload C at_290 (v := (0 : Int32)) rfl (pc' := 292) rfl ?_
                              refine g_icmp_n C at_292 (Jvm.Free.XT.ii_ne_f (sf2_a (fun q => hb_962 (Eq.symm q)))) (pc' := 295) rfl ?_
                              refine g_iconst C at_295 (v := (1 : Int32)) rfl (pc' := 296) rfl ?_
                              refine g_goto C at_296 (pc' := 300) (by decide) (by decide) ?_
                              refine g_ret C (v := (.int (1 : Int32))) (ty := .boolean) rfl rfl (Or.inl ⟨rfl, Or.inr (Or.inl rfl), _, rfl⟩) at_300 (by decide) (by decide) ?_
                              rfl
                          · refine g_if_n C at_222 (Jvm.Free.XT.i0_eq_f hb_956) (pc' := 225) rfl ?_
                            refine g_aload C at_225 (v := (.ref a_727)) rfl rfl (pc' := 227) rfl ?_
                            refine g_aload C at_227 (v := (.ref a_661)) rfl rfl (pc' := 229) rfl ?_
                            have f_964 := (((f_810.keep K_815 (ninS ne_732 (ninS ne_792 nin0))).keep K_927 (ninS ne_732 (ninS ne_774 (ninS ne_780 (ninS ne_786 (ninS ne_804 nin0)))))).keep K_954 (ninS ne_732 (ninS ne_798 nin0)))
                            have f_965 := (Nat.le_trans f_950 K_954.1)
                            refine g_virtual C (own_w hw 29 rfl) (own_w hw 30 rfl) (own_w hw 32 rfl) (own_w hw 31 rfl) (own_w hw 3 rfl) (own_w hw 33 rfl) (notFace_of_selects (args := #[]) (mvT C.2.2.2.2.1 (own_w hw 32 rfl))) (by decide) tr_955.1 (rm_begin2 l Z a0 hw n0 a_727 b_759 b_760 b_761 b_762 b_763 b_764 a_661 (1 : Int32) (1 : Int32) (.ref e_WRITE) (Int64.toInt32 p4) p4 p0 p1 p0 p1 [(.long p2), (.long p3)] [(.long p2), (.long p3), (.long (0 : Int64)), (.long (0 : Int64)), (.long (0 : Int64)), (.long (0 : Int64)), (.long (0 : Int64)), (.long (0 : Int64)), (.long (0 : Int64)), (.long (0 : Int64)), (.long (0 : Int64)), (.long (0 : Int64)), (.long (0 : Int64)), (.long (0 : Int64)), (.long (0 : Int64)), (.long (0 : Int64))] h_951 f_965 tr_955 di_772 ⟨ne_777, ne_783, ne_789, ne_795, ne_801, ne_807⟩ ⟨ge_b_759, ge_b_760, ge_b_761, ge_b_762, ge_b_763, ge_b_764, ge_a_727⟩ f_964 ne_792 ne_732) (st := []) [(.ref a_661)] rfl rfl own_pd_6_begin rfl rfl (by decide) (W := 0) (Nat.le_of_eq rfl) (by decide) (by decide) (by decide) at_229 (pc' := 232) rfl ?_
                            intro v_968 h_966 q_967
                            obtain ⟨rfl, K_969, tr_970⟩ := q_967
                            show Go B n0 _ h_966 13 62 232 #[.val (.long p0), .second, .val (.long p1), .second, .val (.long p2), .second, .val (.long p3), .second, .val (.long p4), .second, .val (.int p5), .val (.int (2 : Int32)), .val (.int b1), .val (.int b2), .val (.int b3), .val (.int b4), .val (.int b5), .val (.int b6), .val (.ref a_661), .val (.ref a_679), .val (.ref a_701), .val (.ref a_727), .unset, .unset] []
                            refine g_aload C at_232 (v := (.ref a_727)) rfl rfl (pc' := 234) rfl ?_
                            refine g_aload C at_234 (v := (.ref a_701)) rfl rfl (pc' := 236) rfl ?_
                            have f_971 := (((((f_752.keep K_771 (ninS ne_734 nin0)).keep K_815 (ninS ne_734 (ninS ne_794 nin0))).keep K_927 (ninS ne_734 (ninS ne_776 (ninS ne_782 (ninS ne_788 (ninS ne_806 nin0)))))).keep K_954 (ninS ne_734 (ninS ne_800 nin0))).keep K_969 (ninS ne_734 (ninS ne_794 nin0)))
                            have f_972 := (Nat.le_trans f_965 K_969.1)
                            refine g_virtual C (own_w hw 42 rfl) (own_w hw 43 rfl) (own_w hw 45 rfl) (own_w hw 44 rfl) (own_w hw 3 rfl) (own_w hw 46 rfl) (notFace_of_selects (args := #[]) (mvT C.2.2.2.2.1 (own_w hw 45 rfl))) (by decide) tr_970.1 (rm_sf20 l Z a0 hw n0 a_727 b_759 b_760 b_761 b_762 b_763 b_764 a_701 (0 : Int32) (.ref e_WRITE) (Int64.toInt32 p4) p4 qa qb p0 p1 [(.long p2), (.long p3)] [(.long p2), (.long p3), (.long (0 : Int64)), (.long (0 : Int64)), (.long (0 : Int64)), (.long (0 : Int64)), (.long (0 : Int64)), (.long (0 : Int64)), (.long (0 : Int64)), (.long (0 : Int64)), (.long (0 : Int64)), (.long (0 : Int64)), (.long (0 : Int64)), (.long (0 : Int64)), (.long (0 : Int64)), (.long (0 : Int64))] h_966 f_972 tr_970 f_971) (st := []) [(.ref a_701)] rfl rfl own_pd_7_startsFrom rfl rfl (by decide) (W := 0) (Nat.le_of_eq rfl) (by decide) (by decide) (by decide) at_236 (pc' := 239) rfl ?_
                            intro v_975 h_973 q_974
                            obtain ⟨rfl, rfl⟩ := q_974
                            show Go B n0 _ h_966 13 62 239 #[.val (.long p0), .second, .val (.long p1), .second, .val (.long p2), .second, .val (.long p3), .second, .val (.long p4), .second, .val (.int p5), .val (.int (2 : Int32)), .val (.int b1), .val (.int b2), .val (.int b3), .val (.int b4), .val (.int b5), .val (.int b6), .val (.ref a_661), .val (.ref a_679), .val (.ref a_701), .val (.ref a_727), .unset, .unset] [(.int (0 : Int32))]
                            refine g_istore C at_239 (v := (0 : Int32)) (L' := #[.val (.long p0), .second, .val (.long p1), .second, .val (.long p2), .second, .val (.long p3), .second, .val (.long p4), .second, .val (.int p5), .val (.int (2 : Int32)), .val (.int b1), .val (.int b2), .val (.int b3), .val (.int b4), .val (.int b5), .val (.int b6), .val (.ref a_661), .val (.ref a_679), .val (.ref a_701), .val (.ref a_727), .val (.int (0 : Int32)), .unset]) rfl (pc' := 241) rfl ?_
                            refine g_iload C at_241 (v := b3) rfl (pc' := 243) rfl ?_
                            refine g_if_n C at_243 (Jvm.Free.XT.i0_eq_f hb_929) (pc' := 246) rfl ?_
                            refine g_iload C at_246 (v := b4) rfl (pc' := 248) rfl ?_
                            refine g_if_y C at_248 (Jvm.Free.XT.i0_ne_t hb_956) (pc' := 285) (by decide) (by decide) ?_
                            refine g_iconst C at_285 (v := (0 : Int32)) rfl (pc' := 286) rfl ?_
                            refine g_istore C at_286 (v := (0 : Int32)) (L' := #[.val (.long p0), .second, .val (.long p1), .second, .val (.long p2), .second, .val (.long p3), .second, .val (.long p4), .second, .val (.int p5), .val (.int (2 : Int32)), .val (.int b1), .val (.int b2), .val (.int b3), .val (.int b4), .val (.int b5), .val (.int b6), .val (.ref a_661), .val (.ref a_679), .val (.ref a_701), .val (.ref a_727), .val (.int (0 : Int32)), .val (.int (0 : Int32))]) rfl (pc' := 288) rfl ?_
                            refine g_iload C at_288 (v := (0 : Int32)) rfl (pc' := 290) rfl ?_
                            refine g_iload C at_290 (v := (0 : Int32)) rfl (pc' := 292) rfl ?_
                            refine g_icmp_n C at_292 (Jvm.Free.XT.ii_ne_f (by decide)) (pc' := 295) rfl ?_
                            refine g_iconst C at_295 (v := (1 : Int32)) rfl (pc' := 296) rfl ?_
                            refine g_goto C at_296 (pc' := 300) (by decide) (by decide) ?_
                            refine g_ret C (v := (.int (1 : Int32))) (ty := .boolean) rfl rfl (Or.inl ⟨rfl, Or.inr (Or.inl rfl), _, rfl⟩) at_300 (by decide) (by decide) ?_
                            rfl
                  refine g_iload C at_145 (v := b2) rfl (pc' := 147) rfl ?_
                  by_cases hb_976 : b2 = (0 : Int32)
                  · refine g_if_y C at_147 (Jvm.Free.XT.i0_eq_t hb_976) (pc' := 154) (by decide) (by decide) ?_
                    refine g_lload C at_154 (v := p3) rfl (pc' := 156) rfl ?_
                    exact t_717 p3
                  · refine g_if_n C at_147 (Jvm.Free.XT.i0_eq_f hb_976) (pc' := 150) rfl ?_
                    refine g_lload_n C at_150 (v := p1) rfl (pc' := 151) rfl ?_
                    refine g_goto C at_151 (pc' := 156) (by decide) (by decide) ?_
                    exact t_717 p1
                refine g_iload C at_131 (v := b1) rfl (pc' := 133) rfl ?_
                by_cases hb_977 : b1 = (0 : Int32)
                · refine g_if_y C at_133 (Jvm.Free.XT.i0_eq_t hb_977) (pc' := 140) (by decide) (by decide) ?_
                  refine g_lload C at_140 (v := p2) rfl (pc' := 142) rfl ?_
                  exact t_712 p2
                · refine g_if_n C at_133 (Jvm.Free.XT.i0_eq_f hb_977) (pc' := 136) rfl ?_
                  refine g_lload_n C at_136 (v := p0) rfl (pc' := 137) rfl ?_
                  refine g_goto C at_137 (pc' := 142) (by decide) (by decide) ?_
                  exact t_712 p0
              refine g_iload C at_82 (v := p5) rfl (pc' := 84) rfl ?_
              refine g_sipush C at_84 (v := (128 : Int32)) rfl (pc' := 87) rfl ?_
              refine g_iand C (x := p5) (y := (128 : Int32)) at_87  (pc' := 88) rfl ?_
              by_cases hb_978 : (p5 &&& (128 : Int32)) = (0 : Int32)
              · refine g_if_y C at_88 (Jvm.Free.XT.i0_eq_t hb_978) (pc' := 95) (by decide) (by decide) ?_
                refine g_iconst C at_95 (v := (0 : Int32)) rfl (pc' := 96) rfl ?_
                exact t_659 (0 : Int32)
              · refine g_if_n C at_88 (Jvm.Free.XT.i0_eq_f hb_978) (pc' := 91) rfl ?_
                refine g_iconst C at_91 (v := (1 : Int32)) rfl (pc' := 92) rfl ?_
                refine g_goto C at_92 (pc' := 96) (by decide) (by decide) ?_
                exact t_659 (1 : Int32)
            refine g_iload C at_67 (v := p5) rfl (pc' := 69) rfl ?_
            refine g_bipush C at_69 (v := (64 : Int32)) rfl (pc' := 71) rfl ?_
            refine g_iand C (x := p5) (y := (64 : Int32)) at_71  (pc' := 72) rfl ?_
            by_cases hb_979 : (p5 &&& (64 : Int32)) = (0 : Int32)
            · refine g_if_y C at_72 (Jvm.Free.XT.i0_eq_t hb_979) (pc' := 79) (by decide) (by decide) ?_
              refine g_iconst C at_79 (v := (0 : Int32)) rfl (pc' := 80) rfl ?_
              exact t_658 (0 : Int32)
            · refine g_if_n C at_72 (Jvm.Free.XT.i0_eq_f hb_979) (pc' := 75) rfl ?_
              refine g_iconst C at_75 (v := (1 : Int32)) rfl (pc' := 76) rfl ?_
              refine g_goto C at_76 (pc' := 80) (by decide) (by decide) ?_
              exact t_658 (1 : Int32)
          refine g_iload C at_52 (v := p5) rfl (pc' := 54) rfl ?_
          refine g_bipush C at_54 (v := (32 : Int32)) rfl (pc' := 56) rfl ?_
          refine g_iand C (x := p5) (y := (32 : Int32)) at_56  (pc' := 57) rfl ?_
          by_cases hb_980 : (p5 &&& (32 : Int32)) = (0 : Int32)
          · refine g_if_y C at_57 (Jvm.Free.XT.i0_eq_t hb_980) (pc' := 64) (by decide) (by decide) ?_
            refine g_iconst C at_64 (v := (0 : Int32)) rfl (pc' := 65) rfl ?_
            exact t_657 (0 : Int32)
          · refine g_if_n C at_57 (Jvm.Free.XT.i0_eq_f hb_980) (pc' := 60) rfl ?_
            refine g_iconst C at_60 (v := (1 : Int32)) rfl (pc' := 61) rfl ?_
            refine g_goto C at_61 (pc' := 65) (by decide) (by decide) ?_
            exact t_657 (1 : Int32)
        refine g_iload C at_37 (v := p5) rfl (pc' := 39) rfl ?_
        refine g_bipush C at_39 (v := (16 : Int32)) rfl (pc' := 41) rfl ?_
        refine g_iand C (x := p5) (y := (16 : Int32)) at_41  (pc' := 42) rfl ?_
        by_cases hb_981 : (p5 &&& (16 : Int32)) = (0 : Int32)
        · refine g_if_y C at_42 (Jvm.Free.XT.i0_eq_t hb_981) (pc' := 49) (by decide) (by decide) ?_
          refine g_iconst C at_49 (v := (0 : Int32)) rfl (pc' := 50) rfl ?_
          exact t_656 (0 : Int32)
        · refine g_if_n C at_42 (Jvm.Free.XT.i0_eq_f hb_981) (pc' := 45) rfl ?_
          refine g_iconst C at_45 (v := (1 : Int32)) rfl (pc' := 46) rfl ?_
          refine g_goto C at_46 (pc' := 50) (by decide) (by decide) ?_
          exact t_656 (1 : Int32)
      refine g_iload C at_22 (v := p5) rfl (pc' := 24) rfl ?_
      refine g_bipush C at_24 (v := (8 : Int32)) rfl (pc' := 26) rfl ?_
      refine g_iand C (x := p5) (y := (8 : Int32)) at_26  (pc' := 27) rfl ?_
      by_cases hb_982 : (p5 &&& (8 : Int32)) = (0 : Int32)
      · refine g_if_y C at_27 (Jvm.Free.XT.i0_eq_t hb_982) (pc' := 34) (by decide) (by decide) ?_
        refine g_iconst C at_34 (v := (0 : Int32)) rfl (pc' := 35) rfl ?_
        exact t_655 (0 : Int32)
      · refine g_if_n C at_27 (Jvm.Free.XT.i0_eq_f hb_982) (pc' := 30) rfl ?_
        refine g_iconst C at_30 (v := (1 : Int32)) rfl (pc' := 31) rfl ?_
        refine g_goto C at_31 (pc' := 35) (by decide) (by decide) ?_
        exact t_655 (1 : Int32)
    refine g_iconst C at_10 (v := (4 : Int32)) rfl (pc' := 11) rfl ?_
    refine g_iand C (x := p5) (y := (4 : Int32)) at_11  (pc' := 12) rfl ?_
    by_cases hb_983 : (p5 &&& (4 : Int32)) = (0 : Int32)
    · refine g_if_y C at_12 (Jvm.Free.XT.i0_eq_t hb_983) (pc' := 19) (by decide) (by decide) ?_
      refine g_iconst C at_19 (v := (0 : Int32)) rfl (pc' := 20) rfl ?_
      exact t_654 (0 : Int32)
    · refine g_if_n C at_12 (Jvm.Free.XT.i0_eq_f hb_983) (pc' := 15) rfl ?_
      refine g_iconst C at_15 (v := (1 : Int32)) rfl (pc' := 16) rfl ?_
      refine g_goto C at_16 (pc' := 20) (by decide) (by decide) ?_
      exact t_654 (1 : Int32)
set_option maxRecDepth 65536 in
set_option maxHeartbeats 40000000 in
theorem comes_1 {Post : Tables → Env → Array Value → State → Outcome → State → Prop} (hpost : ∀ tb e args s v u, (limb_1_1.after args s (.returned v) u = true ∧ limb_1_2.after args s (.returned v) u = true ∧ True) → FrameEnd s (.returned v) u (Jvm.fieldLocs frame_1_writes args s ++ Jvm.arrayLocs frame_1_arrays args s ++ Jvm.staticLocs frame_1_statics s) 40 192 → Post tb e args s (.returned v) u) :
    ArmFor flags0 classFile x code maxLocals ret World_1 tables_1 room_1 Calls_1 rest_1 Pre_1 Post := by
  intro l hfl _ _ p e ha hc hk s m args below hf hA hF happ hP
  obtain ⟨hcalls, hrest, hpre⟩ := hP
  obtain ⟨-, -, -, hnamed, -, -, -, hat⟩ := (Spec.applies_iff hf).mp happ
  obtain ⟨hg, hn⟩ := and_e (Cond.before_iff.mp (show (Jvm.Cond.and given_1 narrow_1).before args s = true from hpre))
  obtain ⟨gc, gr0⟩ := and_e hg
  obtain ⟨ga0, gr1⟩ := and_e gr0
  obtain ⟨ga1, gr2⟩ := and_e gr1
  obtain ⟨ga2, gr3⟩ := and_e gr2
  obtain ⟨ga3, gr4⟩ := and_e gr3
  obtain ⟨ga4, gr5⟩ := and_e gr4
  obtain ⟨w0, w1, w2, w3, w4, w5, rfl⟩ : ∃ w0 w1 w2 w3 w4 w5 : Value, args = #[w0, w1, w2, w3, w4, w5] := by
    have hs : args.size = 6 := by simpa [Cond.value, given_1] using gc
    obtain ⟨L⟩ := args
    match L, hs with
    | [w0, w1, w2, w3, w4, w5], _ => exact ⟨w0, w1, w2, w3, w4, w5, rfl⟩
  have hw := fun d (hd : d ∈ tables_1) => atoms_spec (ws := Jvm.Cond.code x code maxLocals ret :: tables_1) hat d (List.mem_cons_of_mem _ hd)
  have hfit : Fit s := fun {y c} hc i hi => by
    obtain ⟨ha, rfl⟩ := Array.getElem?_eq_some_iff.mp hc
    have q := List.all_eq_true.mp ((Array.all_eq_true_iff_forall_mem.mp hF) _ (Array.getElem_mem ha)) i (List.mem_range.mpr hi)
    simpa [Array.getElem?_eq_getElem hi] using q
  obtain ⟨i0, ei0⟩ := isL_v ga0
  obtain rfl : w0 = (.long i0) := Option.some.inj ei0
  obtain ⟨i1, ei1⟩ := isL_v ga1
  obtain rfl : w1 = (.long i1) := Option.some.inj ei1
  obtain ⟨i2, ei2⟩ := isL_v ga2
  obtain rfl : w2 = (.long i2) := Option.some.inj ei2
  obtain ⟨i3, ei3⟩ := isL_v ga3
  obtain rfl : w3 = (.long i3) := Option.some.inj ei3
  obtain ⟨i4, ei4⟩ := isL_v ga4
  obtain rfl : w4 = (.long i4) := Option.some.inj ei4
  obtain ⟨i5, ei5⟩ := is_v gr5
  obtain rfl : w5 = (.int i5) := Option.some.inj ei5
  obtain ⟨nq0, nr0⟩ := and_e hn
  obtain ⟨nq1, nr1⟩ := and_e nr0
  obtain ⟨nq2, nr2⟩ := and_e nr1
  obtain ⟨e_WRITE, S_WRITE, X_WRITE, v_WRITE⟩ := own_const nq0 (own_w hw 66 rfl) (own_w hw 67 rfl)
  obtain ⟨e_READ, S_READ, X_READ, v_READ⟩ := own_const nq1 (own_w hw 66 rfl) (own_w hw 84 rfl)
  have en : Ens s e_WRITE e_READ := ⟨⟨S_WRITE, X_WRITE, own_fint v_WRITE nr2⟩, ⟨S_READ, X_READ, own_fint v_READ nq2⟩⟩
  obtain ⟨n, o, h1, h2, h3, _, L, rfl, ⟨N, rfl⟩, hq⟩ := rm_law l s _ hw s.heap.size i0 i1 i2 i3 i4 i5 e_WRITE e_READ s.heap (Nat.le_refl _) en (Old.start s) tables_1 p e ha hc hk s m _ below hf ((Spec.applies_iff_loose hf).mp happ).1 ⟨rfl, State.Warmed39.refl s, rfl⟩ trivial
  refine ⟨n, _, h1, h2, h3, hpost _ _ _ _ _ _ ⟨Cond.after_iff.mpr rfl, Cond.after_iff.mpr (eq_i res_at (Term.int_eval (1)) rfl), trivial⟩ ⟨hq.1, hq.2.1, (hq.2.2.sift fun y hy => Or.inr (N y hy)).mono (by decide) (by decide)⟩⟩
theorem main_1_1 : Claimed_1_1 := comes_1 fun _ _ _ _ _ _ h hF => ⟨h.1, hF⟩
theorem main_1_2 : Claimed_1_2 := comes_1 fun _ _ _ _ _ _ h hF => ⟨h.2.1, hF⟩
end Jvm.Pilot.@@N@@
namespace Jvm.Pilot.@@N@@
open Jvm Jvm.ClassFile Sem Op Lib Jvm.Free Jvm.Stand Jvm.Pilot.@@N@@.Jvm.D
/-! MADE BY PROGRAM (witnessworld.py) out of the Statement's table words and the real class files: 20 classes; the members and pool entries that the words name. The judged class is class 1, her method 1. -/
namespace start1
open Jvm.ClassFile
def u (s : String) : CpInfo := .utf8 (stringToUtf16 s)
/-- a pool by its gaps: so many unusable entries, then the entry; so many at the end -/
def gap : Nat → List CpInfo → List CpInfo
  | 0, r => r
  | n + 1, r => .unusable :: gap n r
def poolList (es : List (Nat × CpInfo)) (last : Nat) : List CpInfo := es.foldr (fun e r => gap e.1 (e.2 :: r)) (gap last [])
def pool (es : List (Nat × CpInfo)) (last : Nat) : Array CpInfo := ⟨poolList es last⟩
def fileOf (pool : Array CpInfo) (this : Nat) (attrs : Array Attribute := #[]) (ms : Array MethodInfo := #[]) (fl : Nat := 33) (sup : Nat := 0) (ifs : Array Nat := #[]) (fds : Array FieldInfo := #[]) : ClassFile where
  minorVersion := 0
  majorVersion := 65
  constantPool := pool
  accessFlags := fl
  thisClass := this
  superClass := sup
  interfaces := ifs
  fields := fds
  methods := ms
  attributes := attrs
def plain (name : String) (sup : Option ClassId) : Class where
  name := name
  kind := .ordinary
  loader := none
  accessFlags := 33
  super := sup
  interfaces := #[]
  cf := none
  fields := #[]
  methods := #[]
  instanceTypes := #[]
  staticTypes := #[]
  resolved := #[]
  callSites := []
  init := .initialized
  statics := none
  mirror := none

def pool0 : Array CpInfo := pool [(5, u "<init>"), (0, u "()V"), (1, .class_ 10), (1, u "java/lang/Object"), (85, u "clone"), (0, u "()Ljava/lang/Object;")] 26

def k0c0 : Code := { maxStack := 0, maxLocals := 1, code := object_method_1_code, exceptionTable := #[], attributes := #[] }
def k0m0 : Method := { name := "<init>", desc := "()V", sig := { parameters := [], returnType := none }, accessFlags := 1, code := some k0c0 }
def k0m1 : Method := { name := "clone", desc := "()Ljava/lang/Object;", sig := { parameters := [], returnType := some (.object "java/lang/Object") }, accessFlags := 260, code := none }
/-- java/lang/Object -/
def k0 : Class := { plain "java/lang/Object" none with
  accessFlags := 33
  interfaces := #[]
  cf := some (fileOf pool0 8 #[] #[{ accessFlags := 1, nameIndex := 5, descriptorIndex := 6, attributes := #[] }, { accessFlags := 260, nameIndex := 96, descriptorIndex := 97, attributes := #[] }] 33 0 #[] #[])
  fields := #[]
  methods := #[k0m0, k0m1]
  instanceTypes := #[]
  staticTypes := #[]
  resolved := Array.replicate 124 none
  statics := none }

def pool1 : Array CpInfo := pool [(2, .class_ 4), (1, u "java/lang/Object"), (0, u "<init>"), (0, u "()V"), (0, .class_ 8), (0, u "com/example/vestalia/vestalia/locks/StepTrace"), (0, .methodref 7 10), (0, .nameAndType 5 11), (0, u "(I)V"), (0, .methodref 7 13), (0, .nameAndType 14 15), (0, u "begin"), (0, u "([J)V"), (0, .fieldref 17 18), (0, .class_ 19), (0, .nameAndType 20 21), (0, u "com/example/vestalia/vestalia/model/Step$Kind"), (0, u "WRITE"), (0, u "Lcom/example/vestalia/vestalia/model/Step$Kind;"), (0, .fieldref 17 23), (0, .nameAndType 24 21), (0, u "READ"), (0, .methodref 7 26), (0, .nameAndType 27 28), (0, u "add"), (0, u "([JLcom/example/vestalia/vestalia/model/Step$Kind;IJ)V"), (0, .methodref 7 30), (0, .nameAndType 31 15), (0, u "end"), (0, .methodref 7 33), (0, .nameAndType 34 35), (0, u "startsFrom"), (0, u "([J)Z"), (0, .class_ 37), (0, u "com/example/vestalia/vestalia/locks/StepTraceStartsFromPinLaw"), (2, u "law"), (0, u "(JJJJJI)Z")] 9

def k1m0 : Method := { name := "<init>", desc := "()V", sig := { parameters := [], returnType := none }, accessFlags := 1, code := none }
def k1c1 : Code := { maxStack := 6, maxLocals := 24, code := code, exceptionTable := #[], attributes := #[] }
def k1m1 : Method := { name := "law", desc := "(JJJJJI)Z", sig := { parameters := [.long, .long, .long, .long, .long, .int], returnType := some .boolean }, accessFlags := 9, code := some k1c1 }
/-- com/example/vestalia/vestalia/locks/StepTraceStartsFromPinLaw -/
def k1 : Class := { plain "com/example/vestalia/vestalia/locks/StepTraceStartsFromPinLaw" (some 0) with
  accessFlags := 49
  interfaces := #[]
  cf := some (fileOf pool1 36 #[] #[{ accessFlags := 1, nameIndex := 5, descriptorIndex := 6, attributes := #[] }, { accessFlags := 9, nameIndex := 40, descriptorIndex := 41, attributes := #[] }] 49 2 #[] #[])
  fields := #[]
  methods := #[k1m0, k1m1]
  instanceTypes := #[]
  staticTypes := #[]
  resolved := Array.replicate 51 none
  statics := none }

def pool2 : Array CpInfo := pool [(1, .methodref 2 3), (0, .class_ 4), (0, .nameAndType 5 6), (0, u "java/lang/Object"), (0, u "<init>"), (0, u "()V"), (0, .class_ 8), (0, u "com/example/vestalia/vestalia/model/Step$Kind"), (0, .fieldref 10 11), (0, .class_ 12), (0, .nameAndType 13 14), (0, u "com/example/vestalia/vestalia/locks/StepTrace"), (0, u "kinds"), (0, u "[Lcom/example/vestalia/vestalia/model/Step$Kind;"), (0, .fieldref 10 16), (0, .nameAndType 17 18), (0, u "slots"), (0, u "[I"), (0, .fieldref 10 20), (0, .nameAndType 21 22), (0, u "values"), (0, u "[J"), (0, .fieldref 10 24), (0, .nameAndType 25 18), (0, u "written"), (0, .fieldref 10 27), (0, .nameAndType 28 29), (0, u "width"), (0, u "I"), (0, .fieldref 10 31), (0, .nameAndType 32 22), (0, u "start"), (0, .fieldref 10 34), (0, .nameAndType 35 22), (0, u "end"), (0, .fieldref 10 37), (0, .nameAndType 38 22), (0, u "before"), (0, .fieldref 10 40), (0, .nameAndType 41 42), (0, u "whole"), (0, u "Z"), (0, .methodref 44 45), (0, .class_ 46), (0, .nameAndType 47 48), (0, u "java/lang/System"), (0, u "arraycopy"), (0, u "(Ljava/lang/Object;ILjava/lang/Object;II)V"), (0, .fieldref 10 50), (0, .nameAndType 51 29), (0, u "length"), (0, .methodref 10 53), (0, .nameAndType 54 55), (0, u "add"), (0, u "([JILcom/example/vestalia/vestalia/model/Step$Kind;IJ)V"), (0, .fieldref 7 57), (0, .nameAndType 58 59), (0, u "WRITE"), (0, u "Lcom/example/vestalia/vestalia/model/Step$Kind;"), (0, .methodref 61 62), (0, .class_ 63), (0, .nameAndType 64 65), (0, u "com/example/vestalia/vestalia/locks/SharedRegisters"), (0, u "contains"), (0, u "([III)Z"), (0, .methodref 67 68), (0, .class_ 69), (0, .nameAndType 70 71), (0, u "java/util/Arrays"), (0, u "copyOf"), (0, u "([II)[I"), (10, u "(I)V"), (2, u "startsFrom"), (0, u "([J)Z"), (1, u "begin"), (0, u "([J)V"), (2, u "([JLcom/example/vestalia/vestalia/model/Step$Kind;IJ)V")] 16

def k2c0 : Code := { maxStack := 3, maxLocals := 2, code := prog_32_method_1_code, exceptionTable := #[], attributes := #[] }
def k2m0 : Method := { name := "<init>", desc := "(I)V", sig := { parameters := [.int], returnType := none }, accessFlags := 0, code := some k2c0 }
def k2c1 : Code := { maxStack := 4, maxLocals := 3, code := prog_32_method_2_code, exceptionTable := #[], attributes := #[] }
def k2m1 : Method := { name := "startsFrom", desc := "([J)Z", sig := { parameters := [(.array .long)], returnType := some .boolean }, accessFlags := 0, code := some k2c1 }
def k2c2 : Code := { maxStack := 5, maxLocals := 2, code := prog_32_method_3_code, exceptionTable := #[], attributes := #[] }
def k2m2 : Method := { name := "begin", desc := "([J)V", sig := { parameters := [(.array .long)], returnType := none }, accessFlags := 0, code := some k2c2 }
def k2c3 : Code := { maxStack := 7, maxLocals := 6, code := prog_32_method_5_code, exceptionTable := #[], attributes := #[] }
def k2m3 : Method := { name := "add", desc := "([JLcom/example/vestalia/vestalia/model/Step$Kind;IJ)V", sig := { parameters := [(.array .long), (.object "com/example/vestalia/vestalia/model/Step$Kind"), .int, .long], returnType := none }, accessFlags := 0, code := some k2c3 }
def k2c4 : Code := { maxStack := 5, maxLocals := 5, code := prog_32_method_6_code, exceptionTable := #[], attributes := #[] }
def k2m4 : Method := { name := "end", desc := "([J)V", sig := { parameters := [(.array .long)], returnType := none }, accessFlags := 0, code := some k2c4 }
def k2c5 : Code := { maxStack := 5, maxLocals := 7, code := prog_32_method_15_code, exceptionTable := #[], attributes := #[] }
def k2m5 : Method := { name := "add", desc := "([JILcom/example/vestalia/vestalia/model/Step$Kind;IJ)V", sig := { parameters := [(.array .long), .int, (.object "com/example/vestalia/vestalia/model/Step$Kind"), .int, .long], returnType := none }, accessFlags := 2, code := some k2c5 }
/-- com/example/vestalia/vestalia/locks/StepTrace -/
def k2 : Class := { plain "com/example/vestalia/vestalia/locks/StepTrace" (some 0) with
  accessFlags := 48
  interfaces := #[]
  cf := some (fileOf pool2 10 #[] #[{ accessFlags := 0, nameIndex := 5, descriptorIndex := 82, attributes := #[] }, { accessFlags := 0, nameIndex := 85, descriptorIndex := 86, attributes := #[] }, { accessFlags := 0, nameIndex := 88, descriptorIndex := 89, attributes := #[] }, { accessFlags := 0, nameIndex := 54, descriptorIndex := 92, attributes := #[] }, { accessFlags := 0, nameIndex := 35, descriptorIndex := 89, attributes := #[] }, { accessFlags := 2, nameIndex := 54, descriptorIndex := 55, attributes := #[] }] 48 2 #[] #[{ accessFlags := 18, nameIndex := 28, descriptorIndex := 29, attributes := #[] }, { accessFlags := 18, nameIndex := 32, descriptorIndex := 22, attributes := #[] }, { accessFlags := 18, nameIndex := 35, descriptorIndex := 22, attributes := #[] }, { accessFlags := 2, nameIndex := 41, descriptorIndex := 42, attributes := #[] }, { accessFlags := 2, nameIndex := 51, descriptorIndex := 29, attributes := #[] }, { accessFlags := 2, nameIndex := 13, descriptorIndex := 14, attributes := #[] }, { accessFlags := 2, nameIndex := 17, descriptorIndex := 18, attributes := #[] }, { accessFlags := 2, nameIndex := 21, descriptorIndex := 22, attributes := #[] }, { accessFlags := 2, nameIndex := 38, descriptorIndex := 22, attributes := #[] }, { accessFlags := 2, nameIndex := 25, descriptorIndex := 18, attributes := #[] }])
  fields := #[{ name := "width", type := .int, accessFlags := 18, slot := 0, constantValue := 0 }, { name := "start", type := (.array .long), accessFlags := 18, slot := 1, constantValue := 0 }, { name := "end", type := (.array .long), accessFlags := 18, slot := 2, constantValue := 0 }, { name := "whole", type := .boolean, accessFlags := 2, slot := 3, constantValue := 0 }, { name := "length", type := .int, accessFlags := 2, slot := 4, constantValue := 0 }, { name := "kinds", type := (.array (.object "com/example/vestalia/vestalia/model/Step$Kind")), accessFlags := 2, slot := 5, constantValue := 0 }, { name := "slots", type := (.array .int), accessFlags := 2, slot := 6, constantValue := 0 }, { name := "values", type := (.array .long), accessFlags := 2, slot := 7, constantValue := 0 }, { name := "before", type := (.array .long), accessFlags := 2, slot := 8, constantValue := 0 }, { name := "written", type := (.array .int), accessFlags := 2, slot := 9, constantValue := 0 }]
  methods := #[k2m0, k2m1, k2m2, k2m3, k2m4, k2m5]
  instanceTypes := #[.int, (.array .long), (.array .long), .boolean, .int, (.array (.object "com/example/vestalia/vestalia/model/Step$Kind")), (.array .int), (.array .long), (.array .long), (.array .int)]
  staticTypes := #[]
  resolved := Array.replicate 109 none
  statics := none }

def pool3 : Array CpInfo := pool [(1, .class_ 2), (0, u "java/lang/constant/Constable"), (0, .class_ 4), (0, u "java/lang/Object")] 6

/-- java/lang/constant/Constable -/
def k3 : Class := { plain "java/lang/constant/Constable" (some 0) with
  accessFlags := 1537
  interfaces := #[]
  cf := some (fileOf pool3 1 #[] #[] 1537 3 #[] #[])
  fields := #[]
  methods := #[]
  instanceTypes := #[]
  staticTypes := #[]
  resolved := Array.replicate 11 none
  statics := none }

def pool4 : Array CpInfo := pool [(1, .class_ 2), (0, u "java/lang/Comparable"), (0, .class_ 4), (0, u "java/lang/Object")] 7

/-- java/lang/Comparable -/
def k4 : Class := { plain "java/lang/Comparable" (some 0) with
  accessFlags := 1537
  interfaces := #[]
  cf := some (fileOf pool4 1 #[] #[] 1537 3 #[] #[])
  fields := #[]
  methods := #[]
  instanceTypes := #[]
  staticTypes := #[]
  resolved := Array.replicate 12 none
  statics := none }

def pool5 : Array CpInfo := pool [(1, .class_ 2), (0, u "java/io/Serializable"), (0, .class_ 4), (0, u "java/lang/Object")] 2

/-- java/io/Serializable -/
def k5 : Class := { plain "java/io/Serializable" (some 0) with
  accessFlags := 1537
  interfaces := #[]
  cf := some (fileOf pool5 1 #[] #[] 1537 3 #[] #[])
  fields := #[]
  methods := #[]
  instanceTypes := #[]
  staticTypes := #[]
  resolved := Array.replicate 7 none
  statics := none }

def pool6 : Array CpInfo := pool [(2, .class_ 4), (1, u "java/lang/Enum"), (0, u "name"), (0, u "Ljava/lang/String;"), (2, u "ordinal"), (0, u "I"), (1, .class_ 14), (1, u "java/lang/Object"), (4, u "hash"), (86, .class_ 108), (1, u "java/lang/Enum$EnumDesc"), (2, .class_ 112), (0, u "java/lang/constant/Constable"), (0, .class_ 114), (0, u "java/lang/Comparable"), (0, .class_ 116), (0, u "java/io/Serializable")] 87

/-- java/lang/Enum -/
def k6 : Class := { plain "java/lang/Enum" (some 0) with
  accessFlags := 1057
  interfaces := #[3, 4, 5]
  cf := some (fileOf pool6 2 #[.nestMembers #[106]] #[] 1057 12 #[111, 113, 115] #[{ accessFlags := 18, nameIndex := 5, descriptorIndex := 6, attributes := #[] }, { accessFlags := 18, nameIndex := 9, descriptorIndex := 10, attributes := #[] }, { accessFlags := 2, nameIndex := 19, descriptorIndex := 10, attributes := #[] }])
  fields := #[{ name := "name", type := (.object "java/lang/String"), accessFlags := 18, slot := 0, constantValue := 0 }, { name := "ordinal", type := .int, accessFlags := 18, slot := 1, constantValue := 0 }, { name := "hash", type := .int, accessFlags := 2, slot := 2, constantValue := 0 }]
  methods := #[]
  instanceTypes := #[(.object "java/lang/String"), .int, .int]
  staticTypes := #[]
  resolved := Array.replicate 204 none
  statics := none }

def pool7 : Array CpInfo := pool [(1, .class_ 2), (0, u "com/example/vestalia/vestalia/model/Step$Kind"), (2, u "READ"), (0, u "Lcom/example/vestalia/vestalia/model/Step$Kind;"), (2, u "WRITE"), (2, u "ENTER"), (2, u "LEAVE"), (2, u "SEND"), (2, u "PASS"), (2, u "RECEIVE"), (2, u "$VALUES"), (0, u "[Lcom/example/vestalia/vestalia/model/Step$Kind;"), (6, .class_ 37), (1, u "java/lang/Enum"), (30, .class_ 69), (0, u "com/example/vestalia/vestalia/model/Step")] 2

/-- com/example/vestalia/vestalia/model/Step$Kind -/
def k7 : Class := { plain "com/example/vestalia/vestalia/model/Step$Kind" (some 6) with
  accessFlags := 16433
  interfaces := #[]
  cf := some (fileOf pool7 1 #[.nestHost 68] #[] 16433 35 #[] #[{ accessFlags := 16409, nameIndex := 5, descriptorIndex := 6, attributes := #[] }, { accessFlags := 16409, nameIndex := 9, descriptorIndex := 6, attributes := #[] }, { accessFlags := 16409, nameIndex := 12, descriptorIndex := 6, attributes := #[] }, { accessFlags := 16409, nameIndex := 15, descriptorIndex := 6, attributes := #[] }, { accessFlags := 16409, nameIndex := 18, descriptorIndex := 6, attributes := #[] }, { accessFlags := 16409, nameIndex := 21, descriptorIndex := 6, attributes := #[] }, { accessFlags := 16409, nameIndex := 24, descriptorIndex := 6, attributes := #[] }, { accessFlags := 4122, nameIndex := 27, descriptorIndex := 28, attributes := #[] }])
  fields := #[{ name := "READ", type := (.object "com/example/vestalia/vestalia/model/Step$Kind"), accessFlags := 16409, slot := 0, constantValue := 0 }, { name := "WRITE", type := (.object "com/example/vestalia/vestalia/model/Step$Kind"), accessFlags := 16409, slot := 1, constantValue := 0 }, { name := "ENTER", type := (.object "com/example/vestalia/vestalia/model/Step$Kind"), accessFlags := 16409, slot := 2, constantValue := 0 }, { name := "LEAVE", type := (.object "com/example/vestalia/vestalia/model/Step$Kind"), accessFlags := 16409, slot := 3, constantValue := 0 }, { name := "SEND", type := (.object "com/example/vestalia/vestalia/model/Step$Kind"), accessFlags := 16409, slot := 4, constantValue := 0 }, { name := "PASS", type := (.object "com/example/vestalia/vestalia/model/Step$Kind"), accessFlags := 16409, slot := 5, constantValue := 0 }, { name := "RECEIVE", type := (.object "com/example/vestalia/vestalia/model/Step$Kind"), accessFlags := 16409, slot := 6, constantValue := 0 }, { name := "$VALUES", type := (.array (.object "com/example/vestalia/vestalia/model/Step$Kind")), accessFlags := 4122, slot := 7, constantValue := 0 }]
  methods := #[]
  instanceTypes := #[(.object "java/lang/String"), .int, .int]
  staticTypes := #[(.object "com/example/vestalia/vestalia/model/Step$Kind"), (.object "com/example/vestalia/vestalia/model/Step$Kind"), (.object "com/example/vestalia/vestalia/model/Step$Kind"), (.object "com/example/vestalia/vestalia/model/Step$Kind"), (.object "com/example/vestalia/vestalia/model/Step$Kind"), (.object "com/example/vestalia/vestalia/model/Step$Kind"), (.object "com/example/vestalia/vestalia/model/Step$Kind"), (.array (.object "com/example/vestalia/vestalia/model/Step$Kind"))]
  resolved := Array.replicate 72 none
  statics := some 0 }

def pool8 : Array CpInfo := pool [(2, .class_ 4), (1, u "java/lang/Object"), (0, u "<init>"), (0, u "()V"), (1, .class_ 10), (1, u "java/lang/System"), (0, u "allowSecurityManager"), (0, u "I"), (16, u "cons"), (0, u "Ljava/io/Console;"), (77, .class_ 110), (1, u "java/lang/System$CallersHolder"), (43, u "initialErrStream"), (0, u "Ljava/io/PrintStream;"), (19, u "security"), (0, u "Ljava/lang/SecurityManager;"), (31, .class_ 209), (0, u "java/lang/System$1"), (7, u "props"), (0, u "Ljava/util/Properties;"), (2, u "lineSeparator"), (0, u "Ljava/lang/String;"), (96, .class_ 321), (1, u "java/lang/System$LoggerFinder"), (5, .class_ 328), (0, u "java/lang/System$Logger"), (67, u "err"), (2, u "out"), (91, u "notSupportedJnuEncoding"), (15, u "in"), (17, u "initialIn"), (0, u "Ljava/io/InputStream;"), (35, u "bootLayer"), (0, u "Ljava/lang/ModuleLayer;"), (99, .class_ 664), (0, u "java/lang/System$2"), (9, u "NEVER"), (2, u "MAYBE"), (49, u "arraycopy"), (0, u "(Ljava/lang/Object;ILjava/lang/Object;II)V"), (72, .class_ 802), (0, u "java/lang/System$Logger$Level")] 31

def k8m0 : Method := { name := "<init>", desc := "()V", sig := { parameters := [], returnType := none }, accessFlags := 2, code := none }
def k8m1 : Method := { name := "arraycopy", desc := "(Ljava/lang/Object;ILjava/lang/Object;II)V", sig := { parameters := [(.object "java/lang/Object"), .int, (.object "java/lang/Object"), .int, .int], returnType := none }, accessFlags := 265, code := none }
/-- java/lang/System -/
def k8 : Class := { plain "java/lang/System" (some 0) with
  accessFlags := 49
  interfaces := #[]
  cf := some (fileOf pool8 8 #[.nestMembers #[319, 327, 801, 108, 663, 208]] #[{ accessFlags := 2, nameIndex := 5, descriptorIndex := 6, attributes := #[] }, { accessFlags := 265, nameIndex := 727, descriptorIndex := 728, attributes := #[] }] 49 2 #[] #[{ accessFlags := 25, nameIndex := 507, descriptorIndex := 526, attributes := #[] }, { accessFlags := 25, nameIndex := 399, descriptorIndex := 155, attributes := #[] }, { accessFlags := 25, nameIndex := 396, descriptorIndex := 155, attributes := #[] }, { accessFlags := 10, nameIndex := 525, descriptorIndex := 526, attributes := #[] }, { accessFlags := 26, nameIndex := 674, descriptorIndex := 12, attributes := #[] }, { accessFlags := 26, nameIndex := 677, descriptorIndex := 12, attributes := #[] }, { accessFlags := 10, nameIndex := 11, descriptorIndex := 12, attributes := #[] }, { accessFlags := 74, nameIndex := 175, descriptorIndex := 176, attributes := #[] }, { accessFlags := 10, nameIndex := 491, descriptorIndex := 222, attributes := #[] }, { accessFlags := 74, nameIndex := 29, descriptorIndex := 30, attributes := #[] }, { accessFlags := 74, nameIndex := 154, descriptorIndex := 155, attributes := #[] }, { accessFlags := 10, nameIndex := 217, descriptorIndex := 218, attributes := #[] }, { accessFlags := 10, nameIndex := 221, descriptorIndex := 222, attributes := #[] }, { accessFlags := 8, nameIndex := 562, descriptorIndex := 563, attributes := #[] }])
  fields := #[{ name := "in", type := (.object "java/io/InputStream"), accessFlags := 25, slot := 0, constantValue := 0 }, { name := "out", type := (.object "java/io/PrintStream"), accessFlags := 25, slot := 1, constantValue := 0 }, { name := "err", type := (.object "java/io/PrintStream"), accessFlags := 25, slot := 2, constantValue := 0 }, { name := "initialIn", type := (.object "java/io/InputStream"), accessFlags := 10, slot := 3, constantValue := 0 }, { name := "NEVER", type := .int, accessFlags := 26, slot := 4, constantValue := 0 }, { name := "MAYBE", type := .int, accessFlags := 26, slot := 5, constantValue := 0 }, { name := "allowSecurityManager", type := .int, accessFlags := 10, slot := 6, constantValue := 0 }, { name := "security", type := (.object "java/lang/SecurityManager"), accessFlags := 74, slot := 7, constantValue := 0 }, { name := "notSupportedJnuEncoding", type := (.object "java/lang/String"), accessFlags := 10, slot := 8, constantValue := 0 }, { name := "cons", type := (.object "java/io/Console"), accessFlags := 74, slot := 9, constantValue := 0 }, { name := "initialErrStream", type := (.object "java/io/PrintStream"), accessFlags := 74, slot := 10, constantValue := 0 }, { name := "props", type := (.object "java/util/Properties"), accessFlags := 10, slot := 11, constantValue := 0 }, { name := "lineSeparator", type := (.object "java/lang/String"), accessFlags := 10, slot := 12, constantValue := 0 }, { name := "bootLayer", type := (.object "java/lang/ModuleLayer"), accessFlags := 8, slot := 13, constantValue := 0 }]
  methods := #[k8m0, k8m1]
  instanceTypes := #[]
  staticTypes := #[(.object "java/io/InputStream"), (.object "java/io/PrintStream"), (.object "java/io/PrintStream"), (.object "java/io/InputStream"), .int, .int, .int, (.object "java/lang/SecurityManager"), (.object "java/lang/String"), (.object "java/io/Console"), (.object "java/io/PrintStream"), (.object "java/util/Properties"), (.object "java/lang/String"), (.object "java/lang/ModuleLayer")]
  resolved := Array.replicate 834 none
  statics := none }

def pool9 : Array CpInfo := pool [(2, .class_ 4), (1, u "java/lang/Object"), (0, u "<init>"), (0, u "()V"), (7, .class_ 16), (1, u "java/util/Arrays"), (57, .class_ 76), (1, u "java/util/Arrays$NaturalOrder"), (32, u "()Ljava/lang/Object;"), (3, .class_ 115), (1, u "java/util/Arrays$LegacyMergeSort"), (1, u "Z"), (10, .nameAndType 129 109), (0, u "clone"), (20, .methodref 151 152), (0, .class_ 153), (0, .nameAndType 154 155), (0, u "java/lang/System"), (0, u "arraycopy"), (0, u "(Ljava/lang/Object;ILjava/lang/Object;II)V"), (146, u "copyOf"), (1, .methodref 305 306), (0, .class_ 307), (0, .nameAndType 308 309), (0, u "java/lang/Math"), (0, u "min"), (0, u "(II)I"), (6, .methodref 317 128), (0, .class_ 318), (0, u "[I"), (56, .class_ 376), (0, u "java/util/Arrays$ArrayList"), (68, u "$assertionsDisabled"), (269, u "MIN_ARRAY_SORT_GRAN"), (0, u "I"), (2, u "INSERTIONSORT_THRESHOLD"), (151, u "([II)[I"), (103, .class_ 976), (0, u "java/util/Arrays$ArrayItr")] 52

def k9m0 : Method := { name := "<init>", desc := "()V", sig := { parameters := [], returnType := none }, accessFlags := 2, code := none }
def k9c1 : Code := { maxStack := 6, maxLocals := 3, code := jdk_65_method_123_code, exceptionTable := #[], attributes := #[] }
def k9m1 : Method := { name := "copyOf", desc := "([II)[I", sig := { parameters := [(.array .int), .int], returnType := some (.array .int) }, accessFlags := 9, code := some k9c1 }
/-- java/util/Arrays -/
def k9 : Class := { plain "java/util/Arrays" (some 0) with
  accessFlags := 49
  interfaces := #[]
  cf := some (fileOf pool9 14 #[.nestMembers #[975, 375, 113, 74]] #[{ accessFlags := 2, nameIndex := 5, descriptorIndex := 6, attributes := #[] }, { accessFlags := 9, nameIndex := 302, descriptorIndex := 871, attributes := #[] }] 49 2 #[] #[{ accessFlags := 26, nameIndex := 715, descriptorIndex := 716, attributes := #[] }, { accessFlags := 26, nameIndex := 719, descriptorIndex := 716, attributes := #[] }, { accessFlags := 4120, nameIndex := 445, descriptorIndex := 117, attributes := #[] }])
  fields := #[{ name := "MIN_ARRAY_SORT_GRAN", type := .int, accessFlags := 26, slot := 0, constantValue := 0 }, { name := "INSERTIONSORT_THRESHOLD", type := .int, accessFlags := 26, slot := 1, constantValue := 0 }, { name := "$assertionsDisabled", type := .boolean, accessFlags := 4120, slot := 2, constantValue := 0 }]
  methods := #[k9m0, k9m1]
  instanceTypes := #[]
  staticTypes := #[.int, .int, .boolean]
  resolved := Array.replicate 1029 none
  statics := none }

def pool10 : Array CpInfo := pool [(1, .class_ 2), (0, u "java/lang/Cloneable"), (0, .class_ 4), (0, u "java/lang/Object")] 2

/-- java/lang/Cloneable -/
def k10 : Class := { plain "java/lang/Cloneable" (some 0) with
  accessFlags := 1537
  interfaces := #[]
  cf := some (fileOf pool10 1 #[] #[] 1537 3 #[] #[])
  fields := #[]
  methods := #[]
  instanceTypes := #[]
  staticTypes := #[]
  resolved := Array.replicate 7 none
  statics := none }

def pool11 : Array CpInfo := pool [(2, .class_ 4), (1, u "java/lang/Object"), (10, .class_ 16), (0, u "com/example/vestalia/vestalia/locks/SharedRegisters"), (5, u "copies"), (0, u "Ljava/util/concurrent/atomic/AtomicLongArray;"), (6, u "parkedOn"), (0, u "[I"), (2, u "NOTE"), (0, u "Ljava/lang/invoke/VarHandle;"), (8, u "threads"), (0, u "Lcom/example/vestalia/vestalia/locks/ProcessThreads;"), (16, u "contains"), (0, u "([III)Z"), (29, u "LONGS_APART"), (0, u "I"), (2, u "INTS_APART"), (1, u "SPINS"), (1, u "YIELDS"), (1, u "NOWHERE")] 15

def k11c0 : Code := { maxStack := 2, maxLocals := 4, code := prog_31_method_7_code, exceptionTable := #[], attributes := #[] }
def k11m0 : Method := { name := "contains", desc := "([III)Z", sig := { parameters := [(.array .int), .int, .int], returnType := some .boolean }, accessFlags := 8, code := some k11c0 }
/-- com/example/vestalia/vestalia/locks/SharedRegisters -/
def k11 : Class := { plain "com/example/vestalia/vestalia/locks/SharedRegisters" (some 0) with
  accessFlags := 48
  interfaces := #[]
  cf := some (fileOf pool11 15 #[] #[{ accessFlags := 8, nameIndex := 62, descriptorIndex := 63, attributes := #[] }] 48 2 #[] #[{ accessFlags := 24, nameIndex := 93, descriptorIndex := 94, attributes := #[] }, { accessFlags := 24, nameIndex := 97, descriptorIndex := 94, attributes := #[] }, { accessFlags := 26, nameIndex := 99, descriptorIndex := 94, attributes := #[] }, { accessFlags := 26, nameIndex := 101, descriptorIndex := 94, attributes := #[] }, { accessFlags := 26, nameIndex := 103, descriptorIndex := 94, attributes := #[] }, { accessFlags := 26, nameIndex := 34, descriptorIndex := 35, attributes := #[] }, { accessFlags := 18, nameIndex := 22, descriptorIndex := 23, attributes := #[] }, { accessFlags := 18, nameIndex := 30, descriptorIndex := 31, attributes := #[] }, { accessFlags := 18, nameIndex := 44, descriptorIndex := 45, attributes := #[] }])
  fields := #[{ name := "LONGS_APART", type := .int, accessFlags := 24, slot := 0, constantValue := 0 }, { name := "INTS_APART", type := .int, accessFlags := 24, slot := 1, constantValue := 0 }, { name := "SPINS", type := .int, accessFlags := 26, slot := 2, constantValue := 0 }, { name := "YIELDS", type := .int, accessFlags := 26, slot := 3, constantValue := 0 }, { name := "NOWHERE", type := .int, accessFlags := 26, slot := 4, constantValue := 0 }, { name := "NOTE", type := (.object "java/lang/invoke/VarHandle"), accessFlags := 26, slot := 5, constantValue := 0 }, { name := "copies", type := (.object "java/util/concurrent/atomic/AtomicLongArray"), accessFlags := 18, slot := 0, constantValue := 0 }, { name := "parkedOn", type := (.array .int), accessFlags := 18, slot := 1, constantValue := 0 }, { name := "threads", type := (.object "com/example/vestalia/vestalia/locks/ProcessThreads"), accessFlags := 18, slot := 2, constantValue := 0 }]
  methods := #[k11m0]
  instanceTypes := #[(.object "java/util/concurrent/atomic/AtomicLongArray"), (.array .int), (.object "com/example/vestalia/vestalia/locks/ProcessThreads")]
  staticTypes := #[.int, .int, .int, .int, .int, (.object "java/lang/invoke/VarHandle")]
  resolved := Array.replicate 119 none
  statics := none }

def pool12 : Array CpInfo := pool [(1, .class_ 2), (0, u "java/lang/Math"), (1, .class_ 6), (1, u "java/lang/Object"), (0, u "<init>"), (0, u "()V"), (89, .class_ 100), (1, u "java/lang/Math$RandomNumberGeneratorHolder"), (71, u "negativeZeroFloatBits"), (0, u "J"), (2, u "negativeZeroDoubleBits"), (24, u "min"), (43, u "$assertionsDisabled"), (0, u "Z"), (88, u "(II)I"), (2, u "twoToTheDoubleScaleDown"), (0, u "D"), (4, u "twoToTheDoubleScaleUp"), (9, u "E"), (3, u "PI"), (2, u "TAU"), (2, u "DEGREES_TO_RADIANS"), (0, u "RADIANS_TO_DEGREES")] 94

def k12m0 : Method := { name := "<init>", desc := "()V", sig := { parameters := [], returnType := none }, accessFlags := 2, code := none }
def k12c1 : Code := { maxStack := 2, maxLocals := 2, code := jdk_29_method_69_code, exceptionTable := #[], attributes := #[] }
def k12m1 : Method := { name := "min", desc := "(II)I", sig := { parameters := [.int, .int], returnType := some .int }, accessFlags := 9, code := some k12c1 }
/-- java/lang/Math -/
def k12 : Class := { plain "java/lang/Math" (some 0) with
  accessFlags := 49
  interfaces := #[]
  cf := some (fileOf pool12 1 #[.nestMembers #[98]] #[{ accessFlags := 2, nameIndex := 7, descriptorIndex := 8, attributes := #[] }, { accessFlags := 9, nameIndex := 201, descriptorIndex := 335, attributes := #[] }] 49 4 #[] #[{ accessFlags := 25, nameIndex := 354, descriptorIndex := 339, attributes := #[] }, { accessFlags := 25, nameIndex := 358, descriptorIndex := 339, attributes := #[] }, { accessFlags := 25, nameIndex := 361, descriptorIndex := 339, attributes := #[] }, { accessFlags := 26, nameIndex := 364, descriptorIndex := 339, attributes := #[] }, { accessFlags := 26, nameIndex := 365, descriptorIndex := 339, attributes := #[] }, { accessFlags := 26, nameIndex := 172, descriptorIndex := 173, attributes := #[] }, { accessFlags := 26, nameIndex := 176, descriptorIndex := 173, attributes := #[] }, { accessFlags := 8, nameIndex := 344, descriptorIndex := 339, attributes := #[] }, { accessFlags := 8, nameIndex := 338, descriptorIndex := 339, attributes := #[] }, { accessFlags := 4120, nameIndex := 245, descriptorIndex := 246, attributes := #[] }])
  fields := #[{ name := "E", type := .double, accessFlags := 25, slot := 0, constantValue := 0 }, { name := "PI", type := .double, accessFlags := 25, slot := 1, constantValue := 0 }, { name := "TAU", type := .double, accessFlags := 25, slot := 2, constantValue := 0 }, { name := "DEGREES_TO_RADIANS", type := .double, accessFlags := 26, slot := 3, constantValue := 0 }, { name := "RADIANS_TO_DEGREES", type := .double, accessFlags := 26, slot := 4, constantValue := 0 }, { name := "negativeZeroFloatBits", type := .long, accessFlags := 26, slot := 5, constantValue := 0 }, { name := "negativeZeroDoubleBits", type := .long, accessFlags := 26, slot := 6, constantValue := 0 }, { name := "twoToTheDoubleScaleUp", type := .double, accessFlags := 8, slot := 7, constantValue := 0 }, { name := "twoToTheDoubleScaleDown", type := .double, accessFlags := 8, slot := 8, constantValue := 0 }, { name := "$assertionsDisabled", type := .boolean, accessFlags := 4120, slot := 9, constantValue := 0 }]
  methods := #[k12m0, k12m1]
  instanceTypes := #[]
  staticTypes := #[.double, .double, .double, .double, .double, .long, .long, .double, .double, .boolean]
  resolved := Array.replicate 460 none
  statics := none }

/-- the primitive byte -/
def k13 : Class := { plain "byte" none with kind := .primitive 'B', accessFlags := 0x411 }
/-- [B -/
def k14 : Class := { plain "[B" (some 0) with kind := .array 13 .byte, interfaces := #[10, 5], accessFlags := 1041 }

/-- the primitive int -/
def k15 : Class := { plain "int" none with kind := .primitive 'I', accessFlags := 0x411 }
/-- [I -/
def k16 : Class := { plain "[I" (some 0) with kind := .array 15 .int, interfaces := #[10, 5], accessFlags := 1041 }

/-- the primitive long -/
def k17 : Class := { plain "long" none with kind := .primitive 'J', accessFlags := 0x411 }
/-- [J -/
def k18 : Class := { plain "[J" (some 0) with kind := .array 17 .long, interfaces := #[10, 5], accessFlags := 1041 }

/-- [Lcom/example/vestalia/vestalia/model/Step$Kind; -/
def k19 : Class := { plain "[Lcom/example/vestalia/vestalia/model/Step$Kind;" (some 0) with kind := .array 7 (.object "com/example/vestalia/vestalia/model/Step$Kind"), interfaces := #[10, 5], accessFlags := 1041 }

def heap : Heap := #[{ cls := 7, slots := #[.ref 2, .ref 1, .null, .null, .null, .null, .null, .null], vm := .statics 7 },
  { cls := 7, slots := #[.null, .int 1, .int 0], vm := .none },
  { cls := 7, slots := #[.null, .int 0, .int 0], vm := .none }]
def classes : Array Class := #[k0, k1, k2, k3, k4, k5, k6, k7, k8, k9, k10, k11, k12, k13, k14, k15, k16, k17, k18, k19]
def interned : List (Array UInt16 × Addr) := []
def slotsUsed : Nat := 14
def theMethod : MethodId := ⟨1, 1⟩
def args0 : Array Value := #[.long 1, .long 2, .long 3, .long 4, .long 5, .int 6]
def aboutOver (below : List Frame) : State where
  vm := { classes := classes, interned := interned.toArray }
  heap := heap
  slotsUsed := slotsUsed
  threads := #[{ frames := .invoking theMethod args0 :: below }]
def below0 : List Frame := [.native { method := ⟨0, 0⟩, args := #[] }]
def about1 : State := aboutOver below0
def p0 : Program := .bare "" "" ""
def e0 : Env := launch0.env 0 0 0
theorem w_frames : about1.frames = Frame.invoking theMethod args0 :: below0 := rfl
set_option maxRecDepth 65536 in
theorem w_args : argsFit about1.vm theMethod args0 = true := by decide +kernel
set_option maxRecDepth 65536 in
theorem w_heap : heapFits about1 = true := by decide +kernel
set_option maxRecDepth 65536 in
theorem w_runnable : about1.curStatus? = some .runnable := by decide +kernel
set_option maxRecDepth 65536 in
theorem w_alone : about1.alone = true := by decide +kernel
set_option maxRecDepth 65536 in
theorem w_named : about1.methodNamed? x = some theMethod := by decide +kernel
set_option maxRecDepth 65536 in
theorem w_hears : about1.hears theMethod below0 = true := by decide +kernel
set_option maxRecDepth 65536 in
theorem w_ripe : about1.ripe theMethod args0 below0 = true := by decide +kernel
theorem w_running : about1.status = .running := rfl
set_option maxRecDepth 65536 in
theorem w_room : about1.hasRoom e0.platform room_1 = true :=
  launch0.hasRoom_least _ room_1 (by decide +kernel) (by decide +kernel) (by decide +kernel) (by decide +kernel) (by decide +kernel) (by decide +kernel)
theorem allAtoms_all (ts : List Jvm.Cond) (a : Array Jvm.Value) (st : Jvm.State) : (allAtoms ts).before a st = ts.all (fun c => c.before a st) := by
  induction ts with
  | nil => rfl
  | cons c t ih =>
    show (Jvm.Cond.and c (allAtoms t)).before a st = _
    rw [Jvm.Cond.before_and, ih, List.all_cons]
def words1 : List Jvm.Cond := Jvm.Cond.code x code maxLocals ret :: tables_1
/-- a 'code' word, met by the world's own term for the bytes: nothing is compared byte by byte -/
theorem code_word {y : MethodName} {bytes : ByteArray} {mx : Nat} {rt : Option FieldType} {a : Array Value} {s : State} {m : MethodId} {meth : Method} {c : Code} (h1 : s.methodNamed? y = some m) (h2 : s.vm.method? m = some meth) (h3 : meth.code = some c) (h4 : c.code = bytes)
    (h5 : (c.maxLocals == mx && c.exceptionTable.isEmpty && decide (c.maxStack ≤ mostOperands) && decide (meth.sig.returnType = rt) && !meth.locks && decide (parseMethodDescriptor y.desc = some meth.sig)) = true) : (Jvm.Cond.code y bytes mx rt).before a s = true := by
  simp only [Bool.and_eq_true, beq_iff_eq, Bool.not_eq_true', decide_eq_true_eq] at h5
  obtain ⟨⟨⟨⟨⟨g1, g2⟩, g3⟩, g4⟩, g5⟩, g6⟩ := h5
  simp [Cond.before, Cond.holds, Cond.value, h1, h2, h3, h4, g1, g2, g3, g4, g5, g6]
def isCode : Jvm.Cond → Bool
  | .code _ _ _ _ => true
  | _ => false
theorem all_split {L : List Jvm.Cond} {P : Jvm.Cond → Bool} (h1 : L.all (fun c => isCode c || P c) = true) (h2 : ∀ c ∈ L.filter isCode, P c = true) : L.all P = true := by
  refine List.all_eq_true.mpr fun c hc => ?_
  have h := List.all_eq_true.mp h1 c hc
  rcases Bool.eq_false_or_eq_true (isCode c) with hi | hi
  · exact h2 c (List.mem_filter.mpr ⟨hc, hi⟩)
  · simpa [hi] using h
set_option maxRecDepth 65536 in
theorem w_c0 : (Jvm.Cond.code x code maxLocals ret).before args0 about1 = true := code_word (m := ⟨1, 1⟩) (meth := k1m1) (c := k1c1) (by decide +kernel) rfl rfl rfl (by decide +kernel)
set_option maxRecDepth 65536 in
theorem w_c1 : (Jvm.Cond.code ({ cls := "com/example/vestalia/vestalia/locks/StepTrace", name := "<init>", desc := "(I)V" } : Jvm.MethodName) prog_32_method_1_code (2 : Nat) (Option.none : Option Jvm.ClassFile.FieldType)).before args0 about1 = true := code_word (m := ⟨2, 0⟩) (meth := k2m0) (c := k2c0) (by decide +kernel) rfl rfl rfl (by decide +kernel)
set_option maxRecDepth 65536 in
theorem w_c2 : (Jvm.Cond.code ({ cls := "java/lang/Object", name := "<init>", desc := "()V" } : Jvm.MethodName) object_method_1_code (1 : Nat) (Option.none : Option Jvm.ClassFile.FieldType)).before args0 about1 = true := code_word (m := ⟨0, 0⟩) (meth := k0m0) (c := k0c0) (by decide +kernel) rfl rfl rfl (by decide +kernel)
set_option maxRecDepth 65536 in
theorem w_c3 : (Jvm.Cond.code ({ cls := "com/example/vestalia/vestalia/locks/StepTrace", name := "begin", desc := "([J)V" } : Jvm.MethodName) prog_32_method_3_code (2 : Nat) (Option.none : Option Jvm.ClassFile.FieldType)).before args0 about1 = true := code_word (m := ⟨2, 2⟩) (meth := k2m2) (c := k2c2) (by decide +kernel) rfl rfl rfl (by decide +kernel)
set_option maxRecDepth 65536 in
theorem w_c4 : (Jvm.Cond.code ({ cls := "com/example/vestalia/vestalia/locks/StepTrace", name := "startsFrom", desc := "([J)Z" } : Jvm.MethodName) prog_32_method_2_code (3 : Nat) (Option.some Jvm.ClassFile.FieldType.boolean)).before args0 about1 = true := code_word (m := ⟨2, 1⟩) (meth := k2m1) (c := k2c1) (by decide +kernel) rfl rfl rfl (by decide +kernel)
set_option maxRecDepth 65536 in
theorem w_c5 : (Jvm.Cond.code ({ cls := "com/example/vestalia/vestalia/locks/StepTrace", name := "end", desc := "([J)V" } : Jvm.MethodName) prog_32_method_6_code (5 : Nat) (Option.none : Option Jvm.ClassFile.FieldType)).before args0 about1 = true := code_word (m := ⟨2, 4⟩) (meth := k2m4) (c := k2c4) (by decide +kernel) rfl rfl rfl (by decide +kernel)
set_option maxRecDepth 65536 in
theorem w_c6 : (Jvm.Cond.code ({ cls := "java/util/Arrays", name := "copyOf", desc := "([II)[I" } : Jvm.MethodName) jdk_65_method_123_code (3 : Nat) (Option.some (Jvm.ClassFile.FieldType.array Jvm.ClassFile.FieldType.int))).before args0 about1 = true := code_word (m := ⟨9, 1⟩) (meth := k9m1) (c := k9c1) (by decide +kernel) rfl rfl rfl (by decide +kernel)
set_option maxRecDepth 65536 in
theorem w_c7 : (Jvm.Cond.code ({ cls := "com/example/vestalia/vestalia/locks/StepTrace", name := "add", desc := "([JLcom/example/vestalia/vestalia/model/Step$Kind;IJ)V" } : Jvm.MethodName) prog_32_method_5_code (6 : Nat) (Option.none : Option Jvm.ClassFile.FieldType)).before args0 about1 = true := code_word (m := ⟨2, 3⟩) (meth := k2m3) (c := k2c3) (by decide +kernel) rfl rfl rfl (by decide +kernel)
set_option maxRecDepth 65536 in
theorem w_c8 : (Jvm.Cond.code ({ cls := "com/example/vestalia/vestalia/locks/StepTrace", name := "add", desc := "([JILcom/example/vestalia/vestalia/model/Step$Kind;IJ)V" } : Jvm.MethodName) prog_32_method_15_code (7 : Nat) (Option.none : Option Jvm.ClassFile.FieldType)).before args0 about1 = true := code_word (m := ⟨2, 5⟩) (meth := k2m5) (c := k2c5) (by decide +kernel) rfl rfl rfl (by decide +kernel)
set_option maxRecDepth 65536 in
theorem w_c9 : (Jvm.Cond.code ({ cls := "com/example/vestalia/vestalia/locks/SharedRegisters", name := "contains", desc := "([III)Z" } : Jvm.MethodName) prog_31_method_7_code (4 : Nat) (Option.some Jvm.ClassFile.FieldType.boolean)).before args0 about1 = true := code_word (m := ⟨11, 0⟩) (meth := k11m0) (c := k11c0) (by decide +kernel) rfl rfl rfl (by decide +kernel)
set_option maxRecDepth 65536 in
theorem w_c10 : (Jvm.Cond.code ({ cls := "java/lang/Math", name := "min", desc := "(II)I" } : Jvm.MethodName) jdk_29_method_69_code (2 : Nat) (Option.some Jvm.ClassFile.FieldType.int)).before args0 about1 = true := code_word (m := ⟨12, 1⟩) (meth := k12m1) (c := k12c1) (by decide +kernel) rfl rfl rfl (by decide +kernel)
def codes1 : List Jvm.Cond := [Jvm.Cond.code x code maxLocals ret, Jvm.Cond.code ({ cls := "com/example/vestalia/vestalia/locks/StepTrace", name := "<init>", desc := "(I)V" } : Jvm.MethodName) prog_32_method_1_code (2 : Nat) (Option.none : Option Jvm.ClassFile.FieldType), Jvm.Cond.code ({ cls := "java/lang/Object", name := "<init>", desc := "()V" } : Jvm.MethodName) object_method_1_code (1 : Nat) (Option.none : Option Jvm.ClassFile.FieldType), Jvm.Cond.code ({ cls := "com/example/vestalia/vestalia/locks/StepTrace", name := "begin", desc := "([J)V" } : Jvm.MethodName) prog_32_method_3_code (2 : Nat) (Option.none : Option Jvm.ClassFile.FieldType), Jvm.Cond.code ({ cls := "com/example/vestalia/vestalia/locks/StepTrace", name := "startsFrom", desc := "([J)Z" } : Jvm.MethodName) prog_32_method_2_code (3 : Nat) (Option.some Jvm.ClassFile.FieldType.boolean), Jvm.Cond.code ({ cls := "com/example/vestalia/vestalia/locks/StepTrace", name := "end", desc := "([J)V" } : Jvm.MethodName) prog_32_method_6_code (5 : Nat) (Option.none : Option Jvm.ClassFile.FieldType), Jvm.Cond.code ({ cls := "java/util/Arrays", name := "copyOf", desc := "([II)[I" } : Jvm.MethodName) jdk_65_method_123_code (3 : Nat) (Option.some (Jvm.ClassFile.FieldType.array Jvm.ClassFile.FieldType.int)), Jvm.Cond.code ({ cls := "com/example/vestalia/vestalia/locks/StepTrace", name := "add", desc := "([JLcom/example/vestalia/vestalia/model/Step$Kind;IJ)V" } : Jvm.MethodName) prog_32_method_5_code (6 : Nat) (Option.none : Option Jvm.ClassFile.FieldType), Jvm.Cond.code ({ cls := "com/example/vestalia/vestalia/locks/StepTrace", name := "add", desc := "([JILcom/example/vestalia/vestalia/model/Step$Kind;IJ)V" } : Jvm.MethodName) prog_32_method_15_code (7 : Nat) (Option.none : Option Jvm.ClassFile.FieldType), Jvm.Cond.code ({ cls := "com/example/vestalia/vestalia/locks/SharedRegisters", name := "contains", desc := "([III)Z" } : Jvm.MethodName) prog_31_method_7_code (4 : Nat) (Option.some Jvm.ClassFile.FieldType.boolean), Jvm.Cond.code ({ cls := "java/lang/Math", name := "min", desc := "(II)I" } : Jvm.MethodName) jdk_29_method_69_code (2 : Nat) (Option.some Jvm.ClassFile.FieldType.int)]
set_option maxRecDepth 65536 in
theorem codes_eq : words1.filter isCode = codes1 := rfl
theorem w_codes : ∀ c ∈ words1.filter isCode, c.before args0 about1 = true := by
  rw [codes_eq]
  intro c hc
  simp only [codes1, List.mem_cons, List.not_mem_nil, or_false] at hc
  rcases hc with rfl | rfl | rfl | rfl | rfl | rfl | rfl | rfl | rfl | rfl | rfl
  · exact w_c0
  · exact w_c1
  · exact w_c2
  · exact w_c3
  · exact w_c4
  · exact w_c5
  · exact w_c6
  · exact w_c7
  · exact w_c8
  · exact w_c9
  · exact w_c10
set_option maxRecDepth 65536 in
theorem w_t1 : (words1.take 24).all (fun c => isCode c || c.before args0 about1) = true := by decide +kernel
set_option maxRecDepth 65536 in
theorem w_t2 : ((words1.drop 24).take 24).all (fun c => isCode c || c.before args0 about1) = true := by decide +kernel
set_option maxRecDepth 65536 in
theorem w_t3 : (((words1.drop 24).drop 24).take 24).all (fun c => isCode c || c.before args0 about1) = true := by decide +kernel
set_option maxRecDepth 65536 in
theorem w_t4 : (((words1.drop 24).drop 24).drop 24).all (fun c => isCode c || c.before args0 about1) = true := by decide +kernel
theorem w_tables : (allAtoms (Jvm.Cond.code x code maxLocals ret :: tables_1)).before args0 about1 = true := by
  rw [allAtoms_all]
  show words1.all (fun c => c.before args0 about1) = true
  refine all_split ?_ w_codes
  rw [← List.take_append_drop 24 words1, List.all_append, w_t1, ← List.take_append_drop 24 (words1.drop 24), List.all_append, w_t2, ← List.take_append_drop 24 ((words1.drop 24).drop 24), List.all_append, w_t3, w_t4]
  rfl
set_option maxRecDepth 65536 in
theorem w_case : (Jvm.Cond.and given_1 narrow_1).before args0 about1 = true := by decide +kernel
theorem w_applies : (headSpec (Jvm.Cond.code x code maxLocals ret :: tables_1) room_1).applies x e0.platform about1 = true :=
  (Spec.applies_iff w_frames).mpr ⟨w_running, w_runnable, w_alone, w_named, w_hears, w_ripe, w_room, w_tables⟩
theorem atStart : AtStart classFile x code maxLocals ret World_1 tables_1 room_1 Calls_1 rest_1 Pre_1 launch0 p0 e0 about1 theMethod args0 below0 :=
  ⟨lists_1, trivial, launch0.admits_env _ _ _, launch0.least_env, fairChoices_fair.cas, fairChoices_fair.clock, w_frames, w_args, w_heap, w_applies, trivial, trivial, w_case⟩
end start1
theorem witness_1 : WitnessClaimed_1 := ⟨start1.p0, start1.e0, start1.about1, start1.theMethod, start1.args0, start1.below0, start1.atStart⟩
end Jvm.Pilot.@@N@@
