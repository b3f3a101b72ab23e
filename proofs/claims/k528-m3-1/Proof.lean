import JvmDerived
import JvmDerived.Pilot.@@N@@Statement
import JvmDerived.Pilot.@@N@@Code
set_option linter.unusedVariables false
set_option linter.unusedSimpArgs false
namespace Jvm.OwnKit
open Jvm Jvm.ClassFile Sem Op Lib Jvm.Stand Jvm.Free Jvm.LawKit Jvm.RoadKit
/-! A small calculus of my own over the library's laws: Go says 'from here the body comes to its end, and what it leaves satisfies Q'. -/
abbrev Bod : Type := Program × Launch × Env × Room × State × MethodId × Array Value × List Frame × Method × Code
abbrev Bod.p (B : Bod) : Program := B.1
abbrev Bod.l (B : Bod) : Launch := B.2.1
abbrev Bod.e (B : Bod) : Env := B.2.2.1
abbrev Bod.R (B : Bod) : Room := B.2.2.2.1
abbrev Bod.s (B : Bod) : State := B.2.2.2.2.1
abbrev Bod.m (B : Bod) : MethodId := B.2.2.2.2.2.1
abbrev Bod.args (B : Bod) : Array Value := B.2.2.2.2.2.2.1
abbrev Bod.below (B : Bod) : List Frame := B.2.2.2.2.2.2.2.1
abbrev Bod.meth (B : Bod) : Method := B.2.2.2.2.2.2.2.2.1
abbrev Bod.c (B : Bod) : Code := B.2.2.2.2.2.2.2.2.2
abbrev St (B : Bod) (T : State) (locs : List Loc) (k n : Nat) : Prop := Stand B.p B.l B.e B.R B.s B.m B.args B.below B.meth B.c T locs k n
def Fin0 (B : Bod) (n0 : Nat) (Q : Option Value → Heap → Prop) (g : JFrame) (T : State) : Prop :=
  ∃ t o, Steps B.p.tables B.e B.below (T.setTop g) t ∧ t.status = .running ∧ Ended t B.below o ∧ ∃ v L, o = .returned v ∧ (Fr n0 L ∧ Q v t.heap) ∧ FrameEnd B.s o t L B.R.cells B.R.slots
def Go (B : Bod) (n0 : Nat) (Q : Option Value → Heap → Prop) (h : Heap) (k n pc : Nat) (L : Array Slot) (st : List Value) : Prop :=
  ∀ T locs, St B T locs k n → Fr n0 locs → T.heap = h → Fin0 B n0 Q (mkF B.m pc L st) T
def Ctx (B : Bod) (l : Launch) (rm : Room) (bytes : ByteArray) (own nm : String) (maxL : Nat) (ret : Option FieldType) (Z : State) : Prop :=
  B.l = l ∧ B.R = rm ∧ B.p.tables.exec = Jvm.exec ∧ B.c.code = bytes ∧ Z.Warmed39 B.s.vm ∧ B.s.vm.findClass own = some B.m.cls ∧ B.meth.name = nm ∧ B.c.maxLocals = maxL ∧ B.meth.sig.returnType = ret ∧ B.meth.locks = false
/-- a method's contract: called with these arguments over this heap it returns, and Q holds of what it returns and of the heap it leaves -/
def Met1 (l : Launch) (Z : State) (y : MethodName) (bytes : ByteArray) (maxL : Nat) (ret : Option FieldType) (rm : Room) (n0 : Nat) (as' : Array Value) (h0 : Heap) (Q : Option Value → Heap → Prop) : Prop :=
  ∀ ws : List Jvm.Cond, MetFree l y (head1 (Jvm.Cond.code y bytes maxL ret :: ws) rm) (fun a U => a = as' ∧ Z.Warmed39 U.vm ∧ U.heap = h0) (fun _ _ _ _ _ => True) (fun _ U o U' => ∃ v L, o = .returned v ∧ (Fr n0 L ∧ Q v U'.heap) ∧ FrameEnd U o U' L rm.cells rm.slots)
section Base
variable {B : Bod} {l : Launch} {rm : Room} {bytes : ByteArray} {own nm : String} {maxL : Nat} {ret : Option FieldType} {Z : State} {n0 : Nat} {Q : Option Value → Heap → Prop} {h : Heap} {k n pc pc' : Nat} {L L' : Array Slot} {st st' : List Value} {a0 : Array Value}
theorem met_of {y : MethodName} {as' : Array Value} (hp : plainFor y = true) {L0 : Array Slot} (hL : argsToLocals as' maxL = L0) (go : ∀ B : Bod, Ctx B l rm bytes y.cls y.name maxL ret Z → Go B n0 Q h 0 0 0 L0 []) : Met1 l Z y bytes maxL ret rm n0 as' h Q := by
  intro ws
  refine MetFree.of_bodySF hp hisR ?_
  intro p e s m args below meth c s₁ Bd hml0 hP hK
  obtain ⟨rfl, hZ, hh⟩ := hP
  subst hL
  obtain ⟨t, o, h1, h2, h3, v, L, h4, h5, h6⟩ := go (p, l, e, rm, s, m, args, below, meth, c) ⟨rfl, rfl, Bd.exec, Bd.bytes, hZ, findClass_of_methodNamed Bd.named, (name_of_methodNamed Bd.named Bd.method).1, hml0, Bd.returns, BodyLoose.notSynchronized Bd⟩ s₁ [] (Stand.of_body Bd) (Fr.nil n0) (by rw [← hh, Bd.state]; rfl)
  exact ⟨t, o, h1, h2, h3, v, L, h4, h5, h6⟩
/-- a step that moves the frame alone -/
theorem Go.step (f : ∀ T locs, St B T locs k n → T.heap = h → ∀ t, Steps B.p.tables B.e B.below (T.setTop (mkF B.m pc' L' st')) t → Steps B.p.tables B.e B.below (T.setTop (mkF B.m pc L st)) t) (go : Go B n0 Q h k n pc' L' st') : Go B n0 Q h k n pc L st := fun T locs X N eT => by
  obtain ⟨t, o, a, r⟩ := go T locs X N eT
  exact ⟨t, o, f T locs X eT t a, r⟩
/-- a step that moves the tables too -/
theorem Go.move (f : ∀ T locs, St B T locs k n → T.heap = h → ∃ T', St B T' locs k n ∧ T'.heap = h ∧ ∀ t, Steps B.p.tables B.e B.below (T'.setTop (mkF B.m pc' L' st')) t → Steps B.p.tables B.e B.below (T.setTop (mkF B.m pc L st)) t) (go : Go B n0 Q h k n pc' L' st') : Go B n0 Q h k n pc L st := fun T locs X N eT => by
  obtain ⟨T', X', e', f'⟩ := f T locs X eT
  obtain ⟨t, o, a, r⟩ := go T' locs X' N e'
  exact ⟨t, o, f' t a, r⟩
theorem Go.eqs {st2 : List Value} (go : Go B n0 Q h k n pc L st2) (e : st = st2) : Go B n0 Q h k n pc L st := e ▸ go
theorem Go.eqh {h2 : Heap} (go : Go B n0 Q h2 k n pc L st) (e : h = h2) : Go B n0 Q h k n pc L st := e ▸ go
theorem g_iload_n (C : Ctx B l rm bytes own nm maxL ret Z) {i : Fin 4} {v : Int32} (hd : decode bytes pc = .ok (.iload_n i, 1)) (hl : L[i.val]? = some (.val (.int v))) (hpc : pc + 1 = pc') (go : Go B n0 Q h k n pc' L (.int v :: st)) : Go B n0 Q h k n pc L st := go.step fun T locs X eT t q => Jvm.Free.XS.iloadN X.here C.2.2.1 rfl (hb C.2.2.2.1 hd) hl (by subst hpc; exact q)
theorem g_iload (C : Ctx B l rm bytes own nm maxL ret Z) {i : Nat} {v : Int32} (hd : decode bytes pc = .ok (.iload i, 2)) (hl : L[i]? = some (.val (.int v))) (hpc : pc + 2 = pc') (go : Go B n0 Q h k n pc' L (.int v :: st)) : Go B n0 Q h k n pc L st := go.step fun T locs X eT t q => Jvm.Free.XS.iload X.here C.2.2.1 rfl (hb C.2.2.2.1 hd) hl (by subst hpc; exact q)
theorem g_lload_n (C : Ctx B l rm bytes own nm maxL ret Z) {i : Fin 4} {v : Int64} (hd : decode bytes pc = .ok (.lload_n i, 1)) (hl : L[i.val]? = some (.val (.long v))) (hpc : pc + 1 = pc') (go : Go B n0 Q h k n pc' L (.long v :: st)) : Go B n0 Q h k n pc L st := go.step fun T locs X eT t q => Jvm.Free.XT.lloadN X.here C.2.2.1 rfl (hb C.2.2.2.1 hd) hl (by subst hpc; exact q)
theorem g_lload (C : Ctx B l rm bytes own nm maxL ret Z) {i : Nat} {v : Int64} (hd : decode bytes pc = .ok (.lload i, 2)) (hl : L[i]? = some (.val (.long v))) (hpc : pc + 2 = pc') (go : Go B n0 Q h k n pc' L (.long v :: st)) : Go B n0 Q h k n pc L st := go.step fun T locs X eT t q => Jvm.Free.XT.lload X.here C.2.2.1 rfl (hb C.2.2.2.1 hd) hl (by subst hpc; exact q)
theorem g_aload_n (C : Ctx B l rm bytes own nm maxL ret Z) {i : Fin 4} {v : Value} (hd : decode bytes pc = .ok (.aload_n i, 1)) (hl : L[i.val]? = some (.val v)) (hv : v.isRef = true) (hpc : pc + 1 = pc') (go : Go B n0 Q h k n pc' L (v :: st)) : Go B n0 Q h k n pc L st := go.step fun T locs X eT t q => Jvm.Free.XS.aloadN X.here C.2.2.1 rfl (hb C.2.2.2.1 hd) hl hv (by subst hpc; exact q)
theorem g_aload (C : Ctx B l rm bytes own nm maxL ret Z) {i : Nat} {v : Value} (hd : decode bytes pc = .ok (.aload i, 2)) (hl : L[i]? = some (.val v)) (hv : v.isRef = true) (hpc : pc + 2 = pc') (go : Go B n0 Q h k n pc' L (v :: st)) : Go B n0 Q h k n pc L st := go.step fun T locs X eT t q => Jvm.Free.XS.aload X.here C.2.2.1 rfl (hb C.2.2.2.1 hd) hl hv (by subst hpc; exact q)
theorem g_istore_n (C : Ctx B l rm bytes own nm maxL ret Z) {i : Fin 4} {v : Int32} (hd : decode bytes pc = .ok (.istore_n i, 1)) (hl : storeLocals L i.val (.int v) = some L') (hpc : pc + 1 = pc') (go : Go B n0 Q h k n pc' L' st) : Go B n0 Q h k n pc L (.int v :: st) := go.step fun T locs X eT t q => Jvm.Free.XS.istoreN X.here C.2.2.1 rfl (hb C.2.2.2.1 hd) rfl hl (by subst hpc; exact q)
theorem g_istore (C : Ctx B l rm bytes own nm maxL ret Z) {i : Nat} {v : Int32} (hd : decode bytes pc = .ok (.istore i, 2)) (hl : storeLocals L i (.int v) = some L') (hpc : pc + 2 = pc') (go : Go B n0 Q h k n pc' L' st) : Go B n0 Q h k n pc L (.int v :: st) := go.step fun T locs X eT t q => Jvm.Free.XS.istore X.here C.2.2.1 rfl (hb C.2.2.2.1 hd) rfl hl (by subst hpc; exact q)
theorem g_lstore_n (C : Ctx B l rm bytes own nm maxL ret Z) {i : Fin 4} {v : Int64} (hd : decode bytes pc = .ok (.lstore_n i, 1)) (hl : storeLocals L i.val (.long v) = some L') (hpc : pc + 1 = pc') (go : Go B n0 Q h k n pc' L' st) : Go B n0 Q h k n pc L (.long v :: st) := go.step fun T locs X eT t q => Jvm.Free.XT.lstoreN X.here C.2.2.1 rfl (hb C.2.2.2.1 hd) rfl hl (by subst hpc; exact q)
theorem g_lstore (C : Ctx B l rm bytes own nm maxL ret Z) {i : Nat} {v : Int64} (hd : decode bytes pc = .ok (.lstore i, 2)) (hl : storeLocals L i (.long v) = some L') (hpc : pc + 2 = pc') (go : Go B n0 Q h k n pc' L' st) : Go B n0 Q h k n pc L (.long v :: st) := go.step fun T locs X eT t q => Jvm.Free.XT.lstore X.here C.2.2.1 rfl (hb C.2.2.2.1 hd) rfl hl (by subst hpc; exact q)
theorem g_astore_n (C : Ctx B l rm bytes own nm maxL ret Z) {i : Fin 4} {v : Value} (hd : decode bytes pc = .ok (.astore_n i, 1)) (hl : storeLocals L i.val v = some L') (hv : v.isRef = true) (hpc : pc + 1 = pc') (go : Go B n0 Q h k n pc' L' st) : Go B n0 Q h k n pc L (v :: st) := go.step fun T locs X eT t q => Jvm.Free.XS.astoreN X.here C.2.2.1 rfl (hb C.2.2.2.1 hd) rfl hv hl (by subst hpc; exact q)
theorem g_astore (C : Ctx B l rm bytes own nm maxL ret Z) {i : Nat} {v : Value} (hd : decode bytes pc = .ok (.astore i, 2)) (hl : storeLocals L i v = some L') (hv : v.isRef = true) (hpc : pc + 2 = pc') (go : Go B n0 Q h k n pc' L' st) : Go B n0 Q h k n pc L (v :: st) := go.step fun T locs X eT t q => Jvm.Free.XS.astore X.here C.2.2.1 rfl (hb C.2.2.2.1 hd) rfl hv hl (by subst hpc; exact q)
theorem g_iinc (C : Ctx B l rm bytes own nm maxL ret Z) {i : Nat} {z : Int} {v w : Int32} (hd : decode bytes pc = .ok (.iinc i z, 3)) (hl : L[i]? = some (.val (.int v))) (hw : v + Int32.ofInt z = w) (hl' : storeLocals L i (.int w) = some L') (hpc : pc + 3 = pc') (go : Go B n0 Q h k n pc' L' st) : Go B n0 Q h k n pc L st := go.step fun T locs X eT t q => Jvm.Free.XS.iinc X.here C.2.2.1 rfl (hb C.2.2.2.1 hd) hl (by rw [hw]; exact hl') (by subst hpc; exact q)
theorem g_iconst (C : Ctx B l rm bytes own nm maxL ret Z) {z : Int} {v : Int32} (hd : decode bytes pc = .ok (.iconst z, 1)) (hv : Int32.ofInt z = v) (hpc : pc + 1 = pc') (go : Go B n0 Q h k n pc' L (.int v :: st)) : Go B n0 Q h k n pc L st := go.step fun T locs X eT t q => Jvm.Free.XS.iconst X.here C.2.2.1 rfl (hb C.2.2.2.1 hd) (by subst hpc hv; exact q)
theorem g_bipush (C : Ctx B l rm bytes own nm maxL ret Z) {z : Int} {v : Int32} (hd : decode bytes pc = .ok (.bipush z, 2)) (hv : (Int8.ofInt z).toInt32 = v) (hpc : pc + 2 = pc') (go : Go B n0 Q h k n pc' L (.int v :: st)) : Go B n0 Q h k n pc L st := go.step fun T locs X eT t q => Jvm.Free.XS.bipush X.here C.2.2.1 rfl (hb C.2.2.2.1 hd) (by subst hpc hv; exact q)
theorem g_lconst (C : Ctx B l rm bytes own nm maxL ret Z) {i : Fin 2} {v : Int64} (hd : decode bytes pc = .ok (.lconst i, 1)) (hv : Int64.ofNat i = v) (hpc : pc + 1 = pc') (go : Go B n0 Q h k n pc' L (.long v :: st)) : Go B n0 Q h k n pc L st := go.step fun T locs X eT t q => Jvm.Free.XT.lconst X.here C.2.2.1 rfl (hb C.2.2.2.1 hd) (by subst hpc hv; exact q)
theorem g_aconst_null (C : Ctx B l rm bytes own nm maxL ret Z)  (hd : decode bytes pc = .ok (.aconst_null, 1))  (hpc : pc + 1 = pc') (go : Go B n0 Q h k n pc' L (.null :: st)) : Go B n0 Q h k n pc L st := go.step fun T locs X eT t q => Jvm.Free.XS.aconstNull X.here C.2.2.1 rfl (hb C.2.2.2.1 hd)  (by subst hpc; exact q)
theorem g_iadd (C : Ctx B l rm bytes own nm maxL ret Z) {x y : Int32} (hd : decode bytes pc = .ok (.iadd, 1))  (hpc : pc + 1 = pc') (go : Go B n0 Q h k n pc' L (.int (x + y) :: st)) : Go B n0 Q h k n pc L (.int y :: .int x :: st) := go.step fun T locs X eT t q => Jvm.Free.XS.iadd X.here C.2.2.1 rfl (hb C.2.2.2.1 hd) rfl (by subst hpc; exact q)
theorem g_isub (C : Ctx B l rm bytes own nm maxL ret Z) {x y : Int32} (hd : decode bytes pc = .ok (.isub, 1))  (hpc : pc + 1 = pc') (go : Go B n0 Q h k n pc' L (.int (x - y) :: st)) : Go B n0 Q h k n pc L (.int y :: .int x :: st) := go.step fun T locs X eT t q => Jvm.Free.XS.isub X.here C.2.2.1 rfl (hb C.2.2.2.1 hd) rfl (by subst hpc; exact q)
theorem g_iand (C : Ctx B l rm bytes own nm maxL ret Z) {x y : Int32} (hd : decode bytes pc = .ok (.iand, 1))  (hpc : pc + 1 = pc') (go : Go B n0 Q h k n pc' L (.int (x &&& y) :: st)) : Go B n0 Q h k n pc L (.int y :: .int x :: st) := go.step fun T locs X eT t q => Jvm.Free.XS.iand X.here C.2.2.1 rfl (hb C.2.2.2.1 hd) rfl (by subst hpc; exact q)
theorem g_imul (C : Ctx B l rm bytes own nm maxL ret Z) {x y : Int32} (hd : decode bytes pc = .ok (.imul, 1))  (hpc : pc + 1 = pc') (go : Go B n0 Q h k n pc' L (.int (x * y) :: st)) : Go B n0 Q h k n pc L (.int y :: .int x :: st) := go.step fun T locs X eT t q => Jvm.Free.XS.imul X.here C.2.2.1 rfl (hb C.2.2.2.1 hd) rfl (by subst hpc; exact q)
theorem g_ixor (C : Ctx B l rm bytes own nm maxL ret Z) {x y : Int32} (hd : decode bytes pc = .ok (.ixor, 1))  (hpc : pc + 1 = pc') (go : Go B n0 Q h k n pc' L (.int (x ^^^ y) :: st)) : Go B n0 Q h k n pc L (.int y :: .int x :: st) := go.step fun T locs X eT t q => Jvm.Free.XT.ixor X.here C.2.2.1 rfl (hb C.2.2.2.1 hd) rfl (by subst hpc; exact q)
theorem g_ior (C : Ctx B l rm bytes own nm maxL ret Z) {x y : Int32} (hd : decode bytes pc = .ok (.ior, 1))  (hpc : pc + 1 = pc') (go : Go B n0 Q h k n pc' L (.int (x ||| y) :: st)) : Go B n0 Q h k n pc L (.int y :: .int x :: st) := go.step fun T locs X eT t q => Jvm.Free.XT.ior X.here C.2.2.1 rfl (hb C.2.2.2.1 hd) rfl (by subst hpc; exact q)
theorem g_ishl (C : Ctx B l rm bytes own nm maxL ret Z) {x y : Int32} (hd : decode bytes pc = .ok (.ishl, 1))  (hpc : pc + 1 = pc') (go : Go B n0 Q h k n pc' L (.int (x <<< (y &&& 31)) :: st)) : Go B n0 Q h k n pc L (.int y :: .int x :: st) := go.step fun T locs X eT t q => Jvm.Free.XT.ishl X.here C.2.2.1 rfl (hb C.2.2.2.1 hd) rfl (by subst hpc; exact q)
theorem g_ishr (C : Ctx B l rm bytes own nm maxL ret Z) {x y : Int32} (hd : decode bytes pc = .ok (.ishr, 1))  (hpc : pc + 1 = pc') (go : Go B n0 Q h k n pc' L (.int (x >>> (y &&& 31)) :: st)) : Go B n0 Q h k n pc L (.int y :: .int x :: st) := go.step fun T locs X eT t q => Jvm.Free.XT.ishr X.here C.2.2.1 rfl (hb C.2.2.2.1 hd) rfl (by subst hpc; exact q)
theorem g_iushr (C : Ctx B l rm bytes own nm maxL ret Z) {x y : Int32} (hd : decode bytes pc = .ok (.iushr, 1))  (hpc : pc + 1 = pc') (go : Go B n0 Q h k n pc' L (.int (Jvm.Free.XT.ushr x y) :: st)) : Go B n0 Q h k n pc L (.int y :: .int x :: st) := go.step fun T locs X eT t q => Jvm.Free.XT.iushr X.here C.2.2.1 rfl (hb C.2.2.2.1 hd) rfl (by subst hpc; exact q)
theorem g_idiv (C : Ctx B l rm bytes own nm maxL ret Z) {x y : Int32} (hd : decode bytes pc = .ok (.idiv, 1)) (hy : y ≠ 0) (hpc : pc + 1 = pc') (go : Go B n0 Q h k n pc' L (.int (x / y) :: st)) : Go B n0 Q h k n pc L (.int y :: .int x :: st) := go.step fun T locs X eT t q => Jvm.Free.XS.idiv X.here C.2.2.1 rfl (hb C.2.2.2.1 hd) rfl hy (by subst hpc; exact q)
theorem g_irem (C : Ctx B l rm bytes own nm maxL ret Z) {x y : Int32} (hd : decode bytes pc = .ok (.irem, 1)) (hy : y ≠ 0) (hpc : pc + 1 = pc') (go : Go B n0 Q h k n pc' L (.int (x - (x / y) * y) :: st)) : Go B n0 Q h k n pc L (.int y :: .int x :: st) := go.step fun T locs X eT t q => Jvm.Free.XS.irem X.here C.2.2.1 rfl (hb C.2.2.2.1 hd) rfl hy (by subst hpc; exact q)
theorem g_ineg (C : Ctx B l rm bytes own nm maxL ret Z) {x : Int32} (hd : decode bytes pc = .ok (.ineg, 1))  (hpc : pc + 1 = pc') (go : Go B n0 Q h k n pc' L (.int (-x) :: st)) : Go B n0 Q h k n pc L (.int x :: st) := go.step fun T locs X eT t q => Jvm.Free.XS.ineg X.here C.2.2.1 rfl (hb C.2.2.2.1 hd) rfl (by subst hpc; exact q)
theorem g_ladd (C : Ctx B l rm bytes own nm maxL ret Z) {x y : Int64} (hd : decode bytes pc = .ok (.ladd, 1))  (hpc : pc + 1 = pc') (go : Go B n0 Q h k n pc' L (.long (x + y) :: st)) : Go B n0 Q h k n pc L (.long y :: .long x :: st) := go.step fun T locs X eT t q => Jvm.Free.XT.ladd X.here C.2.2.1 rfl (hb C.2.2.2.1 hd) rfl (by subst hpc; exact q)
theorem g_lsub (C : Ctx B l rm bytes own nm maxL ret Z) {x y : Int64} (hd : decode bytes pc = .ok (.lsub, 1))  (hpc : pc + 1 = pc') (go : Go B n0 Q h k n pc' L (.long (x - y) :: st)) : Go B n0 Q h k n pc L (.long y :: .long x :: st) := go.step fun T locs X eT t q => Jvm.Free.XT.lsub X.here C.2.2.1 rfl (hb C.2.2.2.1 hd) rfl (by subst hpc; exact q)
theorem g_lmul (C : Ctx B l rm bytes own nm maxL ret Z) {x y : Int64} (hd : decode bytes pc = .ok (.lmul, 1))  (hpc : pc + 1 = pc') (go : Go B n0 Q h k n pc' L (.long (x * y) :: st)) : Go B n0 Q h k n pc L (.long y :: .long x :: st) := go.step fun T locs X eT t q => Jvm.Free.XT.lmul X.here C.2.2.1 rfl (hb C.2.2.2.1 hd) rfl (by subst hpc; exact q)
theorem g_land (C : Ctx B l rm bytes own nm maxL ret Z) {x y : Int64} (hd : decode bytes pc = .ok (.land, 1))  (hpc : pc + 1 = pc') (go : Go B n0 Q h k n pc' L (.long (x &&& y) :: st)) : Go B n0 Q h k n pc L (.long y :: .long x :: st) := go.step fun T locs X eT t q => Jvm.Free.XT.land X.here C.2.2.1 rfl (hb C.2.2.2.1 hd) rfl (by subst hpc; exact q)
theorem g_lor (C : Ctx B l rm bytes own nm maxL ret Z) {x y : Int64} (hd : decode bytes pc = .ok (.lor, 1))  (hpc : pc + 1 = pc') (go : Go B n0 Q h k n pc' L (.long (x ||| y) :: st)) : Go B n0 Q h k n pc L (.long y :: .long x :: st) := go.step fun T locs X eT t q => Jvm.Free.XT.lor X.here C.2.2.1 rfl (hb C.2.2.2.1 hd) rfl (by subst hpc; exact q)
theorem g_lxor (C : Ctx B l rm bytes own nm maxL ret Z) {x y : Int64} (hd : decode bytes pc = .ok (.lxor, 1))  (hpc : pc + 1 = pc') (go : Go B n0 Q h k n pc' L (.long (x ^^^ y) :: st)) : Go B n0 Q h k n pc L (.long y :: .long x :: st) := go.step fun T locs X eT t q => Jvm.Free.XT.lxor X.here C.2.2.1 rfl (hb C.2.2.2.1 hd) rfl (by subst hpc; exact q)
theorem g_ldiv (C : Ctx B l rm bytes own nm maxL ret Z) {x y : Int64} (hd : decode bytes pc = .ok (.ldiv, 1)) (hy : y ≠ 0) (hpc : pc + 1 = pc') (go : Go B n0 Q h k n pc' L (.long (x / y) :: st)) : Go B n0 Q h k n pc L (.long y :: .long x :: st) := go.step fun T locs X eT t q => Jvm.Free.XT.ldiv X.here C.2.2.1 rfl (hb C.2.2.2.1 hd) rfl hy (by subst hpc; exact q)
theorem g_lrem (C : Ctx B l rm bytes own nm maxL ret Z) {x y : Int64} (hd : decode bytes pc = .ok (.lrem, 1)) (hy : y ≠ 0) (hpc : pc + 1 = pc') (go : Go B n0 Q h k n pc' L (.long (x - (x / y) * y) :: st)) : Go B n0 Q h k n pc L (.long y :: .long x :: st) := go.step fun T locs X eT t q => Jvm.Free.XT.lrem X.here C.2.2.1 rfl (hb C.2.2.2.1 hd) rfl hy (by subst hpc; exact q)
theorem g_lneg (C : Ctx B l rm bytes own nm maxL ret Z) {x : Int64} (hd : decode bytes pc = .ok (.lneg, 1))  (hpc : pc + 1 = pc') (go : Go B n0 Q h k n pc' L (.long (-x) :: st)) : Go B n0 Q h k n pc L (.long x :: st) := go.step fun T locs X eT t q => Jvm.Free.XT.lneg X.here C.2.2.1 rfl (hb C.2.2.2.1 hd) rfl (by subst hpc; exact q)
theorem g_lshl (C : Ctx B l rm bytes own nm maxL ret Z) {x : Int64} {y : Int32} (hd : decode bytes pc = .ok (.lshl, 1))  (hpc : pc + 1 = pc') (go : Go B n0 Q h k n pc' L (.long (x <<< (y.toInt64 &&& 63)) :: st)) : Go B n0 Q h k n pc L (.int y :: .long x :: st) := go.step fun T locs X eT t q => Jvm.Free.XT.lshl X.here C.2.2.1 rfl (hb C.2.2.2.1 hd) rfl (by subst hpc; exact q)
theorem g_lshr (C : Ctx B l rm bytes own nm maxL ret Z) {x : Int64} {y : Int32} (hd : decode bytes pc = .ok (.lshr, 1))  (hpc : pc + 1 = pc') (go : Go B n0 Q h k n pc' L (.long (x >>> (y.toInt64 &&& 63)) :: st)) : Go B n0 Q h k n pc L (.int y :: .long x :: st) := go.step fun T locs X eT t q => Jvm.Free.XT.lshr X.here C.2.2.1 rfl (hb C.2.2.2.1 hd) rfl (by subst hpc; exact q)
theorem g_lushr (C : Ctx B l rm bytes own nm maxL ret Z) {x : Int64} {y : Int32} (hd : decode bytes pc = .ok (.lushr, 1))  (hpc : pc + 1 = pc') (go : Go B n0 Q h k n pc' L (.long (Jvm.Free.XT.ushrL x y) :: st)) : Go B n0 Q h k n pc L (.int y :: .long x :: st) := go.step fun T locs X eT t q => Jvm.Free.XT.lushr X.here C.2.2.1 rfl (hb C.2.2.2.1 hd) rfl (by subst hpc; exact q)
theorem g_lcmp (C : Ctx B l rm bytes own nm maxL ret Z) {x y : Int64} (hd : decode bytes pc = .ok (.lcmp, 1))  (hpc : pc + 1 = pc') (go : Go B n0 Q h k n pc' L (.int (Jvm.Free.XT.cmpL x y) :: st)) : Go B n0 Q h k n pc L (.long y :: .long x :: st) := go.step fun T locs X eT t q => Jvm.Free.XT.lcmp X.here C.2.2.1 rfl (hb C.2.2.2.1 hd) rfl (by subst hpc; exact q)
theorem g_i2l (C : Ctx B l rm bytes own nm maxL ret Z) {x : Int32} (hd : decode bytes pc = .ok (.i2l, 1))  (hpc : pc + 1 = pc') (go : Go B n0 Q h k n pc' L (.long (x.toInt64) :: st)) : Go B n0 Q h k n pc L (.int x :: st) := go.step fun T locs X eT t q => Jvm.Free.XT.i2l X.here C.2.2.1 rfl (hb C.2.2.2.1 hd) rfl (by subst hpc; exact q)
theorem g_l2i (C : Ctx B l rm bytes own nm maxL ret Z) {x : Int64} (hd : decode bytes pc = .ok (.l2i, 1))  (hpc : pc + 1 = pc') (go : Go B n0 Q h k n pc' L (.int (x.toInt32) :: st)) : Go B n0 Q h k n pc L (.long x :: st) := go.step fun T locs X eT t q => Jvm.Free.XT.l2i X.here C.2.2.1 rfl (hb C.2.2.2.1 hd) rfl (by subst hpc; exact q)
theorem g_i2b (C : Ctx B l rm bytes own nm maxL ret Z) {x : Int32} (hd : decode bytes pc = .ok (.i2b, 1))  (hpc : pc + 1 = pc') (go : Go B n0 Q h k n pc' L (.int (x.toInt8.toInt32) :: st)) : Go B n0 Q h k n pc L (.int x :: st) := go.step fun T locs X eT t q => Jvm.Free.XT.i2b X.here C.2.2.1 rfl (hb C.2.2.2.1 hd) rfl (by subst hpc; exact q)
theorem g_i2c (C : Ctx B l rm bytes own nm maxL ret Z) {x : Int32} (hd : decode bytes pc = .ok (.i2c, 1))  (hpc : pc + 1 = pc') (go : Go B n0 Q h k n pc' L (.int (x.toUInt32.toUInt16.toUInt32.toInt32) :: st)) : Go B n0 Q h k n pc L (.int x :: st) := go.step fun T locs X eT t q => Jvm.Free.XT.i2c X.here C.2.2.1 rfl (hb C.2.2.2.1 hd) rfl (by subst hpc; exact q)
theorem g_i2s (C : Ctx B l rm bytes own nm maxL ret Z) {x : Int32} (hd : decode bytes pc = .ok (.i2s, 1))  (hpc : pc + 1 = pc') (go : Go B n0 Q h k n pc' L (.int (x.toInt16.toInt32) :: st)) : Go B n0 Q h k n pc L (.int x :: st) := go.step fun T locs X eT t q => Jvm.Free.XT.i2s X.here C.2.2.1 rfl (hb C.2.2.2.1 hd) rfl (by subst hpc; exact q)
theorem g_dup (C : Ctx B l rm bytes own nm maxL ret Z) {x : Value} (hd : decode bytes pc = .ok (.dup, 1)) (hc : x.category = 1) (hpc : pc + 1 = pc') (go : Go B n0 Q h k n pc' L (x :: x :: st)) : Go B n0 Q h k n pc L (x :: st) := go.step fun T locs X eT t q => Jvm.Free.XS.dup X.here C.2.2.1 rfl (hb C.2.2.2.1 hd) rfl hc (by subst hpc; exact q)
theorem g_pop (C : Ctx B l rm bytes own nm maxL ret Z) {x : Value} (hd : decode bytes pc = .ok (.pop, 1)) (hc : x.category = 1) (hpc : pc + 1 = pc') (go : Go B n0 Q h k n pc' L st) : Go B n0 Q h k n pc L (x :: st) := go.step fun T locs X eT t q => Jvm.Free.XT.pop X.here C.2.2.1 rfl (hb C.2.2.2.1 hd) rfl hc (by subst hpc; exact q)
theorem g_dup_x1 (C : Ctx B l rm bytes own nm maxL ret Z) {x y : Value} (hd : decode bytes pc = .ok (.dup_x1, 1)) (hc : x.category = 1) (hc' : y.category = 1) (hpc : pc + 1 = pc') (go : Go B n0 Q h k n pc' L (x :: y :: x :: st)) : Go B n0 Q h k n pc L (x :: y :: st) := go.step fun T locs X eT t q => Jvm.Free.XT.dupX1 X.here C.2.2.1 rfl (hb C.2.2.2.1 hd) rfl hc hc' (by subst hpc; exact q)
theorem g_dup2 (C : Ctx B l rm bytes own nm maxL ret Z) {x y : Value} (hd : decode bytes pc = .ok (.dup2, 1)) (hc : x.category = 1) (hc' : y.category = 1) (hpc : pc + 1 = pc') (go : Go B n0 Q h k n pc' L (x :: y :: x :: y :: st)) : Go B n0 Q h k n pc L (x :: y :: st) := go.step fun T locs X eT t q => Jvm.Free.XT.dup2 X.here C.2.2.1 rfl (hb C.2.2.2.1 hd) rfl hc hc' (by subst hpc; exact q)
theorem g_dup2L (C : Ctx B l rm bytes own nm maxL ret Z) {x : Int64} (hd : decode bytes pc = .ok (.dup2, 1))  (hpc : pc + 1 = pc') (go : Go B n0 Q h k n pc' L (.long x :: .long x :: st)) : Go B n0 Q h k n pc L (.long x :: st) := go.step fun T locs X eT t q => Jvm.Free.XT.dup2L X.here C.2.2.1 rfl (hb C.2.2.2.1 hd) rfl (by subst hpc; exact q)
theorem g_goto (C : Ctx B l rm bytes own nm maxL ret Z) {o : Int} (hd : decode bytes pc = .ok (.goto o, 3)) (ho : 0 ≤ (pc : Int) + o) (hp : ((pc : Int) + o).toNat = pc') (go : Go B n0 Q h k n pc' L st) : Go B n0 Q h k n pc L st := go.step fun T locs X eT t q => Jvm.Free.XS.goto X.here C.2.2.1 rfl rfl (hb C.2.2.2.1 hd) ho hp q
theorem g_if_y (C : Ctx B l rm bytes own nm maxL ret Z) {cd : ClassFile.Cond} {x : Int32} {o : Int} (hd : decode bytes pc = .ok (.ifCond cd o, 3)) (hc : ifCond.holds cd x = true) (ho : 0 ≤ (pc : Int) + o) (hp : ((pc : Int) + o).toNat = pc') (go : Go B n0 Q h k n pc' L st) : Go B n0 Q h k n pc L (.int x :: st) := go.step fun T locs X eT t q => Jvm.Free.XS.ifYes X.here C.2.2.1 rfl rfl (hb C.2.2.2.1 hd) rfl hc ho hp q
theorem g_if_n (C : Ctx B l rm bytes own nm maxL ret Z) {cd : ClassFile.Cond} {x : Int32} {o : Int} (hd : decode bytes pc = .ok (.ifCond cd o, 3)) (hc : ifCond.holds cd x = false) (hpc : pc + 3 = pc') (go : Go B n0 Q h k n pc' L st) : Go B n0 Q h k n pc L (.int x :: st) := go.step fun T locs X eT t q => Jvm.Free.XS.ifNo X.here C.2.2.1 rfl (hb C.2.2.2.1 hd) rfl hc (by subst hpc; exact q)
theorem g_icmp_y (C : Ctx B l rm bytes own nm maxL ret Z) {cd : ClassFile.Cond} {x y : Int32} {o : Int} (hd : decode bytes pc = .ok (.if_icmp cd o, 3)) (hc : if_icmp.holds cd x y = true) (ho : 0 ≤ (pc : Int) + o) (hp : ((pc : Int) + o).toNat = pc') (go : Go B n0 Q h k n pc' L st) : Go B n0 Q h k n pc L (.int y :: .int x :: st) := go.step fun T locs X eT t q => Jvm.Free.XS.icmpYes X.here C.2.2.1 rfl rfl (hb C.2.2.2.1 hd) rfl hc ho hp q
theorem g_icmp_n (C : Ctx B l rm bytes own nm maxL ret Z) {cd : ClassFile.Cond} {x y : Int32} {o : Int} (hd : decode bytes pc = .ok (.if_icmp cd o, 3)) (hc : if_icmp.holds cd x y = false) (hpc : pc + 3 = pc') (go : Go B n0 Q h k n pc' L st) : Go B n0 Q h k n pc L (.int y :: .int x :: st) := go.step fun T locs X eT t q => Jvm.Free.XS.icmpNo X.here C.2.2.1 rfl (hb C.2.2.2.1 hd) rfl hc (by subst hpc; exact q)
theorem g_acmp_y (C : Ctx B l rm bytes own nm maxL ret Z) {cd : ClassFile.ACond} {x y : Value} {o : Int} (hd : decode bytes pc = .ok (.if_acmp cd o, 3)) (hc1 : x.isRef = true) (hc2 : y.isRef = true) (hc : Jvm.Free.XT.acmp cd x y = true) (ho : 0 ≤ (pc : Int) + o) (hp : ((pc : Int) + o).toNat = pc') (go : Go B n0 Q h k n pc' L st) : Go B n0 Q h k n pc L (y :: x :: st) := go.step fun T locs X eT t q => Jvm.Free.XT.acmpYes X.here C.2.2.1 rfl rfl (hb C.2.2.2.1 hd) rfl hc1 hc2 hc ho hp q
theorem g_acmp_n (C : Ctx B l rm bytes own nm maxL ret Z) {cd : ClassFile.ACond} {x y : Value} {o : Int} (hd : decode bytes pc = .ok (.if_acmp cd o, 3)) (hc1 : x.isRef = true) (hc2 : y.isRef = true) (hc : Jvm.Free.XT.acmp cd x y = false) (hpc : pc + 3 = pc') (go : Go B n0 Q h k n pc' L st) : Go B n0 Q h k n pc L (y :: x :: st) := go.step fun T locs X eT t q => Jvm.Free.XT.acmpNo X.here C.2.2.1 rfl (hb C.2.2.2.1 hd) rfl hc1 hc2 hc (by subst hpc; exact q)
theorem g_ifnull_y (C : Ctx B l rm bytes own nm maxL ret Z) {o : Int} (hd : decode bytes pc = .ok (.ifnull o, 3)) (ho : 0 ≤ (pc : Int) + o) (hp : ((pc : Int) + o).toNat = pc') (go : Go B n0 Q h k n pc' L st) : Go B n0 Q h k n pc L (.null :: st) := go.step fun T locs X eT t q => Jvm.Free.XS.ifnullYes X.here C.2.2.1 rfl rfl (hb C.2.2.2.1 hd) rfl ho hp q
theorem g_ifnull_n (C : Ctx B l rm bytes own nm maxL ret Z) {o : Int} {b : Addr} (hd : decode bytes pc = .ok (.ifnull o, 3)) (hpc : pc + 3 = pc') (go : Go B n0 Q h k n pc' L st) : Go B n0 Q h k n pc L (.ref b :: st) := go.step fun T locs X eT t q => Jvm.Free.XS.ifnullNo X.here C.2.2.1 rfl (hb C.2.2.2.1 hd) rfl (by subst hpc; exact q)
theorem g_ifnonnull_y (C : Ctx B l rm bytes own nm maxL ret Z) {o : Int} {b : Addr} (hd : decode bytes pc = .ok (.ifnonnull o, 3)) (ho : 0 ≤ (pc : Int) + o) (hp : ((pc : Int) + o).toNat = pc') (go : Go B n0 Q h k n pc' L st) : Go B n0 Q h k n pc L (.ref b :: st) := go.step fun T locs X eT t q => Jvm.Free.XT.ifnonnullYes X.here C.2.2.1 rfl rfl (hb C.2.2.2.1 hd) rfl ho hp q
theorem g_ifnonnull_n (C : Ctx B l rm bytes own nm maxL ret Z) {o : Int} (hd : decode bytes pc = .ok (.ifnonnull o, 3)) (hpc : pc + 3 = pc') (go : Go B n0 Q h k n pc' L st) : Go B n0 Q h k n pc L (.null :: st) := go.step fun T locs X eT t q => Jvm.Free.XT.ifnonnullNo X.here C.2.2.1 rfl (hb C.2.2.2.1 hd) rfl (by subst hpc; exact q)
theorem g_ldc (C : Ctx B l rm bytes own nm maxL ret Z) {i : Nat} {v : Int32} (w : (Jvm.Cond.constant own i v).before a0 Z = true) (hd : decode bytes pc = .ok (.ldc i, 2)) (hpc : pc + 2 = pc') (go : Go B n0 Q h k n pc' L (.int v :: st)) : Go B n0 Q h k n pc L st := go.step fun T locs X eT t q => X.ldcInt C.2.2.1 C.2.2.2.2.2.1 (mvT C.2.2.2.2.1 w) (g := mkF B.m pc L st) rfl (hb C.2.2.2.1 hd) t (by subst hpc; exact q)
theorem g_ldc_w (C : Ctx B l rm bytes own nm maxL ret Z) {i : Nat} {v : Int32} (w : (Jvm.Cond.constant own i v).before a0 Z = true) (hd : decode bytes pc = .ok (.ldc_w i, 3)) (hpc : pc + 3 = pc') (go : Go B n0 Q h k n pc' L (.int v :: st)) : Go B n0 Q h k n pc L st := go.step fun T locs X eT t q => X.ldcwInt C.2.2.1 C.2.2.2.2.2.1 (mvT C.2.2.2.2.1 w) (g := mkF B.m pc L st) rfl (hb C.2.2.2.1 hd) t (by subst hpc; exact q)
theorem g_ldc2_w (C : Ctx B l rm bytes own nm maxL ret Z) {i : Nat} {v : Int64} (w : (Jvm.Cond.constantLong own i v).before a0 Z = true) (hd : decode bytes pc = .ok (.ldc2_w i, 3)) (hpc : pc + 3 = pc') (go : Go B n0 Q h k n pc' L (.long v :: st)) : Go B n0 Q h k n pc L st := go.step fun T locs X eT t q => X.ldc2Long C.2.2.1 C.2.2.2.2.2.1 (mvT C.2.2.2.2.1 w) (g := mkF B.m pc L st) rfl (hb C.2.2.2.1 hd) t (by subst hpc; exact q)
theorem g_getfield (C : Ctx B l rm bytes own nm maxL ret Z) {i : Nat} {R0 O fn d host : String} {a : Addr} {v : Value} (w : (Jvm.Cond.fieldLink own i R0 fn d).before a0 Z = true ∨ (Jvm.Cond.fieldLinkNest own i R0 fn d host).before a0 Z = true) (via : Via Z R0 O fn d) (F : Fld Z h a O fn d v) (hd : decode bytes pc = .ok (.getfield i, 3)) (hpc : pc + 3 = pc') (go : Go B n0 Q h k n pc' L (v :: st)) : Go B n0 Q h k n pc L (.ref a :: st) := go.move fun T locs X eT => by
  obtain ⟨T', X', e', f⟩ := getF X C.2.2.1 C.2.2.2.2.1 C.2.2.2.2.2.1 w via eT F (g := mkF B.m pc L (.ref a :: st)) rfl rfl (hb C.2.2.2.1 hd)
  subst hpc; exact ⟨T', X', e', f⟩
theorem g_getstatic (C : Ctx B l rm bytes own nm maxL ret Z) {i : Nat} {R0 O fn d host : String} {v : Value} (w : (Jvm.Cond.fieldLink own i R0 fn d).before a0 Z = true ∨ (Jvm.Cond.fieldLinkNest own i R0 fn d host).before a0 Z = true) (via : Via Z R0 O fn d) (F : Sta Z h O fn d v) (hd : decode bytes pc = .ok (.getstatic i, 3)) (hpc : pc + 3 = pc') (go : Go B n0 Q h k n pc' L (v :: st)) : Go B n0 Q h k n pc L st := go.move fun T locs X eT => by
  obtain ⟨T', X', e', f⟩ := getS2 X C.2.2.1 C.2.2.2.2.1 C.2.2.2.2.2.1 w via eT F (g := mkF B.m pc L st) rfl (hb C.2.2.2.1 hd)
  subst hpc; exact ⟨T', X', e', f⟩
theorem g_checkcast (C : Ctx B l rm bytes own nm maxL ret Z) {i : Nat} {K : String} {a : Addr} (w : (Jvm.Cond.classLink own i K).before a0 Z = true) (F : Ins Z h a K true) (hd : decode bytes pc = .ok (.checkcast i, 3)) (hpc : pc + 3 = pc') (go : Go B n0 Q h k n pc' L (.ref a :: st)) : Go B n0 Q h k n pc L (.ref a :: st) := go.move fun T locs X eT => by
  obtain ⟨T', X', e', f⟩ := castY X C.2.2.1 C.2.2.2.2.1 C.2.2.2.2.2.1 w eT F (g := mkF B.m pc L (.ref a :: st)) rfl rfl (hb C.2.2.2.1 hd)
  subst hpc; exact ⟨T', X', e', f⟩
theorem g_instanceof_y (C : Ctx B l rm bytes own nm maxL ret Z) {i : Nat} {K : String} {a : Addr} (w : (Jvm.Cond.classLink own i K).before a0 Z = true) (F : Ins Z h a K true) (hd : decode bytes pc = .ok (.instanceof i, 3)) (hpc : pc + 3 = pc') (go : Go B n0 Q h k n pc' L (.int 1 :: st)) : Go B n0 Q h k n pc L (.ref a :: st) := go.move fun T locs X eT => by
  obtain ⟨T', X', e', f⟩ := instY X C.2.2.1 C.2.2.2.2.1 C.2.2.2.2.2.1 w eT F (g := mkF B.m pc L (.ref a :: st)) rfl rfl (hb C.2.2.2.1 hd)
  subst hpc; exact ⟨T', X', e', f⟩
theorem g_instanceof_n (C : Ctx B l rm bytes own nm maxL ret Z) {i : Nat} {K K' : String} {a : Addr} (w : (Jvm.Cond.classLink own i K).before a0 Z = true) (E : Exa Z h a K') (F : ∃ c t, Z.vm.findClass K' = some c ∧ Z.vm.findClass K = some t ∧ Z.vm.assignable c t = false) (hd : decode bytes pc = .ok (.instanceof i, 3)) (hpc : pc + 3 = pc') (go : Go B n0 Q h k n pc' L (.int 0 :: st)) : Go B n0 Q h k n pc L (.ref a :: st) := go.move fun T locs X eT => by
  obtain ⟨T', X', e', f⟩ := instNo X C.2.2.1 C.2.2.2.2.1 C.2.2.2.2.2.1 w eT E F (g := mkF B.m pc L (.ref a :: st)) rfl rfl (hb C.2.2.2.1 hd)
  subst hpc; exact ⟨T', X', e', f⟩
theorem g_putfield (C : Ctx B l rm bytes own nm maxL ret Z) {i kk : Nat} {R0 O fn d host K : String} {ty : FieldType} {a : Addr} {v old : Value} (w : (Jvm.Cond.fieldLink own i R0 fn d).before a0 Z = true ∨ (Jvm.Cond.fieldLinkNest own i R0 fn d host).before a0 Z = true) (via : Via Z R0 O fn d) (F : Fld Z h a O fn d old) (E : Exa Z h a K) (Ly : (Jvm.Cond.lays K O fn d).before a0 Z = true ∨ ((Jvm.Cond.laysFinal K O fn d).before a0 Z = true ∧ own = O ∧ nm = "<init>")) (wi : (Jvm.Cond.instantiable K kk).before a0 Z = true) (hty : parseFieldDescriptor d = some ty) (hn : narrow ty v = v) (hf : fits ty v = true) (ge : n0 ≤ a) (hd : decode bytes pc = .ok (.putfield i, 3)) (hpc : pc + 3 = pc') (go : ∀ h', Wr h h' a (Jvm.RoadKit.slotOf Z O fn d) v → Go B n0 Q h' k n pc' L st) : Go B n0 Q h k n pc L (v :: .ref a :: st) := fun T locs X N eT => by
  obtain ⟨T', h', X', e', W, f⟩ := putF X C.2.2.1 C.2.2.2.2.1 C.2.2.2.2.2.1 w via eT F E (Ly.imp id fun q => ⟨q.1, q.2.1, by rw [C.2.2.2.2.2.2.1]; exact q.2.2⟩) wi hty hn hf (g := mkF B.m pc L (v :: .ref a :: st)) rfl rfl (hb C.2.2.2.1 hd)
  obtain ⟨t, o, q, r⟩ := go h' W T' _ X' (Fr.snoc X' N ge) e'
  subst hpc
  exact ⟨t, o, f t q, r⟩
theorem g_new (C : Ctx B l rm bytes own nm maxL ret Z) {i nn : Nat} {K : String} (w : (Jvm.Cond.classLink own i K).before a0 Z = true) (wi : (Jvm.Cond.instantiable K nn).before a0 Z = true) (wz : (Jvm.Cond.initialized K).before a0 Z = true) (hc : k + 1 ≤ rm.cells) (hl : n + nn ≤ rm.slots) (hd : decode bytes pc = .ok (.new i, 3)) (hpc : pc + 3 = pc') (go : ∀ h' a, a = h.size → Ext h h' → Exa Z h' a K → (∀ {O fn d : String} {ty : FieldType}, Laid Z a0 K O fn d → parseFieldDescriptor d = some ty → Fld Z h' a O fn d (defaultValue ty)) → Go B n0 Q h' (k + 1) (n + nn) pc' L (.ref a :: st)) : Go B n0 Q h k n pc L st := fun T locs X N eT => by
  obtain ⟨T', h', X', e', E, A, D, -, f⟩ := newO X C.2.2.1 C.2.2.2.2.1 C.2.2.2.2.2.1 w wi wz eT (g := mkF B.m pc L st) rfl (hb C.2.2.2.1 hd) (by rw [C.2.1]; exact hc) (by rw [C.2.1]; exact hl)
  obtain ⟨t, o, q, r⟩ := go h' _ rfl E A D T' _ X' N e'
  subst hpc
  exact ⟨t, o, f t q, r⟩
theorem g_initObj (C : Ctx B l rm bytes own nm maxL ret Z) {i : Nat} {a : Addr} (w1 : (Jvm.Cond.methodLink own i Lib.objectInit).before a0 Z = true) (w2 : (Jvm.Cond.instanceMethod Lib.objectInit).before a0 Z = true) (w3 : (Jvm.Cond.code Lib.objectInit ⟨#[0xb1]⟩ 1 none).before a0 Z = true) (hsz : L.size = maxL) (hf : 1 ≤ rm.frames) {W : Nat} (hW : (st.map fun v => v.category).sum ≤ W) (hl : W + 12 ≤ rm.locals) (hd : decode bytes pc = .ok (.invokespecial i, 3)) (hpc : pc + 3 = pc') (go : Go B n0 Q h k n pc' L st) : Go B n0 Q h k n pc L (.ref a :: st) := fun T locs X N eT => by
  obtain ⟨T', X', e', f⟩ := initO X C.2.2.1 C.2.2.2.2.1 C.2.2.2.2.2.1 w1 w2 w3 eT (g := mkF B.m pc L (.ref a :: st)) rfl (by rw [C.2.2.2.2.2.2.2.1]; exact hsz) rfl (hb C.2.2.2.1 hd) (by rw [C.2.1]; exact hf) (W := W) (by show 2 * 0 + _ ≤ _; omega) (by rw [C.2.1]; exact hl)
  obtain ⟨t, o, q, r⟩ := go T' _ X' N e'
  subst hpc
  exact ⟨t, o, f t q, r⟩
theorem g_static (C : Ctx B l rm bytes own nm maxL ret Z) {i : Nat} {y : MethodName} {b' : ByteArray} {mx : Nat} {rt : Option FieldType} {rm' : Room} {as' : Array Value} {Q' : Option Value → Heap → Prop} (w1 : (Jvm.Cond.methodLink own i y).before a0 Z = true) (w2 : (Jvm.Cond.static y).before a0 Z = true) (wz : (Jvm.Cond.initialized y.cls).before a0 Z = true) (wc : (Jvm.Cond.code y b' mx rt).before a0 Z = true) (hy : y.cls ≠ "java/lang/invoke/MethodHandle" ∧ y.cls ≠ "java/lang/invoke/VarHandle") (K : Met1 l Z y b' mx rt rm' n0 as' h Q') (argsL : List Value) {stk : List Value} (hst : stk = argsL.reverse ++ st) (has : as' = argsL.toArray) {ps : List FieldType} {r' : Option FieldType} (pd : parseMethodDescriptor y.desc = some ⟨ps, r'⟩) (hlen : argsL.length = ps.length) (hsz : L.size = maxL) (hf : rm'.frames + 1 ≤ rm.frames) {W : Nat} (hW : (st.map fun v => v.category).sum ≤ W) (hlo : W + (mx + 11) + rm'.locals ≤ rm.locals) (hc : k + rm'.cells ≤ rm.cells) (hs : n + rm'.slots ≤ rm.slots) (hd : decode bytes pc = .ok (.invokestatic i, 3)) (hpc : pc + 3 = pc') (go : ∀ v h', Q' v h' → Go B n0 Q h' (k + rm'.cells) (n + rm'.slots) pc' L (v.toList ++ st)) : Go B n0 Q h k n pc L stk := fun T locs X N eT => by
  subst hst has
  obtain ⟨v, _, ⟨T', L1, k1, n1⟩, -, X', ⟨L2, ⟨N', hq⟩, l1, l2, l3⟩, f⟩ := Jvm.LawKit.callS X C.2.2.1 (y := y) C.2.2.2.2.2.1 (mvT C.2.2.2.2.1 w1) (mvT C.2.2.2.2.1 w2) (mvT C.2.2.2.2.1 wz) (mvT C.2.2.2.2.1 wc) hy (backOf (W := W) (Q := fun v h L => Fr n0 L ∧ Q' v h) (C.1 ▸ K []) C.2.2.2.2.1 wc wz (by rw [C.2.1]; exact hf) (by rw [C.2.1]; exact hlo)) (g := mkF B.m pc L (argsL.reverse ++ st)) rfl (by rw [C.2.2.2.2.2.2.2.1]; exact hsz) (argsL := argsL) (rest := st) (lenOf pd hlen) rfl (by show 2 * 0 + _ ≤ _; omega) (hb C.2.2.2.1 hd) (fun _ _ => ⟨rfl, eT, by rw [C.2.1]; exact hc, by rw [C.2.1]; exact hs⟩)
  dsimp only [Pt.U, Pt.locs, Pt.cells, Pt.slots] at X' l1 l2 l3 f hq
  subst l1 l2 l3
  obtain ⟨t, o, q, r⟩ := go v _ hq T' _ X' (Fr.app N N') rfl
  subst hpc
  exact ⟨t, o, f t q, r⟩
theorem g_special (C : Ctx B l rm bytes own nm maxL ret Z) {i : Nat} {y : MethodName} {b' : ByteArray} {mx : Nat} {rm' : Room} {as' : Array Value} {Q' : Option Value → Heap → Prop} {a : Addr} (hy1 : y.name = "<init>") (w1 : (Jvm.Cond.methodLink own i y).before a0 Z = true) (w2 : (Jvm.Cond.instanceMethod y).before a0 Z = true) (wz : (Jvm.Cond.initialized y.cls).before a0 Z = true) (wc : (Jvm.Cond.code y b' mx none).before a0 Z = true) (hy : y.cls ≠ "java/lang/invoke/MethodHandle" ∧ y.cls ≠ "java/lang/invoke/VarHandle") (K : Met1 l Z y b' mx none rm' n0 as' h Q') (argsL : List Value) {stk : List Value} (hst : stk = argsL.reverse ++ .ref a :: st) (has : as' = (Value.ref a :: argsL).toArray) {ps : List FieldType} {r' : Option FieldType} (pd : parseMethodDescriptor y.desc = some ⟨ps, r'⟩) (hlen : argsL.length = ps.length) (hsz : L.size = maxL) (hf : rm'.frames + 1 ≤ rm.frames) {W : Nat} (hW : (st.map fun v => v.category).sum ≤ W) (hlo : W + (mx + 11) + rm'.locals ≤ rm.locals) (hc : k + rm'.cells ≤ rm.cells) (hs : n + rm'.slots ≤ rm.slots) (hd : decode bytes pc = .ok (.invokespecial i, 3)) (hpc : pc + 3 = pc') (go : ∀ v h', Q' v h' → Go B n0 Q h' (k + rm'.cells) (n + rm'.slots) pc' L (v.toList ++ st)) : Go B n0 Q h k n pc L stk := fun T locs X N eT => by
  subst hst has
  obtain ⟨v, _, ⟨T', L1, k1, n1⟩, -, X', ⟨L2, ⟨N', hq⟩, l1, l2, l3⟩, f⟩ := X.specialBack C.2.2.1 (y := y) hy1 C.2.2.2.2.2.1 (mvT C.2.2.2.2.1 w1) (mvT C.2.2.2.2.1 w2) (mvT C.2.2.2.2.1 wc) hy (backOf (W := W) (Q := fun v h L => Fr n0 L ∧ Q' v h) (C.1 ▸ K []) C.2.2.2.2.1 wc wz (by rw [C.2.1]; exact hf) (by rw [C.2.1]; exact hlo)) (g := mkF B.m pc L (argsL.reverse ++ .ref a :: st)) rfl (by rw [C.2.2.2.2.2.2.2.1]; exact hsz) (Steps.refl _) (a := a) (argsL := argsL) (rest := st) (lenOf pd hlen) rfl (by show 2 * 0 + _ ≤ _; omega) (hb C.2.2.2.1 hd) (fun _ _ => ⟨rfl, eT, by rw [C.2.1]; exact hc, by rw [C.2.1]; exact hs⟩)
  dsimp only [Pt.U, Pt.locs, Pt.cells, Pt.slots] at X' l1 l2 l3 f hq
  subst l1 l2 l3
  obtain ⟨t, o, q, r⟩ := go v _ hq T' _ X' (Fr.app N N') rfl
  subst hpc
  exact ⟨t, o, f.trans q, r⟩
theorem g_virtual (C : Ctx B l rm bytes own nm maxL ret Z) {i : Nat} {y : MethodName} {b' : ByteArray} {mx : Nat} {rt : Option FieldType} {rm' : Room} {as' : Array Value} {Q' : Option Value → Heap → Prop} {a : Addr} {K' : String} {y0 : MethodName} (w1 : (Jvm.Cond.methodLink own i y0).before a0 Z = true) (w2 : (Jvm.Cond.declares y0).before a0 Z = true) (w3 : (Jvm.Cond.selects K' y0 y).before a0 Z = true) (w4 : (Jvm.Cond.instanceMethod y).before a0 Z = true) (wz : (Jvm.Cond.initialized y.cls).before a0 Z = true) (wc : (Jvm.Cond.code y b' mx rt).before a0 Z = true) (nf : NotFace B.s y0) (hy : y0.cls ≠ "java/lang/invoke/MethodHandle" ∧ y0.cls ≠ "java/lang/invoke/VarHandle") (E : Exa Z h a K') (K : Met1 l Z y b' mx rt rm' n0 as' h Q') (argsL : List Value) {stk : List Value} (hst : stk = argsL.reverse ++ .ref a :: st) (has : as' = (Value.ref a :: argsL).toArray) {ps : List FieldType} {r' : Option FieldType} (pd : parseMethodDescriptor y0.desc = some ⟨ps, r'⟩) (hlen : argsL.length = ps.length) (hsz : L.size = maxL) (hf : rm'.frames + 1 ≤ rm.frames) {W : Nat} (hW : (st.map fun v => v.category).sum ≤ W) (hlo : W + (mx + 11) + rm'.locals ≤ rm.locals) (hc : k + rm'.cells ≤ rm.cells) (hs : n + rm'.slots ≤ rm.slots) (hd : decode bytes pc = .ok (.invokevirtual i, 3)) (hpc : pc + 3 = pc') (go : ∀ v h', Q' v h' → Go B n0 Q h' (k + rm'.cells) (n + rm'.slots) pc' L (v.toList ++ st)) : Go B n0 Q h k n pc L stk := fun T locs X N eT => by
  subst hst has
  obtain ⟨cq, kq, qa, qb, qc⟩ := isOf C.2.2.2.2.1 eT E
  obtain ⟨v, _, ⟨T', L1, k1, n1⟩, -, X', ⟨L2, ⟨N', hq⟩, l1, l2, l3⟩, f⟩ := X.virtualBack C.2.2.1 (y := y0) (z := y) C.2.2.2.2.2.1 (mvT C.2.2.2.2.1 w1) (mvT C.2.2.2.2.1 w2) nf (mvT C.2.2.2.2.1 w3) (mvT C.2.2.2.2.1 w4) hy (backOf (W := W) (Q := fun v h L => Fr n0 L ∧ Q' v h) (C.1 ▸ K []) C.2.2.2.2.1 wc wz (by rw [C.2.1]; exact hf) (by rw [C.2.1]; exact hlo)) qa qc (g := mkF B.m pc L (argsL.reverse ++ .ref a :: st)) rfl (by rw [C.2.2.2.2.2.2.2.1]; exact hsz) (Steps.refl _) (argsL := argsL) (rest := st) (lenOf pd hlen) rfl (by show 2 * 0 + _ ≤ _; omega) (hb C.2.2.2.1 hd) (fun _ _ => ⟨rfl, eT, by rw [C.2.1]; exact hc, by rw [C.2.1]; exact hs⟩)
  dsimp only [Pt.U, Pt.locs, Pt.cells, Pt.slots] at X' l1 l2 l3 f hq
  subst l1 l2 l3
  obtain ⟨t, o, q, r⟩ := go v _ hq T' _ X' (Fr.app N N') rfl
  subst hpc
  exact ⟨t, o, f.trans q, r⟩
theorem g_ret (C : Ctx B l rm bytes own nm maxL ret Z) {v : Value} {ty : FieldType} {i : Instr} (hret : ret = some ty) (hn : narrow ty v = v)
    (hi : (i = .ireturn ∧ (ty = .int ∨ ty = .boolean ∨ ty = .byte ∨ ty = .char ∨ ty = .short) ∧ ∃ z, v = .int z) ∨ (i = .lreturn ∧ ty = .long ∧ ∃ z, v = .long z) ∨ (i = .dreturn ∧ ty = .double ∧ ∃ z, v = .double z) ∨ (i = .freturn ∧ ty = .float ∧ ∃ z, v = .float z) ∨ (i = .areturn ∧ ty.isReference = true ∧ v.isRef = true))
    (hd : decode bytes pc = .ok (i, 1)) (hk : k ≤ rm.cells) (hs : n ≤ rm.slots) (go : Q (some v) h) : Go B n0 Q h k n pc L (v :: st) := fun T locs X N eT => by
  have hr0 : B.meth.sig.returnType = some ty := C.2.2.2.2.2.2.2.2.1.trans hret
  obtain ⟨fs, hr, hrun, hended, hW, hsame⟩ := X.leave (v := some v) (fun q => by rw [hr0] at q; cases q) C.2.2.2.2.2.2.2.2.2
  exact ⟨_, _, retOut X C.2.2.1 hr0 hn hi (hb C.2.2.2.1 hd) hr, hrun, hended, _, _, rfl, ⟨N, by show Q _ T.heap; rw [eT]; exact go⟩, ⟨_, rfl⟩, hW, hsame.mono (by rw [C.2.1]; exact hk) (by rw [C.2.1]; exact hs)⟩
theorem g_return (C : Ctx B l rm bytes own nm maxL ret Z) (hret : ret = none) (hd : decode bytes pc = .ok (.return_, 1)) (hk : k ≤ rm.cells) (hs : n ≤ rm.slots) (go : Q none h) : Go B n0 Q h k n pc L [] := fun T locs X N eT => by
  have hr0 : B.meth.sig.returnType = none := C.2.2.2.2.2.2.2.2.1.trans hret
  obtain ⟨fs, hr, hrun, hended, hW, hsame⟩ := X.leave (v := none) (fun _ => rfl) C.2.2.2.2.2.2.2.2.2
  exact ⟨_, _, X.returnOut C.2.2.1 hr0 (hb C.2.2.2.1 hd) hr, hrun, hended, _, _, rfl, ⟨N, by show Q _ T.heap; rw [eT]; exact go⟩, ⟨_, rfl⟩, hW, hsame.mono (by rw [C.2.1]; exact hk) (by rw [C.2.1]; exact hs)⟩
end Base
/-! arrays made on the road -/
section Arrays
variable {Z : State} {h h' : Heap} {a b : Addr} {ty : FieldType} {vs : List Value} {ws : List Addr} {sl : Nat} {v : Value} {K : String}
def Ary (Z : State) (h : Heap) (a : Addr) (ty : FieldType) (vs : List Value) : Prop := ∃ c : Cell, Arr Z h a c ty ∧ c.slots.toList = vs ∧ vs.length < 2 ^ 31
def AryR (Z : State) (h : Heap) (a : Addr) (K : String) (vs : List Value) : Prop := ∃ c : Cell, Arr Z h a c (.object K) ∧ Ovr Z c.cls K ∧ c.slots.toList = vs ∧ vs.length < 2 ^ 31
theorem AryR.ary (F : AryR Z h a K vs) : Ary Z h a (.object K) vs := by obtain ⟨c, A, -, r⟩ := F; exact ⟨c, A, r⟩
theorem Ary.lt (F : Ary Z h a ty vs) : a < h.size := by obtain ⟨c, A, -⟩ := F; exact A.lt
theorem AryR.lt (F : AryR Z h a K vs) : a < h.size := F.ary.lt
theorem Ary.ext (F : Ary Z h a ty vs) (E : Ext h h') : Ary Z h' a ty vs := by obtain ⟨c, A, r⟩ := F; exact ⟨c, A.ext E, r⟩
theorem AryR.ext (F : AryR Z h a K vs) (E : Ext h h') : AryR Z h' a K vs := by obtain ⟨c, A, r⟩ := F; exact ⟨c, A.ext E, r⟩
theorem Ary.keep (F : Ary Z h a ty vs) (K : Keep h h' ws) (q : a ∉ ws) : Ary Z h' a ty vs := by obtain ⟨c, A, r⟩ := F; exact ⟨c, ⟨K.2.1 a c A.1 q, A.2⟩, r⟩
theorem AryR.keep (F : AryR Z h a K vs) (Kp : Keep h h' ws) (q : a ∉ ws) : AryR Z h' a K vs := by obtain ⟨c, A, r⟩ := F; exact ⟨c, ⟨Kp.2.1 a c A.1 q, A.2⟩, r⟩
theorem set_list (c : Cell) (i : Nat) (v : Value) : (c.setSlot i v).slots.toList = c.slots.toList.set i v := by simp [Cell.setSlot]
theorem keep_ext (E : Ext h h') : Keep h h' [] := (Keep.refl h []).ext E
theorem ne_new {c : Nat} (q : a < c) (e : b = c) : a ≠ b := fun z => absurd q (by rw [z, e]; exact Nat.lt_irrefl _)
theorem ne_newL {c : Nat} (q : a < c) (e : b = c) : b ≠ a := fun z => absurd q (by rw [← z, e]; exact Nat.lt_irrefl _)
theorem ne_ge {c : Nat} (q : a < c) (e : c ≤ b) : a ≠ b := fun z => absurd q (Nat.not_lt.mpr (z ▸ e))
theorem nin1 (q : a ≠ b) : a ∉ [b] := ninS q nin0
theorem in_b {j : Int32} {c : Cell} {i : Nat} (h0 : ¬ j < 0) (hj : j.toNatClampNeg = i) (hi : i < c.slots.size) : ¬ (j < 0 ∨ c.slots.size ≤ j.toNatClampNeg) := fun q => q.elim h0 fun q => by omega
end Arrays
section ArraySteps
variable {B : Bod} {l : Launch} {rm : Room} {bytes : ByteArray} {own nm : String} {maxL : Nat} {ret : Option FieldType} {Z : State} {n0 : Nat} {Q : Option Value → Heap → Prop} {h : Heap} {k n pc pc' : Nat} {L L' : Array Slot} {st st' : List Value} {a0 : Array Value}
theorem g_iaload (C : Ctx B l rm bytes own nm maxL ret Z) {a : Addr} {vs : List Value} {j : Int32} {i : Nat} {v : Int32} (F : Ary Z h a .int vs) (h0 : ¬ j < 0) (hj : j.toNatClampNeg = i) (hv : vs[i]? = some (.int v)) (hd : decode bytes pc = .ok (.iaload, 1)) (hpc : pc + 1 = pc') (go : Go B n0 Q h k n pc' L (.int v :: st)) : Go B n0 Q h k n pc L (.int j :: .ref a :: st) := go.step fun T locs X eT t q => by
  obtain ⟨c, A, rfl, hl⟩ := F
  have hi := (List.getElem?_eq_some_iff.mp hv).1
  rw [Array.length_toList] at hi
  rw [Array.getElem?_toList, ← hj] at hv
  exact X.iaload C.2.2.1 (by rw [eT]; exact A.1) (State.isArrayOf_alike C.2.2.2.2.1.alike A.2.1)  A.2.2 (in_b h0 hj hi) hv (g := mkF B.m pc L (.int j :: .ref a :: st)) rfl rfl (hb C.2.2.2.1 hd) t (by subst hpc; exact q)
theorem g_laload (C : Ctx B l rm bytes own nm maxL ret Z) {a : Addr} {vs : List Value} {j : Int32} {i : Nat} {v : Int64} (F : Ary Z h a .long vs) (h0 : ¬ j < 0) (hj : j.toNatClampNeg = i) (hv : vs[i]? = some (.long v)) (hd : decode bytes pc = .ok (.laload, 1)) (hpc : pc + 1 = pc') (go : Go B n0 Q h k n pc' L (.long v :: st)) : Go B n0 Q h k n pc L (.int j :: .ref a :: st) := go.step fun T locs X eT t q => by
  obtain ⟨c, A, rfl, hl⟩ := F
  have hi := (List.getElem?_eq_some_iff.mp hv).1
  rw [Array.length_toList] at hi
  rw [Array.getElem?_toList, ← hj] at hv
  exact X.laload C.2.2.1 (by rw [eT]; exact A.1) (State.isArrayOf_alike C.2.2.2.2.1.alike A.2.1)  A.2.2 (in_b h0 hj hi) hv (g := mkF B.m pc L (.int j :: .ref a :: st)) rfl rfl (hb C.2.2.2.1 hd) t (by subst hpc; exact q)
theorem g_caload (C : Ctx B l rm bytes own nm maxL ret Z) {a : Addr} {vs : List Value} {j : Int32} {i : Nat} {v : Int32} (F : Ary Z h a .char vs) (h0 : ¬ j < 0) (hj : j.toNatClampNeg = i) (hv : vs[i]? = some (.int v)) (hd : decode bytes pc = .ok (.caload, 1)) (hpc : pc + 1 = pc') (go : Go B n0 Q h k n pc' L (.int v :: st)) : Go B n0 Q h k n pc L (.int j :: .ref a :: st) := go.step fun T locs X eT t q => by
  obtain ⟨c, A, rfl, hl⟩ := F
  have hi := (List.getElem?_eq_some_iff.mp hv).1
  rw [Array.length_toList] at hi
  rw [Array.getElem?_toList, ← hj] at hv
  exact X.caload C.2.2.1 (by rw [eT]; exact A.1) (State.isArrayOf_alike C.2.2.2.2.1.alike A.2.1)  A.2.2 (in_b h0 hj hi) hv (g := mkF B.m pc L (.int j :: .ref a :: st)) rfl rfl (hb C.2.2.2.1 hd) t (by subst hpc; exact q)
theorem g_baloadB (C : Ctx B l rm bytes own nm maxL ret Z) {a : Addr} {vs : List Value} {j : Int32} {i : Nat} {v : Int32} (F : Ary Z h a .byte vs) (h0 : ¬ j < 0) (hj : j.toNatClampNeg = i) (hv : vs[i]? = some (.int v)) (hd : decode bytes pc = .ok (.baload, 1)) (hpc : pc + 1 = pc') (go : Go B n0 Q h k n pc' L (.int v :: st)) : Go B n0 Q h k n pc L (.int j :: .ref a :: st) := go.step fun T locs X eT t q => by
  obtain ⟨c, A, rfl, hl⟩ := F
  have hi := (List.getElem?_eq_some_iff.mp hv).1
  rw [Array.length_toList] at hi
  rw [Array.getElem?_toList, ← hj] at hv
  exact X.baloadBytes C.2.2.1 (by rw [eT]; exact A.1) (State.isArrayOf_alike C.2.2.2.2.1.alike A.2.1)  A.2.2 (in_b h0 hj hi) hv (g := mkF B.m pc L (.int j :: .ref a :: st)) rfl rfl (hb C.2.2.2.1 hd) t (by subst hpc; exact q)
theorem g_baloadZ (C : Ctx B l rm bytes own nm maxL ret Z) {a : Addr} {vs : List Value} {j : Int32} {i : Nat} {v : Int32} (F : Ary Z h a .boolean vs) (h0 : ¬ j < 0) (hj : j.toNatClampNeg = i) (hv : vs[i]? = some (.int v)) (hd : decode bytes pc = .ok (.baload, 1)) (hpc : pc + 1 = pc') (go : Go B n0 Q h k n pc' L (.int v :: st)) : Go B n0 Q h k n pc L (.int j :: .ref a :: st) := go.step fun T locs X eT t q => by
  obtain ⟨c, A, rfl, hl⟩ := F
  have hi := (List.getElem?_eq_some_iff.mp hv).1
  rw [Array.length_toList] at hi
  rw [Array.getElem?_toList, ← hj] at hv
  exact X.baloadBooleans C.2.2.1 (by rw [eT]; exact A.1) (State.isArrayOf_alike C.2.2.2.2.1.alike A.2.1)  A.2.2 (in_b h0 hj hi) hv (g := mkF B.m pc L (.int j :: .ref a :: st)) rfl rfl (hb C.2.2.2.1 hd) t (by subst hpc; exact q)
theorem g_aaload (C : Ctx B l rm bytes own nm maxL ret Z) {a : Addr} {vs : List Value} {j : Int32} {i : Nat} {v : Value} {ty : FieldType} (F : Ary Z h a ty vs) (hty : ty.isReference = true) (h0 : ¬ j < 0) (hj : j.toNatClampNeg = i) (hv : vs[i]? = some v) (hd : decode bytes pc = .ok (.aaload, 1)) (hpc : pc + 1 = pc') (go : Go B n0 Q h k n pc' L (v :: st)) : Go B n0 Q h k n pc L (.int j :: .ref a :: st) := go.step fun T locs X eT t q => by
  obtain ⟨c, A, rfl, hl⟩ := F
  have hi := (List.getElem?_eq_some_iff.mp hv).1
  rw [Array.length_toList] at hi
  rw [Array.getElem?_toList, ← hj] at hv
  exact X.aaload C.2.2.1 (by rw [eT]; exact A.1) (State.isArrayOf_alike C.2.2.2.2.1.alike A.2.1) hty A.2.2 (in_b h0 hj hi) hv (g := mkF B.m pc L (.int j :: .ref a :: st)) rfl rfl (hb C.2.2.2.1 hd) t (by subst hpc; exact q)
theorem g_arraylength (C : Ctx B l rm bytes own nm maxL ret Z) {a : Addr} {vs : List Value} {ty : FieldType} {z : Int32} (F : Ary Z h a ty vs) (hz : vs.length.toInt32 = z) (hd : decode bytes pc = .ok (.arraylength, 1)) (hpc : pc + 1 = pc') (go : Go B n0 Q h k n pc' L (.int z :: st)) : Go B n0 Q h k n pc L (.ref a :: st) := go.step fun T locs X eT t q => by
  obtain ⟨c, A, rfl, hl⟩ := F
  rw [Array.length_toList] at hz
  exact X.arraylength C.2.2.1 (by rw [eT]; exact A.1) (State.isArrayOf_alike C.2.2.2.2.1.alike A.2.1) (g := mkF B.m pc L (.ref a :: st)) rfl rfl (hb C.2.2.2.1 hd) t (by subst hpc hz; exact q)
theorem g_iastore (C : Ctx B l rm bytes own nm maxL ret Z) {a : Addr} {vs : List Value} {j : Int32} {i : Nat} {v : Int32} {w : Value} (F : Ary Z h a .int vs) (h0 : ¬ j < 0) (hj : j.toNatClampNeg = i) (hi : i < vs.length) (hw : Value.int v = w) (ge : n0 ≤ a) (hd : decode bytes pc = .ok (.iastore, 1)) (hpc : pc + 1 = pc') (go : ∀ h', Keep h h' [a] → Ary Z h' a .int (vs.set i w) → Go B n0 Q h' k n pc' L st) : Go B n0 Q h k n pc L (.int v :: .int j :: .ref a :: st) := fun T locs X N eT => by
  obtain ⟨c, A, rfl, hl⟩ := F
  have hi' := hi
  rw [Array.length_toList] at hi'
  obtain ⟨T', h', X', e', W, f⟩ := stI X C.2.2.1 C.2.2.2.2.1 eT A (in_b h0 hj hi') (g := mkF B.m pc L (.int v :: .int j :: .ref a :: st)) rfl rfl (hb C.2.2.2.1 hd)
  rw [hj, hw] at W
  obtain ⟨t, o, q, r⟩ := go h' (Keep.of_wr W) ⟨_, A.same W, set_list c i w, by rw [List.length_set]; exact hl⟩ T' _ X' (Fr.snoc X' N ge) e'
  subst hpc
  exact ⟨t, o, f t q, r⟩
theorem g_lastore (C : Ctx B l rm bytes own nm maxL ret Z) {a : Addr} {vs : List Value} {j : Int32} {i : Nat} {v : Int64} {w : Value} (F : Ary Z h a .long vs) (h0 : ¬ j < 0) (hj : j.toNatClampNeg = i) (hi : i < vs.length) (hw : Value.long v = w) (ge : n0 ≤ a) (hd : decode bytes pc = .ok (.lastore, 1)) (hpc : pc + 1 = pc') (go : ∀ h', Keep h h' [a] → Ary Z h' a .long (vs.set i w) → Go B n0 Q h' k n pc' L st) : Go B n0 Q h k n pc L (.long v :: .int j :: .ref a :: st) := fun T locs X N eT => by
  obtain ⟨c, A, rfl, hl⟩ := F
  have hi' := hi
  rw [Array.length_toList] at hi'
  obtain ⟨T', h', X', e', W, f⟩ := stJ X C.2.2.1 C.2.2.2.2.1 eT A (in_b h0 hj hi') (g := mkF B.m pc L (.long v :: .int j :: .ref a :: st)) rfl rfl (hb C.2.2.2.1 hd)
  rw [hj, hw] at W
  obtain ⟨t, o, q, r⟩ := go h' (Keep.of_wr W) ⟨_, A.same W, set_list c i w, by rw [List.length_set]; exact hl⟩ T' _ X' (Fr.snoc X' N ge) e'
  subst hpc
  exact ⟨t, o, f t q, r⟩
theorem g_castore (C : Ctx B l rm bytes own nm maxL ret Z) {a : Addr} {vs : List Value} {j : Int32} {i : Nat} {v : Int32} {w : Value} (F : Ary Z h a .char vs) (h0 : ¬ j < 0) (hj : j.toNatClampNeg = i) (hi : i < vs.length) (hw : Value.int (nar .char v) = w) (ge : n0 ≤ a) (hd : decode bytes pc = .ok (.castore, 1)) (hpc : pc + 1 = pc') (go : ∀ h', Keep h h' [a] → Ary Z h' a .char (vs.set i w) → Go B n0 Q h' k n pc' L st) : Go B n0 Q h k n pc L (.int v :: .int j :: .ref a :: st) := fun T locs X N eT => by
  obtain ⟨c, A, rfl, hl⟩ := F
  have hi' := hi
  rw [Array.length_toList] at hi'
  obtain ⟨T', h', X', e', W, f⟩ := stC X C.2.2.1 C.2.2.2.2.1 eT A (in_b h0 hj hi') (g := mkF B.m pc L (.int v :: .int j :: .ref a :: st)) rfl rfl (hb C.2.2.2.1 hd)
  rw [hj, hw] at W
  obtain ⟨t, o, q, r⟩ := go h' (Keep.of_wr W) ⟨_, A.same W, set_list c i w, by rw [List.length_set]; exact hl⟩ T' _ X' (Fr.snoc X' N ge) e'
  subst hpc
  exact ⟨t, o, f t q, r⟩
theorem g_bastoreB (C : Ctx B l rm bytes own nm maxL ret Z) {a : Addr} {vs : List Value} {j : Int32} {i : Nat} {v : Int32} {w : Value} (F : Ary Z h a .byte vs) (h0 : ¬ j < 0) (hj : j.toNatClampNeg = i) (hi : i < vs.length) (hw : Value.int (nar .byte v) = w) (ge : n0 ≤ a) (hd : decode bytes pc = .ok (.bastore, 1)) (hpc : pc + 1 = pc') (go : ∀ h', Keep h h' [a] → Ary Z h' a .byte (vs.set i w) → Go B n0 Q h' k n pc' L st) : Go B n0 Q h k n pc L (.int v :: .int j :: .ref a :: st) := fun T locs X N eT => by
  obtain ⟨c, A, rfl, hl⟩ := F
  have hi' := hi
  rw [Array.length_toList] at hi'
  obtain ⟨T', h', X', e', W, f⟩ := stB X C.2.2.1 C.2.2.2.2.1 eT A (in_b h0 hj hi') (g := mkF B.m pc L (.int v :: .int j :: .ref a :: st)) rfl rfl (hb C.2.2.2.1 hd)
  rw [hj, hw] at W
  obtain ⟨t, o, q, r⟩ := go h' (Keep.of_wr W) ⟨_, A.same W, set_list c i w, by rw [List.length_set]; exact hl⟩ T' _ X' (Fr.snoc X' N ge) e'
  subst hpc
  exact ⟨t, o, f t q, r⟩
theorem g_bastoreZ (C : Ctx B l rm bytes own nm maxL ret Z) {a : Addr} {vs : List Value} {j : Int32} {i : Nat} {v : Int32} {w : Value} (F : Ary Z h a .boolean vs) (h0 : ¬ j < 0) (hj : j.toNatClampNeg = i) (hi : i < vs.length) (hw : Value.int (nar .boolean v) = w) (ge : n0 ≤ a) (hd : decode bytes pc = .ok (.bastore, 1)) (hpc : pc + 1 = pc') (go : ∀ h', Keep h h' [a] → Ary Z h' a .boolean (vs.set i w) → Go B n0 Q h' k n pc' L st) : Go B n0 Q h k n pc L (.int v :: .int j :: .ref a :: st) := fun T locs X N eT => by
  obtain ⟨c, A, rfl, hl⟩ := F
  have hi' := hi
  rw [Array.length_toList] at hi'
  obtain ⟨T', h', X', e', W, f⟩ := stZ X C.2.2.1 C.2.2.2.2.1 eT A (in_b h0 hj hi') (g := mkF B.m pc L (.int v :: .int j :: .ref a :: st)) rfl rfl (hb C.2.2.2.1 hd)
  rw [hj, hw] at W
  obtain ⟨t, o, q, r⟩ := go h' (Keep.of_wr W) ⟨_, A.same W, set_list c i w, by rw [List.length_set]; exact hl⟩ T' _ X' (Fr.snoc X' N ge) e'
  subst hpc
  exact ⟨t, o, f t q, r⟩
theorem g_aastore (C : Ctx B l rm bytes own nm maxL ret Z) {a y : Addr} {K : String} {vs : List Value} {j : Int32} {i : Nat} (F : AryR Z h a K vs) (I : Ins Z h y K true) (h0 : ¬ j < 0) (hj : j.toNatClampNeg = i) (hi : i < vs.length) (ge : n0 ≤ a) (hd : decode bytes pc = .ok (.aastore, 1)) (hpc : pc + 1 = pc') (go : ∀ h', Keep h h' [a] → AryR Z h' a K (vs.set i (.ref y)) → Go B n0 Q h' k n pc' L st) : Go B n0 Q h k n pc L (.ref y :: .int j :: .ref a :: st) := fun T locs X N eT => by
  obtain ⟨c, A, O, rfl, hl⟩ := F
  have hi' := hi
  rw [Array.length_toList] at hi'
  obtain ⟨T', h', X', e', W, f⟩ := stR X C.2.2.1 C.2.2.2.2.1 eT A (in_b h0 hj hi') rfl (Sto.of A O I) (g := mkF B.m pc L (.ref y :: .int j :: .ref a :: st)) rfl rfl (hb C.2.2.2.1 hd)
  rw [hj] at W
  obtain ⟨t, o, q, r⟩ := go h' (Keep.of_wr W) ⟨_, A.same W, O, set_list c i _, by rw [List.length_set]; exact hl⟩ T' _ X' (Fr.snoc X' N ge) e'
  subst hpc
  exact ⟨t, o, f t q, r⟩
theorem g_newarray (C : Ctx B l rm bytes own nm maxL ret Z) {aty : ArrayType} {z : Int32} {cap : Nat} {ty : FieldType} (w : (Jvm.Cond.arrayClass (newarray.typeOf aty)).before a0 Z = true) (hty : newarray.typeOf aty = ty) (hz : ¬ z < 0) (hcap : z.toNatClampNeg = cap) (hcb : cap * 8 ≤ 536870912) (hc : k + 1 ≤ rm.cells) (hl : n + cap ≤ rm.slots) (hd : decode bytes pc = .ok (.newarray aty, 2)) (hpc : pc + 2 = pc') (go : ∀ h' a, a = h.size → Ext h h' → Ary Z h' a ty (List.replicate cap (defaultValue ty)) → Go B n0 Q h' (k + 1) (n + cap) pc' L (.ref a :: st)) : Go B n0 Q h k n pc L (.int z :: st) := fun T locs X N eT => by
  subst hty
  obtain ⟨T', h', cA, X', e', E, A, f⟩ := newP X C.2.2.1 C.2.2.2.2.1 w eT (g := mkF B.m pc L (.int z :: st)) rfl (hb C.2.2.2.1 hd) rfl hz (cap := cap) (Nat.le_of_eq hcap) hcb (by rw [C.2.1]; exact hc) (by rw [C.2.1]; exact hl)
  obtain ⟨t, o, q, r⟩ := go h' _ rfl E ⟨_, A, by rw [← hcap]; simp [newA], by rw [List.length_replicate]; omega⟩ T' _ X' N e'
  subst hpc
  exact ⟨t, o, f t q, r⟩
theorem g_newarrayUpTo (C : Ctx B l rm bytes own nm maxL ret Z) {aty : ArrayType} {z : Int32} {len cap : Nat} {ty : FieldType} (w : (Jvm.Cond.arrayClass (newarray.typeOf aty)).before a0 Z = true) (hty : newarray.typeOf aty = ty) (hz : ¬ z < 0) (hlen : z.toNatClampNeg = len) (hcap : len ≤ cap) (hcb : cap * 8 ≤ 536870912) (hc : k + 1 ≤ rm.cells) (hl : n + cap ≤ rm.slots) (hd : decode bytes pc = .ok (.newarray aty, 2)) (hpc : pc + 2 = pc') (go : ∀ h' a, a = h.size → Ext h h' → Ary Z h' a ty (List.replicate len (defaultValue ty)) → Go B n0 Q h' (k + 1) (n + cap) pc' L (.ref a :: st)) : Go B n0 Q h k n pc L (.int z :: st) := fun T locs X N eT => by
  subst hty
  obtain ⟨T', h', cA, X', e', E, A, f⟩ := newP X C.2.2.1 C.2.2.2.2.1 w eT (g := mkF B.m pc L (.int z :: st)) rfl (hb C.2.2.2.1 hd) rfl hz (cap := cap) (by rw [hlen]; exact hcap) hcb (by rw [C.2.1]; exact hc) (by rw [C.2.1]; exact hl)
  obtain ⟨t, o, q, r⟩ := go h' _ rfl E ⟨_, A, by rw [← hlen]; simp [newA], by rw [List.length_replicate]; omega⟩ T' _ X' N e'
  subst hpc
  exact ⟨t, o, f t q, r⟩
theorem g_anewarray (C : Ctx B l rm bytes own nm maxL ret Z) {i : Nat} {K : String} {z : Int32} {cap : Nat} (w : (Jvm.Cond.classLink own i K).before a0 Z = true) (w2 : (Jvm.Cond.arrayOver (.object K)).before a0 Z = true) (hz : ¬ z < 0) (hcap : z.toNatClampNeg = cap) (hcb : cap * 8 ≤ 536870912) (hc : k + 1 ≤ rm.cells) (hl : n + cap ≤ rm.slots) (hd : decode bytes pc = .ok (.anewarray i, 3)) (hpc : pc + 3 = pc') (go : ∀ h' a, a = h.size → Ext h h' → AryR Z h' a K (List.replicate cap .null) → Go B n0 Q h' (k + 1) (n + cap) pc' L (.ref a :: st)) : Go B n0 Q h k n pc L (.int z :: st) := fun T locs X N eT => by
  obtain ⟨T', h', cA, X', e', E, A, O, f⟩ := newR X C.2.2.1 C.2.2.2.2.1 C.2.2.2.2.2.1 w w2 eT (g := mkF B.m pc L (.int z :: st)) rfl (hb C.2.2.2.1 hd) rfl hz (cap := cap) (Nat.le_of_eq hcap) hcb (by rw [C.2.1]; exact hc) (by rw [C.2.1]; exact hl)
  obtain ⟨t, o, q, r⟩ := go h' _ rfl E ⟨_, A, O, by rw [← hcap]; simp [newA, defaultValue], by rw [List.length_replicate]; omega⟩ T' _ X' N e'
  subst hpc
  exact ⟨t, o, f t q, r⟩
end ArraySteps
end Jvm.OwnKit
namespace Jvm.OwnKit
open Jvm Jvm.ClassFile Sem Op Lib Jvm.Stand Jvm.Free Jvm.LawKit Jvm.RoadKit
section More
variable {B : Bod} {l : Launch} {rm : Room} {bytes : ByteArray} {own nm : String} {maxL : Nat} {ret : Option FieldType} {Z : State} {n0 : Nat} {Q : Option Value → Heap → Prop} {h h' : Heap} {k n pc pc' : Nat} {L L' : Array Slot} {st st' : List Value} {a0 : Array Value} {a b : Addr} {ty : FieldType} {vs vd : List Value}
theorem g_sipush (C : Ctx B l rm bytes own nm maxL ret Z) {z : Int} {v : Int32} (hd : decode bytes pc = .ok (.sipush z, 3)) (hv : (Int16.ofInt z).toInt32 = v) (hpc : pc + 3 = pc') (go : Go B n0 Q h k n pc' L (.int v :: st)) : Go B n0 Q h k n pc L st := go.step fun T locs X eT t q => Jvm.Free.XS.sipush X.here C.2.2.1 rfl (hb C.2.2.2.1 hd) (by subst hpc hv; exact q)
theorem g_instanceof_null (C : Ctx B l rm bytes own nm maxL ret Z) {i : Nat} (hd : decode bytes pc = .ok (.instanceof i, 3)) (hpc : pc + 3 = pc') (go : Go B n0 Q h k n pc' L (.int 0 :: st)) : Go B n0 Q h k n pc L (.null :: st) := go.step fun T locs X eT t q => X.instanceofNull C.2.2.1 (g := mkF B.m pc L (.null :: st)) rfl rfl (hb C.2.2.2.1 hd) t (by subst hpc; exact q)
theorem g_checkcast_null (C : Ctx B l rm bytes own nm maxL ret Z) {i : Nat} (hd : decode bytes pc = .ok (.checkcast i, 3)) (hpc : pc + 3 = pc') (go : Go B n0 Q h k n pc' L (.null :: st)) : Go B n0 Q h k n pc L (.null :: st) := go.step fun T locs X eT t q => X.checkcastNull C.2.2.1 (g := mkF B.m pc L (.null :: st)) rfl rfl (hb C.2.2.2.1 hd) t (by subst hpc; exact q)
theorem g_private (C : Ctx B l rm bytes own nm maxL ret Z) {i nn : Nat} {y : MethodName} {b' : ByteArray} {mx : Nat} {rt : Option FieldType} {rm' : Room} {as' : Array Value} {Q' : Option Value → Heap → Prop} {K' : String} (w1 : (Jvm.Cond.methodLink own i y).before a0 Z = true) (w4 : (Jvm.Cond.instanceMethod y).before a0 Z = true) (wp : (Jvm.Cond.privateMethod y).before a0 Z = true) (wi : (Jvm.Cond.instantiable y.cls nn).before a0 Z = true) (wz : (Jvm.Cond.initialized y.cls).before a0 Z = true) (wc : (Jvm.Cond.code y b' mx rt).before a0 Z = true) (hy : y.cls ≠ "java/lang/invoke/MethodHandle" ∧ y.cls ≠ "java/lang/invoke/VarHandle") (E : Exa Z h a K') (K : Met1 l Z y b' mx rt rm' n0 as' h Q') (argsL : List Value) {stk : List Value} (hst : stk = argsL.reverse ++ .ref a :: st) (has : as' = (Value.ref a :: argsL).toArray) {ps : List FieldType} {r' : Option FieldType} (pd : parseMethodDescriptor y.desc = some ⟨ps, r'⟩) (hlen : argsL.length = ps.length) (hsz : L.size = maxL) (hf : rm'.frames + 1 ≤ rm.frames) {W : Nat} (hW : (st.map fun v => v.category).sum ≤ W) (hlo : W + (mx + 11) + rm'.locals ≤ rm.locals) (hc : k + rm'.cells ≤ rm.cells) (hs : n + rm'.slots ≤ rm.slots) (hd : decode bytes pc = .ok (.invokevirtual i, 3)) (hpc : pc + 3 = pc') (go : ∀ v h', Q' v h' → Go B n0 Q h' (k + rm'.cells) (n + rm'.slots) pc' L (v.toList ++ st)) : Go B n0 Q h k n pc L stk := fun T locs X N eT => by
  subst hst has
  obtain ⟨cq, kq, qa, qb, cellq, qc, qd, qe⟩ := isOf C.2.2.2.2.1 eT E
  obtain ⟨c9, k9, u1, u2, u3, u4, -⟩ := Cond.instantiable_spec (mvT (args := B.args) C.2.2.2.2.1 wi)
  have hni : k9.isInterface = false := by simp only [Bool.or_eq_false_iff] at u4; exact u4.1
  have hpr := Cond.privateMethod_at (mvP C.2.2.2.2.1 wp (args := B.args))
  have hsel := selects_self_of_private (args := B.args) u1 u2 hni hpr (mvT C.2.2.2.2.1 w4) hy
  obtain ⟨v, _, ⟨T', L1, k1, n1⟩, -, X', ⟨L2, ⟨N', hq⟩, l1, l2, l3⟩, f⟩ := X.privateBack C.2.2.1 (y := y) C.2.2.2.2.2.1 (mvT C.2.2.2.2.1 w1) (mvT C.2.2.2.2.1 w4) hsel hpr (mvT C.2.2.2.2.1 wc) hy (backOf (W := W) (Q := fun v h L => Fr n0 L ∧ Q' v h) (C.1 ▸ K []) C.2.2.2.2.1 wc wz (by rw [C.2.1]; exact hf) (by rw [C.2.1]; exact hlo)) (g := mkF B.m pc L (argsL.reverse ++ .ref a :: st)) rfl (by rw [C.2.2.2.2.2.2.2.1]; exact hsz) (Steps.refl _) (a := a) qc (fun z e => by rw [e] at qe; cases qe) (argsL := argsL) (rest := st) (lenOf pd hlen) rfl (by show 2 * 0 + _ ≤ _; omega) (hb C.2.2.2.1 hd) (fun _ _ => ⟨rfl, eT, by rw [C.2.1]; exact hc, by rw [C.2.1]; exact hs⟩)
  dsimp only [Pt.U, Pt.locs, Pt.cells, Pt.slots] at X' l1 l2 l3 f hq
  subst l1 l2 l3
  obtain ⟨t, o, q, r⟩ := go v _ hq T' _ X' (Fr.app N N') rfl
  subst hpc
  exact ⟨t, o, f.trans q, r⟩
theorem nat32 {m : Nat} (q : m < 2 ^ 31) : m.toInt32.toNatClampNeg = m := Int32.toNatClampNeg_ofNat_of_lt q
theorem nneg32 {m : Nat} (q : m < 2 ^ 31) : ¬ m.toInt32 < 0 := by
  have e := len_toInt q
  rw [Int32.lt_iff_toInt_lt, e]
  show ¬ (m : Int) < 0
  omega
theorem Ary.arv (F : Ary Z h a ty vs) (hf : ∀ v ∈ vs, fits ty v = true) (dv : Value) : ∃ kk, Arv Z h a kk ty vs.length.toInt32 vs dv := by
  obtain ⟨c, A, rfl, hl⟩ := F
  have hs : c.slots.toList.length = c.slots.size := Array.length_toList
  refine ⟨c.cls, c, A, rfl, ?_, nneg32 hl, fun i hi => ?_, fun i hi => ?_⟩
  · rw [nat32 hl, hs]
  · rw [List.getD_eq_getElem?_getD, Array.getElem?_toList, Array.getElem?_eq_getElem hi]; rfl
  · apply hf
    rw [List.getD_eq_getElem?_getD, Array.getElem?_toList, Array.getElem?_eq_getElem hi]
    exact Array.mem_toList_iff.mpr (Array.getElem_mem hi)
theorem Arv.ary {kk : ClassId} {z : Int32} {dv : Value} (F : Arv Z h a kk ty z vs dv) (hz : z.toNatClampNeg = vs.length) (hl : vs.length < 2 ^ 31) : Ary Z h a ty vs := by
  obtain ⟨c, A, -, S, -, H, -⟩ := F
  refine ⟨c, A, ?_, hl⟩
  apply List.ext_getElem?
  intro i
  by_cases hi : i < c.slots.size
  · rw [Array.getElem?_toList, H i hi, List.getD_eq_getElem?_getD, List.getElem?_eq_getElem (by omega)]; rfl
  · rw [List.getElem?_eq_none (by rw [Array.length_toList]; omega), List.getElem?_eq_none (by omega)]
theorem g_arraycopy (C : Ctx B l rm bytes own nm maxL ret Z) {i : Nat} {sp dp nn : Int32} {spN dpN nnN : Nat} (w1 : (Jvm.Cond.methodLink own i Jvm.Stand.acN).before a0 Z = true) (w2 : (Jvm.Cond.native Jvm.Stand.acN).before a0 Z = true) (w3 : (Jvm.Cond.static Jvm.Stand.acN).before a0 Z = true) (w4 : (Jvm.Cond.initialized "java/lang/System").before a0 Z = true) (F : Ary Z h a ty vs) (G : Ary Z h b ty vd) (hp : refKind ty = false) (hfa : ∀ v ∈ vs, fits ty v = true) (hfb : ∀ v ∈ vd, fits ty v = true) (h1 : ¬ sp < 0) (h2 : ¬ dp < 0) (h3 : ¬ nn < 0) (e1 : sp.toNatClampNeg = spN) (e2 : dp.toNatClampNeg = dpN) (e3 : nn.toNatClampNeg = nnN) (h4 : spN + nnN ≤ vs.length) (h5 : dpN + nnN ≤ vd.length) {out : List Value} (ho : vd.take dpN ++ (List.range nnN).map (fun j => vs.getD (spN + j) .null) ++ vd.drop (dpN + nnN) = out) (ge : n0 ≤ b) (hsz : L.size = maxL) (hf : 1 ≤ rm.frames) {W : Nat} (hW : (st.map fun v => v.category).sum ≤ W) (hlo : W + (nativeFrameWords "java/lang/System" "arraycopy" 5 + 11) ≤ rm.locals) (hd : decode bytes pc = .ok (.invokestatic i, 3)) (hpc : pc + 3 = pc') (go : ∀ h', Keep h h' [b] → Ary Z h' b ty out → Go B n0 Q h' k n pc' L st) : Go B n0 Q h k n pc L (.int nn :: .int dp :: .ref b :: .int sp :: .ref a :: st) := fun T locs X N eT => by
  obtain ⟨ka, A⟩ := F.arv hfa .null
  obtain ⟨kb, A'⟩ := G.arv hfb .null
  obtain ⟨-, -, -, hla⟩ := F
  have hlb : vd.length < 2 ^ 31 := by obtain ⟨-, -, -, q⟩ := G; exact q
  subst e1 e2 e3
  obtain ⟨T', h', L', X', e', N', Kp, R', f⟩ := cpA X C.2.2.1 C.2.2.2.2.1 C.2.2.2.2.2.1 w1 w2 w3 w4 eT A A' (us := (List.range nn.toNatClampNeg).map fun j => vs.getD (sp.toNatClampNeg + j) .null) (Or.inl ⟨rfl, hp⟩) h1 h2 h3 (by rw [nat32 hla]; exact h4) (by rw [nat32 hlb]; exact h5) rfl h5 N ge (g := mkF B.m pc L (.int nn :: .int dp :: .ref b :: .int sp :: .ref a :: st)) rfl (by rw [C.2.2.2.2.2.2.2.1]; exact hsz) rfl (hb C.2.2.2.1 hd) (by rw [C.2.1]; exact hf) (W := W) (by show 2 * 0 + _ ≤ _; omega) (by rw [C.2.1]; exact hlo)
  have ol : (vd.take dp.toNatClampNeg ++ (List.range nn.toNatClampNeg).map (fun j => vs.getD (sp.toNatClampNeg + j) .null) ++ vd.drop (dp.toNatClampNeg + nn.toNatClampNeg)).length = vd.length := by simp; omega
  obtain ⟨t, o, q, r⟩ := go h' Kp (ho ▸ Arv.ary R' (by rw [nat32 hlb, ol]) (by rw [ol]; exact hlb)) T' _ X' N' e'
  subst hpc
  exact ⟨t, o, f t q, r⟩
theorem g_newarrayE (C : Ctx B l rm bytes own nm maxL ret Z) {aty : ArrayType} {z : Int32} {cap : Nat} {ty : FieldType} {ad : String} (w : (Jvm.Cond.arrayClass (newarray.typeOf aty)).before a0 Z = true) (hty : newarray.typeOf aty = ty) (had : "[" ++ (newarray.typeOf aty).toString = ad) (hz : ¬ z < 0) (hcap : z.toNatClampNeg = cap) (hcb : cap * 8 ≤ 536870912) (hc : k + 1 ≤ rm.cells) (hl : n + cap ≤ rm.slots) (hd : decode bytes pc = .ok (.newarray aty, 2)) (hpc : pc + 2 = pc') (go : ∀ h' a, a = h.size → Ext h h' → Ary Z h' a ty (List.replicate cap (defaultValue ty)) → Exa Z h' a ad → Go B n0 Q h' (k + 1) (n + cap) pc' L (.ref a :: st)) : Go B n0 Q h k n pc L (.int z :: st) := fun T locs X N eT => by
  subst hty
  obtain ⟨T', h', cA, X', e', E, A, Ex, f⟩ := newPE X C.2.2.1 C.2.2.2.2.1 w eT (g := mkF B.m pc L (.int z :: st)) rfl (hb C.2.2.2.1 hd) rfl hz (cap := cap) (Nat.le_of_eq hcap) hcb (by rw [C.2.1]; exact hc) (by rw [C.2.1]; exact hl) had
  obtain ⟨t, o, q, r⟩ := go h' _ rfl E ⟨_, A, by rw [← hcap]; simp [newA], by rw [List.length_replicate]; omega⟩ Ex T' _ X' N e'
  subst hpc
  exact ⟨t, o, f t q, r⟩
theorem g_clone (C : Ctx B l rm bytes own nm maxL ret Z) {i cap : Nat} {ad : String} (w1 : (Jvm.Cond.methodLink own i ⟨ad, "clone", "()Ljava/lang/Object;"⟩).before a0 Z = true) (w2 : (Jvm.Cond.sameMethod ad "java/lang/Object" "clone" "()Ljava/lang/Object;").before a0 Z = true) (w3 : (Jvm.Cond.native ⟨"java/lang/Object", "clone", "()Ljava/lang/Object;"⟩).before a0 Z = true)
    (w4 : (Jvm.Cond.instanceMethod ⟨"java/lang/Object", "clone", "()Ljava/lang/Object;"⟩).before a0 Z = true) (w5 : (Jvm.Cond.selects ad ⟨ad, "clone", "()Ljava/lang/Object;"⟩ ⟨"java/lang/Object", "clone", "()Ljava/lang/Object;"⟩).before a0 Z = true) (w6 : (Jvm.Cond.castable ad "java/lang/Cloneable").before a0 Z = true)
    (F : Ary Z h a ty vs) (E : Exa Z h a ad) (hfa : ∀ v ∈ vs, fits ty v = true) (hsz : L.size = maxL) (hf : 1 ≤ rm.frames) {W : Nat} (hW : (st.map fun v => v.category).sum ≤ W) (hlo : W + 14 ≤ rm.locals) (hcap : vs.length ≤ cap) (hc : k + 1 ≤ rm.cells) (hl : n + cap ≤ rm.slots) (hd : decode bytes pc = .ok (.invokevirtual i, 3)) (hpc : pc + 3 = pc') (go : ∀ h' b, b = h.size → Ext h h' → Ary Z h' b ty vs → Exa Z h' b ad → Go B n0 Q h' (k + 1) (n + cap) pc' L (.ref b :: st)) : Go B n0 Q h k n pc L (.ref a :: st) := fun T locs X N eT => by
  obtain ⟨c, A, rfl, hlv⟩ := F
  have FC : FitC Z c := fitC_of A fun j hj v hv => hfa v (by rw [Array.mem_toList_iff]; exact Array.mem_of_getElem? hv)
  obtain ⟨T', h', X', e', Ex, A', E', f⟩ := cloneA X C.2.2.1 C.2.2.2.2.1 C.2.2.2.2.2.1 w1 w2 w3 w4 w5 w6 eT A E FC (g := mkF B.m pc L (.ref a :: st)) rfl (by rw [C.2.2.2.2.2.2.2.1]; exact hsz) rfl (hb C.2.2.2.1 hd) (by rw [C.2.1]; exact hf) (W := W) (cap := cap) (by show 2 * 0 + _ ≤ _; omega) (by rw [C.2.1]; exact hlo) (by rw [← Array.length_toList]; exact hcap) (by rw [C.2.1]; exact hc) (by rw [C.2.1]; exact hl)
  obtain ⟨t, o, q, r⟩ := go h' _ rfl Ex ⟨_, A', rfl, hlv⟩ E' T' _ X' N e'
  subst hpc
  exact ⟨t, o, f t q, r⟩
end More
end Jvm.OwnKit
namespace Jvm.OwnKit
open Jvm Jvm.ClassFile Sem Op Lib Jvm.Stand Jvm.Free Jvm.LawKit Jvm.RoadKit
section Third
variable {B : Bod} {l : Launch} {rm : Room} {bytes : ByteArray} {own nm : String} {maxL : Nat} {ret : Option FieldType} {Z : State} {n0 : Nat} {Q : Option Value → Heap → Prop} {h h' : Heap} {k n pc pc' : Nat} {L L' : Array Slot} {st st' : List Value} {a0 : Array Value} {a b : Addr} {ty : FieldType} {vs vd : List Value}
theorem own_pop2 {tb : Tables} [Ours tb] {e : Env} {below : List Frame} {T target : State} {m : MethodId} {c : Code} {g : JFrame} (h : At T m c below) (hx : tb.exec = Jvm.exec) (hg : g.method = m) {x : Int64} {rest : List Value} (hd : decode c.code g.pc = .ok (.pop2, 1)) (hs : g.stack = .long x :: rest)
    (hr : Steps tb e below (T.setTop { g with pc := g.pc + 1, stack := rest }) target) : Steps tb e below (T.setTop g) target := by
  subst hg
  jvm_step h [h.top, hx, hd, hs, Value.category]
  exact hr
theorem g_pop2L (C : Ctx B l rm bytes own nm maxL ret Z) {x : Int64} (hd : decode bytes pc = .ok (.pop2, 1)) (hpc : pc + 1 = pc') (go : Go B n0 Q h k n pc' L st) : Go B n0 Q h k n pc L (.long x :: st) := go.step fun T locs X eT t q => own_pop2 X.here C.2.2.1 rfl (hb C.2.2.2.1 hd) rfl (by subst hpc; exact q)
theorem g_interface (C : Ctx B l rm bytes own nm maxL ret Z) {i cnt : Nat} {y y0 : MethodName} {b' : ByteArray} {mx : Nat} {rt : Option FieldType} {rm' : Room} {as' : Array Value} {Q' : Option Value → Heap → Prop} {K' : String} (w1 : (Jvm.Cond.methodLink own i y0).before a0 Z = true) (w2 : (Jvm.Cond.declares y0).before a0 Z = true) (wf : (Jvm.Cond.interfaceMethod y0.cls y0.cls y0.name y0.desc).before a0 Z = true) (hwf : (Jvm.Cond.interfaceMethod y0.cls y0.cls y0.name y0.desc).faceAtom = true) (w3 : (Jvm.Cond.selects K' y0 y).before a0 Z = true) (w4 : (Jvm.Cond.instanceMethod y).before a0 Z = true) (wp : (Jvm.Cond.publicMethod y).before a0 Z = true) (wu : (Jvm.Cond.unhidden K' y0.name y0.desc).before a0 Z = true) (wk : (Jvm.Cond.castable K' y0.cls).before a0 Z = true) (wz : (Jvm.Cond.initialized y.cls).before a0 Z = true) (wc : (Jvm.Cond.code y b' mx rt).before a0 Z = true) (hy : y0.cls ≠ "java/lang/invoke/MethodHandle" ∧ y0.cls ≠ "java/lang/invoke/VarHandle") (E : Exa Z h a K') (K : Met1 l Z y b' mx rt rm' n0 as' h Q') (argsL : List Value) {stk : List Value} (hst : stk = argsL.reverse ++ .ref a :: st) (has : as' = (Value.ref a :: argsL).toArray) {ps : List FieldType} {r' : Option FieldType} (pd : parseMethodDescriptor y0.desc = some ⟨ps, r'⟩) (hlen : argsL.length = ps.length) (hsz : L.size = maxL) (hf : rm'.frames + 1 ≤ rm.frames) {W : Nat} (hW : (st.map fun v => v.category).sum ≤ W) (hlo : W + (mx + 11) + rm'.locals ≤ rm.locals) (hc : k + rm'.cells ≤ rm.cells) (hs : n + rm'.slots ≤ rm.slots) (hd : decode bytes pc = .ok (.invokeinterface i cnt, 5)) (hpc : pc + 5 = pc') (go : ∀ v h', Q' v h' → Go B n0 Q h' (k + rm'.cells) (n + rm'.slots) pc' L (v.toList ++ st)) : Go B n0 Q h k n pc L stk := fun T locs X N eT => by
  subst hst has
  obtain ⟨cq, kq, qa, qb, qc⟩ := isOf C.2.2.2.2.1 eT E
  obtain ⟨v, _, ⟨T', L1, k1, n1⟩, -, X', ⟨L2, ⟨N', hq⟩, l1, l2, l3⟩, f⟩ := X.interfaceBack C.2.2.1 (xi := y0) (y := y) C.2.2.2.2.2.1 (mvT C.2.2.2.2.1 w1) (mvT C.2.2.2.2.1 w2) (mvT C.2.2.2.2.1 wf (by simp [Cond.onTables, Cond.keepsFace, Cond.keeps, Cond.steady, hwf])) (mvT C.2.2.2.2.1 w3) (mvT C.2.2.2.2.1 w4) (mvT C.2.2.2.2.1 wp) (mvT C.2.2.2.2.1 wu) (mvT C.2.2.2.2.1 wk) hy (backOf (W := W) (Q := fun v h L => Fr n0 L ∧ Q' v h) (C.1 ▸ K []) C.2.2.2.2.1 wc wz (by rw [C.2.1]; exact hf) (by rw [C.2.1]; exact hlo)) qa qb qc (g := mkF B.m pc L (argsL.reverse ++ .ref a :: st)) rfl (by rw [C.2.2.2.2.2.2.2.1]; exact hsz) (Steps.refl _) (argsL := argsL) (rest := st) (lenOf pd hlen) rfl (by show 2 * 0 + _ ≤ _; omega) (hb C.2.2.2.1 hd) (fun _ _ => ⟨rfl, eT, by rw [C.2.1]; exact hc, by rw [C.2.1]; exact hs⟩)
  dsimp only [Pt.U, Pt.locs, Pt.cells, Pt.slots] at X' l1 l2 l3 f hq
  subst l1 l2 l3
  obtain ⟨t, o, q, r⟩ := go v _ hq T' _ X' (Fr.app N N') rfl
  subst hpc
  exact ⟨t, o, f.trans q, r⟩
theorem own_mvRef {Z T : State} {args : Array Value} {own : String} {i : Nat} {y : MethodName} {mq : MethodId} (hZ : Z.Warmed39 T.vm) (hn : Z.methodNamed? y = some mq) (hy : y.cls ≠ "java/lang/invoke/MethodHandle" ∧ y.cls ≠ "java/lang/invoke/VarHandle") (w : (Jvm.Cond.methodRef own i y).before a0 Z = true) : (Jvm.Cond.methodRef own i y).before args T = true := by
  have h1 : (Jvm.Cond.methodRef own i y).before a0 (Z.setVm T.vm) = true := Cond.methodRef_warmed39 hZ hn hy w
  exact h1
/-- a constructor by an entry that has been used before -/
theorem g_specialRef (C : Ctx B l rm bytes own nm maxL ret Z) {i : Nat} {y : MethodName} {b' : ByteArray} {mx : Nat} {rm' : Room} {as' : Array Value} {Q' : Option Value → Heap → Prop} (hy1 : y.name = "<init>") (w1 : (Jvm.Cond.methodRef own i y).before a0 Z = true) (w2 : (Jvm.Cond.instanceMethod y).before a0 Z = true) (wz : (Jvm.Cond.initialized y.cls).before a0 Z = true) (wc : (Jvm.Cond.code y b' mx none).before a0 Z = true) (hy : y.cls ≠ "java/lang/invoke/MethodHandle" ∧ y.cls ≠ "java/lang/invoke/VarHandle") (K : Met1 l Z y b' mx none rm' n0 as' h Q') (argsL : List Value) {stk : List Value} (hst : stk = argsL.reverse ++ .ref a :: st) (has : as' = (Value.ref a :: argsL).toArray) {ps : List FieldType} {r' : Option FieldType} (pd : parseMethodDescriptor y.desc = some ⟨ps, r'⟩) (hlen : argsL.length = ps.length) (hsz : L.size = maxL) (hf : rm'.frames + 1 ≤ rm.frames) {W : Nat} (hW : (st.map fun v => v.category).sum ≤ W) (hlo : W + (mx + 11) + rm'.locals ≤ rm.locals) (hc : k + rm'.cells ≤ rm.cells) (hs : n + rm'.slots ≤ rm.slots) (hd : decode bytes pc = .ok (.invokespecial i, 3)) (hpc : pc + 3 = pc') (go : ∀ v h', Q' v h' → Go B n0 Q h' (k + rm'.cells) (n + rm'.slots) pc' L (v.toList ++ st)) : Go B n0 Q h k n pc L stk := fun T locs X N eT => by
  subst hst has
  have hZT : Z.Warmed39 T.vm := wtrans C.2.2.2.2.1 X.warmed
  obtain ⟨mz, methZ, hnZ, -⟩ := Cond.instanceMethod_spec w2
  have hownT : T.vm.findClass own = some B.m.cls := by rw [X.warmed.alike.findClass]; exact C.2.2.2.2.2.1
  obtain ⟨m1, c1, hfound, hready, hcls, hnames⟩ := Cond.methodRef_named B.e hownT (own_mvRef (args := B.args) hZT hnZ hy w1)
  obtain ⟨mq, methM, hnamed, hmethM, hstM, habM⟩ := Cond.instanceMethod_spec (mv (args := B.args) hZT w2)
  obtain rfl : mq = m1 := Option.some.inj ((State.methodFound?_of_named hnamed hy).symm.trans hfound)
  obtain rfl : mq.cls = c1 := Option.some.inj ((findClass_of_methodNamed hnamed).symm.trans hcls)
  obtain ⟨kP, hkP, -⟩ := className_of_methodNamed hnamed
  obtain ⟨hnm1, hds1⟩ := name_of_methodNamed hnamed hmethM
  obtain ⟨methM', cM, hmethM', -, -, -, -, -, -, hsigM⟩ := Cond.code_spec hnamed (mv (args := B.args) hZT wc)
  cases hmethM.symm.trans hmethM'
  have hlook : lookupSpecial T.vm mq.cls "<init>" methM.desc = .method mq := by
    have q := lookupSpecial_of_named hnamed hmethM hstM
    rw [hy1] at q; rw [hds1]; exact q
  have hl : argsL.length = methM.sig.parameters.length := lenOf pd hlen _ hsigM
  have hdc : decode B.c.code pc = .ok (.invokespecial i, 3) := hb C.2.2.2.1 hd
  have step : ∀ target, (∀ acts, Steps B.p.tables B.e B.below (doInvoke B.e (T.setTop (mkF B.m pc L st)) acts mq (.ref a :: argsL).toArray).1 target) → Steps B.p.tables B.e B.below (T.setTop (mkF B.m pc L (argsL.reverse ++ .ref a :: st))) target := fun target hr => by
    jvm_step X.here [C.2.2.1, hdc, invokespecial.wp_init (e := B.e) (s := T) (f := mkF B.m pc L (argsL.reverse ++ .ref a :: st)) (k := kP) (meth := methM) (m := mq) (a := a) (args := argsL) (rest := st) X.here.top hnames hready hkP hmethM (hnm1.trans hy1) hstM habM hlook hl rfl]
    exact hr
  have hK := backOf (R := B.R) (l := B.l) (s := B.s) (p := B.p) (e := B.e) (below := B.below) (args := B.args) (len := 3) (W := W) (Q := fun v h L => Fr n0 L ∧ Q' v h) (C.1 ▸ K []) C.2.2.2.2.1 wc wz (by rw [C.2.1]; exact hf) (by rw [C.2.1]; exact hlo)
  obtain ⟨v, ⟨T', L1, k1, n1⟩, X', ⟨L2, ⟨N', hq⟩, l1, l2, l3⟩, f⟩ := hK B.m B.meth B.c ⟨T, locs, k, n⟩ (mkF B.m pc L st) (.invokespecial i) mq (.ref a :: argsL).toArray X rfl (by rw [C.2.2.2.2.2.2.2.1]; exact hsz) hdc (by show 2 * 0 + (st.map fun v => v.category).sum ≤ W; omega) hnamed ⟨rfl, eT, by rw [C.2.1]; exact hc, by rw [C.2.1]; exact hs⟩
  dsimp only [Pt.U, Pt.locs, Pt.cells, Pt.slots] at X' l1 l2 l3 f hq
  subst l1 l2 l3
  obtain ⟨t, o, q, r⟩ := go v _ hq T' _ X' (Fr.app N N') rfl
  subst hpc
  exact ⟨t, o, (step _ fun acts => by rw [doInvoke_state]; exact Steps.refl _).trans (f.trans q), r⟩
end Third
end Jvm.OwnKit
namespace Jvm.Pilot.@@N@@
open Jvm Jvm.ClassFile Sem Op Lib Jvm.Free Jvm.Stand Jvm.LawKit Jvm.RoadKit Jvm.OwnKit Bundle Jvm.Pilot.@@N@@.Jvm.D
theorem own_w {a0 : Array Value} {Z : State} (hw : ∀ d ∈ tables_1, d.before a0 Z = true) (k : Nat) {d : Jvm.Cond} (e : tables_1[k]? = some d) : d.before a0 Z = true := hw _ (List.mem_of_getElem? e)
def Ot (O x y : Int) : Prop := (x ≤ O ∧ y ≤ O ∧ (x = O ∨ y = O)) ∨ (x = -1 ∧ y = -1 ∧ O = 0)
/-- what the three users' last work says of the stack's own two figures -/
def Iv (a b c : Addr) (lw : Value) (t A O s1 s2 s3 : Int) : Prop := 0 ≤ t ∧ -1 ≤ s1 ∧ -1 ≤ s2 ∧ -1 ≤ s3 ∧ 0 ≤ O ∧ O ≤ A ∧ A ≤ t ∧ ((lw = .null ∧ A = 0 ∧ s1 = -1 ∧ s2 = -1 ∧ s3 = -1) ∨ (lw = .ref a ∧ s1 = A ∧ Ot O s2 s3) ∨ (lw = .ref b ∧ s2 = A ∧ Ot O s1 s3) ∨ (lw = .ref c ∧ s3 = A ∧ Ot O s1 s2))
theorem Iv.push {a b c : Addr} {lw : Value} {t A O s1 s2 s3 : Int} (h : Iv a b c lw t A O s1 s2 s3) : Iv a b c lw (t + 1) A O s1 s2 s3 := by
  obtain ⟨h1, h2, h3, h4, h5, h6, h7, h8⟩ := h
  exact ⟨by omega, h2, h3, h4, h5, h6, by omega, h8⟩
/-- what noteWork leaves in othersWorkAt -/
def nwO (u : Addr) (lw : Value) (A O : Int64) : Int64 := if (Value.ref u) = lw then O else A
theorem Iv.a {a b c : Addr} {lw : Value} {t A O s1 s2 s3 : Int64} (h : Iv a b c lw t.toInt A.toInt O.toInt s1.toInt s2.toInt s3.toInt) (n1 : a ≠ b) (n2 : a ≠ c) : Iv a b c (.ref a) t.toInt t.toInt (nwO a lw A O).toInt t.toInt s2.toInt s3.toInt := by
  obtain ⟨h1, h2, h3, h4, h5, h6, h7, h8⟩ := h
  unfold nwO
  rcases h8 with ⟨rfl, g⟩ | ⟨rfl, g⟩ | ⟨rfl, g⟩ | ⟨rfl, g⟩
  · rw [if_neg (by simp)]; refine ⟨h1, by omega, h3, h4, by omega, by omega, by omega, Or.inr (Or.inl ⟨rfl, rfl, ?_⟩)⟩; unfold Ot; omega
  · rw [if_pos rfl]; refine ⟨h1, by omega, h3, h4, by omega, by omega, by omega, Or.inr (Or.inl ⟨rfl, rfl, g.2⟩)⟩
  · rw [if_neg (by simp [n1])]; refine ⟨h1, by omega, h3, h4, by omega, by omega, by omega, Or.inr (Or.inl ⟨rfl, rfl, ?_⟩)⟩; unfold Ot at g ⊢; omega
  · rw [if_neg (by simp [n2])]; refine ⟨h1, by omega, h3, h4, by omega, by omega, by omega, Or.inr (Or.inl ⟨rfl, rfl, ?_⟩)⟩; unfold Ot at g ⊢; omega
theorem Iv.b {a b c : Addr} {lw : Value} {t A O s1 s2 s3 : Int64} (h : Iv a b c lw t.toInt A.toInt O.toInt s1.toInt s2.toInt s3.toInt) (n1 : a ≠ b) (n2 : b ≠ c) : Iv a b c (.ref b) t.toInt t.toInt (nwO b lw A O).toInt s1.toInt t.toInt s3.toInt := by
  obtain ⟨h1, h2, h3, h4, h5, h6, h7, h8⟩ := h
  unfold nwO
  rcases h8 with ⟨rfl, g⟩ | ⟨rfl, g⟩ | ⟨rfl, g⟩ | ⟨rfl, g⟩
  · rw [if_neg (by simp)]; refine ⟨h1, h2, by omega, h4, by omega, by omega, by omega, Or.inr (Or.inr (Or.inl ⟨rfl, rfl, ?_⟩))⟩; unfold Ot; omega
  · rw [if_neg (by simp [Ne.symm n1])]; refine ⟨h1, h2, by omega, h4, by omega, by omega, by omega, Or.inr (Or.inr (Or.inl ⟨rfl, rfl, ?_⟩))⟩; unfold Ot at g ⊢; omega
  · rw [if_pos rfl]; refine ⟨h1, h2, by omega, h4, by omega, by omega, by omega, Or.inr (Or.inr (Or.inl ⟨rfl, rfl, g.2⟩))⟩
  · rw [if_neg (by simp [n2])]; refine ⟨h1, h2, by omega, h4, by omega, by omega, by omega, Or.inr (Or.inr (Or.inl ⟨rfl, rfl, ?_⟩))⟩; unfold Ot at g ⊢; omega
theorem Iv.c {a b c : Addr} {lw : Value} {t A O s1 s2 s3 : Int64} (h : Iv a b c lw t.toInt A.toInt O.toInt s1.toInt s2.toInt s3.toInt) (n1 : a ≠ c) (n2 : b ≠ c) : Iv a b c (.ref c) t.toInt t.toInt (nwO c lw A O).toInt s1.toInt s2.toInt t.toInt := by
  obtain ⟨h1, h2, h3, h4, h5, h6, h7, h8⟩ := h
  unfold nwO
  rcases h8 with ⟨rfl, g⟩ | ⟨rfl, g⟩ | ⟨rfl, g⟩ | ⟨rfl, g⟩
  · rw [if_neg (by simp)]; refine ⟨h1, h2, h3, by omega, by omega, by omega, by omega, Or.inr (Or.inr (Or.inr ⟨rfl, rfl, ?_⟩))⟩; unfold Ot; omega
  · rw [if_neg (by simp [Ne.symm n1])]; refine ⟨h1, h2, h3, by omega, by omega, by omega, by omega, Or.inr (Or.inr (Or.inr ⟨rfl, rfl, ?_⟩))⟩; unfold Ot at g ⊢; omega
  · rw [if_neg (by simp [Ne.symm n2])]; refine ⟨h1, h2, h3, by omega, by omega, by omega, by omega, Or.inr (Or.inr (Or.inr ⟨rfl, rfl, ?_⟩))⟩; unfold Ot at g ⊢; omega
  · rw [if_pos rfl]; refine ⟨h1, h2, h3, by omega, by omega, by omega, by omega, Or.inr (Or.inr (Or.inr ⟨rfl, rfl, g.2⟩))⟩
def mxF (x y : Int64) : Int64 := if x < y then y else x
def waF (lw : Value) (u : Addr) (A O sp : Int64) : Int32 := if (Value.ref u) = lw then (if O < sp then 0 else 1) else (if A < sp then 0 else 1)
theorem mx_int (x y : Int64) : (x.toInt ≤ (mxF x y).toInt ∧ y.toInt ≤ (mxF x y).toInt) ∧ ((mxF x y).toInt = x.toInt ∨ (mxF x y).toInt = y.toInt) := by
  unfold mxF
  by_cases h : x < y
  · rw [if_pos h]; rw [Int64.lt_iff_toInt_lt] at h; omega
  · rw [if_neg h]; rw [Int64.lt_iff_toInt_lt] at h; omega
theorem ge_iff {x y sp : Int64} (h : x.toInt < sp.toInt ↔ y.toInt < sp.toInt) : (if x < sp then (0 : Int32) else 1) = (if y < sp then (0 : Int32) else 1) := by
  by_cases q : y < sp
  · rw [if_pos q, if_pos]; rw [Int64.lt_iff_toInt_lt] at q ⊢; exact h.mpr q
  · rw [if_neg q, if_neg]; rw [Int64.lt_iff_toInt_lt] at q ⊢; exact fun r => q (h.mp r)
theorem fin_a {a b c : Addr} {lw : Value} {t A O s1 s2 s3 sp : Int64} (h : Iv a b c lw t.toInt A.toInt O.toInt s1.toInt s2.toInt s3.toInt) (n1 : a ≠ b) (n2 : a ≠ c) (hs : 1 ≤ sp.toInt) : waF lw a A O sp = if mxF (mxF (-1 : Int64) s2) s3 < sp then (0 : Int32) else 1 := by
  obtain ⟨h1, h2, h3, h4, h5, h6, h7, h8⟩ := h
  have e : (-1 : Int64).toInt = -1 := rfl
  have m1 := mx_int (-1 : Int64) s2; have m2 := mx_int (mxF (-1 : Int64) s2) s3
  unfold waF
  rcases h8 with ⟨rfl, g⟩ | ⟨rfl, g⟩ | ⟨rfl, g⟩ | ⟨rfl, g⟩
  · rw [if_neg (by simp)]; apply ge_iff; omega
  · rw [if_pos rfl]; apply ge_iff; unfold Ot at g; omega
  · rw [if_neg (by simp [n1])]; apply ge_iff; unfold Ot at g; omega
  · rw [if_neg (by simp [n2])]; apply ge_iff; unfold Ot at g; omega
theorem fin_b {a b c : Addr} {lw : Value} {t A O s1 s2 s3 sp : Int64} (h : Iv a b c lw t.toInt A.toInt O.toInt s1.toInt s2.toInt s3.toInt) (n1 : a ≠ b) (n2 : b ≠ c) (hs : 1 ≤ sp.toInt) : waF lw b A O sp = if mxF (mxF (-1 : Int64) s1) s3 < sp then (0 : Int32) else 1 := by
  obtain ⟨h1, h2, h3, h4, h5, h6, h7, h8⟩ := h
  have e : (-1 : Int64).toInt = -1 := rfl
  have m1 := mx_int (-1 : Int64) s1; have m2 := mx_int (mxF (-1 : Int64) s1) s3
  unfold waF
  rcases h8 with ⟨rfl, g⟩ | ⟨rfl, g⟩ | ⟨rfl, g⟩ | ⟨rfl, g⟩
  · rw [if_neg (by simp)]; apply ge_iff; omega
  · rw [if_neg (by simp [Ne.symm n1])]; apply ge_iff; unfold Ot at g; omega
  · rw [if_pos rfl]; apply ge_iff; unfold Ot at g; omega
  · rw [if_neg (by simp [n2])]; apply ge_iff; unfold Ot at g; omega
theorem fin_c {a b c : Addr} {lw : Value} {t A O s1 s2 s3 sp : Int64} (h : Iv a b c lw t.toInt A.toInt O.toInt s1.toInt s2.toInt s3.toInt) (n1 : a ≠ c) (n2 : b ≠ c) (hs : 1 ≤ sp.toInt) : waF lw c A O sp = if mxF (mxF (-1 : Int64) s1) s2 < sp then (0 : Int32) else 1 := by
  obtain ⟨h1, h2, h3, h4, h5, h6, h7, h8⟩ := h
  have e : (-1 : Int64).toInt = -1 := rfl
  have m1 := mx_int (-1 : Int64) s1; have m2 := mx_int (mxF (-1 : Int64) s1) s2
  unfold waF
  rcases h8 with ⟨rfl, g⟩ | ⟨rfl, g⟩ | ⟨rfl, g⟩ | ⟨rfl, g⟩
  · rw [if_neg (by simp)]; apply ge_iff; omega
  · rw [if_neg (by simp [Ne.symm n1])]; apply ge_iff; unfold Ot at g; omega
  · rw [if_neg (by simp [Ne.symm n2])]; apply ge_iff; unfold Ot at g; omega
  · rw [if_pos rfl]; apply ge_iff; unfold Ot at g; omega
theorem fin_d {a b c d : Addr} {lw : Value} {t A O s1 s2 s3 sp : Int64} (h : Iv a b c lw t.toInt A.toInt O.toInt s1.toInt s2.toInt s3.toInt) (n1 : a ≠ d) (n2 : b ≠ d) (n3 : c ≠ d) (hs : 1 ≤ sp.toInt) : waF lw d A O sp = if mxF (mxF (mxF (-1 : Int64) s1) s2) s3 < sp then (0 : Int32) else 1 := by
  obtain ⟨h1, h2, h3, h4, h5, h6, h7, h8⟩ := h
  have e : (-1 : Int64).toInt = -1 := rfl
  have m1 := mx_int (-1 : Int64) s1; have m2 := mx_int (mxF (-1 : Int64) s1) s2; have m3 := mx_int (mxF (mxF (-1 : Int64) s1) s2) s3
  unfold waF
  rcases h8 with ⟨rfl, g⟩ | ⟨rfl, g⟩ | ⟨rfl, g⟩ | ⟨rfl, g⟩
  · rw [if_neg (by simp)]; apply ge_iff; omega
  · rw [if_neg (by simp [Ne.symm n1])]; apply ge_iff; unfold Ot at g; omega
  · rw [if_neg (by simp [Ne.symm n2])]; apply ge_iff; unfold Ot at g; omega
  · rw [if_neg (by simp [Ne.symm n3])]; apply ge_iff; unfold Ot at g; omega
theorem own_sp1 (x : Int64) : 1 ≤ ((1 : Int64) + (x &&& (7 : Int64))).toInt := by
  have h := c_maskL x (7 : Int64) 3 (by decide) (by decide)
  have e : (1 : Int64).toInt = 1 := rfl
  rw [Jvm.Free.XT.add64 ⟨by omega, by omega⟩]; omega
theorem own_sp2 (x : Int64) : 1 ≤ ((1 : Int64) + (Jvm.Free.XT.ushrL x (2 : Int32))).toInt := by
  have e : (1 : Int64).toInt = 1 := rfl
  have b : (Jvm.Free.XT.ushrL x (2 : Int32)).toBitVec = x.toBitVec >>> 2 := by
    show (x.toUInt64 >>> _).toBitVec = _
    rw [UInt64.toBitVec_shiftRight]
    rfl
  have hn : (Jvm.Free.XT.ushrL x (2 : Int32)).toBitVec.toNat = x.toBitVec.toNat / 4 := by rw [b, BitVec.toNat_ushiftRight, Nat.shiftRight_eq_div_pow]
  have lt := x.toBitVec.isLt
  have hi : (Jvm.Free.XT.ushrL x (2 : Int32)).toInt = (x.toBitVec.toNat / 4 : Nat) := by
    show (Jvm.Free.XT.ushrL x (2 : Int32)).toBitVec.toInt = _
    rw [BitVec.toInt_eq_toNat_cond, hn, if_pos (by omega)]
  rw [Jvm.Free.XT.add64 ⟨by omega, by omega⟩]; omega
/-- the stack, its list and the law's own notes -/
def SQ (Z : State) (n0 : Nat) (s hl ar dc a b c : Addr) (n : Nat) (h : Heap) : Prop := ∃ (t A O s1 s2 s3 : Int64) (lw : Value) (m z : Int32) (p : Nat),
  n0 ≤ h.size ∧ Old Z n0 h ∧ lw.isRef = true ∧ p ≤ n ∧ t.toInt = p ∧ z = Int32.ofNat p ∧ Iv a b c lw t.toInt A.toInt O.toInt s1.toInt s2.toInt s3.toInt ∧
  Exa Z h s "com/example/measured_savepoints/measuredsavepoints/SavepointStack" ∧ Fld Z h s "com/example/measured_savepoints/measuredsavepoints/SavepointStack" "held" "Ljava/util/List;" (.ref hl) ∧ Fld Z h s "com/example/measured_savepoints/measuredsavepoints/SavepointStack" "lastStamp" "J" (.long t) ∧ Fld Z h s "com/example/measured_savepoints/measuredsavepoints/SavepointStack" "lastWorker" "Ljava/lang/Object;" lw ∧ Fld Z h s "com/example/measured_savepoints/measuredsavepoints/SavepointStack" "lastWorkAt" "J" (.long A) ∧ Fld Z h s "com/example/measured_savepoints/measuredsavepoints/SavepointStack" "othersWorkAt" "J" (.long O) ∧
  Exa Z h hl "java/util/ArrayList" ∧ Fld Z h hl "java/util/AbstractList" "modCount" "I" (.int m) ∧ Fld Z h hl "java/util/ArrayList" "size" "I" (.int z) ∧
  ((p = 0 ∧ Fld Z h hl "java/util/ArrayList" "elementData" "[Ljava/lang/Object;" (.ref dc)) ∨ (0 < p ∧ ∃ (e : Addr) (vs : List Value), Fld Z h hl "java/util/ArrayList" "elementData" "[Ljava/lang/Object;" (.ref e) ∧ AryR Z h e "java/lang/Object" vs ∧ vs.length = 10 ∧ n0 ≤ e ∧ e ≠ s ∧ e ≠ hl ∧ e ≠ ar)) ∧
  Ary Z h ar .long [.long t, .long s1, .long s2, .long s3]
theorem SQ.sz {Z : State} {n0 : Nat} {s hl ar dc a b c : Addr} {n : Nat} {h : Heap} (q : SQ Z n0 s hl ar dc a b c n h) : n0 ≤ h.size := by obtain ⟨_, _, _, _, _, _, _, _, _, _, r, -⟩ := q; exact r
theorem SQ.old {Z : State} {n0 : Nat} {s hl ar dc a b c : Addr} {n : Nat} {h : Heap} (q : SQ Z n0 s hl ar dc a b c n h) : Old Z n0 h := by obtain ⟨_, _, _, _, _, _, _, _, _, _, -, r, -⟩ := q; exact r
/-- the JDK's empty array -/
def Dc (Z : State) (dc : Addr) : Prop := Sta Z Z.heap "java/util/ArrayList" "DEFAULTCAPACITY_EMPTY_ELEMENTDATA" "[Ljava/lang/Object;" (.ref dc) ∧ Ary Z Z.heap dc (.object "java/lang/Object") []
theorem own_dc {args : Array Value} {s : State} (wi : (Jvm.Cond.initialized "java/util/ArrayList").before args s = true) (wl : (Jvm.Cond.laysStatic "java/util/ArrayList" "DEFAULTCAPACITY_EMPTY_ELEMENTDATA" "[Ljava/lang/Object;").before args s = true) (w2 : (Jvm.Cond.arrayOf (.static "java/util/ArrayList" "DEFAULTCAPACITY_EMPTY_ELEMENTDATA" "[Ljava/lang/Object;") (.object "java/lang/Object")).before args s = true) (w3 : (Jvm.Cond.exactly (.static "java/util/ArrayList" "DEFAULTCAPACITY_EMPTY_ELEMENTDATA" "[Ljava/lang/Object;") "[Ljava/lang/Object;").before args s = true) (w4 : (Jvm.Cond.eq (.length (.static "java/util/ArrayList" "DEFAULTCAPACITY_EMPTY_ELEMENTDATA" "[Ljava/lang/Object;")) (.int 0)).before args s = true) : ∃ dc, Dc s dc := by
  obtain ⟨a, c0, cell, k, e1, -⟩ := Cond.exactly_spec w3
  obtain ⟨c, A⟩ := Arr.start e1 (Cond.before_iff.mp w2)
  have harr : s.arrayAt? a = some c := A.fin (Vm.Alike.refl _)
  have hlen := Cond.eq_int w4 rfl
  have h31 := SBG.length_lt e1 harr hlen
  obtain ⟨a', c', e1', h', hv⟩ := Term.length_spec hlen
  cases e1.symm.trans e1'
  cases harr.symm.trans h'
  have hsz : c.slots.size = 0 := by
    have q := congrArg Int32.toInt (Value.int.inj hv)
    rw [len_toInt h31] at q
    have : (0 : Int32).toInt = 0 := rfl
    omega
  exact ⟨a, Sta.start e1 (Or.inr ⟨wi, wl⟩), c, A, by rw [Array.toList_eq_nil_iff]; exact Array.eq_empty_of_size_eq_zero hsz, by decide⟩
theorem own_z0 {p : Nat} (h : p ≤ 5) : ¬ (Int32.ofNat p) < 0 ∧ (Int32.ofNat p).toNatClampNeg = p ∧ ¬ (Int32.ofNat p) = (10 : Int32) := by
  have e : (Int32.ofNat p).toInt = p := Int32.toInt_ofNat_small (by omega)
  refine ⟨?_, ?_, ?_⟩
  · rw [Int32.lt_iff_toInt_lt, e]; have : (0 : Int32).toInt = 0 := rfl; omega
  · simp only [Int32.toNatClampNeg, e]; omega
  · intro q; have := congrArg Int32.toInt q; rw [e] at this; have : (10 : Int32).toInt = 10 := rfl; omega
theorem own_zs (p : Nat) : Int32.ofNat p + (1 : Int32) = Int32.ofNat (p + 1) := by rw [Int32.ofNat_add]; rfl
theorem own_ts {t : Int64} {p : Nat} (h : t.toInt = p) (hp : p ≤ 5) : (t + (1 : Int64)).toInt = ((p + 1 : Nat) : Int) := by
  have e : (1 : Int64).toInt = 1 := rfl
  rw [Jvm.Free.XT.add64 ⟨by omega, by omega⟩]; omega
theorem d5_0 : decode jdk_22_method_1_code 0 = .ok (.aload_n 0, 1) := by decide +kernel
theorem d5_1 : decode jdk_22_method_1_code 1 = .ok (.invokespecial 1, 3) := by decide +kernel
theorem d5_4 : decode jdk_22_method_1_code 4 = .ok (.return_, 1) := by decide +kernel
theorem own_pn_java_util_AbstractCollection : plainName "java/util/AbstractCollection" = true := by first | (simp [plainName, overriddenIn]; done) | decide +kernel
set_option maxRecDepth 65536 in
set_option maxHeartbeats 40000000 in
theorem rm_ac (l : Launch) (Z : State) (a0 : Array Value) (hw : ∀ d ∈ tables_1, d.before a0 Z = true) (n0 : Nat) (a1 : Addr) (h0 : Heap) (Z0 : n0 ≤ h0.size)  :
    Met1 l Z (⟨"java/util/AbstractCollection", "<init>", "()V"⟩ : MethodName) jdk_22_method_1_code 1 none ({ frames := 1, cells := 0, slots := 0, locals := 12 } : Room) n0 #[(.ref a1)] h0 (fun v h => v = none ∧ h0 = h) := by
  refine met_of (plainFor_of_name own_pn_java_util_AbstractCollection) (L0 := #[.val (.ref a1)]) (by first | (simp [argsToLocals, Value.category]; done) | rfl) ?_
  intro B C
  change Ctx B l _ _ "java/util/AbstractCollection" "<init>" _ _ Z at C
  refine g_aload_n C d5_0 (v := (.ref a1)) rfl rfl (pc' := 1) rfl ?_
  refine g_initObj C (own_w hw 27 rfl) (own_w hw 7 rfl) (own_w hw 8 rfl) rfl (by decide) (W := 0) (Nat.le_of_eq rfl) (by decide) d5_1 (pc' := 4) rfl ?_
  refine g_return C rfl d5_4 (by decide) (by decide) ?_
  exact ⟨rfl, rfl⟩
theorem own_pd_0_init : parseMethodDescriptor "()V" = some ⟨[], none⟩ := by decide +kernel
theorem d4_0 : decode jdk_39_method_1_code 0 = .ok (.aload_n 0, 1) := by decide +kernel
theorem d4_1 : decode jdk_39_method_1_code 1 = .ok (.invokespecial 1, 3) := by decide +kernel
theorem d4_4 : decode jdk_39_method_1_code 4 = .ok (.aload_n 0, 1) := by decide +kernel
theorem d4_5 : decode jdk_39_method_1_code 5 = .ok (.iconst 0, 1) := by decide +kernel
theorem d4_6 : decode jdk_39_method_1_code 6 = .ok (.putfield 7, 3) := by decide +kernel
theorem d4_9 : decode jdk_39_method_1_code 9 = .ok (.return_, 1) := by decide +kernel
theorem own_pn_java_util_AbstractList : plainName "java/util/AbstractList" = true := by first | (simp [plainName, overriddenIn]; done) | decide +kernel
set_option maxRecDepth 65536 in
set_option maxHeartbeats 40000000 in
theorem rm_abl (l : Launch) (Z : State) (a0 : Array Value) (hw : ∀ d ∈ tables_1, d.before a0 Z = true) (n0 : Nat) (a1 : Addr) (h0 : Heap) (Z0 : n0 ≤ h0.size) (E0 : Exa Z h0 a1 "java/util/ArrayList") (F0 : Fld Z h0 a1 "java/util/AbstractList" "modCount" "I" (.int (0 : Int32))) (F1 : Fld Z h0 a1 "java/util/ArrayList" "elementData" "[Ljava/lang/Object;" .null) (F2 : Fld Z h0 a1 "java/util/ArrayList" "size" "I" (.int (0 : Int32))) (g1 : n0 ≤ a1) :
    Met1 l Z (⟨"java/util/AbstractList", "<init>", "()V"⟩ : MethodName) jdk_39_method_1_code 1 none ({ frames := 2, cells := 0, slots := 0, locals := 24 } : Room) n0 #[(.ref a1)] h0 (fun v h => v = none ∧ Keep h0 h [a1] ∧ Fld Z h a1 "java/util/AbstractList" "modCount" "I" (.int (0 : Int32)) ∧ Fld Z h a1 "java/util/ArrayList" "elementData" "[Ljava/lang/Object;" .null ∧ Fld Z h a1 "java/util/ArrayList" "size" "I" (.int (0 : Int32))) := by
  refine met_of (plainFor_of_name own_pn_java_util_AbstractList) (L0 := #[.val (.ref a1)]) (by first | (simp [argsToLocals, Value.category]; done) | rfl) ?_
  intro B C
  change Ctx B l _ _ "java/util/AbstractList" "<init>" _ _ Z at C
  refine g_aload_n C d4_0 (v := (.ref a1)) rfl rfl (pc' := 1) rfl ?_
  refine g_special C (a := a1) rfl (own_w hw 21 rfl) (own_w hw 22 rfl) (own_w hw 25 rfl) (own_w hw 26 rfl) (by decide) (rm_ac l Z a0 hw n0 a1 h0 Z0 ) (st := []) [] rfl rfl own_pd_0_init rfl rfl (by decide) (W := 0) (Nat.le_of_eq rfl) (by decide) (by decide) (by decide) d4_1 (pc' := 4) rfl ?_
  intro v_3 h_1 q_2
  obtain ⟨rfl, rfl⟩ := q_2
  show Go B n0 _ h0 0 0 4 #[.val (.ref a1)] []
  refine g_aload_n C d4_4 (v := (.ref a1)) rfl rfl (pc' := 5) rfl ?_
  refine g_iconst C d4_5 (v := (0 : Int32)) rfl (pc' := 6) rfl ?_
  refine g_putfield C (host := "") (v := (.int (0 : Int32))) (Or.inl (own_w hw 28 rfl)) Via.refl F0 E0 (Or.inl (own_w hw 29 rfl)) (own_w hw 10 rfl) (ty := .int) (by decide) rfl rfl g1 d4_6 (pc' := 9) rfl ?_
  intro h_4 W_5
  have f_6 := F0.same W_5
  refine g_return C rfl d4_9 (by decide) (by decide) ?_
  have f_7 := (F1.other W_5 (Or.inr (slot_ne (Or.inl (own_w hw 32 rfl)) (Or.inl (own_w hw 29 rfl)) (by decide) (t := (.array (.object "java/lang/Object"))) (t' := .int) (by decide) (by decide))))
  have f_8 := (F2.other W_5 (Or.inr (slot_ne (Or.inl (own_w hw 82 rfl)) (Or.inl (own_w hw 29 rfl)) (by decide) (t := .int) (t' := .int) (by decide) (by decide))))
  exact ⟨rfl, ((Keep.refl h0 [a1]).wr W_5 (Or.inl (List.mem_of_getElem? (i := 0) rfl))), f_6, f_7, f_8⟩
theorem d3_0 : decode jdk_38_method_2_code 0 = .ok (.aload_n 0, 1) := by decide +kernel
theorem d3_1 : decode jdk_38_method_2_code 1 = .ok (.invokespecial 1, 3) := by decide +kernel
theorem d3_4 : decode jdk_38_method_2_code 4 = .ok (.aload_n 0, 1) := by decide +kernel
theorem d3_5 : decode jdk_38_method_2_code 5 = .ok (.getstatic 39, 3) := by decide +kernel
theorem d3_8 : decode jdk_38_method_2_code 8 = .ok (.putfield 9, 3) := by decide +kernel
theorem d3_11 : decode jdk_38_method_2_code 11 = .ok (.return_, 1) := by decide +kernel
theorem own_pn_java_util_ArrayList : plainName "java/util/ArrayList" = true := by first | (simp [plainName, overriddenIn]; done) | decide +kernel
set_option maxRecDepth 65536 in
set_option maxHeartbeats 40000000 in
theorem rm_al (l : Launch) (Z : State) (a0 : Array Value) (hw : ∀ d ∈ tables_1, d.before a0 Z = true) (n0 : Nat) (a1 dc : Addr) (h0 : Heap) (Z0 : n0 ≤ h0.size) (dd : Dc Z dc) (O : Old Z n0 h0) (E0 : Exa Z h0 a1 "java/util/ArrayList") (F0 : Fld Z h0 a1 "java/util/AbstractList" "modCount" "I" (.int (0 : Int32))) (F1 : Fld Z h0 a1 "java/util/ArrayList" "elementData" "[Ljava/lang/Object;" .null) (F2 : Fld Z h0 a1 "java/util/ArrayList" "size" "I" (.int (0 : Int32))) (g1 : n0 ≤ a1) :
    Met1 l Z (⟨"java/util/ArrayList", "<init>", "()V"⟩ : MethodName) jdk_38_method_2_code 1 none ({ frames := 3, cells := 0, slots := 0, locals := 36 } : Room) n0 #[(.ref a1)] h0 (fun v h => v = none ∧ Keep h0 h [a1] ∧ Fld Z h a1 "java/util/AbstractList" "modCount" "I" (.int (0 : Int32)) ∧ Fld Z h a1 "java/util/ArrayList" "elementData" "[Ljava/lang/Object;" (.ref dc) ∧ Fld Z h a1 "java/util/ArrayList" "size" "I" (.int (0 : Int32))) := by
  refine met_of (plainFor_of_name own_pn_java_util_ArrayList) (L0 := #[.val (.ref a1)]) (by first | (simp [argsToLocals, Value.category]; done) | rfl) ?_
  intro B C
  change Ctx B l _ _ "java/util/ArrayList" "<init>" _ _ Z at C
  have dd' := dd
  obtain ⟨Sdc, Adc⟩ := dd'
  refine g_aload_n C d3_0 (v := (.ref a1)) rfl rfl (pc' := 1) rfl ?_
  refine g_special C (a := a1) rfl (own_w hw 15 rfl) (own_w hw 16 rfl) (own_w hw 19 rfl) (own_w hw 20 rfl) (by decide) (rm_abl l Z a0 hw n0 a1 h0 Z0 E0 F0 F1 F2 g1) (st := []) [] rfl rfl own_pd_0_init rfl rfl (by decide) (W := 0) (Nat.le_of_eq rfl) (by decide) (by decide) (by decide) d3_1 (pc' := 4) rfl ?_
  intro v_3 h_1 q_2
  obtain ⟨rfl, K_4, f_5, f_6, f_7⟩ := q_2
  show Go B n0 _ h_1 0 0 4 #[.val (.ref a1)] []
  refine g_aload_n C d3_4 (v := (.ref a1)) rfl rfl (pc' := 5) rfl ?_
  have f_8 := (O.keep K_4 (allS g1 all0))
  refine g_getstatic C (host := "") (v := (.ref dc)) (Or.inl (own_w hw 30 rfl)) Via.refl (Sdc.ext f_8.2) d3_5 (pc' := 8) rfl ?_
  have f_9 := (E0.keep K_4)
  refine g_putfield C (host := "") (v := (.ref dc)) (Or.inl (own_w hw 31 rfl)) Via.refl f_6 f_9 (Or.inl (own_w hw 32 rfl)) (own_w hw 10 rfl) (ty := (.array (.object "java/lang/Object"))) (by decide) rfl rfl g1 d3_8 (pc' := 11) rfl ?_
  intro h_10 W_11
  have f_12 := f_6.same W_11
  refine g_return C rfl d3_11 (by decide) (by decide) ?_
  have f_13 := (f_5.other W_11 (Or.inr (slot_ne (Or.inl (own_w hw 29 rfl)) (Or.inl (own_w hw 32 rfl)) (by decide) (t := .int) (t' := (.array (.object "java/lang/Object"))) (by decide) (by decide))))
  have f_14 := (f_7.other W_11 (Or.inr (slot_ne (Or.inl (own_w hw 82 rfl)) (Or.inl (own_w hw 32 rfl)) (by decide) (t := .int) (t' := (.array (.object "java/lang/Object"))) (by decide) (by decide))))
  exact ⟨rfl, (((Keep.refl h0 [a1]).trans K_4 (allS (Or.inl (List.mem_of_getElem? (i := 0) rfl)) all0)).wr W_11 (Or.inl (List.mem_of_getElem? (i := 0) rfl))), f_13, f_12, f_14⟩
theorem d1_0 : decode prog_55_method_1_code 0 = .ok (.aload_n 0, 1) := by decide +kernel
theorem d1_1 : decode prog_55_method_1_code 1 = .ok (.invokespecial 1, 3) := by decide +kernel
theorem d1_4 : decode prog_55_method_1_code 4 = .ok (.aload_n 0, 1) := by decide +kernel
theorem d1_5 : decode prog_55_method_1_code 5 = .ok (.new 7, 3) := by decide +kernel
theorem d1_8 : decode prog_55_method_1_code 8 = .ok (.dup, 1) := by decide +kernel
theorem d1_9 : decode prog_55_method_1_code 9 = .ok (.invokespecial 9, 3) := by decide +kernel
theorem d1_12 : decode prog_55_method_1_code 12 = .ok (.putfield 10, 3) := by decide +kernel
theorem d1_15 : decode prog_55_method_1_code 15 = .ok (.return_, 1) := by decide +kernel
theorem own_pn_com_example_measured_savepoints_measuredsavepoints_SavepointStack : plainName "com/example/measured_savepoints/measuredsavepoints/SavepointStack" = true := by first | (simp [plainName, overriddenIn]; done) | decide +kernel
set_option maxRecDepth 65536 in
set_option maxHeartbeats 40000000 in
theorem rm_ss (l : Launch) (Z : State) (a0 : Array Value) (hw : ∀ d ∈ tables_1, d.before a0 Z = true) (n0 : Nat) (a1 dc : Addr) (h0 : Heap) (Z0 : n0 ≤ h0.size) (dd : Dc Z dc) (O : Old Z n0 h0) (E0 : Exa Z h0 a1 "com/example/measured_savepoints/measuredsavepoints/SavepointStack") (F0 : Fld Z h0 a1 "com/example/measured_savepoints/measuredsavepoints/SavepointStack" "held" "Ljava/util/List;" .null) (F1 : Fld Z h0 a1 "com/example/measured_savepoints/measuredsavepoints/SavepointStack" "lastStamp" "J" (.long (0 : Int64))) (F2 : Fld Z h0 a1 "com/example/measured_savepoints/measuredsavepoints/SavepointStack" "lastWorker" "Ljava/lang/Object;" .null) (F3 : Fld Z h0 a1 "com/example/measured_savepoints/measuredsavepoints/SavepointStack" "lastWorkAt" "J" (.long (0 : Int64))) (F4 : Fld Z h0 a1 "com/example/measured_savepoints/measuredsavepoints/SavepointStack" "othersWorkAt" "J" (.long (0 : Int64))) (g1 : n0 ≤ a1) :
    Met1 l Z (⟨"com/example/measured_savepoints/measuredsavepoints/SavepointStack", "<init>", "()V"⟩ : MethodName) prog_55_method_1_code 1 none ({ frames := 4, cells := 1, slots := 3, locals := 50 } : Room) n0 #[(.ref a1)] h0 (fun v h => v = none ∧ Keep h0 h [a1] ∧ ∃ hl : Addr, h0.size ≤ hl ∧ Fld Z h a1 "com/example/measured_savepoints/measuredsavepoints/SavepointStack" "held" "Ljava/util/List;" (.ref hl) ∧ Fld Z h a1 "com/example/measured_savepoints/measuredsavepoints/SavepointStack" "lastStamp" "J" (.long (0 : Int64)) ∧ Fld Z h a1 "com/example/measured_savepoints/measuredsavepoints/SavepointStack" "lastWorker" "Ljava/lang/Object;" .null ∧ Fld Z h a1 "com/example/measured_savepoints/measuredsavepoints/SavepointStack" "lastWorkAt" "J" (.long (0 : Int64)) ∧ Fld Z h a1 "com/example/measured_savepoints/measuredsavepoints/SavepointStack" "othersWorkAt" "J" (.long (0 : Int64)) ∧ Exa Z h hl "java/util/ArrayList" ∧ Fld Z h hl "java/util/AbstractList" "modCount" "I" (.int (0 : Int32)) ∧ Fld Z h hl "java/util/ArrayList" "elementData" "[Ljava/lang/Object;" (.ref dc) ∧ Fld Z h hl "java/util/ArrayList" "size" "I" (.int (0 : Int32))) := by
  refine met_of (plainFor_of_name own_pn_com_example_measured_savepoints_measuredsavepoints_SavepointStack) (L0 := #[.val (.ref a1)]) (by first | (simp [argsToLocals, Value.category]; done) | rfl) ?_
  intro B C
  change Ctx B l _ _ "com/example/measured_savepoints/measuredsavepoints/SavepointStack" "<init>" _ _ Z at C
  have dd' := dd
  obtain ⟨Sdc, Adc⟩ := dd'
  refine g_aload_n C d1_0 (v := (.ref a1)) rfl rfl (pc' := 1) rfl ?_
  refine g_initObj C (own_w hw 6 rfl) (own_w hw 7 rfl) (own_w hw 8 rfl) rfl (by decide) (W := 0) (Nat.le_of_eq rfl) (by decide) d1_1 (pc' := 4) rfl ?_
  refine g_aload_n C d1_4 (v := (.ref a1)) rfl rfl (pc' := 5) rfl ?_
  refine g_new C (own_w hw 9 rfl) (own_w hw 10 rfl) (own_w hw 11 rfl) (by decide) (by decide) d1_5 (pc' := 8) rfl ?_
  intro h_1 a_2 g_3 E_4 A_5 D_6
  have ne_7 : a1 ≠ a_2 := ne_new E0.lt g_3
  have ne_8 : dc ≠ a_2 := ne_new (Adc.ext O.2).lt g_3
  have ge_a_2 : n0 ≤ a_2 := Nat.le_trans Z0 (Nat.le_of_eq g_3.symm)
  have gs_a_2 : h0.size ≤ a_2 := Nat.le_trans (Nat.le_refl h0.size) (Nat.le_of_eq g_3.symm)
  have f_9 : Fld Z h_1 a_2 "java/util/AbstractList" "modCount" "I" (.int (0 : Int32)) := D_6 (Or.inl (own_w hw 29 rfl)) (ty := .int) (by decide)
  have f_10 : Fld Z h_1 a_2 "java/util/ArrayList" "elementData" "[Ljava/lang/Object;" .null := D_6 (Or.inl (own_w hw 32 rfl)) (ty := (.array (.object "java/lang/Object"))) (by decide)
  have f_11 : Fld Z h_1 a_2 "java/util/ArrayList" "size" "I" (.int (0 : Int32)) := D_6 (Or.inl (own_w hw 82 rfl)) (ty := .int) (by decide)
  show Go B n0 _ h_1 1 3 8 #[.val (.ref a1)] [(.ref a_2), (.ref a1)]
  refine g_dup C d1_8 rfl (pc' := 9) rfl ?_
  have f_12 := (O.ext E_4)
  have f_13 := (Nat.le_trans Z0 E_4.1)
  refine g_special C (a := a_2) rfl (own_w hw 12 rfl) (own_w hw 13 rfl) (own_w hw 11 rfl) (own_w hw 14 rfl) (by decide) (rm_al l Z a0 hw n0 a_2 dc h_1 f_13 dd f_12 A_5 f_9 f_10 f_11 ge_a_2) (st := [(.ref a_2), (.ref a1)]) [] rfl rfl own_pd_0_init rfl rfl (by decide) (W := 2) (Nat.le_of_eq rfl) (by decide) (by decide) (by decide) d1_9 (pc' := 12) rfl ?_
  intro v_16 h_14 q_15
  obtain ⟨rfl, K_17, f_18, f_19, f_20⟩ := q_15
  show Go B n0 _ h_14 1 3 12 #[.val (.ref a1)] [(.ref a_2), (.ref a1)]
  have f_21 := ((F0.ext E_4).keep K_17 (ninS ne_7 nin0))
  have f_22 := ((E0.ext E_4).keep K_17)
  refine g_putfield C (host := "") (v := (.ref a_2)) (Or.inl (own_w hw 33 rfl)) Via.refl f_21 f_22 (Or.inr ⟨(own_w hw 34 rfl), rfl, rfl⟩) (own_w hw 1 rfl) (ty := (.object "java/util/List")) (by decide) rfl rfl g1 d1_12 (pc' := 15) rfl ?_
  intro h_23 W_24
  have f_25 := f_21.same W_24
  refine g_return C rfl d1_15 (by decide) (by decide) ?_
  have f_26 := (((F1.ext E_4).keep K_17 (ninS ne_7 nin0)).other W_24 (Or.inr (slot_ne (Or.inl (own_w hw 51 rfl)) (Or.inr (own_w hw 34 rfl)) (by decide) (t := .long) (t' := (.object "java/util/List")) (by decide) (by decide))))
  have f_27 := (((F2.ext E_4).keep K_17 (ninS ne_7 nin0)).other W_24 (Or.inr (slot_ne (Or.inl (own_w hw 115 rfl)) (Or.inr (own_w hw 34 rfl)) (by decide) (t := (.object "java/lang/Object")) (t' := (.object "java/util/List")) (by decide) (by decide))))
  have f_28 := (((F3.ext E_4).keep K_17 (ninS ne_7 nin0)).other W_24 (Or.inr (slot_ne (Or.inl (own_w hw 117 rfl)) (Or.inr (own_w hw 34 rfl)) (by decide) (t := .long) (t' := (.object "java/util/List")) (by decide) (by decide))))
  have f_29 := (((F4.ext E_4).keep K_17 (ninS ne_7 nin0)).other W_24 (Or.inr (slot_ne (Or.inl (own_w hw 124 rfl)) (Or.inr (own_w hw 34 rfl)) (by decide) (t := .long) (t' := (.object "java/util/List")) (by decide) (by decide))))
  have f_30 := ((A_5.keep K_17).wr W_24)
  have f_31 := (f_18.other W_24 (Or.inl (Ne.symm ne_7)))
  have f_32 := (f_19.other W_24 (Or.inl (Ne.symm ne_7)))
  have f_33 := (f_20.other W_24 (Or.inl (Ne.symm ne_7)))
  exact ⟨rfl, ((((Keep.refl h0 [a1]).ext E_4).trans K_17 (allS (Or.inr gs_a_2) all0)).wr W_24 (Or.inl (List.mem_of_getElem? (i := 0) rfl))), a_2, gs_a_2, f_25, f_26, f_27, f_28, f_29, f_30, f_31, f_32, f_33⟩
theorem d9_0 : decode jdk_30_method_1_code 0 = .ok (.aload_n 0, 1) := by decide +kernel
theorem d9_1 : decode jdk_30_method_1_code 1 = .ok (.invokespecial 1, 3) := by decide +kernel
theorem d9_4 : decode jdk_30_method_1_code 4 = .ok (.return_, 1) := by decide +kernel
theorem own_pn_java_lang_Record : plainName "java/lang/Record" = true := by first | (simp [plainName, overriddenIn]; done) | decide +kernel
set_option maxRecDepth 65536 in
set_option maxHeartbeats 40000000 in
theorem rm_rec (l : Launch) (Z : State) (a0 : Array Value) (hw : ∀ d ∈ tables_1, d.before a0 Z = true) (n0 : Nat) (a1 : Addr) (h0 : Heap) (Z0 : n0 ≤ h0.size)  :
    Met1 l Z (⟨"java/lang/Record", "<init>", "()V"⟩ : MethodName) jdk_30_method_1_code 1 none ({ frames := 1, cells := 0, slots := 0, locals := 12 } : Room) n0 #[(.ref a1)] h0 (fun v h => v = none ∧ h0 = h) := by
  refine met_of (plainFor_of_name own_pn_java_lang_Record) (L0 := #[.val (.ref a1)]) (by first | (simp [argsToLocals, Value.category]; done) | rfl) ?_
  intro B C
  change Ctx B l _ _ "java/lang/Record" "<init>" _ _ Z at C
  refine g_aload_n C d9_0 (v := (.ref a1)) rfl rfl (pc' := 1) rfl ?_
  refine g_initObj C (own_w hw 63 rfl) (own_w hw 7 rfl) (own_w hw 8 rfl) rfl (by decide) (W := 0) (Nat.le_of_eq rfl) (by decide) d9_1 (pc' := 4) rfl ?_
  refine g_return C rfl d9_4 (by decide) (by decide) ?_
  exact ⟨rfl, rfl⟩
theorem d8_0 : decode prog_56_method_1_code 0 = .ok (.aload_n 0, 1) := by decide +kernel
theorem d8_1 : decode prog_56_method_1_code 1 = .ok (.invokespecial 1, 3) := by decide +kernel
theorem d8_4 : decode prog_56_method_1_code 4 = .ok (.aload_n 0, 1) := by decide +kernel
theorem d8_5 : decode prog_56_method_1_code 5 = .ok (.lload_n 1, 1) := by decide +kernel
theorem d8_6 : decode prog_56_method_1_code 6 = .ok (.putfield 7, 3) := by decide +kernel
theorem d8_9 : decode prog_56_method_1_code 9 = .ok (.aload_n 0, 1) := by decide +kernel
theorem d8_10 : decode prog_56_method_1_code 10 = .ok (.aload_n 3, 1) := by decide +kernel
theorem d8_11 : decode prog_56_method_1_code 11 = .ok (.putfield 13, 3) := by decide +kernel
theorem d8_14 : decode prog_56_method_1_code 14 = .ok (.aload_n 0, 1) := by decide +kernel
theorem d8_15 : decode prog_56_method_1_code 15 = .ok (.iload 4, 2) := by decide +kernel
theorem d8_17 : decode prog_56_method_1_code 17 = .ok (.putfield 17, 3) := by decide +kernel
theorem d8_20 : decode prog_56_method_1_code 20 = .ok (.return_, 1) := by decide +kernel
theorem own_pn_com_example_measured_savepoints_measuredsavepoints_SavepointStack_Held : plainName "com/example/measured_savepoints/measuredsavepoints/SavepointStack$Held" = true := by first | (simp [plainName, overriddenIn]; done) | decide +kernel
set_option maxRecDepth 65536 in
set_option maxHeartbeats 40000000 in
theorem rm_held (l : Launch) (Z : State) (a0 : Array Value) (hw : ∀ d ∈ tables_1, d.before a0 Z = true) (n0 : Nat) (a1 u : Addr) (t : Int64) (h0 : Heap) (Z0 : n0 ≤ h0.size) (E0 : Exa Z h0 a1 "com/example/measured_savepoints/measuredsavepoints/SavepointStack$Held") (F0 : Fld Z h0 a1 "com/example/measured_savepoints/measuredsavepoints/SavepointStack$Held" "stamp" "J" (.long (0 : Int64))) (F1 : Fld Z h0 a1 "com/example/measured_savepoints/measuredsavepoints/SavepointStack$Held" "user" "Ljava/lang/Object;" .null) (F2 : Fld Z h0 a1 "com/example/measured_savepoints/measuredsavepoints/SavepointStack$Held" "firmly" "Z" (.int (0 : Int32))) (g1 : n0 ≤ a1) :
    Met1 l Z (⟨"com/example/measured_savepoints/measuredsavepoints/SavepointStack$Held", "<init>", "(JLjava/lang/Object;Z)V"⟩ : MethodName) prog_56_method_1_code 5 none ({ frames := 2, cells := 0, slots := 0, locals := 24 } : Room) n0 #[(.ref a1), (.long t), (.ref u), (.int (1 : Int32))] h0 (fun v h => v = none ∧ Keep h0 h [a1]) := by
  refine met_of (plainFor_of_name own_pn_com_example_measured_savepoints_measuredsavepoints_SavepointStack_Held) (L0 := #[.val (.ref a1), .val (.long t), .second, .val (.ref u), .val (.int (1 : Int32))]) (by first | (simp [argsToLocals, Value.category]; done) | rfl) ?_
  intro B C
  change Ctx B l _ _ "com/example/measured_savepoints/measuredsavepoints/SavepointStack$Held" "<init>" _ _ Z at C
  refine g_aload_n C d8_0 (v := (.ref a1)) rfl rfl (pc' := 1) rfl ?_
  refine g_special C (a := a1) rfl (own_w hw 58 rfl) (own_w hw 59 rfl) (own_w hw 61 rfl) (own_w hw 62 rfl) (by decide) (rm_rec l Z a0 hw n0 a1 h0 Z0 ) (st := []) [] rfl rfl own_pd_0_init rfl rfl (by decide) (W := 0) (Nat.le_of_eq rfl) (by decide) (by decide) (by decide) d8_1 (pc' := 4) rfl ?_
  intro v_3 h_1 q_2
  obtain ⟨rfl, rfl⟩ := q_2
  show Go B n0 _ h0 0 0 4 #[.val (.ref a1), .val (.long t), .second, .val (.ref u), .val (.int (1 : Int32))] []
  refine g_aload_n C d8_4 (v := (.ref a1)) rfl rfl (pc' := 5) rfl ?_
  refine g_lload_n C d8_5 (v := t) rfl (pc' := 6) rfl ?_
  refine g_putfield C (host := "") (v := (.long t)) (Or.inl (own_w hw 64 rfl)) Via.refl F0 E0 (Or.inr ⟨(own_w hw 65 rfl), rfl, rfl⟩) (own_w hw 53 rfl) (ty := .long) (by decide) rfl rfl g1 d8_6 (pc' := 9) rfl ?_
  intro h_4 W_5
  have f_6 := F0.same W_5
  refine g_aload_n C d8_9 (v := (.ref a1)) rfl rfl (pc' := 10) rfl ?_
  refine g_aload_n C d8_10 (v := (.ref u)) rfl rfl (pc' := 11) rfl ?_
  have f_7 := (F1.other W_5 (Or.inr (slot_ne (Or.inr (own_w hw 67 rfl)) (Or.inr (own_w hw 65 rfl)) (by decide) (t := (.object "java/lang/Object")) (t' := .long) (by decide) (by decide))))
  have f_8 := (E0.wr W_5)
  refine g_putfield C (host := "") (v := (.ref u)) (Or.inl (own_w hw 66 rfl)) Via.refl f_7 f_8 (Or.inr ⟨(own_w hw 67 rfl), rfl, rfl⟩) (own_w hw 53 rfl) (ty := (.object "java/lang/Object")) (by decide) rfl rfl g1 d8_11 (pc' := 14) rfl ?_
  intro h_9 W_10
  have f_11 := f_7.same W_10
  refine g_aload_n C d8_14 (v := (.ref a1)) rfl rfl (pc' := 15) rfl ?_
  refine g_iload C d8_15 (v := (1 : Int32)) rfl (pc' := 17) rfl ?_
  have f_12 := ((F2.other W_5 (Or.inr (slot_ne (Or.inr (own_w hw 69 rfl)) (Or.inr (own_w hw 65 rfl)) (by decide) (t := .boolean) (t' := .long) (by decide) (by decide)))).other W_10 (Or.inr (slot_ne (Or.inr (own_w hw 69 rfl)) (Or.inr (own_w hw 67 rfl)) (by decide) (t := .boolean) (t' := (.object "java/lang/Object")) (by decide) (by decide))))
  have f_13 := (f_8.wr W_10)
  refine g_putfield C (host := "") (v := (.int (1 : Int32))) (Or.inl (own_w hw 68 rfl)) Via.refl f_12 f_13 (Or.inr ⟨(own_w hw 69 rfl), rfl, rfl⟩) (own_w hw 53 rfl) (ty := .boolean) (by decide) rfl rfl g1 d8_17 (pc' := 20) rfl ?_
  intro h_14 W_15
  have f_16 := f_12.same W_15
  refine g_return C rfl d8_20 (by decide) (by decide) ?_
  exact ⟨rfl, ((((Keep.refl h0 [a1]).wr W_5 (Or.inl (List.mem_of_getElem? (i := 0) rfl))).wr W_10 (Or.inl (List.mem_of_getElem? (i := 0) rfl))).wr W_15 (Or.inl (List.mem_of_getElem? (i := 0) rfl)))⟩
theorem d14_0 : decode jdk_29_method_65_code 0 = .ok (.iload_n 0, 1) := by decide +kernel
theorem d14_1 : decode jdk_29_method_65_code 1 = .ok (.iload_n 1, 1) := by decide +kernel
theorem d14_2 : decode jdk_29_method_65_code 2 = .ok (.if_icmp .lt 7, 3) := by decide +kernel
theorem d14_5 : decode jdk_29_method_65_code 5 = .ok (.iload_n 0, 1) := by decide +kernel
theorem d14_6 : decode jdk_29_method_65_code 6 = .ok (.goto 4, 3) := by decide +kernel
theorem d14_10 : decode jdk_29_method_65_code 10 = .ok (.ireturn, 1) := by decide +kernel
set_option maxRecDepth 65536 in
set_option maxHeartbeats 40000000 in
theorem rm_maxI (l : Launch) (Z : State) (a0 : Array Value) (hw : ∀ d ∈ tables_1, d.before a0 Z = true) (n0 : Nat)  (h0 : Heap) (Z0 : n0 ≤ h0.size)  :
    Met1 l Z (⟨"java/lang/Math", "max", "(II)I"⟩ : MethodName) jdk_29_method_65_code 2 (some .int) ({ frames := 0, cells := 0, slots := 0, locals := 0 } : Room) n0 #[(.int (10 : Int32)), (.int (1 : Int32))] h0 (fun v h => v = some (.int (10 : Int32)) ∧ h0 = h) := by
  refine met_of (Jvm.Free.JP.mathPlain rfl (by decide +kernel)) (L0 := #[.val (.int (10 : Int32)), .val (.int (1 : Int32))]) (by first | (simp [argsToLocals, Value.category]; done) | rfl) ?_
  intro B C
  change Ctx B l _ _ "java/lang/Math" "max" _ _ Z at C
  refine g_iload_n C d14_0 (v := (10 : Int32)) rfl (pc' := 1) rfl ?_
  refine g_iload_n C d14_1 (v := (1 : Int32)) rfl (pc' := 2) rfl ?_
  refine g_icmp_n C d14_2 (Jvm.Free.XT.ii_lt_f (by decide)) (pc' := 5) rfl ?_
  refine g_iload_n C d14_5 (v := (10 : Int32)) rfl (pc' := 6) rfl ?_
  refine g_goto C d14_6 (pc' := 10) (by decide) (by decide) ?_
  refine g_ret C (v := (.int (10 : Int32))) (ty := .int) rfl rfl (Or.inl ⟨rfl, Or.inl rfl, _, rfl⟩) d14_10 (by decide) (by decide) ?_
  exact ⟨rfl, rfl⟩
theorem own_pd_3_max : parseMethodDescriptor "(II)I" = some ⟨[.int, .int], (some .int)⟩ := by decide +kernel
theorem d13_0 : decode jdk_38_method_6_code 0 = .ok (.aload_n 0, 1) := by decide +kernel
theorem d13_1 : decode jdk_38_method_6_code 1 = .ok (.getfield 9, 3) := by decide +kernel
theorem d13_4 : decode jdk_38_method_6_code 4 = .ok (.arraylength, 1) := by decide +kernel
theorem d13_5 : decode jdk_38_method_6_code 5 = .ok (.istore_n 2, 1) := by decide +kernel
theorem d13_6 : decode jdk_38_method_6_code 6 = .ok (.iload_n 2, 1) := by decide +kernel
theorem d13_7 : decode jdk_38_method_6_code 7 = .ok (.ifCond .gt 13, 3) := by decide +kernel
theorem d13_10 : decode jdk_38_method_6_code 10 = .ok (.aload_n 0, 1) := by decide +kernel
theorem d13_11 : decode jdk_38_method_6_code 11 = .ok (.getfield 9, 3) := by decide +kernel
theorem d13_14 : decode jdk_38_method_6_code 14 = .ok (.getstatic 39, 3) := by decide +kernel
theorem d13_17 : decode jdk_38_method_6_code 17 = .ok (.if_acmp .eq 28, 3) := by decide +kernel
theorem d13_45 : decode jdk_38_method_6_code 45 = .ok (.aload_n 0, 1) := by decide +kernel
theorem d13_46 : decode jdk_38_method_6_code 46 = .ok (.bipush 10, 2) := by decide +kernel
theorem d13_48 : decode jdk_38_method_6_code 48 = .ok (.iload_n 1, 1) := by decide +kernel
theorem d13_49 : decode jdk_38_method_6_code 49 = .ok (.invokestatic 79, 3) := by decide +kernel
theorem d13_52 : decode jdk_38_method_6_code 52 = .ok (.anewarray 7, 3) := by decide +kernel
theorem d13_55 : decode jdk_38_method_6_code 55 = .ok (.dup_x1, 1) := by decide +kernel
theorem d13_56 : decode jdk_38_method_6_code 56 = .ok (.putfield 9, 3) := by decide +kernel
theorem d13_59 : decode jdk_38_method_6_code 59 = .ok (.areturn, 1) := by decide +kernel
set_option maxRecDepth 65536 in
set_option maxHeartbeats 40000000 in
theorem rm_grow1 (l : Launch) (Z : State) (a0 : Array Value) (hw : ∀ d ∈ tables_1, d.before a0 Z = true) (n0 : Nat) (hl dc : Addr) (m : Int32) (h0 : Heap) (Z0 : n0 ≤ h0.size) (dd : Dc Z dc) (O : Old Z n0 h0) (E0 : Exa Z h0 hl "java/util/ArrayList") (F0 : Fld Z h0 hl "java/util/AbstractList" "modCount" "I" (.int m)) (F1 : Fld Z h0 hl "java/util/ArrayList" "elementData" "[Ljava/lang/Object;" (.ref dc)) (F2 : Fld Z h0 hl "java/util/ArrayList" "size" "I" (.int (0 : Int32))) (g1 : n0 ≤ hl) :
    Met1 l Z (⟨"java/util/ArrayList", "grow", "(I)[Ljava/lang/Object;"⟩ : MethodName) jdk_38_method_6_code 4 (some (.array (.object "java/lang/Object"))) ({ frames := 1, cells := 1, slots := 10, locals := 14 } : Room) n0 #[(.ref hl), (.int (1 : Int32))] h0 (fun v h => ∃ e : Addr, v = some (.ref e) ∧ h0.size ≤ e ∧ Keep h0 h [hl] ∧ Fld Z h hl "java/util/AbstractList" "modCount" "I" (.int m) ∧ Fld Z h hl "java/util/ArrayList" "elementData" "[Ljava/lang/Object;" (.ref e) ∧ Fld Z h hl "java/util/ArrayList" "size" "I" (.int (0 : Int32)) ∧ AryR Z h e "java/lang/Object" [.null, .null, .null, .null, .null, .null, .null, .null, .null, .null]) := by
  refine met_of (plainFor_of_name own_pn_java_util_ArrayList) (L0 := #[.val (.ref hl), .val (.int (1 : Int32)), .unset, .unset]) (by first | (simp [argsToLocals, Value.category]; done) | rfl) ?_
  intro B C
  change Ctx B l _ _ "java/util/ArrayList" "grow" _ _ Z at C
  have dd' := dd
  obtain ⟨Sdc, Adc⟩ := dd'
  refine g_aload_n C d13_0 (v := (.ref hl)) rfl rfl (pc' := 1) rfl ?_
  refine g_getfield C (host := "") (v := (.ref dc)) (Or.inl (own_w hw 31 rfl)) Via.refl F1 d13_1 (pc' := 4) rfl ?_
  refine g_arraylength C (Adc.ext O.2) (z := (0 : Int32)) rfl d13_4 (pc' := 5) rfl ?_
  refine g_istore_n C d13_5 (v := (0 : Int32)) (L' := #[.val (.ref hl), .val (.int (1 : Int32)), .val (.int (0 : Int32)), .unset]) rfl (pc' := 6) rfl ?_
  refine g_iload_n C d13_6 (v := (0 : Int32)) rfl (pc' := 7) rfl ?_
  refine g_if_n C d13_7 (Jvm.Free.XT.i0_gt_f (by decide)) (pc' := 10) rfl ?_
  refine g_aload_n C d13_10 (v := (.ref hl)) rfl rfl (pc' := 11) rfl ?_
  refine g_getfield C (host := "") (v := (.ref dc)) (Or.inl (own_w hw 31 rfl)) Via.refl F1 d13_11 (pc' := 14) rfl ?_
  refine g_getstatic C (host := "") (v := (.ref dc)) (Or.inl (own_w hw 30 rfl)) Via.refl (Sdc.ext O.2) d13_14 (pc' := 17) rfl ?_
  refine g_acmp_y C d13_17 rfl rfl (Jvm.Free.XT.aa_eq_t rfl) (pc' := 45) (by decide) (by decide) ?_
  refine g_aload_n C d13_45 (v := (.ref hl)) rfl rfl (pc' := 46) rfl ?_
  refine g_bipush C d13_46 (v := (10 : Int32)) rfl (pc' := 48) rfl ?_
  refine g_iload_n C d13_48 (v := (1 : Int32)) rfl (pc' := 49) rfl ?_
  refine g_static C (own_w hw 98 rfl) (own_w hw 99 rfl) (own_w hw 100 rfl) (own_w hw 101 rfl) (by decide) (rm_maxI l Z a0 hw n0  h0 Z0 ) (st := [(.ref hl)]) [(.int (10 : Int32)), (.int (1 : Int32))] rfl rfl own_pd_3_max rfl rfl (by decide) (W := 1) (Nat.le_of_eq rfl) (by decide) (by decide) (by decide) d13_49 (pc' := 52) rfl ?_
  intro v_3 h_1 q_2
  obtain ⟨rfl, rfl⟩ := q_2
  show Go B n0 _ h0 0 0 52 #[.val (.ref hl), .val (.int (1 : Int32)), .val (.int (0 : Int32)), .unset] [(.int (10 : Int32)), (.ref hl)]
  refine g_anewarray C (own_w hw 102 rfl) (own_w hw 103 rfl) (by decide) (cap := 10) (by decide) (by decide) (by decide) (by decide) d13_52 (pc' := 55) rfl ?_
  intro h_4 a_5 g_6 E_7 A_8
  have ne_9 : dc ≠ a_5 := ne_new (Adc.ext O.2).lt g_6
  have ne_10 : hl ≠ a_5 := ne_new E0.lt g_6
  have ge_a_5 : n0 ≤ a_5 := Nat.le_trans Z0 (Nat.le_of_eq g_6.symm)
  have gs_a_5 : h0.size ≤ a_5 := Nat.le_trans (Nat.le_refl h0.size) (Nat.le_of_eq g_6.symm)
  have f_11 : AryR Z h_4 a_5 "java/lang/Object" [.null, .null, .null, .null, .null, .null, .null, .null, .null, .null] := A_8
  show Go B n0 _ h_4 1 10 55 #[.val (.ref hl), .val (.int (1 : Int32)), .val (.int (0 : Int32)), .unset] [(.ref a_5), (.ref hl)]
  refine g_dup_x1 C d13_55 rfl rfl (pc' := 56) rfl ?_
  have f_12 := (F1.ext E_7)
  have f_13 := (E0.ext E_7)
  refine g_putfield C (host := "") (v := (.ref a_5)) (Or.inl (own_w hw 31 rfl)) Via.refl f_12 f_13 (Or.inl (own_w hw 32 rfl)) (own_w hw 10 rfl) (ty := (.array (.object "java/lang/Object"))) (by decide) rfl rfl g1 d13_56 (pc' := 59) rfl ?_
  intro h_14 W_15
  have f_16 := f_12.same W_15
  refine g_ret C (v := (.ref a_5)) (ty := (.array (.object "java/lang/Object"))) rfl rfl (Or.inr (Or.inr (Or.inr (Or.inr ⟨rfl, rfl, rfl⟩)))) d13_59 (by decide) (by decide) ?_
  have f_17 := ((F0.ext E_7).other W_15 (Or.inr (slot_ne (Or.inl (own_w hw 29 rfl)) (Or.inl (own_w hw 32 rfl)) (by decide) (t := .int) (t' := (.array (.object "java/lang/Object"))) (by decide) (by decide))))
  have f_18 := ((F2.ext E_7).other W_15 (Or.inr (slot_ne (Or.inl (own_w hw 82 rfl)) (Or.inl (own_w hw 32 rfl)) (by decide) (t := .int) (t' := (.array (.object "java/lang/Object"))) (by decide) (by decide))))
  have f_19 := (f_11.keep (Keep.of_wr W_15) (nin1 (Ne.symm ne_10)))
  exact ⟨a_5, rfl, gs_a_5, (((Keep.refl h0 [hl]).ext E_7).wr W_15 (Or.inl (List.mem_of_getElem? (i := 0) rfl))), f_17, f_16, f_18, f_19⟩
theorem own_pd_2_grow : parseMethodDescriptor "(I)[Ljava/lang/Object;" = some ⟨[.int], (some (.array (.object "java/lang/Object")))⟩ := by decide +kernel
theorem d12_0 : decode jdk_38_method_7_code 0 = .ok (.aload_n 0, 1) := by decide +kernel
theorem d12_1 : decode jdk_38_method_7_code 1 = .ok (.aload_n 0, 1) := by decide +kernel
theorem d12_2 : decode jdk_38_method_7_code 2 = .ok (.getfield 48, 3) := by decide +kernel
theorem d12_5 : decode jdk_38_method_7_code 5 = .ok (.iconst 1, 1) := by decide +kernel
theorem d12_6 : decode jdk_38_method_7_code 6 = .ok (.iadd, 1) := by decide +kernel
theorem d12_7 : decode jdk_38_method_7_code 7 = .ok (.invokevirtual 69, 3) := by decide +kernel
theorem d12_10 : decode jdk_38_method_7_code 10 = .ok (.areturn, 1) := by decide +kernel
set_option maxRecDepth 65536 in
set_option maxHeartbeats 40000000 in
theorem rm_grow0 (l : Launch) (Z : State) (a0 : Array Value) (hw : ∀ d ∈ tables_1, d.before a0 Z = true) (n0 : Nat) (hl dc : Addr) (m : Int32) (h0 : Heap) (Z0 : n0 ≤ h0.size) (dd : Dc Z dc) (O : Old Z n0 h0) (E0 : Exa Z h0 hl "java/util/ArrayList") (F0 : Fld Z h0 hl "java/util/AbstractList" "modCount" "I" (.int m)) (F1 : Fld Z h0 hl "java/util/ArrayList" "elementData" "[Ljava/lang/Object;" (.ref dc)) (F2 : Fld Z h0 hl "java/util/ArrayList" "size" "I" (.int (0 : Int32))) (g1 : n0 ≤ hl) :
    Met1 l Z (⟨"java/util/ArrayList", "grow", "()[Ljava/lang/Object;"⟩ : MethodName) jdk_38_method_7_code 1 (some (.array (.object "java/lang/Object"))) ({ frames := 2, cells := 1, slots := 10, locals := 29 } : Room) n0 #[(.ref hl)] h0 (fun v h => ∃ e : Addr, v = some (.ref e) ∧ h0.size ≤ e ∧ Keep h0 h [hl] ∧ Fld Z h hl "java/util/AbstractList" "modCount" "I" (.int m) ∧ Fld Z h hl "java/util/ArrayList" "elementData" "[Ljava/lang/Object;" (.ref e) ∧ Fld Z h hl "java/util/ArrayList" "size" "I" (.int (0 : Int32)) ∧ AryR Z h e "java/lang/Object" [.null, .null, .null, .null, .null, .null, .null, .null, .null, .null]) := by
  refine met_of (plainFor_of_name own_pn_java_util_ArrayList) (L0 := #[.val (.ref hl)]) (by first | (simp [argsToLocals, Value.category]; done) | rfl) ?_
  intro B C
  change Ctx B l _ _ "java/util/ArrayList" "grow" _ _ Z at C
  have dd' := dd
  obtain ⟨Sdc, Adc⟩ := dd'
  refine g_aload_n C d12_0 (v := (.ref hl)) rfl rfl (pc' := 1) rfl ?_
  refine g_aload_n C d12_1 (v := (.ref hl)) rfl rfl (pc' := 2) rfl ?_
  refine g_getfield C (host := "") (v := (.int (0 : Int32))) (Or.inl (own_w hw 81 rfl)) Via.refl F2 d12_2 (pc' := 5) rfl ?_
  refine g_iconst C d12_5 (v := (1 : Int32)) rfl (pc' := 6) rfl ?_
  refine g_iadd C (x := (0 : Int32)) (y := (1 : Int32)) d12_6  (pc' := 7) rfl ?_
  refine Go.eqs (st2 := [(.int (1 : Int32)), (.ref hl)]) ?_ (by rfl)
  refine g_private C (own_w hw 93 rfl) (own_w hw 94 rfl) (own_w hw 95 rfl) (own_w hw 10 rfl) (own_w hw 11 rfl) (own_w hw 97 rfl) (by decide) E0 (rm_grow1 l Z a0 hw n0 hl dc m h0 Z0 dd O E0 F0 F1 F2 g1) (st := []) [(.int (1 : Int32))] rfl rfl own_pd_2_grow rfl rfl (by decide) (W := 0) (Nat.le_of_eq rfl) (by decide) (by decide) (by decide) d12_7 (pc' := 10) rfl ?_
  intro v_3 h_1 q_2
  obtain ⟨e_4, rfl, le_5, K_6, f_7, f_8, f_9, f_10⟩ := q_2
  have ne_11 : dc ≠ e_4 := ne_ge (Adc.ext O.2).lt le_5
  have ne_12 : hl ≠ e_4 := ne_ge E0.lt le_5
  have ge_e_4 : n0 ≤ e_4 := Nat.le_trans Z0 le_5
  have gs_e_4 : h0.size ≤ e_4 := Nat.le_trans (Nat.le_refl h0.size) le_5
  show Go B n0 _ h_1 1 10 10 #[.val (.ref hl)] [(.ref e_4)]
  refine g_ret C (v := (.ref e_4)) (ty := (.array (.object "java/lang/Object"))) rfl rfl (Or.inr (Or.inr (Or.inr (Or.inr ⟨rfl, rfl, rfl⟩)))) d12_10 (by decide) (by decide) ?_
  exact ⟨e_4, rfl, gs_e_4, ((Keep.refl h0 [hl]).trans K_6 (allS (Or.inl (List.mem_of_getElem? (i := 0) rfl)) all0)), f_7, f_8, f_9, f_10⟩
theorem own_pd_1_grow : parseMethodDescriptor "()[Ljava/lang/Object;" = some ⟨[], (some (.array (.object "java/lang/Object")))⟩ := by decide +kernel
theorem d11_0 : decode jdk_38_method_24_code 0 = .ok (.iload_n 3, 1) := by decide +kernel
theorem d11_1 : decode jdk_38_method_24_code 1 = .ok (.aload_n 2, 1) := by decide +kernel
theorem d11_2 : decode jdk_38_method_24_code 2 = .ok (.arraylength, 1) := by decide +kernel
theorem d11_3 : decode jdk_38_method_24_code 3 = .ok (.if_icmp .ne 8, 3) := by decide +kernel
theorem d11_6 : decode jdk_38_method_24_code 6 = .ok (.aload_n 0, 1) := by decide +kernel
theorem d11_7 : decode jdk_38_method_24_code 7 = .ok (.invokevirtual 129, 3) := by decide +kernel
theorem d11_10 : decode jdk_38_method_24_code 10 = .ok (.astore_n 2, 1) := by decide +kernel
theorem d11_11 : decode jdk_38_method_24_code 11 = .ok (.aload_n 2, 1) := by decide +kernel
theorem d11_12 : decode jdk_38_method_24_code 12 = .ok (.iload_n 3, 1) := by decide +kernel
theorem d11_13 : decode jdk_38_method_24_code 13 = .ok (.aload_n 1, 1) := by decide +kernel
theorem d11_14 : decode jdk_38_method_24_code 14 = .ok (.aastore, 1) := by decide +kernel
theorem d11_15 : decode jdk_38_method_24_code 15 = .ok (.aload_n 0, 1) := by decide +kernel
theorem d11_16 : decode jdk_38_method_24_code 16 = .ok (.iload_n 3, 1) := by decide +kernel
theorem d11_17 : decode jdk_38_method_24_code 17 = .ok (.iconst 1, 1) := by decide +kernel
theorem d11_18 : decode jdk_38_method_24_code 18 = .ok (.iadd, 1) := by decide +kernel
theorem d11_19 : decode jdk_38_method_24_code 19 = .ok (.putfield 48, 3) := by decide +kernel
theorem d11_22 : decode jdk_38_method_24_code 22 = .ok (.return_, 1) := by decide +kernel
set_option maxRecDepth 65536 in
set_option maxHeartbeats 40000000 in
theorem rm_addp0 (l : Launch) (Z : State) (a0 : Array Value) (hw : ∀ d ∈ tables_1, d.before a0 Z = true) (n0 : Nat) (hl dc o : Addr) (m : Int32) (h0 : Heap) (Z0 : n0 ≤ h0.size) (dd : Dc Z dc) (O : Old Z n0 h0) (E0 : Exa Z h0 hl "java/util/ArrayList") (F0 : Fld Z h0 hl "java/util/AbstractList" "modCount" "I" (.int m)) (F1 : Fld Z h0 hl "java/util/ArrayList" "elementData" "[Ljava/lang/Object;" (.ref dc)) (F2 : Fld Z h0 hl "java/util/ArrayList" "size" "I" (.int (0 : Int32))) (g1 : n0 ≤ hl) (Eo : Exa Z h0 o "com/example/measured_savepoints/measuredsavepoints/SavepointStack$Held") (noh : o ≠ hl) :
    Met1 l Z (⟨"java/util/ArrayList", "add", "(Ljava/lang/Object;[Ljava/lang/Object;I)V"⟩ : MethodName) jdk_38_method_24_code 4 none ({ frames := 3, cells := 1, slots := 10, locals := 41 } : Room) n0 #[(.ref hl), (.ref o), (.ref dc), (.int (0 : Int32))] h0 (fun v h => v = none ∧ ∃ (e : Addr) (vs : List Value), h0.size ≤ e ∧ Keep h0 h [hl] ∧ Fld Z h hl "java/util/AbstractList" "modCount" "I" (.int m) ∧ Fld Z h hl "java/util/ArrayList" "elementData" "[Ljava/lang/Object;" (.ref e) ∧ Fld Z h hl "java/util/ArrayList" "size" "I" (.int (1 : Int32)) ∧ AryR Z h e "java/lang/Object" vs ∧ vs.length = 10) := by
  refine met_of (plainFor_of_name own_pn_java_util_ArrayList) (L0 := #[.val (.ref hl), .val (.ref o), .val (.ref dc), .val (.int (0 : Int32))]) (by first | (simp [argsToLocals, Value.category]; done) | rfl) ?_
  intro B C
  change Ctx B l _ _ "java/util/ArrayList" "add" _ _ Z at C
  have dd' := dd
  obtain ⟨Sdc, Adc⟩ := dd'
  refine g_iload_n C d11_0 (v := (0 : Int32)) rfl (pc' := 1) rfl ?_
  refine g_aload_n C d11_1 (v := (.ref dc)) rfl rfl (pc' := 2) rfl ?_
  refine g_arraylength C (Adc.ext O.2) (z := (0 : Int32)) rfl d11_2 (pc' := 3) rfl ?_
  refine g_icmp_n C d11_3 (Jvm.Free.XT.ii_ne_f (by decide)) (pc' := 6) rfl ?_
  refine g_aload_n C d11_6 (v := (.ref hl)) rfl rfl (pc' := 7) rfl ?_
  refine g_private C (own_w hw 88 rfl) (own_w hw 89 rfl) (own_w hw 90 rfl) (own_w hw 10 rfl) (own_w hw 11 rfl) (own_w hw 92 rfl) (by decide) E0 (rm_grow0 l Z a0 hw n0 hl dc m h0 Z0 dd O E0 F0 F1 F2 g1) (st := []) [] rfl rfl own_pd_1_grow rfl rfl (by decide) (W := 0) (Nat.le_of_eq rfl) (by decide) (by decide) (by decide) d11_7 (pc' := 10) rfl ?_
  intro v_3 h_1 q_2
  obtain ⟨e_4, rfl, le_5, K_6, f_7, f_8, f_9, f_10⟩ := q_2
  have ne_11 : dc ≠ e_4 := ne_ge (Adc.ext O.2).lt le_5
  have ne_12 : hl ≠ e_4 := ne_ge E0.lt le_5
  have ne_13 : o ≠ e_4 := ne_ge Eo.lt le_5
  have ge_e_4 : n0 ≤ e_4 := Nat.le_trans Z0 le_5
  have gs_e_4 : h0.size ≤ e_4 := Nat.le_trans (Nat.le_refl h0.size) le_5
  show Go B n0 _ h_1 1 10 10 #[.val (.ref hl), .val (.ref o), .val (.ref dc), .val (.int (0 : Int32))] [(.ref e_4)]
  refine g_astore_n C d11_10 (v := (.ref e_4)) (L' := #[.val (.ref hl), .val (.ref o), .val (.ref e_4), .val (.int (0 : Int32))]) rfl rfl (pc' := 11) rfl ?_
  refine g_aload_n C d11_11 (v := (.ref e_4)) rfl rfl (pc' := 12) rfl ?_
  refine g_iload_n C d11_12 (v := (0 : Int32)) rfl (pc' := 13) rfl ?_
  refine g_aload_n C d11_13 (v := (.ref o)) rfl rfl (pc' := 14) rfl ?_
  have f_17 := (Eo.keep K_6)
  refine g_aastore C f_10 (Ins.of_exa f_17 (own_w hw 104 rfl)) (by decide) (i := 0) (by decide) (show 0 < 10 by decide) ge_e_4 d11_14 (pc' := 15) rfl ?_
  intro h_14 K_15 A_16
  have f_18 : AryR Z h_14 e_4 "java/lang/Object" [(.ref o), .null, .null, .null, .null, .null, .null, .null, .null, .null] := A_16
  refine g_aload_n C d11_15 (v := (.ref hl)) rfl rfl (pc' := 16) rfl ?_
  refine g_iload_n C d11_16 (v := (0 : Int32)) rfl (pc' := 17) rfl ?_
  refine g_iconst C d11_17 (v := (1 : Int32)) rfl (pc' := 18) rfl ?_
  refine g_iadd C (x := (0 : Int32)) (y := (1 : Int32)) d11_18  (pc' := 19) rfl ?_
  refine Go.eqs (st2 := [(.int (1 : Int32)), (.ref hl)]) ?_ (by rfl)
  have f_19 := (f_9.keep K_15 (ninS ne_12 nin0))
  have f_20 := ((E0.keep K_6).keep K_15)
  refine g_putfield C (host := "") (v := (.int (1 : Int32))) (Or.inl (own_w hw 81 rfl)) Via.refl f_19 f_20 (Or.inl (own_w hw 82 rfl)) (own_w hw 10 rfl) (ty := .int) (by decide) rfl rfl g1 d11_19 (pc' := 22) rfl ?_
  intro h_21 W_22
  have f_23 := f_19.same W_22
  refine g_return C rfl d11_22 (by decide) (by decide) ?_
  have f_24 := ((f_7.keep K_15 (ninS ne_12 nin0)).other W_22 (Or.inr (slot_ne (Or.inl (own_w hw 29 rfl)) (Or.inl (own_w hw 82 rfl)) (by decide) (t := .int) (t' := .int) (by decide) (by decide))))
  have f_25 := ((f_8.keep K_15 (ninS ne_12 nin0)).other W_22 (Or.inr (slot_ne (Or.inl (own_w hw 32 rfl)) (Or.inl (own_w hw 82 rfl)) (by decide) (t := (.array (.object "java/lang/Object"))) (t' := .int) (by decide) (by decide))))
  have f_26 := (f_18.keep (Keep.of_wr W_22) (nin1 (Ne.symm ne_12)))
  exact ⟨rfl, e_4, _, gs_e_4, ((((Keep.refl h0 [hl]).trans K_6 (allS (Or.inl (List.mem_of_getElem? (i := 0) rfl)) all0)).trans K_15 (allS (Or.inr gs_e_4) all0)).wr W_22 (Or.inl (List.mem_of_getElem? (i := 0) rfl))), f_24, f_25, f_23, f_26, rfl⟩
set_option maxRecDepth 65536 in
set_option maxHeartbeats 40000000 in
theorem rm_addp1 (l : Launch) (Z : State) (a0 : Array Value) (hw : ∀ d ∈ tables_1, d.before a0 Z = true) (n0 : Nat) (hl e o : Addr) (m z : Int32) (p : Nat) (vs : List Value) (h0 : Heap) (Z0 : n0 ≤ h0.size) (E0 : Exa Z h0 hl "java/util/ArrayList") (F0 : Fld Z h0 hl "java/util/AbstractList" "modCount" "I" (.int m)) (F1 : Fld Z h0 hl "java/util/ArrayList" "elementData" "[Ljava/lang/Object;" (.ref e)) (F2 : Fld Z h0 hl "java/util/ArrayList" "size" "I" (.int z)) (g1 : n0 ≤ hl) (Ae : AryR Z h0 e "java/lang/Object" vs) (hvs : vs.length = 10) (ge' : n0 ≤ e) (neh : e ≠ hl) (Eo : Exa Z h0 o "com/example/measured_savepoints/measuredsavepoints/SavepointStack$Held") (noh : o ≠ hl) (noe : o ≠ e) (hp : p ≤ 5) (hz : ¬ z < 0 ∧ z.toNatClampNeg = p ∧ ¬ z = (10 : Int32)) :
    Met1 l Z (⟨"java/util/ArrayList", "add", "(Ljava/lang/Object;[Ljava/lang/Object;I)V"⟩ : MethodName) jdk_38_method_24_code 4 none ({ frames := 0, cells := 0, slots := 0, locals := 0 } : Room) n0 #[(.ref hl), (.ref o), (.ref e), (.int z)] h0 (fun v h => v = none ∧ ∃ vs' : List Value, Keep h0 h [hl, e] ∧ Fld Z h hl "java/util/AbstractList" "modCount" "I" (.int m) ∧ Fld Z h hl "java/util/ArrayList" "elementData" "[Ljava/lang/Object;" (.ref e) ∧ Fld Z h hl "java/util/ArrayList" "size" "I" (.int (z + (1 : Int32))) ∧ AryR Z h e "java/lang/Object" vs' ∧ vs'.length = 10) := by
  refine met_of (plainFor_of_name own_pn_java_util_ArrayList) (L0 := #[.val (.ref hl), .val (.ref o), .val (.ref e), .val (.int z)]) (by first | (simp [argsToLocals, Value.category]; done) | rfl) ?_
  intro B C
  change Ctx B l _ _ "java/util/ArrayList" "add" _ _ Z at C
  refine g_iload_n C d11_0 (v := z) rfl (pc' := 1) rfl ?_
  refine g_aload_n C d11_1 (v := (.ref e)) rfl rfl (pc' := 2) rfl ?_
  refine g_arraylength C (AryR.ary Ae) (z := (10 : Int32)) (by rw [hvs]; rfl) d11_2 (pc' := 3) rfl ?_
  refine g_icmp_y C d11_3 (Jvm.Free.XT.ii_ne_t hz.2.2) (pc' := 11) (by decide) (by decide) ?_
  refine g_aload_n C d11_11 (v := (.ref e)) rfl rfl (pc' := 12) rfl ?_
  refine g_iload_n C d11_12 (v := z) rfl (pc' := 13) rfl ?_
  refine g_aload_n C d11_13 (v := (.ref o)) rfl rfl (pc' := 14) rfl ?_
  refine g_aastore C Ae (Ins.of_exa Eo (own_w hw 104 rfl)) hz.1 (i := p) hz.2.1 (by rw [hvs]; omega) ge' d11_14 (pc' := 15) rfl ?_
  intro h_1 K_2 A_3
  refine g_aload_n C d11_15 (v := (.ref hl)) rfl rfl (pc' := 16) rfl ?_
  refine g_iload_n C d11_16 (v := z) rfl (pc' := 17) rfl ?_
  refine g_iconst C d11_17 (v := (1 : Int32)) rfl (pc' := 18) rfl ?_
  refine g_iadd C (x := z) (y := (1 : Int32)) d11_18  (pc' := 19) rfl ?_
  have f_4 := (F2.keep K_2 (ninS (Ne.symm neh) nin0))
  have f_5 := (E0.keep K_2)
  refine g_putfield C (host := "") (v := (.int (z + (1 : Int32)))) (Or.inl (own_w hw 81 rfl)) Via.refl f_4 f_5 (Or.inl (own_w hw 82 rfl)) (own_w hw 10 rfl) (ty := .int) (by decide) rfl rfl g1 d11_19 (pc' := 22) rfl ?_
  intro h_6 W_7
  have f_8 := f_4.same W_7
  refine g_return C rfl d11_22 (by decide) (by decide) ?_
  have f_9 := ((F0.keep K_2 (ninS (Ne.symm neh) nin0)).other W_7 (Or.inr (slot_ne (Or.inl (own_w hw 29 rfl)) (Or.inl (own_w hw 82 rfl)) (by decide) (t := .int) (t' := .int) (by decide) (by decide))))
  have f_10 := ((F1.keep K_2 (ninS (Ne.symm neh) nin0)).other W_7 (Or.inr (slot_ne (Or.inl (own_w hw 32 rfl)) (Or.inl (own_w hw 82 rfl)) (by decide) (t := (.array (.object "java/lang/Object"))) (t' := .int) (by decide) (by decide))))
  have f_11 := (A_3.keep (Keep.of_wr W_7) (nin1 neh))
  exact ⟨rfl, _, (((Keep.refl h0 [hl, e]).trans K_2 (allS (Or.inl (List.mem_of_getElem? (i := 1) rfl)) all0)).wr W_7 (Or.inl (List.mem_of_getElem? (i := 0) rfl))), f_9, f_10, f_8, f_11, by rw [List.length_set]; exact hvs⟩
theorem own_pd_12_add : parseMethodDescriptor "(Ljava/lang/Object;[Ljava/lang/Object;I)V" = some ⟨[(.object "java/lang/Object"), (.array (.object "java/lang/Object")), .int], none⟩ := by decide +kernel
theorem d10_0 : decode jdk_38_method_25_code 0 = .ok (.aload_n 0, 1) := by decide +kernel
theorem d10_1 : decode jdk_38_method_25_code 1 = .ok (.dup, 1) := by decide +kernel
theorem d10_2 : decode jdk_38_method_25_code 2 = .ok (.getfield 63, 3) := by decide +kernel
theorem d10_5 : decode jdk_38_method_25_code 5 = .ok (.iconst 1, 1) := by decide +kernel
theorem d10_6 : decode jdk_38_method_25_code 6 = .ok (.iadd, 1) := by decide +kernel
theorem d10_7 : decode jdk_38_method_25_code 7 = .ok (.putfield 63, 3) := by decide +kernel
theorem d10_10 : decode jdk_38_method_25_code 10 = .ok (.aload_n 0, 1) := by decide +kernel
theorem d10_11 : decode jdk_38_method_25_code 11 = .ok (.aload_n 1, 1) := by decide +kernel
theorem d10_12 : decode jdk_38_method_25_code 12 = .ok (.aload_n 0, 1) := by decide +kernel
theorem d10_13 : decode jdk_38_method_25_code 13 = .ok (.getfield 9, 3) := by decide +kernel
theorem d10_16 : decode jdk_38_method_25_code 16 = .ok (.aload_n 0, 1) := by decide +kernel
theorem d10_17 : decode jdk_38_method_25_code 17 = .ok (.getfield 48, 3) := by decide +kernel
theorem d10_20 : decode jdk_38_method_25_code 20 = .ok (.invokevirtual 131, 3) := by decide +kernel
theorem d10_23 : decode jdk_38_method_25_code 23 = .ok (.iconst 1, 1) := by decide +kernel
theorem d10_24 : decode jdk_38_method_25_code 24 = .ok (.ireturn, 1) := by decide +kernel
set_option maxRecDepth 65536 in
set_option maxHeartbeats 40000000 in
theorem rm_add0 (l : Launch) (Z : State) (a0 : Array Value) (hw : ∀ d ∈ tables_1, d.before a0 Z = true) (n0 : Nat) (hl dc o : Addr) (m : Int32) (h0 : Heap) (Z0 : n0 ≤ h0.size) (dd : Dc Z dc) (O : Old Z n0 h0) (E0 : Exa Z h0 hl "java/util/ArrayList") (F0 : Fld Z h0 hl "java/util/AbstractList" "modCount" "I" (.int m)) (F1 : Fld Z h0 hl "java/util/ArrayList" "elementData" "[Ljava/lang/Object;" (.ref dc)) (F2 : Fld Z h0 hl "java/util/ArrayList" "size" "I" (.int (0 : Int32))) (g1 : n0 ≤ hl) (Eo : Exa Z h0 o "com/example/measured_savepoints/measuredsavepoints/SavepointStack$Held") (noh : o ≠ hl) :
    Met1 l Z (⟨"java/util/ArrayList", "add", "(Ljava/lang/Object;)Z"⟩ : MethodName) jdk_38_method_25_code 2 (some .boolean) ({ frames := 4, cells := 1, slots := 10, locals := 56 } : Room) n0 #[(.ref hl), (.ref o)] h0 (fun v h => v = some (.int (1 : Int32)) ∧ ∃ (e : Addr) (vs : List Value), h0.size ≤ e ∧ Keep h0 h [hl] ∧ Fld Z h hl "java/util/AbstractList" "modCount" "I" (.int (m + (1 : Int32))) ∧ Fld Z h hl "java/util/ArrayList" "elementData" "[Ljava/lang/Object;" (.ref e) ∧ Fld Z h hl "java/util/ArrayList" "size" "I" (.int (1 : Int32)) ∧ AryR Z h e "java/lang/Object" vs ∧ vs.length = 10) := by
  refine met_of (plainFor_of_name own_pn_java_util_ArrayList) (L0 := #[.val (.ref hl), .val (.ref o)]) (by first | (simp [argsToLocals, Value.category]; done) | rfl) ?_
  intro B C
  change Ctx B l _ _ "java/util/ArrayList" "add" _ _ Z at C
  have dd' := dd
  obtain ⟨Sdc, Adc⟩ := dd'
  refine g_aload_n C d10_0 (v := (.ref hl)) rfl rfl (pc' := 1) rfl ?_
  refine g_dup C d10_1 rfl (pc' := 2) rfl ?_
  refine g_getfield C (host := "") (v := (.int m)) (Or.inl (own_w hw 79 rfl)) (Via.of (own_w hw 80 rfl)) F0 d10_2 (pc' := 5) rfl ?_
  refine g_iconst C d10_5 (v := (1 : Int32)) rfl (pc' := 6) rfl ?_
  refine g_iadd C (x := m) (y := (1 : Int32)) d10_6  (pc' := 7) rfl ?_
  refine g_putfield C (host := "") (v := (.int (m + (1 : Int32)))) (Or.inl (own_w hw 79 rfl)) (Via.of (own_w hw 80 rfl)) F0 E0 (Or.inl (own_w hw 29 rfl)) (own_w hw 10 rfl) (ty := .int) (by decide) rfl rfl g1 d10_7 (pc' := 10) rfl ?_
  intro h_1 W_2
  have f_3 := F0.same W_2
  refine g_aload_n C d10_10 (v := (.ref hl)) rfl rfl (pc' := 11) rfl ?_
  refine g_aload_n C d10_11 (v := (.ref o)) rfl rfl (pc' := 12) rfl ?_
  refine g_aload_n C d10_12 (v := (.ref hl)) rfl rfl (pc' := 13) rfl ?_
  have f_4 := (F1.other W_2 (Or.inr (slot_ne (Or.inl (own_w hw 32 rfl)) (Or.inl (own_w hw 29 rfl)) (by decide) (t := (.array (.object "java/lang/Object"))) (t' := .int) (by decide) (by decide))))
  refine g_getfield C (host := "") (v := (.ref dc)) (Or.inl (own_w hw 31 rfl)) Via.refl f_4 d10_13 (pc' := 16) rfl ?_
  refine g_aload_n C d10_16 (v := (.ref hl)) rfl rfl (pc' := 17) rfl ?_
  have f_5 := (F2.other W_2 (Or.inr (slot_ne (Or.inl (own_w hw 82 rfl)) (Or.inl (own_w hw 29 rfl)) (by decide) (t := .int) (t' := .int) (by decide) (by decide))))
  refine g_getfield C (host := "") (v := (.int (0 : Int32))) (Or.inl (own_w hw 81 rfl)) Via.refl f_5 d10_17 (pc' := 20) rfl ?_
  have f_6 := (O.wr W_2 g1)
  have f_7 := (E0.wr W_2)
  have f_8 := (Eo.wr W_2)
  have f_9 := (Nat.le_trans Z0 (Keep.of_wr W_2).1)
  have f_10 := (Nat.le_trans (Nat.le_refl h0.size) (Keep.of_wr W_2).1)
  refine g_private C (own_w hw 83 rfl) (own_w hw 84 rfl) (own_w hw 85 rfl) (own_w hw 10 rfl) (own_w hw 11 rfl) (own_w hw 87 rfl) (by decide) f_7 (rm_addp0 l Z a0 hw n0 hl dc o (m + (1 : Int32)) h_1 f_9 dd f_6 f_7 f_3 f_4 f_5 g1 f_8 noh) (st := []) [(.ref o), (.ref dc), (.int (0 : Int32))] rfl rfl own_pd_12_add rfl rfl (by decide) (W := 0) (Nat.le_of_eq rfl) (by decide) (by decide) (by decide) d10_20 (pc' := 23) rfl ?_
  intro v_13 h_11 q_12
  obtain ⟨rfl, e_14, vs_15, le_16, K_17, f_18, f_19, f_20, f_21, hv_22⟩ := q_12
  have ne_23 : hl ≠ e_14 := ne_ge f_7.lt le_16
  have ne_24 : o ≠ e_14 := ne_ge f_8.lt le_16
  have ge_e_14 : n0 ≤ e_14 := Nat.le_trans f_9 le_16
  have gs_e_14 : h0.size ≤ e_14 := Nat.le_trans f_10 le_16
  show Go B n0 _ h_11 1 10 23 #[.val (.ref hl), .val (.ref o)] []
  refine g_iconst C d10_23 (v := (1 : Int32)) rfl (pc' := 24) rfl ?_
  refine g_ret C (v := (.int (1 : Int32))) (ty := .boolean) rfl rfl (Or.inl ⟨rfl, Or.inr (Or.inl rfl), _, rfl⟩) d10_24 (by decide) (by decide) ?_
  exact ⟨rfl, e_14, _, gs_e_14, (((Keep.refl h0 [hl]).wr W_2 (Or.inl (List.mem_of_getElem? (i := 0) rfl))).trans K_17 (allS (Or.inl (List.mem_of_getElem? (i := 0) rfl)) all0)), f_18, f_19, f_20, f_21, hv_22⟩
set_option maxRecDepth 65536 in
set_option maxHeartbeats 40000000 in
theorem rm_add1 (l : Launch) (Z : State) (a0 : Array Value) (hw : ∀ d ∈ tables_1, d.before a0 Z = true) (n0 : Nat) (hl e o : Addr) (m z : Int32) (p : Nat) (vs : List Value) (h0 : Heap) (Z0 : n0 ≤ h0.size) (E0 : Exa Z h0 hl "java/util/ArrayList") (F0 : Fld Z h0 hl "java/util/AbstractList" "modCount" "I" (.int m)) (F1 : Fld Z h0 hl "java/util/ArrayList" "elementData" "[Ljava/lang/Object;" (.ref e)) (F2 : Fld Z h0 hl "java/util/ArrayList" "size" "I" (.int z)) (g1 : n0 ≤ hl) (Ae : AryR Z h0 e "java/lang/Object" vs) (hvs : vs.length = 10) (ge' : n0 ≤ e) (neh : e ≠ hl) (Eo : Exa Z h0 o "com/example/measured_savepoints/measuredsavepoints/SavepointStack$Held") (noh : o ≠ hl) (noe : o ≠ e) (hp : p ≤ 5) (hz : ¬ z < 0 ∧ z.toNatClampNeg = p ∧ ¬ z = (10 : Int32)) :
    Met1 l Z (⟨"java/util/ArrayList", "add", "(Ljava/lang/Object;)Z"⟩ : MethodName) jdk_38_method_25_code 2 (some .boolean) ({ frames := 1, cells := 0, slots := 0, locals := 15 } : Room) n0 #[(.ref hl), (.ref o)] h0 (fun v h => v = some (.int (1 : Int32)) ∧ ∃ vs' : List Value, Keep h0 h [hl, e] ∧ Fld Z h hl "java/util/AbstractList" "modCount" "I" (.int (m + (1 : Int32))) ∧ Fld Z h hl "java/util/ArrayList" "elementData" "[Ljava/lang/Object;" (.ref e) ∧ Fld Z h hl "java/util/ArrayList" "size" "I" (.int (z + (1 : Int32))) ∧ AryR Z h e "java/lang/Object" vs' ∧ vs'.length = 10) := by
  refine met_of (plainFor_of_name own_pn_java_util_ArrayList) (L0 := #[.val (.ref hl), .val (.ref o)]) (by first | (simp [argsToLocals, Value.category]; done) | rfl) ?_
  intro B C
  change Ctx B l _ _ "java/util/ArrayList" "add" _ _ Z at C
  refine g_aload_n C d10_0 (v := (.ref hl)) rfl rfl (pc' := 1) rfl ?_
  refine g_dup C d10_1 rfl (pc' := 2) rfl ?_
  refine g_getfield C (host := "") (v := (.int m)) (Or.inl (own_w hw 79 rfl)) (Via.of (own_w hw 80 rfl)) F0 d10_2 (pc' := 5) rfl ?_
  refine g_iconst C d10_5 (v := (1 : Int32)) rfl (pc' := 6) rfl ?_
  refine g_iadd C (x := m) (y := (1 : Int32)) d10_6  (pc' := 7) rfl ?_
  refine g_putfield C (host := "") (v := (.int (m + (1 : Int32)))) (Or.inl (own_w hw 79 rfl)) (Via.of (own_w hw 80 rfl)) F0 E0 (Or.inl (own_w hw 29 rfl)) (own_w hw 10 rfl) (ty := .int) (by decide) rfl rfl g1 d10_7 (pc' := 10) rfl ?_
  intro h_1 W_2
  have f_3 := F0.same W_2
  refine g_aload_n C d10_10 (v := (.ref hl)) rfl rfl (pc' := 11) rfl ?_
  refine g_aload_n C d10_11 (v := (.ref o)) rfl rfl (pc' := 12) rfl ?_
  refine g_aload_n C d10_12 (v := (.ref hl)) rfl rfl (pc' := 13) rfl ?_
  have f_4 := (F1.other W_2 (Or.inr (slot_ne (Or.inl (own_w hw 32 rfl)) (Or.inl (own_w hw 29 rfl)) (by decide) (t := (.array (.object "java/lang/Object"))) (t' := .int) (by decide) (by decide))))
  refine g_getfield C (host := "") (v := (.ref e)) (Or.inl (own_w hw 31 rfl)) Via.refl f_4 d10_13 (pc' := 16) rfl ?_
  refine g_aload_n C d10_16 (v := (.ref hl)) rfl rfl (pc' := 17) rfl ?_
  have f_5 := (F2.other W_2 (Or.inr (slot_ne (Or.inl (own_w hw 82 rfl)) (Or.inl (own_w hw 29 rfl)) (by decide) (t := .int) (t' := .int) (by decide) (by decide))))
  refine g_getfield C (host := "") (v := (.int z)) (Or.inl (own_w hw 81 rfl)) Via.refl f_5 d10_17 (pc' := 20) rfl ?_
  have f_6 := (E0.wr W_2)
  have f_7 := (Ae.keep (Keep.of_wr W_2) (nin1 neh))
  have f_8 := (Eo.wr W_2)
  have f_9 := (Nat.le_trans Z0 (Keep.of_wr W_2).1)
  have f_10 := (Nat.le_trans (Nat.le_refl h0.size) (Keep.of_wr W_2).1)
  refine g_private C (own_w hw 83 rfl) (own_w hw 84 rfl) (own_w hw 85 rfl) (own_w hw 10 rfl) (own_w hw 11 rfl) (own_w hw 87 rfl) (by decide) f_6 (rm_addp1 l Z a0 hw n0 hl e o (m + (1 : Int32)) z p vs h_1 f_9 f_6 f_3 f_4 f_5 g1 f_7 hvs ge' neh f_8 noh noe hp hz) (st := []) [(.ref o), (.ref e), (.int z)] rfl rfl own_pd_12_add rfl rfl (by decide) (W := 0) (Nat.le_of_eq rfl) (by decide) (by decide) (by decide) d10_20 (pc' := 23) rfl ?_
  intro v_13 h_11 q_12
  obtain ⟨rfl, vs_14, K_15, f_16, f_17, f_18, f_19, hv_20⟩ := q_12
  show Go B n0 _ h_11 0 0 23 #[.val (.ref hl), .val (.ref o)] []
  refine g_iconst C d10_23 (v := (1 : Int32)) rfl (pc' := 24) rfl ?_
  refine g_ret C (v := (.int (1 : Int32))) (ty := .boolean) rfl rfl (Or.inl ⟨rfl, Or.inr (Or.inl rfl), _, rfl⟩) d10_24 (by decide) (by decide) ?_
  exact ⟨rfl, _, (((Keep.refl h0 [hl, e]).wr W_2 (Or.inl (List.mem_of_getElem? (i := 0) rfl))).trans K_15 (allS (Or.inl (List.mem_of_getElem? (i := 0) rfl)) (allS (Or.inl (List.mem_of_getElem? (i := 1) rfl)) all0))), f_16, f_17, f_18, f_19, hv_20⟩
theorem own_pd_7_init : parseMethodDescriptor "(JLjava/lang/Object;Z)V" = some ⟨[.long, (.object "java/lang/Object"), .boolean], none⟩ := by decide +kernel
theorem own_pd_11_add : parseMethodDescriptor "(Ljava/lang/Object;)Z" = some ⟨[(.object "java/lang/Object")], (some .boolean)⟩ := by decide +kernel
theorem d7_0 : decode prog_55_method_2_code 0 = .ok (.aload_n 0, 1) := by decide +kernel
theorem d7_1 : decode prog_55_method_2_code 1 = .ok (.dup, 1) := by decide +kernel
theorem d7_2 : decode prog_55_method_2_code 2 = .ok (.getfield 16, 3) := by decide +kernel
theorem d7_5 : decode prog_55_method_2_code 5 = .ok (.lconst 1, 1) := by decide +kernel
theorem d7_6 : decode prog_55_method_2_code 6 = .ok (.ladd, 1) := by decide +kernel
theorem d7_7 : decode prog_55_method_2_code 7 = .ok (.putfield 16, 3) := by decide +kernel
theorem d7_10 : decode prog_55_method_2_code 10 = .ok (.aload_n 0, 1) := by decide +kernel
theorem d7_11 : decode prog_55_method_2_code 11 = .ok (.getfield 10, 3) := by decide +kernel
theorem d7_14 : decode prog_55_method_2_code 14 = .ok (.new 20, 3) := by decide +kernel
theorem d7_17 : decode prog_55_method_2_code 17 = .ok (.dup, 1) := by decide +kernel
theorem d7_18 : decode prog_55_method_2_code 18 = .ok (.aload_n 0, 1) := by decide +kernel
theorem d7_19 : decode prog_55_method_2_code 19 = .ok (.getfield 16, 3) := by decide +kernel
theorem d7_22 : decode prog_55_method_2_code 22 = .ok (.aload_n 1, 1) := by decide +kernel
theorem d7_23 : decode prog_55_method_2_code 23 = .ok (.iconst 1, 1) := by decide +kernel
theorem d7_24 : decode prog_55_method_2_code 24 = .ok (.invokespecial 22, 3) := by decide +kernel
theorem d7_27 : decode prog_55_method_2_code 27 = .ok (.invokeinterface 25 2, 5) := by decide +kernel
theorem d7_32 : decode prog_55_method_2_code 32 = .ok (.pop, 1) := by decide +kernel
theorem d7_33 : decode prog_55_method_2_code 33 = .ok (.aload_n 0, 1) := by decide +kernel
theorem d7_34 : decode prog_55_method_2_code 34 = .ok (.getfield 16, 3) := by decide +kernel
theorem d7_37 : decode prog_55_method_2_code 37 = .ok (.lreturn, 1) := by decide +kernel
set_option maxRecDepth 65536 in
set_option maxHeartbeats 40000000 in
theorem rm_push0 (l : Launch) (Z : State) (a0 : Array Value) (hw : ∀ d ∈ tables_1, d.before a0 Z = true) (n0 : Nat) (s hl u : Addr) (t A O' : Int64) (lw : Value) (m : Int32) (dc : Addr) (h0 : Heap) (Z0 : n0 ≤ h0.size) (dd : Dc Z dc) (O : Old Z n0 h0) (E0 : Exa Z h0 hl "java/util/ArrayList") (F0 : Fld Z h0 hl "java/util/AbstractList" "modCount" "I" (.int m)) (F1 : Fld Z h0 hl "java/util/ArrayList" "elementData" "[Ljava/lang/Object;" (.ref dc)) (F2 : Fld Z h0 hl "java/util/ArrayList" "size" "I" (.int (0 : Int32))) (g1 : n0 ≤ hl) (Es : Exa Z h0 s "com/example/measured_savepoints/measuredsavepoints/SavepointStack") (gs' : n0 ≤ s) (S0 : Fld Z h0 s "com/example/measured_savepoints/measuredsavepoints/SavepointStack" "held" "Ljava/util/List;" (.ref hl)) (S1 : Fld Z h0 s "com/example/measured_savepoints/measuredsavepoints/SavepointStack" "lastStamp" "J" (.long t)) (S2 : Fld Z h0 s "com/example/measured_savepoints/measuredsavepoints/SavepointStack" "lastWorker" "Ljava/lang/Object;" lw) (S3 : Fld Z h0 s "com/example/measured_savepoints/measuredsavepoints/SavepointStack" "lastWorkAt" "J" (.long A)) (S4 : Fld Z h0 s "com/example/measured_savepoints/measuredsavepoints/SavepointStack" "othersWorkAt" "J" (.long O')) (hlw : lw.isRef = true) (nsh : s ≠ hl) :
    Met1 l Z (⟨"com/example/measured_savepoints/measuredsavepoints/SavepointStack", "push", "(Ljava/lang/Object;)J"⟩ : MethodName) prog_55_method_2_code 2 (some .long) ({ frames := 5, cells := 2, slots := 13, locals := 69 } : Room) n0 #[(.ref s), (.ref u)] h0 (fun v h => v = some (.long (t + (1 : Int64))) ∧ ∃ (e : Addr) (vs : List Value), h0.size ≤ e ∧ Keep h0 h [s, hl] ∧ Fld Z h s "com/example/measured_savepoints/measuredsavepoints/SavepointStack" "held" "Ljava/util/List;" (.ref hl) ∧ Fld Z h s "com/example/measured_savepoints/measuredsavepoints/SavepointStack" "lastStamp" "J" (.long (t + (1 : Int64))) ∧ Fld Z h s "com/example/measured_savepoints/measuredsavepoints/SavepointStack" "lastWorker" "Ljava/lang/Object;" lw ∧ Fld Z h s "com/example/measured_savepoints/measuredsavepoints/SavepointStack" "lastWorkAt" "J" (.long A) ∧ Fld Z h s "com/example/measured_savepoints/measuredsavepoints/SavepointStack" "othersWorkAt" "J" (.long O') ∧ Fld Z h hl "java/util/AbstractList" "modCount" "I" (.int (m + (1 : Int32))) ∧ Fld Z h hl "java/util/ArrayList" "elementData" "[Ljava/lang/Object;" (.ref e) ∧ Fld Z h hl "java/util/ArrayList" "size" "I" (.int (1 : Int32)) ∧ AryR Z h e "java/lang/Object" vs ∧ vs.length = 10) := by
  refine met_of (plainFor_of_name own_pn_com_example_measured_savepoints_measuredsavepoints_SavepointStack) (L0 := #[.val (.ref s), .val (.ref u)]) (by first | (simp [argsToLocals, Value.category]; done) | rfl) ?_
  intro B C
  change Ctx B l _ _ "com/example/measured_savepoints/measuredsavepoints/SavepointStack" "push" _ _ Z at C
  have dd' := dd
  obtain ⟨Sdc, Adc⟩ := dd'
  refine g_aload_n C d7_0 (v := (.ref s)) rfl rfl (pc' := 1) rfl ?_
  refine g_dup C d7_1 rfl (pc' := 2) rfl ?_
  refine g_getfield C (host := "") (v := (.long t)) (Or.inl (own_w hw 50 rfl)) Via.refl S1 d7_2 (pc' := 5) rfl ?_
  refine g_lconst C d7_5 (v := (1 : Int64)) rfl (pc' := 6) rfl ?_
  refine g_ladd C (x := t) (y := (1 : Int64)) d7_6  (pc' := 7) rfl ?_
  refine g_putfield C (host := "") (v := (.long (t + (1 : Int64)))) (Or.inl (own_w hw 50 rfl)) Via.refl S1 Es (Or.inl (own_w hw 51 rfl)) (own_w hw 1 rfl) (ty := .long) (by decide) rfl rfl gs' d7_7 (pc' := 10) rfl ?_
  intro h_1 W_2
  have f_3 := S1.same W_2
  refine g_aload_n C d7_10 (v := (.ref s)) rfl rfl (pc' := 11) rfl ?_
  have f_4 := (S0.other W_2 (Or.inr (slot_ne (Or.inr (own_w hw 34 rfl)) (Or.inl (own_w hw 51 rfl)) (by decide) (t := (.object "java/util/List")) (t' := .long) (by decide) (by decide))))
  refine g_getfield C (host := "") (v := (.ref hl)) (Or.inl (own_w hw 33 rfl)) Via.refl f_4 d7_11 (pc' := 14) rfl ?_
  have f_5 := (E0.wr W_2)
  have f_6 := (Es.wr W_2)
  refine g_new C (own_w hw 52 rfl) (own_w hw 53 rfl) (own_w hw 54 rfl) (by decide) (by decide) d7_14 (pc' := 17) rfl ?_
  intro h_7 a_8 g_9 E_10 A_11 D_12
  have ne_13 : hl ≠ a_8 := ne_new f_5.lt g_9
  have ne_14 : s ≠ a_8 := ne_new f_6.lt g_9
  have f_15 := (Nat.le_trans Z0 (Keep.of_wr W_2).1)
  have ge_a_8 : n0 ≤ a_8 := Nat.le_trans f_15 (Nat.le_of_eq g_9.symm)
  have f_16 := (Nat.le_trans (Nat.le_refl h0.size) (Keep.of_wr W_2).1)
  have gs_a_8 : h0.size ≤ a_8 := Nat.le_trans f_16 (Nat.le_of_eq g_9.symm)
  have f_17 : Fld Z h_7 a_8 "com/example/measured_savepoints/measuredsavepoints/SavepointStack$Held" "stamp" "J" (.long (0 : Int64)) := D_12 (Or.inr (own_w hw 65 rfl)) (ty := .long) (by decide)
  have f_18 : Fld Z h_7 a_8 "com/example/measured_savepoints/measuredsavepoints/SavepointStack$Held" "user" "Ljava/lang/Object;" .null := D_12 (Or.inr (own_w hw 67 rfl)) (ty := (.object "java/lang/Object")) (by decide)
  have f_19 : Fld Z h_7 a_8 "com/example/measured_savepoints/measuredsavepoints/SavepointStack$Held" "firmly" "Z" (.int (0 : Int32)) := D_12 (Or.inr (own_w hw 69 rfl)) (ty := .boolean) (by decide)
  show Go B n0 _ h_7 1 3 17 #[.val (.ref s), .val (.ref u)] [(.ref a_8), (.ref hl)]
  refine g_dup C d7_17 rfl (pc' := 18) rfl ?_
  refine g_aload_n C d7_18 (v := (.ref s)) rfl rfl (pc' := 19) rfl ?_
  have f_20 := (f_3.ext E_10)
  refine g_getfield C (host := "") (v := (.long (t + (1 : Int64)))) (Or.inl (own_w hw 50 rfl)) Via.refl f_20 d7_19 (pc' := 22) rfl ?_
  refine g_aload_n C d7_22 (v := (.ref u)) rfl rfl (pc' := 23) rfl ?_
  refine g_iconst C d7_23 (v := (1 : Int32)) rfl (pc' := 24) rfl ?_
  have f_21 := (Nat.le_trans f_15 E_10.1)
  refine g_specialRef C (a := a_8) rfl (own_w hw 55 rfl) (own_w hw 56 rfl) (own_w hw 54 rfl) (own_w hw 57 rfl) (by decide) (rm_held l Z a0 hw n0 a_8 u (t + (1 : Int64)) h_7 f_21 A_11 f_17 f_18 f_19 ge_a_8) (st := [(.ref a_8), (.ref hl)]) [(.long (t + (1 : Int64))), (.ref u), (.int (1 : Int32))] rfl rfl own_pd_7_init rfl rfl (by decide) (W := 2) (Nat.le_of_eq rfl) (by decide) (by decide) (by decide) d7_24 (pc' := 27) rfl ?_
  intro v_24 h_22 q_23
  obtain ⟨rfl, K_25⟩ := q_23
  show Go B n0 _ h_22 1 3 27 #[.val (.ref s), .val (.ref u)] [(.ref a_8), (.ref hl)]
  have f_26 := (((O.wr W_2 gs').ext E_10).keep K_25 (allS ge_a_8 all0))
  have f_27 := ((f_5.ext E_10).keep K_25)
  have f_28 := (((F0.other W_2 (Or.inl (Ne.symm nsh))).ext E_10).keep K_25 (ninS ne_13 nin0))
  have f_29 := (((F1.other W_2 (Or.inl (Ne.symm nsh))).ext E_10).keep K_25 (ninS ne_13 nin0))
  have f_30 := (((F2.other W_2 (Or.inl (Ne.symm nsh))).ext E_10).keep K_25 (ninS ne_13 nin0))
  have f_31 := (A_11.keep K_25)
  have f_32 := (Nat.le_trans f_21 K_25.1)
  have f_33 := ((f_6.ext E_10).keep K_25)
  have f_34 := (Nat.le_trans (Nat.le_trans f_16 E_10.1) K_25.1)
  refine g_interface C (own_w hw 70 rfl) (own_w hw 71 rfl) (own_w hw 72 rfl) rfl (own_w hw 73 rfl) (own_w hw 74 rfl) (own_w hw 75 rfl) (own_w hw 76 rfl) (own_w hw 77 rfl) (own_w hw 11 rfl) (own_w hw 78 rfl) (by decide) f_27 (rm_add0 l Z a0 hw n0 hl dc a_8 m h_22 f_32 dd f_26 f_27 f_28 f_29 f_30 g1 f_31 (Ne.symm ne_13)) (st := []) [(.ref a_8)] rfl rfl own_pd_11_add rfl rfl (by decide) (W := 0) (Nat.le_of_eq rfl) (by decide) (by decide) (by decide) d7_27 (pc' := 32) rfl ?_
  intro v_37 h_35 q_36
  obtain ⟨rfl, e_38, vs_39, le_40, K_41, f_42, f_43, f_44, f_45, hv_46⟩ := q_36
  have ne_47 : a_8 ≠ e_38 := ne_ge f_31.lt le_40
  have ne_48 : hl ≠ e_38 := ne_ge f_27.lt le_40
  have ne_49 : s ≠ e_38 := ne_ge f_33.lt le_40
  have ge_e_38 : n0 ≤ e_38 := Nat.le_trans f_32 le_40
  have gs_e_38 : h0.size ≤ e_38 := Nat.le_trans f_34 le_40
  show Go B n0 _ h_35 2 13 32 #[.val (.ref s), .val (.ref u)] [(.int (1 : Int32))]
  refine g_pop C d7_32 rfl (pc' := 33) rfl ?_
  refine g_aload_n C d7_33 (v := (.ref s)) rfl rfl (pc' := 34) rfl ?_
  have f_50 := ((f_20.keep K_25 (ninS ne_14 nin0)).keep K_41 (ninS nsh nin0))
  refine g_getfield C (host := "") (v := (.long (t + (1 : Int64)))) (Or.inl (own_w hw 50 rfl)) Via.refl f_50 d7_34 (pc' := 37) rfl ?_
  refine g_ret C (v := (.long (t + (1 : Int64)))) (ty := .long) rfl rfl (Or.inr (Or.inl ⟨rfl, rfl, _, rfl⟩)) d7_37 (by decide) (by decide) ?_
  have f_51 := (((f_4.ext E_10).keep K_25 (ninS ne_14 nin0)).keep K_41 (ninS nsh nin0))
  have f_52 := ((((S2.other W_2 (Or.inr (slot_ne (Or.inl (own_w hw 115 rfl)) (Or.inl (own_w hw 51 rfl)) (by decide) (t := (.object "java/lang/Object")) (t' := .long) (by decide) (by decide)))).ext E_10).keep K_25 (ninS ne_14 nin0)).keep K_41 (ninS nsh nin0))
  have f_53 := ((((S3.other W_2 (Or.inr (slot_ne (Or.inl (own_w hw 117 rfl)) (Or.inl (own_w hw 51 rfl)) (by decide) (t := .long) (t' := .long) (by decide) (by decide)))).ext E_10).keep K_25 (ninS ne_14 nin0)).keep K_41 (ninS nsh nin0))
  have f_54 := ((((S4.other W_2 (Or.inr (slot_ne (Or.inl (own_w hw 124 rfl)) (Or.inl (own_w hw 51 rfl)) (by decide) (t := .long) (t' := .long) (by decide) (by decide)))).ext E_10).keep K_25 (ninS ne_14 nin0)).keep K_41 (ninS nsh nin0))
  exact ⟨rfl, e_38, _, gs_e_38, (((((Keep.refl h0 [s, hl]).wr W_2 (Or.inl (List.mem_of_getElem? (i := 0) rfl))).ext E_10).trans K_25 (allS (Or.inr gs_a_8) all0)).trans K_41 (allS (Or.inl (List.mem_of_getElem? (i := 1) rfl)) all0)), f_51, f_50, f_52, f_53, f_54, f_42, f_43, f_44, f_45, hv_46⟩
set_option maxRecDepth 65536 in
set_option maxHeartbeats 40000000 in
theorem rm_push1 (l : Launch) (Z : State) (a0 : Array Value) (hw : ∀ d ∈ tables_1, d.before a0 Z = true) (n0 : Nat) (s hl u : Addr) (t A O' : Int64) (lw : Value) (m : Int32) (e : Addr) (z : Int32) (p : Nat) (vs : List Value) (h0 : Heap) (Z0 : n0 ≤ h0.size) (E0 : Exa Z h0 hl "java/util/ArrayList") (F0 : Fld Z h0 hl "java/util/AbstractList" "modCount" "I" (.int m)) (F1 : Fld Z h0 hl "java/util/ArrayList" "elementData" "[Ljava/lang/Object;" (.ref e)) (F2 : Fld Z h0 hl "java/util/ArrayList" "size" "I" (.int z)) (g1 : n0 ≤ hl) (Ae : AryR Z h0 e "java/lang/Object" vs) (hvs : vs.length = 10) (ge' : n0 ≤ e) (neh : e ≠ hl) (nes : e ≠ s) (hp : p ≤ 5) (hz : ¬ z < 0 ∧ z.toNatClampNeg = p ∧ ¬ z = (10 : Int32)) (Es : Exa Z h0 s "com/example/measured_savepoints/measuredsavepoints/SavepointStack") (gs' : n0 ≤ s) (S0 : Fld Z h0 s "com/example/measured_savepoints/measuredsavepoints/SavepointStack" "held" "Ljava/util/List;" (.ref hl)) (S1 : Fld Z h0 s "com/example/measured_savepoints/measuredsavepoints/SavepointStack" "lastStamp" "J" (.long t)) (S2 : Fld Z h0 s "com/example/measured_savepoints/measuredsavepoints/SavepointStack" "lastWorker" "Ljava/lang/Object;" lw) (S3 : Fld Z h0 s "com/example/measured_savepoints/measuredsavepoints/SavepointStack" "lastWorkAt" "J" (.long A)) (S4 : Fld Z h0 s "com/example/measured_savepoints/measuredsavepoints/SavepointStack" "othersWorkAt" "J" (.long O')) (hlw : lw.isRef = true) (nsh : s ≠ hl) :
    Met1 l Z (⟨"com/example/measured_savepoints/measuredsavepoints/SavepointStack", "push", "(Ljava/lang/Object;)J"⟩ : MethodName) prog_55_method_2_code 2 (some .long) ({ frames := 3, cells := 1, slots := 3, locals := 42 } : Room) n0 #[(.ref s), (.ref u)] h0 (fun v h => v = some (.long (t + (1 : Int64))) ∧ ∃ (vs' : List Value), Keep h0 h [s, hl, e] ∧ Fld Z h s "com/example/measured_savepoints/measuredsavepoints/SavepointStack" "held" "Ljava/util/List;" (.ref hl) ∧ Fld Z h s "com/example/measured_savepoints/measuredsavepoints/SavepointStack" "lastStamp" "J" (.long (t + (1 : Int64))) ∧ Fld Z h s "com/example/measured_savepoints/measuredsavepoints/SavepointStack" "lastWorker" "Ljava/lang/Object;" lw ∧ Fld Z h s "com/example/measured_savepoints/measuredsavepoints/SavepointStack" "lastWorkAt" "J" (.long A) ∧ Fld Z h s "com/example/measured_savepoints/measuredsavepoints/SavepointStack" "othersWorkAt" "J" (.long O') ∧ Fld Z h hl "java/util/AbstractList" "modCount" "I" (.int (m + (1 : Int32))) ∧ Fld Z h hl "java/util/ArrayList" "elementData" "[Ljava/lang/Object;" (.ref e) ∧ Fld Z h hl "java/util/ArrayList" "size" "I" (.int (z + (1 : Int32))) ∧ AryR Z h e "java/lang/Object" vs' ∧ vs'.length = 10) := by
  refine met_of (plainFor_of_name own_pn_com_example_measured_savepoints_measuredsavepoints_SavepointStack) (L0 := #[.val (.ref s), .val (.ref u)]) (by first | (simp [argsToLocals, Value.category]; done) | rfl) ?_
  intro B C
  change Ctx B l _ _ "com/example/measured_savepoints/measuredsavepoints/SavepointStack" "push" _ _ Z at C
  refine g_aload_n C d7_0 (v := (.ref s)) rfl rfl (pc' := 1) rfl ?_
  refine g_dup C d7_1 rfl (pc' := 2) rfl ?_
  refine g_getfield C (host := "") (v := (.long t)) (Or.inl (own_w hw 50 rfl)) Via.refl S1 d7_2 (pc' := 5) rfl ?_
  refine g_lconst C d7_5 (v := (1 : Int64)) rfl (pc' := 6) rfl ?_
  refine g_ladd C (x := t) (y := (1 : Int64)) d7_6  (pc' := 7) rfl ?_
  refine g_putfield C (host := "") (v := (.long (t + (1 : Int64)))) (Or.inl (own_w hw 50 rfl)) Via.refl S1 Es (Or.inl (own_w hw 51 rfl)) (own_w hw 1 rfl) (ty := .long) (by decide) rfl rfl gs' d7_7 (pc' := 10) rfl ?_
  intro h_1 W_2
  have f_3 := S1.same W_2
  refine g_aload_n C d7_10 (v := (.ref s)) rfl rfl (pc' := 11) rfl ?_
  have f_4 := (S0.other W_2 (Or.inr (slot_ne (Or.inr (own_w hw 34 rfl)) (Or.inl (own_w hw 51 rfl)) (by decide) (t := (.object "java/util/List")) (t' := .long) (by decide) (by decide))))
  refine g_getfield C (host := "") (v := (.ref hl)) (Or.inl (own_w hw 33 rfl)) Via.refl f_4 d7_11 (pc' := 14) rfl ?_
  have f_5 := (Ae.keep (Keep.of_wr W_2) (nin1 nes))
  have f_6 := (E0.wr W_2)
  have f_7 := (Es.wr W_2)
  refine g_new C (own_w hw 52 rfl) (own_w hw 53 rfl) (own_w hw 54 rfl) (by decide) (by decide) d7_14 (pc' := 17) rfl ?_
  intro h_8 a_9 g_10 E_11 A_12 D_13
  have ne_14 : e ≠ a_9 := ne_new f_5.lt g_10
  have ne_15 : hl ≠ a_9 := ne_new f_6.lt g_10
  have ne_16 : s ≠ a_9 := ne_new f_7.lt g_10
  have f_17 := (Nat.le_trans Z0 (Keep.of_wr W_2).1)
  have ge_a_9 : n0 ≤ a_9 := Nat.le_trans f_17 (Nat.le_of_eq g_10.symm)
  have f_18 := (Nat.le_trans (Nat.le_refl h0.size) (Keep.of_wr W_2).1)
  have gs_a_9 : h0.size ≤ a_9 := Nat.le_trans f_18 (Nat.le_of_eq g_10.symm)
  have f_19 : Fld Z h_8 a_9 "com/example/measured_savepoints/measuredsavepoints/SavepointStack$Held" "stamp" "J" (.long (0 : Int64)) := D_13 (Or.inr (own_w hw 65 rfl)) (ty := .long) (by decide)
  have f_20 : Fld Z h_8 a_9 "com/example/measured_savepoints/measuredsavepoints/SavepointStack$Held" "user" "Ljava/lang/Object;" .null := D_13 (Or.inr (own_w hw 67 rfl)) (ty := (.object "java/lang/Object")) (by decide)
  have f_21 : Fld Z h_8 a_9 "com/example/measured_savepoints/measuredsavepoints/SavepointStack$Held" "firmly" "Z" (.int (0 : Int32)) := D_13 (Or.inr (own_w hw 69 rfl)) (ty := .boolean) (by decide)
  show Go B n0 _ h_8 1 3 17 #[.val (.ref s), .val (.ref u)] [(.ref a_9), (.ref hl)]
  refine g_dup C d7_17 rfl (pc' := 18) rfl ?_
  refine g_aload_n C d7_18 (v := (.ref s)) rfl rfl (pc' := 19) rfl ?_
  have f_22 := (f_3.ext E_11)
  refine g_getfield C (host := "") (v := (.long (t + (1 : Int64)))) (Or.inl (own_w hw 50 rfl)) Via.refl f_22 d7_19 (pc' := 22) rfl ?_
  refine g_aload_n C d7_22 (v := (.ref u)) rfl rfl (pc' := 23) rfl ?_
  refine g_iconst C d7_23 (v := (1 : Int32)) rfl (pc' := 24) rfl ?_
  have f_23 := (Nat.le_trans f_17 E_11.1)
  refine g_specialRef C (a := a_9) rfl (own_w hw 55 rfl) (own_w hw 56 rfl) (own_w hw 54 rfl) (own_w hw 57 rfl) (by decide) (rm_held l Z a0 hw n0 a_9 u (t + (1 : Int64)) h_8 f_23 A_12 f_19 f_20 f_21 ge_a_9) (st := [(.ref a_9), (.ref hl)]) [(.long (t + (1 : Int64))), (.ref u), (.int (1 : Int32))] rfl rfl own_pd_7_init rfl rfl (by decide) (W := 2) (Nat.le_of_eq rfl) (by decide) (by decide) (by decide) d7_24 (pc' := 27) rfl ?_
  intro v_26 h_24 q_25
  obtain ⟨rfl, K_27⟩ := q_25
  show Go B n0 _ h_24 1 3 27 #[.val (.ref s), .val (.ref u)] [(.ref a_9), (.ref hl)]
  have f_28 := ((f_6.ext E_11).keep K_27)
  have f_29 := (((F0.other W_2 (Or.inl (Ne.symm nsh))).ext E_11).keep K_27 (ninS ne_15 nin0))
  have f_30 := (((F1.other W_2 (Or.inl (Ne.symm nsh))).ext E_11).keep K_27 (ninS ne_15 nin0))
  have f_31 := (((F2.other W_2 (Or.inl (Ne.symm nsh))).ext E_11).keep K_27 (ninS ne_15 nin0))
  have f_32 := ((f_5.ext E_11).keep K_27 (ninS ne_14 nin0))
  have f_33 := (A_12.keep K_27)
  have f_34 := (Nat.le_trans f_23 K_27.1)
  refine g_interface C (own_w hw 70 rfl) (own_w hw 71 rfl) (own_w hw 72 rfl) rfl (own_w hw 73 rfl) (own_w hw 74 rfl) (own_w hw 75 rfl) (own_w hw 76 rfl) (own_w hw 77 rfl) (own_w hw 11 rfl) (own_w hw 78 rfl) (by decide) f_28 (rm_add1 l Z a0 hw n0 hl e a_9 m z p vs h_24 f_34 f_28 f_29 f_30 f_31 g1 f_32 hvs ge' neh f_33 (Ne.symm ne_15) (Ne.symm ne_14) hp hz) (st := []) [(.ref a_9)] rfl rfl own_pd_11_add rfl rfl (by decide) (W := 0) (Nat.le_of_eq rfl) (by decide) (by decide) (by decide) d7_27 (pc' := 32) rfl ?_
  intro v_37 h_35 q_36
  obtain ⟨rfl, vs_38, K_39, f_40, f_41, f_42, f_43, hv_44⟩ := q_36
  show Go B n0 _ h_35 1 3 32 #[.val (.ref s), .val (.ref u)] [(.int (1 : Int32))]
  refine g_pop C d7_32 rfl (pc' := 33) rfl ?_
  refine g_aload_n C d7_33 (v := (.ref s)) rfl rfl (pc' := 34) rfl ?_
  have f_45 := ((f_22.keep K_27 (ninS ne_16 nin0)).keep K_39 (ninS nsh (ninS (Ne.symm nes) nin0)))
  refine g_getfield C (host := "") (v := (.long (t + (1 : Int64)))) (Or.inl (own_w hw 50 rfl)) Via.refl f_45 d7_34 (pc' := 37) rfl ?_
  refine g_ret C (v := (.long (t + (1 : Int64)))) (ty := .long) rfl rfl (Or.inr (Or.inl ⟨rfl, rfl, _, rfl⟩)) d7_37 (by decide) (by decide) ?_
  have f_46 := (((f_4.ext E_11).keep K_27 (ninS ne_16 nin0)).keep K_39 (ninS nsh (ninS (Ne.symm nes) nin0)))
  have f_47 := ((((S2.other W_2 (Or.inr (slot_ne (Or.inl (own_w hw 115 rfl)) (Or.inl (own_w hw 51 rfl)) (by decide) (t := (.object "java/lang/Object")) (t' := .long) (by decide) (by decide)))).ext E_11).keep K_27 (ninS ne_16 nin0)).keep K_39 (ninS nsh (ninS (Ne.symm nes) nin0)))
  have f_48 := ((((S3.other W_2 (Or.inr (slot_ne (Or.inl (own_w hw 117 rfl)) (Or.inl (own_w hw 51 rfl)) (by decide) (t := .long) (t' := .long) (by decide) (by decide)))).ext E_11).keep K_27 (ninS ne_16 nin0)).keep K_39 (ninS nsh (ninS (Ne.symm nes) nin0)))
  have f_49 := ((((S4.other W_2 (Or.inr (slot_ne (Or.inl (own_w hw 124 rfl)) (Or.inl (own_w hw 51 rfl)) (by decide) (t := .long) (t' := .long) (by decide) (by decide)))).ext E_11).keep K_27 (ninS ne_16 nin0)).keep K_39 (ninS nsh (ninS (Ne.symm nes) nin0)))
  exact ⟨rfl, _, (((((Keep.refl h0 [s, hl, e]).wr W_2 (Or.inl (List.mem_of_getElem? (i := 0) rfl))).ext E_11).trans K_27 (allS (Or.inr gs_a_9) all0)).trans K_39 (allS (Or.inl (List.mem_of_getElem? (i := 1) rfl)) (allS (Or.inl (List.mem_of_getElem? (i := 2) rfl)) all0))), f_46, f_45, f_47, f_48, f_49, f_40, f_41, f_42, f_43, hv_44⟩
theorem d17_0 : decode prog_55_method_6_code 0 = .ok (.aload_n 1, 1) := by decide +kernel
theorem d17_1 : decode prog_55_method_6_code 1 = .ok (.aload_n 0, 1) := by decide +kernel
theorem d17_2 : decode prog_55_method_6_code 2 = .ok (.getfield 59, 3) := by decide +kernel
theorem d17_5 : decode prog_55_method_6_code 5 = .ok (.if_acmp .eq 16, 3) := by decide +kernel
theorem d17_8 : decode prog_55_method_6_code 8 = .ok (.aload_n 0, 1) := by decide +kernel
theorem d17_9 : decode prog_55_method_6_code 9 = .ok (.aload_n 0, 1) := by decide +kernel
theorem d17_10 : decode prog_55_method_6_code 10 = .ok (.getfield 63, 3) := by decide +kernel
theorem d17_13 : decode prog_55_method_6_code 13 = .ok (.putfield 66, 3) := by decide +kernel
theorem d17_16 : decode prog_55_method_6_code 16 = .ok (.aload_n 0, 1) := by decide +kernel
theorem d17_17 : decode prog_55_method_6_code 17 = .ok (.aload_n 1, 1) := by decide +kernel
theorem d17_18 : decode prog_55_method_6_code 18 = .ok (.putfield 59, 3) := by decide +kernel
theorem d17_21 : decode prog_55_method_6_code 21 = .ok (.aload_n 0, 1) := by decide +kernel
theorem d17_22 : decode prog_55_method_6_code 22 = .ok (.aload_n 0, 1) := by decide +kernel
theorem d17_23 : decode prog_55_method_6_code 23 = .ok (.getfield 16, 3) := by decide +kernel
theorem d17_26 : decode prog_55_method_6_code 26 = .ok (.putfield 63, 3) := by decide +kernel
theorem d17_29 : decode prog_55_method_6_code 29 = .ok (.return_, 1) := by decide +kernel
set_option maxRecDepth 65536 in
set_option maxHeartbeats 40000000 in
theorem rm_note (l : Launch) (Z : State) (a0 : Array Value) (hw : ∀ d ∈ tables_1, d.before a0 Z = true) (n0 : Nat) (s hl u : Addr) (t A O' : Int64) (lw : Value) (h0 : Heap) (Z0 : n0 ≤ h0.size) (Es : Exa Z h0 s "com/example/measured_savepoints/measuredsavepoints/SavepointStack") (gs' : n0 ≤ s) (S0 : Fld Z h0 s "com/example/measured_savepoints/measuredsavepoints/SavepointStack" "held" "Ljava/util/List;" (.ref hl)) (S1 : Fld Z h0 s "com/example/measured_savepoints/measuredsavepoints/SavepointStack" "lastStamp" "J" (.long t)) (S2 : Fld Z h0 s "com/example/measured_savepoints/measuredsavepoints/SavepointStack" "lastWorker" "Ljava/lang/Object;" lw) (S3 : Fld Z h0 s "com/example/measured_savepoints/measuredsavepoints/SavepointStack" "lastWorkAt" "J" (.long A)) (S4 : Fld Z h0 s "com/example/measured_savepoints/measuredsavepoints/SavepointStack" "othersWorkAt" "J" (.long O')) (hlw : lw.isRef = true) :
    Met1 l Z (⟨"com/example/measured_savepoints/measuredsavepoints/SavepointStack", "noteWork", "(Ljava/lang/Object;)V"⟩ : MethodName) prog_55_method_6_code 2 none ({ frames := 0, cells := 0, slots := 0, locals := 0 } : Room) n0 #[(.ref s), (.ref u)] h0 (fun v h => v = none ∧ Keep h0 h [s] ∧ Fld Z h s "com/example/measured_savepoints/measuredsavepoints/SavepointStack" "held" "Ljava/util/List;" (.ref hl) ∧ Fld Z h s "com/example/measured_savepoints/measuredsavepoints/SavepointStack" "lastStamp" "J" (.long t) ∧ Fld Z h s "com/example/measured_savepoints/measuredsavepoints/SavepointStack" "lastWorker" "Ljava/lang/Object;" (.ref u) ∧ Fld Z h s "com/example/measured_savepoints/measuredsavepoints/SavepointStack" "lastWorkAt" "J" (.long t) ∧ Fld Z h s "com/example/measured_savepoints/measuredsavepoints/SavepointStack" "othersWorkAt" "J" (.long (nwO u lw A O'))) := by
  refine met_of (plainFor_of_name own_pn_com_example_measured_savepoints_measuredsavepoints_SavepointStack) (L0 := #[.val (.ref s), .val (.ref u)]) (by first | (simp [argsToLocals, Value.category]; done) | rfl) ?_
  intro B C
  change Ctx B l _ _ "com/example/measured_savepoints/measuredsavepoints/SavepointStack" "noteWork" _ _ Z at C
  refine g_aload_n C d17_0 (v := (.ref u)) rfl rfl (pc' := 1) rfl ?_
  refine g_aload_n C d17_1 (v := (.ref s)) rfl rfl (pc' := 2) rfl ?_
  refine g_getfield C (host := "") (v := lw) (Or.inl (own_w hw 114 rfl)) Via.refl S2 d17_2 (pc' := 5) rfl ?_
  by_cases hb_1 : ((.ref u) : Value) = lw
  · refine g_acmp_y C d17_5 rfl hlw (Jvm.Free.XT.aa_eq_t hb_1) (pc' := 21) (by decide) (by decide) ?_
    refine g_aload_n C d17_21 (v := (.ref s)) rfl rfl (pc' := 22) rfl ?_
    refine g_aload_n C d17_22 (v := (.ref s)) rfl rfl (pc' := 23) rfl ?_
    refine g_getfield C (host := "") (v := (.long t)) (Or.inl (own_w hw 50 rfl)) Via.refl S1 d17_23 (pc' := 26) rfl ?_
    refine g_putfield C (host := "") (v := (.long t)) (Or.inl (own_w hw 116 rfl)) Via.refl S3 Es (Or.inl (own_w hw 117 rfl)) (own_w hw 1 rfl) (ty := .long) (by decide) rfl rfl gs' d17_26 (pc' := 29) rfl ?_
    intro h_2 W_3
    have f_4 := S3.same W_3
    refine g_return C rfl d17_29 (by decide) (by decide) ?_
    have f_5 := (S0.other W_3 (Or.inr (slot_ne (Or.inr (own_w hw 34 rfl)) (Or.inl (own_w hw 117 rfl)) (by decide) (t := (.object "java/util/List")) (t' := .long) (by decide) (by decide))))
    have f_6 := (S1.other W_3 (Or.inr (slot_ne (Or.inl (own_w hw 51 rfl)) (Or.inl (own_w hw 117 rfl)) (by decide) (t := .long) (t' := .long) (by decide) (by decide))))
    have f_7 := (S2.other W_3 (Or.inr (slot_ne (Or.inl (own_w hw 115 rfl)) (Or.inl (own_w hw 117 rfl)) (by decide) (t := (.object "java/lang/Object")) (t' := .long) (by decide) (by decide))))
    have f_8 := (S4.other W_3 (Or.inr (slot_ne (Or.inl (own_w hw 124 rfl)) (Or.inl (own_w hw 117 rfl)) (by decide) (t := .long) (t' := .long) (by decide) (by decide))))
    have e2 : Fld Z h_2 s "com/example/measured_savepoints/measuredsavepoints/SavepointStack" "lastWorker" "Ljava/lang/Object;" (.ref u) := by rw [hb_1]; exact f_7
    exact ⟨rfl, ((Keep.refl h0 [s]).wr W_3 (Or.inl (List.mem_of_getElem? (i := 0) rfl))), f_5, f_6, e2, f_4, by rw [nwO, if_pos hb_1]; exact f_8⟩
  · refine g_acmp_n C d17_5 rfl hlw (Jvm.Free.XT.aa_eq_f hb_1) (pc' := 8) rfl ?_
    refine g_aload_n C d17_8 (v := (.ref s)) rfl rfl (pc' := 9) rfl ?_
    refine g_aload_n C d17_9 (v := (.ref s)) rfl rfl (pc' := 10) rfl ?_
    refine g_getfield C (host := "") (v := (.long A)) (Or.inl (own_w hw 116 rfl)) Via.refl S3 d17_10 (pc' := 13) rfl ?_
    refine g_putfield C (host := "") (v := (.long A)) (Or.inl (own_w hw 123 rfl)) Via.refl S4 Es (Or.inl (own_w hw 124 rfl)) (own_w hw 1 rfl) (ty := .long) (by decide) rfl rfl gs' d17_13 (pc' := 16) rfl ?_
    intro h_9 W_10
    have f_11 := S4.same W_10
    refine g_aload_n C d17_16 (v := (.ref s)) rfl rfl (pc' := 17) rfl ?_
    refine g_aload_n C d17_17 (v := (.ref u)) rfl rfl (pc' := 18) rfl ?_
    have f_12 := (S2.other W_10 (Or.inr (slot_ne (Or.inl (own_w hw 115 rfl)) (Or.inl (own_w hw 124 rfl)) (by decide) (t := (.object "java/lang/Object")) (t' := .long) (by decide) (by decide))))
    have f_13 := (Es.wr W_10)
    refine g_putfield C (host := "") (v := (.ref u)) (Or.inl (own_w hw 114 rfl)) Via.refl f_12 f_13 (Or.inl (own_w hw 115 rfl)) (own_w hw 1 rfl) (ty := (.object "java/lang/Object")) (by decide) rfl rfl gs' d17_18 (pc' := 21) rfl ?_
    intro h_14 W_15
    have f_16 := f_12.same W_15
    refine g_aload_n C d17_21 (v := (.ref s)) rfl rfl (pc' := 22) rfl ?_
    refine g_aload_n C d17_22 (v := (.ref s)) rfl rfl (pc' := 23) rfl ?_
    have f_17 := ((S1.other W_10 (Or.inr (slot_ne (Or.inl (own_w hw 51 rfl)) (Or.inl (own_w hw 124 rfl)) (by decide) (t := .long) (t' := .long) (by decide) (by decide)))).other W_15 (Or.inr (slot_ne (Or.inl (own_w hw 51 rfl)) (Or.inl (own_w hw 115 rfl)) (by decide) (t := .long) (t' := (.object "java/lang/Object")) (by decide) (by decide))))
    refine g_getfield C (host := "") (v := (.long t)) (Or.inl (own_w hw 50 rfl)) Via.refl f_17 d17_23 (pc' := 26) rfl ?_
    have f_18 := ((S3.other W_10 (Or.inr (slot_ne (Or.inl (own_w hw 117 rfl)) (Or.inl (own_w hw 124 rfl)) (by decide) (t := .long) (t' := .long) (by decide) (by decide)))).other W_15 (Or.inr (slot_ne (Or.inl (own_w hw 117 rfl)) (Or.inl (own_w hw 115 rfl)) (by decide) (t := .long) (t' := (.object "java/lang/Object")) (by decide) (by decide))))
    have f_19 := (f_13.wr W_15)
    refine g_putfield C (host := "") (v := (.long t)) (Or.inl (own_w hw 116 rfl)) Via.refl f_18 f_19 (Or.inl (own_w hw 117 rfl)) (own_w hw 1 rfl) (ty := .long) (by decide) rfl rfl gs' d17_26 (pc' := 29) rfl ?_
    intro h_20 W_21
    have f_22 := f_18.same W_21
    refine g_return C rfl d17_29 (by decide) (by decide) ?_
    have f_23 := (((S0.other W_10 (Or.inr (slot_ne (Or.inr (own_w hw 34 rfl)) (Or.inl (own_w hw 124 rfl)) (by decide) (t := (.object "java/util/List")) (t' := .long) (by decide) (by decide)))).other W_15 (Or.inr (slot_ne (Or.inr (own_w hw 34 rfl)) (Or.inl (own_w hw 115 rfl)) (by decide) (t := (.object "java/util/List")) (t' := (.object "java/lang/Object")) (by decide) (by decide)))).other W_21 (Or.inr (slot_ne (Or.inr (own_w hw 34 rfl)) (Or.inl (own_w hw 117 rfl)) (by decide) (t := (.object "java/util/List")) (t' := .long) (by decide) (by decide))))
    have f_24 := (f_17.other W_21 (Or.inr (slot_ne (Or.inl (own_w hw 51 rfl)) (Or.inl (own_w hw 117 rfl)) (by decide) (t := .long) (t' := .long) (by decide) (by decide))))
    have f_25 := (f_16.other W_21 (Or.inr (slot_ne (Or.inl (own_w hw 115 rfl)) (Or.inl (own_w hw 117 rfl)) (by decide) (t := (.object "java/lang/Object")) (t' := .long) (by decide) (by decide))))
    have f_26 := ((f_11.other W_15 (Or.inr (slot_ne (Or.inl (own_w hw 124 rfl)) (Or.inl (own_w hw 115 rfl)) (by decide) (t := .long) (t' := (.object "java/lang/Object")) (by decide) (by decide)))).other W_21 (Or.inr (slot_ne (Or.inl (own_w hw 124 rfl)) (Or.inl (own_w hw 117 rfl)) (by decide) (t := .long) (t' := .long) (by decide) (by decide))))
    exact ⟨rfl, ((((Keep.refl h0 [s]).wr W_10 (Or.inl (List.mem_of_getElem? (i := 0) rfl))).wr W_15 (Or.inl (List.mem_of_getElem? (i := 0) rfl))).wr W_21 (Or.inl (List.mem_of_getElem? (i := 0) rfl))), f_23, f_24, f_25, f_22, by rw [nwO, if_neg hb_1]; exact f_26⟩
theorem d16_0 : decode prog_55_method_7_code 0 = .ok (.aload_n 3, 1) := by decide +kernel
theorem d16_1 : decode prog_55_method_7_code 1 = .ok (.aload_n 0, 1) := by decide +kernel
theorem d16_2 : decode prog_55_method_7_code 2 = .ok (.getfield 59, 3) := by decide +kernel
theorem d16_5 : decode prog_55_method_7_code 5 = .ok (.if_acmp .eq 10, 3) := by decide +kernel
theorem d16_8 : decode prog_55_method_7_code 8 = .ok (.aload_n 0, 1) := by decide +kernel
theorem d16_9 : decode prog_55_method_7_code 9 = .ok (.getfield 63, 3) := by decide +kernel
theorem d16_12 : decode prog_55_method_7_code 12 = .ok (.goto 7, 3) := by decide +kernel
theorem d16_15 : decode prog_55_method_7_code 15 = .ok (.aload_n 0, 1) := by decide +kernel
theorem d16_16 : decode prog_55_method_7_code 16 = .ok (.getfield 66, 3) := by decide +kernel
theorem d16_19 : decode prog_55_method_7_code 19 = .ok (.lstore 4, 2) := by decide +kernel
theorem d16_21 : decode prog_55_method_7_code 21 = .ok (.lload 4, 2) := by decide +kernel
theorem d16_23 : decode prog_55_method_7_code 23 = .ok (.lload_n 1, 1) := by decide +kernel
theorem d16_24 : decode prog_55_method_7_code 24 = .ok (.lcmp, 1) := by decide +kernel
theorem d16_25 : decode prog_55_method_7_code 25 = .ok (.ifCond .lt 7, 3) := by decide +kernel
theorem d16_28 : decode prog_55_method_7_code 28 = .ok (.iconst 1, 1) := by decide +kernel
theorem d16_29 : decode prog_55_method_7_code 29 = .ok (.goto 4, 3) := by decide +kernel
theorem d16_32 : decode prog_55_method_7_code 32 = .ok (.iconst 0, 1) := by decide +kernel
theorem d16_33 : decode prog_55_method_7_code 33 = .ok (.ireturn, 1) := by decide +kernel
set_option maxRecDepth 65536 in
set_option maxHeartbeats 40000000 in
theorem rm_wa (l : Launch) (Z : State) (a0 : Array Value) (hw : ∀ d ∈ tables_1, d.before a0 Z = true) (n0 : Nat) (s hl u : Addr) (t A O' : Int64) (lw : Value) (sp : Int64) (h0 : Heap) (Z0 : n0 ≤ h0.size) (Es : Exa Z h0 s "com/example/measured_savepoints/measuredsavepoints/SavepointStack") (gs' : n0 ≤ s) (S0 : Fld Z h0 s "com/example/measured_savepoints/measuredsavepoints/SavepointStack" "held" "Ljava/util/List;" (.ref hl)) (S1 : Fld Z h0 s "com/example/measured_savepoints/measuredsavepoints/SavepointStack" "lastStamp" "J" (.long t)) (S2 : Fld Z h0 s "com/example/measured_savepoints/measuredsavepoints/SavepointStack" "lastWorker" "Ljava/lang/Object;" lw) (S3 : Fld Z h0 s "com/example/measured_savepoints/measuredsavepoints/SavepointStack" "lastWorkAt" "J" (.long A)) (S4 : Fld Z h0 s "com/example/measured_savepoints/measuredsavepoints/SavepointStack" "othersWorkAt" "J" (.long O')) (hlw : lw.isRef = true) :
    Met1 l Z (⟨"com/example/measured_savepoints/measuredsavepoints/SavepointStack", "workedAbove", "(JLjava/lang/Object;)Z"⟩ : MethodName) prog_55_method_7_code 6 (some .boolean) ({ frames := 0, cells := 0, slots := 0, locals := 0 } : Room) n0 #[(.ref s), (.long sp), (.ref u)] h0 (fun v h => v = some (.int (waF lw u A O' sp)) ∧ h0 = h) := by
  refine met_of (plainFor_of_name own_pn_com_example_measured_savepoints_measuredsavepoints_SavepointStack) (L0 := #[.val (.ref s), .val (.long sp), .second, .val (.ref u), .unset, .unset]) (by first | (simp [argsToLocals, Value.category]; done) | rfl) ?_
  intro B C
  change Ctx B l _ _ "com/example/measured_savepoints/measuredsavepoints/SavepointStack" "workedAbove" _ _ Z at C
  refine g_aload_n C d16_0 (v := (.ref u)) rfl rfl (pc' := 1) rfl ?_
  refine g_aload_n C d16_1 (v := (.ref s)) rfl rfl (pc' := 2) rfl ?_
  refine g_getfield C (host := "") (v := lw) (Or.inl (own_w hw 114 rfl)) Via.refl S2 d16_2 (pc' := 5) rfl ?_
  by_cases hb_1 : ((.ref u) : Value) = lw
  · refine g_acmp_y C d16_5 rfl hlw (Jvm.Free.XT.aa_eq_t hb_1) (pc' := 15) (by decide) (by decide) ?_
    refine g_aload_n C d16_15 (v := (.ref s)) rfl rfl (pc' := 16) rfl ?_
    refine g_getfield C (host := "") (v := (.long O')) (Or.inl (own_w hw 123 rfl)) Via.refl S4 d16_16 (pc' := 19) rfl ?_
    refine g_lstore C d16_19 (v := O') (L' := #[.val (.ref s), .val (.long sp), .second, .val (.ref u), .val (.long O'), .second]) rfl (pc' := 21) rfl ?_
    refine g_lload C d16_21 (v := O') rfl (pc' := 23) rfl ?_
    refine g_lload_n C d16_23 (v := sp) rfl (pc' := 24) rfl ?_
    refine g_lcmp C (x := O') (y := sp) d16_24 (pc' := 25) rfl ?_
    by_cases hb_2 : O' < sp
    · refine g_if_y C d16_25 (Jvm.Free.XT.ll_lt_t hb_2) (pc' := 32) (by decide) (by decide) ?_
      refine g_iconst C d16_32 (v := (0 : Int32)) rfl (pc' := 33) rfl ?_
      refine g_ret C (v := (.int (0 : Int32))) (ty := .boolean) rfl rfl (Or.inl ⟨rfl, Or.inr (Or.inl rfl), _, rfl⟩) d16_33 (by decide) (by decide) ?_
      exact ⟨by rw [waF, if_pos hb_1, if_pos hb_2], rfl⟩
    · refine g_if_n C d16_25 (Jvm.Free.XT.ll_lt_f hb_2) (pc' := 28) rfl ?_
      refine g_iconst C d16_28 (v := (1 : Int32)) rfl (pc' := 29) rfl ?_
      refine g_goto C d16_29 (pc' := 33) (by decide) (by decide) ?_
      refine g_ret C (v := (.int (1 : Int32))) (ty := .boolean) rfl rfl (Or.inl ⟨rfl, Or.inr (Or.inl rfl), _, rfl⟩) d16_33 (by decide) (by decide) ?_
      exact ⟨by rw [waF, if_pos hb_1, if_neg hb_2], rfl⟩
  · refine g_acmp_n C d16_5 rfl hlw (Jvm.Free.XT.aa_eq_f hb_1) (pc' := 8) rfl ?_
    refine g_aload_n C d16_8 (v := (.ref s)) rfl rfl (pc' := 9) rfl ?_
    refine g_getfield C (host := "") (v := (.long A)) (Or.inl (own_w hw 116 rfl)) Via.refl S3 d16_9 (pc' := 12) rfl ?_
    refine g_goto C d16_12 (pc' := 19) (by decide) (by decide) ?_
    refine g_lstore C d16_19 (v := A) (L' := #[.val (.ref s), .val (.long sp), .second, .val (.ref u), .val (.long A), .second]) rfl (pc' := 21) rfl ?_
    refine g_lload C d16_21 (v := A) rfl (pc' := 23) rfl ?_
    refine g_lload_n C d16_23 (v := sp) rfl (pc' := 24) rfl ?_
    refine g_lcmp C (x := A) (y := sp) d16_24 (pc' := 25) rfl ?_
    by_cases hb_3 : A < sp
    · refine g_if_y C d16_25 (Jvm.Free.XT.ll_lt_t hb_3) (pc' := 32) (by decide) (by decide) ?_
      refine g_iconst C d16_32 (v := (0 : Int32)) rfl (pc' := 33) rfl ?_
      refine g_ret C (v := (.int (0 : Int32))) (ty := .boolean) rfl rfl (Or.inl ⟨rfl, Or.inr (Or.inl rfl), _, rfl⟩) d16_33 (by decide) (by decide) ?_
      exact ⟨by rw [waF, if_neg hb_1, if_pos hb_3], rfl⟩
    · refine g_if_n C d16_25 (Jvm.Free.XT.ll_lt_f hb_3) (pc' := 28) rfl ?_
      refine g_iconst C d16_28 (v := (1 : Int32)) rfl (pc' := 29) rfl ?_
      refine g_goto C d16_29 (pc' := 33) (by decide) (by decide) ?_
      refine g_ret C (v := (.int (1 : Int32))) (ty := .boolean) rfl rfl (Or.inl ⟨rfl, Or.inr (Or.inl rfl), _, rfl⟩) d16_33 (by decide) (by decide) ?_
      exact ⟨by rw [waF, if_neg hb_1, if_neg hb_3], rfl⟩
theorem d15_0 : decode jdk_29_method_66_code 0 = .ok (.lload_n 0, 1) := by decide +kernel
theorem d15_1 : decode jdk_29_method_66_code 1 = .ok (.lload_n 2, 1) := by decide +kernel
theorem d15_2 : decode jdk_29_method_66_code 2 = .ok (.lcmp, 1) := by decide +kernel
theorem d15_3 : decode jdk_29_method_66_code 3 = .ok (.ifCond .lt 7, 3) := by decide +kernel
theorem d15_6 : decode jdk_29_method_66_code 6 = .ok (.lload_n 0, 1) := by decide +kernel
theorem d15_7 : decode jdk_29_method_66_code 7 = .ok (.goto 4, 3) := by decide +kernel
theorem d15_10 : decode jdk_29_method_66_code 10 = .ok (.lload_n 2, 1) := by decide +kernel
theorem d15_11 : decode jdk_29_method_66_code 11 = .ok (.lreturn, 1) := by decide +kernel
set_option maxRecDepth 65536 in
set_option maxHeartbeats 40000000 in
theorem rm_maxL (l : Launch) (Z : State) (a0 : Array Value) (hw : ∀ d ∈ tables_1, d.before a0 Z = true) (n0 : Nat) (x y : Int64) (h0 : Heap) (Z0 : n0 ≤ h0.size)  :
    Met1 l Z (⟨"java/lang/Math", "max", "(JJ)J"⟩ : MethodName) jdk_29_method_66_code 4 (some .long) ({ frames := 0, cells := 0, slots := 0, locals := 0 } : Room) n0 #[(.long x), (.long y)] h0 (fun v h => v = some (.long (mxF x y)) ∧ h0 = h) := by
  refine met_of (Jvm.Free.JP.mathPlain rfl (by decide +kernel)) (L0 := #[.val (.long x), .second, .val (.long y), .second]) (by first | (simp [argsToLocals, Value.category]; done) | rfl) ?_
  intro B C
  change Ctx B l _ _ "java/lang/Math" "max" _ _ Z at C
  refine g_lload_n C d15_0 (v := x) rfl (pc' := 1) rfl ?_
  refine g_lload_n C d15_1 (v := y) rfl (pc' := 2) rfl ?_
  refine g_lcmp C (x := x) (y := y) d15_2 (pc' := 3) rfl ?_
  by_cases hb_1 : x < y
  · refine g_if_y C d15_3 (Jvm.Free.XT.ll_lt_t hb_1) (pc' := 10) (by decide) (by decide) ?_
    refine g_lload_n C d15_10 (v := y) rfl (pc' := 11) rfl ?_
    refine g_ret C (v := (.long y)) (ty := .long) rfl rfl (Or.inr (Or.inl ⟨rfl, rfl, _, rfl⟩)) d15_11 (by decide) (by decide) ?_
    exact ⟨by rw [mxF, if_pos hb_1], rfl⟩
  · refine g_if_n C d15_3 (Jvm.Free.XT.ll_lt_f hb_1) (pc' := 6) rfl ?_
    refine g_lload_n C d15_6 (v := x) rfl (pc' := 7) rfl ?_
    refine g_goto C d15_7 (pc' := 11) (by decide) (by decide) ?_
    refine g_ret C (v := (.long x)) (ty := .long) rfl rfl (Or.inr (Or.inl ⟨rfl, rfl, _, rfl⟩)) d15_11 (by decide) (by decide) ?_
    exact ⟨by rw [mxF, if_neg hb_1], rfl⟩
theorem own_pd_9_push : parseMethodDescriptor "(Ljava/lang/Object;)J" = some ⟨[(.object "java/lang/Object")], (some .long)⟩ := by decide +kernel
theorem own_pd_10_noteWork : parseMethodDescriptor "(Ljava/lang/Object;)V" = some ⟨[(.object "java/lang/Object")], none⟩ := by decide +kernel
theorem d6_0 : decode method_3_code 0 = .ok (.iload_n 2, 1) := by decide +kernel
theorem d6_1 : decode method_3_code 1 = .ok (.ifCond .ne 20, 3) := by decide +kernel
theorem d6_4 : decode method_3_code 4 = .ok (.aload_n 0, 1) := by decide +kernel
theorem d6_5 : decode method_3_code 5 = .ok (.aload_n 3, 1) := by decide +kernel
theorem d6_6 : decode method_3_code 6 = .ok (.invokevirtual 30, 3) := by decide +kernel
theorem d6_9 : decode method_3_code 9 = .ok (.pop2, 1) := by decide +kernel
theorem d6_10 : decode method_3_code 10 = .ok (.aload_n 1, 1) := by decide +kernel
theorem d6_11 : decode method_3_code 11 = .ok (.iconst 0, 1) := by decide +kernel
theorem d6_12 : decode method_3_code 12 = .ok (.aload_n 1, 1) := by decide +kernel
theorem d6_13 : decode method_3_code 13 = .ok (.iconst 0, 1) := by decide +kernel
theorem d6_14 : decode method_3_code 14 = .ok (.laload, 1) := by decide +kernel
theorem d6_15 : decode method_3_code 15 = .ok (.lconst 1, 1) := by decide +kernel
theorem d6_16 : decode method_3_code 16 = .ok (.ladd, 1) := by decide +kernel
theorem d6_17 : decode method_3_code 17 = .ok (.lastore, 1) := by decide +kernel
theorem d6_18 : decode method_3_code 18 = .ok (.goto 54, 3) := by decide +kernel
theorem d6_21 : decode method_3_code 21 = .ok (.iload_n 2, 1) := by decide +kernel
theorem d6_22 : decode method_3_code 22 = .ok (.iconst 1, 1) := by decide +kernel
theorem d6_23 : decode method_3_code 23 = .ok (.if_icmp .ne 17, 3) := by decide +kernel
theorem d6_26 : decode method_3_code 26 = .ok (.aload_n 0, 1) := by decide +kernel
theorem d6_27 : decode method_3_code 27 = .ok (.aload_n 3, 1) := by decide +kernel
theorem d6_28 : decode method_3_code 28 = .ok (.invokevirtual 34, 3) := by decide +kernel
theorem d6_31 : decode method_3_code 31 = .ok (.aload_n 1, 1) := by decide +kernel
theorem d6_32 : decode method_3_code 32 = .ok (.iconst 1, 1) := by decide +kernel
theorem d6_33 : decode method_3_code 33 = .ok (.aload_n 1, 1) := by decide +kernel
theorem d6_34 : decode method_3_code 34 = .ok (.iconst 0, 1) := by decide +kernel
theorem d6_35 : decode method_3_code 35 = .ok (.laload, 1) := by decide +kernel
theorem d6_36 : decode method_3_code 36 = .ok (.lastore, 1) := by decide +kernel
theorem d6_37 : decode method_3_code 37 = .ok (.goto 35, 3) := by decide +kernel
theorem d6_40 : decode method_3_code 40 = .ok (.iload_n 2, 1) := by decide +kernel
theorem d6_41 : decode method_3_code 41 = .ok (.iconst 2, 1) := by decide +kernel
theorem d6_42 : decode method_3_code 42 = .ok (.if_icmp .ne 18, 3) := by decide +kernel
theorem d6_45 : decode method_3_code 45 = .ok (.aload_n 0, 1) := by decide +kernel
theorem d6_46 : decode method_3_code 46 = .ok (.aload 4, 2) := by decide +kernel
theorem d6_48 : decode method_3_code 48 = .ok (.invokevirtual 34, 3) := by decide +kernel
theorem d6_51 : decode method_3_code 51 = .ok (.aload_n 1, 1) := by decide +kernel
theorem d6_52 : decode method_3_code 52 = .ok (.iconst 2, 1) := by decide +kernel
theorem d6_53 : decode method_3_code 53 = .ok (.aload_n 1, 1) := by decide +kernel
theorem d6_54 : decode method_3_code 54 = .ok (.iconst 0, 1) := by decide +kernel
theorem d6_55 : decode method_3_code 55 = .ok (.laload, 1) := by decide +kernel
theorem d6_56 : decode method_3_code 56 = .ok (.lastore, 1) := by decide +kernel
theorem d6_57 : decode method_3_code 57 = .ok (.goto 15, 3) := by decide +kernel
theorem d6_60 : decode method_3_code 60 = .ok (.aload_n 0, 1) := by decide +kernel
theorem d6_61 : decode method_3_code 61 = .ok (.aload 5, 2) := by decide +kernel
theorem d6_63 : decode method_3_code 63 = .ok (.invokevirtual 34, 3) := by decide +kernel
theorem d6_66 : decode method_3_code 66 = .ok (.aload_n 1, 1) := by decide +kernel
theorem d6_67 : decode method_3_code 67 = .ok (.iconst 3, 1) := by decide +kernel
theorem d6_68 : decode method_3_code 68 = .ok (.aload_n 1, 1) := by decide +kernel
theorem d6_69 : decode method_3_code 69 = .ok (.iconst 0, 1) := by decide +kernel
theorem d6_70 : decode method_3_code 70 = .ok (.laload, 1) := by decide +kernel
theorem d6_71 : decode method_3_code 71 = .ok (.lastore, 1) := by decide +kernel
theorem d6_72 : decode method_3_code 72 = .ok (.return_, 1) := by decide +kernel
theorem own_pn_com_example_measured_savepoints_measuredsavepoints_SavepointStackWorkedAbovePinLaw : plainName "com/example/measured_savepoints/measuredsavepoints/SavepointStackWorkedAbovePinLaw" = true := by first | (simp [plainName, overriddenIn]; done) | decide +kernel
set_option maxRecDepth 65536 in
set_option maxHeartbeats 40000000 in
theorem rm_step (l : Launch) (Z : State) (a0 : Array Value) (hw : ∀ d ∈ tables_1, d.before a0 Z = true) (n0 : Nat) (s hl ar dc a b c : Addr) (op : Int32) (n : Nat) (h0 : Heap) (Z0 : n0 ≤ h0.size) (dd : Dc Z dc) (sq : SQ Z n0 s hl ar dc a b c n h0) (hn : n ≤ 5) (gs' : n0 ≤ s) (g1 : n0 ≤ hl) (gr : n0 ≤ ar) (nsh : s ≠ hl) (nsr : s ≠ ar) (nhr : hl ≠ ar) (nab : a ≠ b) (nac : a ≠ c) (nbc : b ≠ c) :
    Met1 l Z (⟨"com/example/measured_savepoints/measuredsavepoints/SavepointStackWorkedAbovePinLaw", "step", "(Lcom/example/measured_savepoints/measuredsavepoints/SavepointStack;[JILjava/lang/Object;Ljava/lang/Object;Ljava/lang/Object;)V"⟩ : MethodName) method_3_code 6 none ({ frames := 6, cells := 2, slots := 13, locals := 82 } : Room) n0 #[(.ref s), (.ref ar), (.int op), (.ref a), (.ref b), (.ref c)] h0 (fun v h => v = none ∧ SQ Z n0 s hl ar dc a b c (n + 1) h) := by
  refine met_of (plainFor_of_name own_pn_com_example_measured_savepoints_measuredsavepoints_SavepointStackWorkedAbovePinLaw) (L0 := #[.val (.ref s), .val (.ref ar), .val (.int op), .val (.ref a), .val (.ref b), .val (.ref c)]) (by first | (simp [argsToLocals, Value.category]; done) | rfl) ?_
  intro B C
  change Ctx B l _ _ "com/example/measured_savepoints/measuredsavepoints/SavepointStackWorkedAbovePinLaw" "step" _ _ Z at C
  obtain ⟨t, A, O', s1, s2, s3, lw, m, z, p, -, O, hlw, hpn, htp, hz', iv, Es, S0, S1, S2, S3, S4, E0, F0, F2, hED, Aar⟩ := sq
  subst hz'
  have hp : p ≤ 5 := by omega
  have hz := own_z0 hp
  have dd' := dd
  obtain ⟨Sdc, Adc⟩ := dd'
  refine g_iload_n C d6_0 (v := op) rfl (pc' := 1) rfl ?_
  by_cases hb_1 : op = (0 : Int32)
  · refine g_if_n C d6_1 (Jvm.Free.XT.i0_ne_f hb_1) (pc' := 4) rfl ?_
    refine g_aload_n C d6_4 (v := (.ref s)) rfl rfl (pc' := 5) rfl ?_
    refine g_aload_n C d6_5 (v := (.ref a)) rfl rfl (pc' := 6) rfl ?_
    rcases hED with ⟨hp0, F1⟩ | ⟨hp1, e, vs, F1, Ae, hvs, ge', nes, neh, ner⟩
    · subst hp0
      have f_2 : Fld Z h0 hl "java/util/ArrayList" "size" "I" (.int (0 : Int32)) := F2
      refine g_virtual C (own_w hw 45 rfl) (own_w hw 46 rfl) (own_w hw 48 rfl) (own_w hw 47 rfl) (own_w hw 2 rfl) (own_w hw 49 rfl) (notFace_of_selects (args := #[]) (mvT C.2.2.2.2.1 (own_w hw 48 rfl))) (by decide) Es (rm_push0 l Z a0 hw n0 s hl a t A O' lw m dc h0 Z0 dd O E0 F0 F1 f_2 g1 Es gs' S0 S1 S2 S3 S4 hlw nsh) (st := []) [(.ref a)] rfl rfl own_pd_9_push rfl rfl (by decide) (W := 0) (Nat.le_of_eq rfl) (by decide) (by decide) (by decide) d6_6 (pc' := 9) rfl ?_
      intro v_5 h_3 q_4
      obtain ⟨rfl, e, vs, le, kk, N0, N1, N2, N3, N4, M0, M1, M2, Ae, hvs⟩ := q_4
      have ne_6 : ar ≠ e := ne_ge Aar.lt le
      have ne_7 : hl ≠ e := ne_ge E0.lt le
      have ne_8 : s ≠ e := ne_ge Es.lt le
      have ge_e : n0 ≤ e := Nat.le_trans Z0 le
      have gs_e : h0.size ≤ e := Nat.le_trans (Nat.le_refl h0.size) le
      show Go B n0 _ h_3 2 13 9 #[.val (.ref s), .val (.ref ar), .val (.int op), .val (.ref a), .val (.ref b), .val (.ref c)] [(.long (t + (1 : Int64)))]
      refine g_pop2L C (x := (t + (1 : Int64))) d6_9 (pc' := 10) rfl ?_
      refine g_aload_n C d6_10 (v := (.ref ar)) rfl rfl (pc' := 11) rfl ?_
      refine g_iconst C d6_11 (v := (0 : Int32)) rfl (pc' := 12) rfl ?_
      refine g_aload_n C d6_12 (v := (.ref ar)) rfl rfl (pc' := 13) rfl ?_
      refine g_iconst C d6_13 (v := (0 : Int32)) rfl (pc' := 14) rfl ?_
      have f_9 := (Aar.keep kk (ninS (Ne.symm nsr) (ninS (Ne.symm nhr) nin0)))
      refine g_laload C f_9 (by decide) (i := 0) (by decide) (v := t) rfl d6_14 (pc' := 15) rfl ?_
      refine g_lconst C d6_15 (v := (1 : Int64)) rfl (pc' := 16) rfl ?_
      refine g_ladd C (x := t) (y := (1 : Int64)) d6_16  (pc' := 17) rfl ?_
      refine g_lastore C f_9 (by decide) (i := 0) (by decide) (show 0 < 4 by decide) (w := (.long (t + (1 : Int64)))) rfl gr d6_17 (pc' := 18) rfl ?_
      intro h_10 K_11 A_12
      have f_13 : Ary Z h_10 ar .long [(.long (t + (1 : Int64))), (.long s1), (.long s2), (.long s3)] := A_12
      refine g_goto C d6_18 (pc' := 72) (by decide) (by decide) ?_
      refine g_return C rfl d6_72 (by decide) (by decide) ?_
      have f_14 := (N0.keep K_11 (ninS nsr nin0))
      have f_15 := (N1.keep K_11 (ninS nsr nin0))
      have f_16 := (N2.keep K_11 (ninS nsr nin0))
      have f_17 := (N3.keep K_11 (ninS nsr nin0))
      have f_18 := (N4.keep K_11 (ninS nsr nin0))
      have f_19 := ((Es.keep kk).keep K_11)
      have f_20 := ((E0.keep kk).keep K_11)
      have f_21 := (M0.keep K_11 (ninS nhr nin0))
      have f_22 := (M2.keep K_11 (ninS nhr nin0))
      have f_23 := (Nat.le_trans (Nat.le_trans Z0 kk.1) K_11.1)
      have f_24 := ((O.keep kk (allS gs' (allS g1 all0))).keep K_11 (allS gr all0))
      have f_25 := (Ae.keep K_11 (ninS (Ne.symm ne_6) nin0))
      have f_26 := (M1.keep K_11 (ninS nhr nin0))
      have ivn := iv.push
      have tt := own_ts htp hp
      have ivm : Iv a b c lw (t + (1 : Int64)).toInt A.toInt O'.toInt s1.toInt s2.toInt s3.toInt := by rw [tt]; rw [htp] at ivn; exact ivn
      exact ⟨rfl, t + (1 : Int64), A, O', s1, s2, s3, lw, m + (1 : Int32), _, 1, f_23, f_24, hlw, by omega, tt, rfl, ivm, f_19, f_14, f_15, f_16, f_17, f_18, f_20, f_21, f_22, Or.inr ⟨by omega, e, _, f_26, f_25, hvs, ge_e, (Ne.symm ne_8), (Ne.symm ne_7), (Ne.symm ne_6)⟩, f_13⟩
    · have dummy : True := trivial
      refine g_virtual C (own_w hw 45 rfl) (own_w hw 46 rfl) (own_w hw 48 rfl) (own_w hw 47 rfl) (own_w hw 2 rfl) (own_w hw 49 rfl) (notFace_of_selects (args := #[]) (mvT C.2.2.2.2.1 (own_w hw 48 rfl))) (by decide) Es (rm_push1 l Z a0 hw n0 s hl a t A O' lw m e (Int32.ofNat p) p vs h0 Z0 E0 F0 F1 F2 g1 Ae hvs ge' neh nes hp hz Es gs' S0 S1 S2 S3 S4 hlw nsh) (st := []) [(.ref a)] rfl rfl own_pd_9_push rfl rfl (by decide) (W := 0) (Nat.le_of_eq rfl) (by decide) (by decide) (by decide) d6_6 (pc' := 9) rfl ?_
      intro v_29 h_27 q_28
      obtain ⟨rfl, vs', kk, N0, N1, N2, N3, N4, M0, M1, M2, Ae', hvs'⟩ := q_28
      show Go B n0 _ h_27 1 3 9 #[.val (.ref s), .val (.ref ar), .val (.int op), .val (.ref a), .val (.ref b), .val (.ref c)] [(.long (t + (1 : Int64)))]
      refine g_pop2L C (x := (t + (1 : Int64))) d6_9 (pc' := 10) rfl ?_
      refine g_aload_n C d6_10 (v := (.ref ar)) rfl rfl (pc' := 11) rfl ?_
      refine g_iconst C d6_11 (v := (0 : Int32)) rfl (pc' := 12) rfl ?_
      refine g_aload_n C d6_12 (v := (.ref ar)) rfl rfl (pc' := 13) rfl ?_
      refine g_iconst C d6_13 (v := (0 : Int32)) rfl (pc' := 14) rfl ?_
      have f_30 := (Aar.keep kk (ninS (Ne.symm nsr) (ninS (Ne.symm nhr) (ninS (Ne.symm ner) nin0))))
      refine g_laload C f_30 (by decide) (i := 0) (by decide) (v := t) rfl d6_14 (pc' := 15) rfl ?_
      refine g_lconst C d6_15 (v := (1 : Int64)) rfl (pc' := 16) rfl ?_
      refine g_ladd C (x := t) (y := (1 : Int64)) d6_16  (pc' := 17) rfl ?_
      refine g_lastore C f_30 (by decide) (i := 0) (by decide) (show 0 < 4 by decide) (w := (.long (t + (1 : Int64)))) rfl gr d6_17 (pc' := 18) rfl ?_
      intro h_31 K_32 A_33
      have f_34 : Ary Z h_31 ar .long [(.long (t + (1 : Int64))), (.long s1), (.long s2), (.long s3)] := A_33
      refine g_goto C d6_18 (pc' := 72) (by decide) (by decide) ?_
      refine g_return C rfl d6_72 (by decide) (by decide) ?_
      have f_35 := (N0.keep K_32 (ninS nsr nin0))
      have f_36 := (N1.keep K_32 (ninS nsr nin0))
      have f_37 := (N2.keep K_32 (ninS nsr nin0))
      have f_38 := (N3.keep K_32 (ninS nsr nin0))
      have f_39 := (N4.keep K_32 (ninS nsr nin0))
      have f_40 := ((Es.keep kk).keep K_32)
      have f_41 := ((E0.keep kk).keep K_32)
      have f_42 := (M0.keep K_32 (ninS nhr nin0))
      have f_43 := (M2.keep K_32 (ninS nhr nin0))
      have f_44 := (Nat.le_trans (Nat.le_trans Z0 kk.1) K_32.1)
      have f_45 := ((O.keep kk (allS gs' (allS g1 (allS ge' all0)))).keep K_32 (allS gr all0))
      have f_46 := (Ae'.keep K_32 (ninS ner nin0))
      have f_47 := (M1.keep K_32 (ninS nhr nin0))
      have ivn := iv.push
      have tt := own_ts htp hp
      have ivm : Iv a b c lw (t + (1 : Int64)).toInt A.toInt O'.toInt s1.toInt s2.toInt s3.toInt := by rw [tt]; rw [htp] at ivn; exact ivn
      exact ⟨rfl, t + (1 : Int64), A, O', s1, s2, s3, lw, m + (1 : Int32), _, (p + 1), f_44, f_45, hlw, by omega, tt, (own_zs p), ivm, f_40, f_35, f_36, f_37, f_38, f_39, f_41, f_42, f_43, Or.inr ⟨by omega, e, _, f_47, f_46, hvs', ge', nes, neh, ner⟩, f_34⟩
  · refine g_if_y C d6_1 (Jvm.Free.XT.i0_ne_t hb_1) (pc' := 21) (by decide) (by decide) ?_
    refine g_iload_n C d6_21 (v := op) rfl (pc' := 22) rfl ?_
    refine g_iconst C d6_22 (v := (1 : Int32)) rfl (pc' := 23) rfl ?_
    by_cases hb_48 : op = (1 : Int32)
    · refine g_icmp_n C d6_23 (Jvm.Free.XT.ii_ne_f hb_48) (pc' := 26) rfl ?_
      refine g_aload_n C d6_26 (v := (.ref s)) rfl rfl (pc' := 27) rfl ?_
      refine g_aload_n C d6_27 (v := (.ref a)) rfl rfl (pc' := 28) rfl ?_
      refine g_virtual C (own_w hw 118 rfl) (own_w hw 119 rfl) (own_w hw 121 rfl) (own_w hw 120 rfl) (own_w hw 2 rfl) (own_w hw 122 rfl) (notFace_of_selects (args := #[]) (mvT C.2.2.2.2.1 (own_w hw 121 rfl))) (by decide) Es (rm_note l Z a0 hw n0 s hl a t A O' lw h0 Z0 Es gs' S0 S1 S2 S3 S4 hlw) (st := []) [(.ref a)] rfl rfl own_pd_10_noteWork rfl rfl (by decide) (W := 0) (Nat.le_of_eq rfl) (by decide) (by decide) (by decide) d6_28 (pc' := 31) rfl ?_
      intro v_51 h_49 q_50
      obtain ⟨rfl, kk, N0, N1, N2, N3, N4⟩ := q_50
      show Go B n0 _ h_49 0 0 31 #[.val (.ref s), .val (.ref ar), .val (.int op), .val (.ref a), .val (.ref b), .val (.ref c)] []
      refine g_aload_n C d6_31 (v := (.ref ar)) rfl rfl (pc' := 32) rfl ?_
      refine g_iconst C d6_32 (v := (1 : Int32)) rfl (pc' := 33) rfl ?_
      refine g_aload_n C d6_33 (v := (.ref ar)) rfl rfl (pc' := 34) rfl ?_
      refine g_iconst C d6_34 (v := (0 : Int32)) rfl (pc' := 35) rfl ?_
      have f_52 := (Aar.keep kk (ninS (Ne.symm nsr) nin0))
      refine g_laload C f_52 (by decide) (i := 0) (by decide) (v := t) rfl d6_35 (pc' := 36) rfl ?_
      refine g_lastore C f_52 (by decide) (i := 1) (by decide) (show 1 < 4 by decide) (w := (.long t)) rfl gr d6_36 (pc' := 37) rfl ?_
      intro h_53 K_54 A_55
      have f_56 : Ary Z h_53 ar .long [(.long t), (.long t), (.long s2), (.long s3)] := A_55
      refine g_goto C d6_37 (pc' := 72) (by decide) (by decide) ?_
      refine g_return C rfl d6_72 (by decide) (by decide) ?_
      have f_57 := (N0.keep K_54 (ninS nsr nin0))
      have f_58 := (N1.keep K_54 (ninS nsr nin0))
      have f_59 := (N2.keep K_54 (ninS nsr nin0))
      have f_60 := (N3.keep K_54 (ninS nsr nin0))
      have f_61 := (N4.keep K_54 (ninS nsr nin0))
      have f_62 := ((Es.keep kk).keep K_54)
      have f_63 := ((E0.keep kk).keep K_54)
      have f_64 := ((F0.keep kk (ninS (Ne.symm nsh) nin0)).keep K_54 (ninS nhr nin0))
      have f_65 := ((F2.keep kk (ninS (Ne.symm nsh) nin0)).keep K_54 (ninS nhr nin0))
      have f_66 := (Nat.le_trans (Nat.le_trans Z0 kk.1) K_54.1)
      have f_67 := ((O.keep kk (allS gs' all0)).keep K_54 (allS gr all0))
      have ivn := iv.a nab nac
      have hED' : (p = 0 ∧ Fld Z h_53 hl "java/util/ArrayList" "elementData" "[Ljava/lang/Object;" (.ref dc)) ∨ (0 < p ∧ ∃ (e : Addr) (vs : List Value), Fld Z h_53 hl "java/util/ArrayList" "elementData" "[Ljava/lang/Object;" (.ref e) ∧ AryR Z h_53 e "java/lang/Object" vs ∧ vs.length = 10 ∧ n0 ≤ e ∧ e ≠ s ∧ e ≠ hl ∧ e ≠ ar) := by
        rcases hED with ⟨hp0, F1⟩ | ⟨hp1, e, vs, F1, Ae, hvs, ge', nes, neh, ner⟩
        · exact Or.inl ⟨hp0, ((F1.keep kk (ninS (Ne.symm nsh) nin0)).keep K_54 (ninS nhr nin0))⟩
        · exact Or.inr ⟨hp1, e, vs, ((F1.keep kk (ninS (Ne.symm nsh) nin0)).keep K_54 (ninS nhr nin0)), ((Ae.keep kk (ninS nes nin0)).keep K_54 (ninS ner nin0)), hvs, ge', nes, neh, ner⟩
      exact ⟨rfl, t, t, nwO a lw A O', t, s2, s3, .ref a, m, _, p, f_66, f_67, rfl, by omega, htp, rfl, ivn, f_62, f_57, f_58, f_59, f_60, f_61, f_63, f_64, f_65, hED', f_56⟩
    · refine g_icmp_y C d6_23 (Jvm.Free.XT.ii_ne_t hb_48) (pc' := 40) (by decide) (by decide) ?_
      refine g_iload_n C d6_40 (v := op) rfl (pc' := 41) rfl ?_
      refine g_iconst C d6_41 (v := (2 : Int32)) rfl (pc' := 42) rfl ?_
      by_cases hb_68 : op = (2 : Int32)
      · refine g_icmp_n C d6_42 (Jvm.Free.XT.ii_ne_f hb_68) (pc' := 45) rfl ?_
        refine g_aload_n C d6_45 (v := (.ref s)) rfl rfl (pc' := 46) rfl ?_
        refine g_aload C d6_46 (v := (.ref b)) rfl rfl (pc' := 48) rfl ?_
        refine g_virtual C (own_w hw 118 rfl) (own_w hw 119 rfl) (own_w hw 121 rfl) (own_w hw 120 rfl) (own_w hw 2 rfl) (own_w hw 122 rfl) (notFace_of_selects (args := #[]) (mvT C.2.2.2.2.1 (own_w hw 121 rfl))) (by decide) Es (rm_note l Z a0 hw n0 s hl b t A O' lw h0 Z0 Es gs' S0 S1 S2 S3 S4 hlw) (st := []) [(.ref b)] rfl rfl own_pd_10_noteWork rfl rfl (by decide) (W := 0) (Nat.le_of_eq rfl) (by decide) (by decide) (by decide) d6_48 (pc' := 51) rfl ?_
        intro v_71 h_69 q_70
        obtain ⟨rfl, kk, N0, N1, N2, N3, N4⟩ := q_70
        show Go B n0 _ h_69 0 0 51 #[.val (.ref s), .val (.ref ar), .val (.int op), .val (.ref a), .val (.ref b), .val (.ref c)] []
        refine g_aload_n C d6_51 (v := (.ref ar)) rfl rfl (pc' := 52) rfl ?_
        refine g_iconst C d6_52 (v := (2 : Int32)) rfl (pc' := 53) rfl ?_
        refine g_aload_n C d6_53 (v := (.ref ar)) rfl rfl (pc' := 54) rfl ?_
        refine g_iconst C d6_54 (v := (0 : Int32)) rfl (pc' := 55) rfl ?_
        have f_72 := (Aar.keep kk (ninS (Ne.symm nsr) nin0))
        refine g_laload C f_72 (by decide) (i := 0) (by decide) (v := t) rfl d6_55 (pc' := 56) rfl ?_
        refine g_lastore C f_72 (by decide) (i := 2) (by decide) (show 2 < 4 by decide) (w := (.long t)) rfl gr d6_56 (pc' := 57) rfl ?_
        intro h_73 K_74 A_75
        have f_76 : Ary Z h_73 ar .long [(.long t), (.long s1), (.long t), (.long s3)] := A_75
        refine g_goto C d6_57 (pc' := 72) (by decide) (by decide) ?_
        refine g_return C rfl d6_72 (by decide) (by decide) ?_
        have f_77 := (N0.keep K_74 (ninS nsr nin0))
        have f_78 := (N1.keep K_74 (ninS nsr nin0))
        have f_79 := (N2.keep K_74 (ninS nsr nin0))
        have f_80 := (N3.keep K_74 (ninS nsr nin0))
        have f_81 := (N4.keep K_74 (ninS nsr nin0))
        have f_82 := ((Es.keep kk).keep K_74)
        have f_83 := ((E0.keep kk).keep K_74)
        have f_84 := ((F0.keep kk (ninS (Ne.symm nsh) nin0)).keep K_74 (ninS nhr nin0))
        have f_85 := ((F2.keep kk (ninS (Ne.symm nsh) nin0)).keep K_74 (ninS nhr nin0))
        have f_86 := (Nat.le_trans (Nat.le_trans Z0 kk.1) K_74.1)
        have f_87 := ((O.keep kk (allS gs' all0)).keep K_74 (allS gr all0))
        have ivn := iv.b nab nbc
        have hED' : (p = 0 ∧ Fld Z h_73 hl "java/util/ArrayList" "elementData" "[Ljava/lang/Object;" (.ref dc)) ∨ (0 < p ∧ ∃ (e : Addr) (vs : List Value), Fld Z h_73 hl "java/util/ArrayList" "elementData" "[Ljava/lang/Object;" (.ref e) ∧ AryR Z h_73 e "java/lang/Object" vs ∧ vs.length = 10 ∧ n0 ≤ e ∧ e ≠ s ∧ e ≠ hl ∧ e ≠ ar) := by
          rcases hED with ⟨hp0, F1⟩ | ⟨hp1, e, vs, F1, Ae, hvs, ge', nes, neh, ner⟩
          · exact Or.inl ⟨hp0, ((F1.keep kk (ninS (Ne.symm nsh) nin0)).keep K_74 (ninS nhr nin0))⟩
          · exact Or.inr ⟨hp1, e, vs, ((F1.keep kk (ninS (Ne.symm nsh) nin0)).keep K_74 (ninS nhr nin0)), ((Ae.keep kk (ninS nes nin0)).keep K_74 (ninS ner nin0)), hvs, ge', nes, neh, ner⟩
        exact ⟨rfl, t, t, nwO b lw A O', s1, t, s3, .ref b, m, _, p, f_86, f_87, rfl, by omega, htp, rfl, ivn, f_82, f_77, f_78, f_79, f_80, f_81, f_83, f_84, f_85, hED', f_76⟩
      · refine g_icmp_y C d6_42 (Jvm.Free.XT.ii_ne_t hb_68) (pc' := 60) (by decide) (by decide) ?_
        refine g_aload_n C d6_60 (v := (.ref s)) rfl rfl (pc' := 61) rfl ?_
        refine g_aload C d6_61 (v := (.ref c)) rfl rfl (pc' := 63) rfl ?_
        refine g_virtual C (own_w hw 118 rfl) (own_w hw 119 rfl) (own_w hw 121 rfl) (own_w hw 120 rfl) (own_w hw 2 rfl) (own_w hw 122 rfl) (notFace_of_selects (args := #[]) (mvT C.2.2.2.2.1 (own_w hw 121 rfl))) (by decide) Es (rm_note l Z a0 hw n0 s hl c t A O' lw h0 Z0 Es gs' S0 S1 S2 S3 S4 hlw) (st := []) [(.ref c)] rfl rfl own_pd_10_noteWork rfl rfl (by decide) (W := 0) (Nat.le_of_eq rfl) (by decide) (by decide) (by decide) d6_63 (pc' := 66) rfl ?_
        intro v_90 h_88 q_89
        obtain ⟨rfl, kk, N0, N1, N2, N3, N4⟩ := q_89
        show Go B n0 _ h_88 0 0 66 #[.val (.ref s), .val (.ref ar), .val (.int op), .val (.ref a), .val (.ref b), .val (.ref c)] []
        refine g_aload_n C d6_66 (v := (.ref ar)) rfl rfl (pc' := 67) rfl ?_
        refine g_iconst C d6_67 (v := (3 : Int32)) rfl (pc' := 68) rfl ?_
        refine g_aload_n C d6_68 (v := (.ref ar)) rfl rfl (pc' := 69) rfl ?_
        refine g_iconst C d6_69 (v := (0 : Int32)) rfl (pc' := 70) rfl ?_
        have f_91 := (Aar.keep kk (ninS (Ne.symm nsr) nin0))
        refine g_laload C f_91 (by decide) (i := 0) (by decide) (v := t) rfl d6_70 (pc' := 71) rfl ?_
        refine g_lastore C f_91 (by decide) (i := 3) (by decide) (show 3 < 4 by decide) (w := (.long t)) rfl gr d6_71 (pc' := 72) rfl ?_
        intro h_92 K_93 A_94
        have f_95 : Ary Z h_92 ar .long [(.long t), (.long s1), (.long s2), (.long t)] := A_94
        refine g_return C rfl d6_72 (by decide) (by decide) ?_
        have f_96 := (N0.keep K_93 (ninS nsr nin0))
        have f_97 := (N1.keep K_93 (ninS nsr nin0))
        have f_98 := (N2.keep K_93 (ninS nsr nin0))
        have f_99 := (N3.keep K_93 (ninS nsr nin0))
        have f_100 := (N4.keep K_93 (ninS nsr nin0))
        have f_101 := ((Es.keep kk).keep K_93)
        have f_102 := ((E0.keep kk).keep K_93)
        have f_103 := ((F0.keep kk (ninS (Ne.symm nsh) nin0)).keep K_93 (ninS nhr nin0))
        have f_104 := ((F2.keep kk (ninS (Ne.symm nsh) nin0)).keep K_93 (ninS nhr nin0))
        have f_105 := (Nat.le_trans (Nat.le_trans Z0 kk.1) K_93.1)
        have f_106 := ((O.keep kk (allS gs' all0)).keep K_93 (allS gr all0))
        have ivn := iv.c nac nbc
        have hED' : (p = 0 ∧ Fld Z h_92 hl "java/util/ArrayList" "elementData" "[Ljava/lang/Object;" (.ref dc)) ∨ (0 < p ∧ ∃ (e : Addr) (vs : List Value), Fld Z h_92 hl "java/util/ArrayList" "elementData" "[Ljava/lang/Object;" (.ref e) ∧ AryR Z h_92 e "java/lang/Object" vs ∧ vs.length = 10 ∧ n0 ≤ e ∧ e ≠ s ∧ e ≠ hl ∧ e ≠ ar) := by
          rcases hED with ⟨hp0, F1⟩ | ⟨hp1, e, vs, F1, Ae, hvs, ge', nes, neh, ner⟩
          · exact Or.inl ⟨hp0, ((F1.keep kk (ninS (Ne.symm nsh) nin0)).keep K_93 (ninS nhr nin0))⟩
          · exact Or.inr ⟨hp1, e, vs, ((F1.keep kk (ninS (Ne.symm nsh) nin0)).keep K_93 (ninS nhr nin0)), ((Ae.keep kk (ninS nes nin0)).keep K_93 (ninS ner nin0)), hvs, ge', nes, neh, ner⟩
        exact ⟨rfl, t, t, nwO c lw A O', s1, s2, t, .ref c, m, _, p, f_105, f_106, rfl, by omega, htp, rfl, ivn, f_101, f_96, f_97, f_98, f_99, f_100, f_102, f_103, f_104, hED', f_95⟩
theorem own_pd_8_step : parseMethodDescriptor "(Lcom/example/measured_savepoints/measuredsavepoints/SavepointStack;[JILjava/lang/Object;Ljava/lang/Object;Ljava/lang/Object;)V" = some ⟨[(.object "com/example/measured_savepoints/measuredsavepoints/SavepointStack"), (.array .long), .int, (.object "java/lang/Object"), (.object "java/lang/Object"), (.object "java/lang/Object")], none⟩ := by decide +kernel
theorem own_pd_5_max : parseMethodDescriptor "(JJ)J" = some ⟨[.long, .long], (some .long)⟩ := by decide +kernel
theorem own_pd_6_workedAbove : parseMethodDescriptor "(JLjava/lang/Object;)Z" = some ⟨[.long, (.object "java/lang/Object")], (some .boolean)⟩ := by decide +kernel
set_option maxRecDepth 65536 in
set_option maxHeartbeats 40000000 in
theorem rm_law (l : Launch) (Z : State) (a0 : Array Value) (hw : ∀ d ∈ tables_1, d.before a0 Z = true) (n0 : Nat) (p0 p1 : Int32) (p2 : Int64) (dc : Addr) (h0 : Heap) (Z0 : n0 ≤ h0.size) (dd : Dc Z dc) (O : Old Z n0 h0) :
    Met1 l Z x code maxLocals ret room_1 n0 #[(.int p0), (.int p1), (.long p2)] h0 (fun v h => v = some (.int 1)) := by
  refine met_of (plainFor_of_name own_pn_com_example_measured_savepoints_measuredsavepoints_SavepointStackWorkedAbovePinLaw) (L0 := #[.val (.int p0), .val (.int p1), .val (.long p2), .second, .unset, .unset, .unset, .unset, .unset, .unset, .unset, .unset, .unset, .unset, .unset, .unset, .unset]) (by first | (simp [argsToLocals, Value.category, maxLocals]; done) | rfl) ?_
  intro B C
  change Ctx B l room_1 code "com/example/measured_savepoints/measuredsavepoints/SavepointStackWorkedAbovePinLaw" "law" 17 (some .boolean) Z at C
  have dd' := dd
  obtain ⟨Sdc, Adc⟩ := dd'
  refine g_new C (own_w hw 0 rfl) (own_w hw 1 rfl) (own_w hw 2 rfl) (by decide) (by decide) at_0 (pc' := 3) rfl ?_
  intro h_1 a_2 g_3 E_4 A_5 D_6
  have ne_7 : dc ≠ a_2 := ne_new (Adc.ext O.2).lt g_3
  have ge_a_2 : n0 ≤ a_2 := Nat.le_trans Z0 (Nat.le_of_eq g_3.symm)
  have gs_a_2 : h0.size ≤ a_2 := Nat.le_trans (Nat.le_refl h0.size) (Nat.le_of_eq g_3.symm)
  have f_8 : Fld Z h_1 a_2 "com/example/measured_savepoints/measuredsavepoints/SavepointStack" "held" "Ljava/util/List;" .null := D_6 (Or.inr (own_w hw 34 rfl)) (ty := (.object "java/util/List")) (by decide)
  have f_9 : Fld Z h_1 a_2 "com/example/measured_savepoints/measuredsavepoints/SavepointStack" "lastStamp" "J" (.long (0 : Int64)) := D_6 (Or.inl (own_w hw 51 rfl)) (ty := .long) (by decide)
  have f_10 : Fld Z h_1 a_2 "com/example/measured_savepoints/measuredsavepoints/SavepointStack" "lastWorker" "Ljava/lang/Object;" .null := D_6 (Or.inl (own_w hw 115 rfl)) (ty := (.object "java/lang/Object")) (by decide)
  have f_11 : Fld Z h_1 a_2 "com/example/measured_savepoints/measuredsavepoints/SavepointStack" "lastWorkAt" "J" (.long (0 : Int64)) := D_6 (Or.inl (own_w hw 117 rfl)) (ty := .long) (by decide)
  have f_12 : Fld Z h_1 a_2 "com/example/measured_savepoints/measuredsavepoints/SavepointStack" "othersWorkAt" "J" (.long (0 : Int64)) := D_6 (Or.inl (own_w hw 124 rfl)) (ty := .long) (by decide)
  show Go B n0 _ h_1 1 5 3 #[.val (.int p0), .val (.int p1), .val (.long p2), .second, .unset, .unset, .unset, .unset, .unset, .unset, .unset, .unset, .unset, .unset, .unset, .unset, .unset] [(.ref a_2)]
  refine g_dup C at_3 rfl (pc' := 4) rfl ?_
  have f_13 := (O.ext E_4)
  have f_14 := (Nat.le_trans Z0 E_4.1)
  have f_15 := ((Adc.ext O.2).ext E_4)
  have f_16 := (Nat.le_trans (Nat.le_refl h0.size) E_4.1)
  refine g_special C (a := a_2) rfl (own_w hw 3 rfl) (own_w hw 4 rfl) (own_w hw 2 rfl) (own_w hw 5 rfl) (by decide) (rm_ss l Z a0 hw n0 a_2 dc h_1 f_14 dd f_13 A_5 f_8 f_9 f_10 f_11 f_12 ge_a_2) (st := [(.ref a_2)]) [] rfl rfl own_pd_0_init rfl rfl (by decide) (W := 1) (Nat.le_of_eq rfl) (by decide) (by decide) (by decide) at_4 (pc' := 7) rfl ?_
  intro v_19 h_17 q_18
  obtain ⟨rfl, K_28, hl_29, le_30, f_20, f_21, f_22, f_23, f_24, E_31, f_25, f_26, f_27⟩ := q_18
  have ne_32 : a_2 ≠ hl_29 := ne_ge A_5.lt le_30
  have ne_33 : dc ≠ hl_29 := ne_ge f_15.lt le_30
  have ge_hl_29 : n0 ≤ hl_29 := Nat.le_trans f_14 le_30
  have gs_hl_29 : h0.size ≤ hl_29 := Nat.le_trans f_16 le_30
  show Go B n0 _ h_17 2 8 7 #[.val (.int p0), .val (.int p1), .val (.long p2), .second, .unset, .unset, .unset, .unset, .unset, .unset, .unset, .unset, .unset, .unset, .unset, .unset, .unset] [(.ref a_2)]
  refine g_astore C at_7 (v := (.ref a_2)) (L' := #[.val (.int p0), .val (.int p1), .val (.long p2), .second, .val (.ref a_2), .unset, .unset, .unset, .unset, .unset, .unset, .unset, .unset, .unset, .unset, .unset, .unset]) rfl rfl (pc' := 9) rfl ?_
  have f_34 := (A_5.keep K_28)
  have f_35 := (f_15.keep K_28 (ninS ne_7 nin0))
  refine g_new C (own_w hw 35 rfl) (own_w hw 36 rfl) (own_w hw 37 rfl) (by decide) (by decide) at_9 (pc' := 12) rfl ?_
  intro h_36 a_37 g_38 E_39 A_40 D_41
  have ne_42 : a_2 ≠ a_37 := ne_new f_34.lt g_38
  have ne_43 : dc ≠ a_37 := ne_new f_35.lt g_38
  have ne_44 : hl_29 ≠ a_37 := ne_new E_31.lt g_38
  have f_45 := (Nat.le_trans f_14 K_28.1)
  have ge_a_37 : n0 ≤ a_37 := Nat.le_trans f_45 (Nat.le_of_eq g_38.symm)
  have f_46 := (Nat.le_trans f_16 K_28.1)
  have gs_a_37 : h0.size ≤ a_37 := Nat.le_trans f_46 (Nat.le_of_eq g_38.symm)
  show Go B n0 _ h_36 3 8 12 #[.val (.int p0), .val (.int p1), .val (.long p2), .second, .val (.ref a_2), .unset, .unset, .unset, .unset, .unset, .unset, .unset, .unset, .unset, .unset, .unset, .unset] [(.ref a_37)]
  refine g_dup C at_12 rfl (pc' := 13) rfl ?_
  refine g_initObj C (own_w hw 38 rfl) (own_w hw 7 rfl) (own_w hw 8 rfl) rfl (by decide) (W := 1) (Nat.le_of_eq rfl) (by decide) at_13 (pc' := 16) rfl ?_
  refine g_astore C at_16 (v := (.ref a_37)) (L' := #[.val (.int p0), .val (.int p1), .val (.long p2), .second, .val (.ref a_2), .val (.ref a_37), .unset, .unset, .unset, .unset, .unset, .unset, .unset, .unset, .unset, .unset, .unset]) rfl rfl (pc' := 18) rfl ?_
  have f_47 := (f_34.ext E_39)
  have f_48 := (f_35.ext E_39)
  have f_49 := (E_31.ext E_39)
  refine g_new C (own_w hw 35 rfl) (own_w hw 36 rfl) (own_w hw 37 rfl) (by decide) (by decide) at_18 (pc' := 21) rfl ?_
  intro h_50 a_51 g_52 E_53 A_54 D_55
  have ne_56 : a_2 ≠ a_51 := ne_new f_47.lt g_52
  have ne_57 : a_37 ≠ a_51 := ne_new A_40.lt g_52
  have ne_58 : dc ≠ a_51 := ne_new f_48.lt g_52
  have ne_59 : hl_29 ≠ a_51 := ne_new f_49.lt g_52
  have f_60 := (Nat.le_trans f_45 E_39.1)
  have ge_a_51 : n0 ≤ a_51 := Nat.le_trans f_60 (Nat.le_of_eq g_52.symm)
  have f_61 := (Nat.le_trans f_46 E_39.1)
  have gs_a_51 : h0.size ≤ a_51 := Nat.le_trans f_61 (Nat.le_of_eq g_52.symm)
  show Go B n0 _ h_50 4 8 21 #[.val (.int p0), .val (.int p1), .val (.long p2), .second, .val (.ref a_2), .val (.ref a_37), .unset, .unset, .unset, .unset, .unset, .unset, .unset, .unset, .unset, .unset, .unset] [(.ref a_51)]
  refine g_dup C at_21 rfl (pc' := 22) rfl ?_
  refine g_initObj C (own_w hw 38 rfl) (own_w hw 7 rfl) (own_w hw 8 rfl) rfl (by decide) (W := 1) (Nat.le_of_eq rfl) (by decide) at_22 (pc' := 25) rfl ?_
  refine g_astore C at_25 (v := (.ref a_51)) (L' := #[.val (.int p0), .val (.int p1), .val (.long p2), .second, .val (.ref a_2), .val (.ref a_37), .val (.ref a_51), .unset, .unset, .unset, .unset, .unset, .unset, .unset, .unset, .unset, .unset]) rfl rfl (pc' := 27) rfl ?_
  have f_62 := (f_47.ext E_53)
  have f_63 := (A_40.ext E_53)
  have f_64 := (f_48.ext E_53)
  have f_65 := (f_49.ext E_53)
  refine g_new C (own_w hw 35 rfl) (own_w hw 36 rfl) (own_w hw 37 rfl) (by decide) (by decide) at_27 (pc' := 30) rfl ?_
  intro h_66 a_67 g_68 E_69 A_70 D_71
  have ne_72 : a_2 ≠ a_67 := ne_new f_62.lt g_68
  have ne_73 : a_37 ≠ a_67 := ne_new f_63.lt g_68
  have ne_74 : a_51 ≠ a_67 := ne_new A_54.lt g_68
  have ne_75 : dc ≠ a_67 := ne_new f_64.lt g_68
  have ne_76 : hl_29 ≠ a_67 := ne_new f_65.lt g_68
  have f_77 := (Nat.le_trans f_60 E_53.1)
  have ge_a_67 : n0 ≤ a_67 := Nat.le_trans f_77 (Nat.le_of_eq g_68.symm)
  have f_78 := (Nat.le_trans f_61 E_53.1)
  have gs_a_67 : h0.size ≤ a_67 := Nat.le_trans f_78 (Nat.le_of_eq g_68.symm)
  show Go B n0 _ h_66 5 8 30 #[.val (.int p0), .val (.int p1), .val (.long p2), .second, .val (.ref a_2), .val (.ref a_37), .val (.ref a_51), .unset, .unset, .unset, .unset, .unset, .unset, .unset, .unset, .unset, .unset] [(.ref a_67)]
  refine g_dup C at_30 rfl (pc' := 31) rfl ?_
  refine g_initObj C (own_w hw 38 rfl) (own_w hw 7 rfl) (own_w hw 8 rfl) rfl (by decide) (W := 1) (Nat.le_of_eq rfl) (by decide) at_31 (pc' := 34) rfl ?_
  refine g_astore C at_34 (v := (.ref a_67)) (L' := #[.val (.int p0), .val (.int p1), .val (.long p2), .second, .val (.ref a_2), .val (.ref a_37), .val (.ref a_51), .val (.ref a_67), .unset, .unset, .unset, .unset, .unset, .unset, .unset, .unset, .unset]) rfl rfl (pc' := 36) rfl ?_
  have f_79 := (f_62.ext E_69)
  have f_80 := (f_63.ext E_69)
  have f_81 := (A_54.ext E_69)
  have f_82 := (f_64.ext E_69)
  have f_83 := (f_65.ext E_69)
  refine g_new C (own_w hw 35 rfl) (own_w hw 36 rfl) (own_w hw 37 rfl) (by decide) (by decide) at_36 (pc' := 39) rfl ?_
  intro h_84 a_85 g_86 E_87 A_88 D_89
  have ne_90 : a_2 ≠ a_85 := ne_new f_79.lt g_86
  have ne_91 : a_37 ≠ a_85 := ne_new f_80.lt g_86
  have ne_92 : a_51 ≠ a_85 := ne_new f_81.lt g_86
  have ne_93 : a_67 ≠ a_85 := ne_new A_70.lt g_86
  have ne_94 : dc ≠ a_85 := ne_new f_82.lt g_86
  have ne_95 : hl_29 ≠ a_85 := ne_new f_83.lt g_86
  have f_96 := (Nat.le_trans f_77 E_69.1)
  have ge_a_85 : n0 ≤ a_85 := Nat.le_trans f_96 (Nat.le_of_eq g_86.symm)
  have f_97 := (Nat.le_trans f_78 E_69.1)
  have gs_a_85 : h0.size ≤ a_85 := Nat.le_trans f_97 (Nat.le_of_eq g_86.symm)
  show Go B n0 _ h_84 6 8 39 #[.val (.int p0), .val (.int p1), .val (.long p2), .second, .val (.ref a_2), .val (.ref a_37), .val (.ref a_51), .val (.ref a_67), .unset, .unset, .unset, .unset, .unset, .unset, .unset, .unset, .unset] [(.ref a_85)]
  refine g_dup C at_39 rfl (pc' := 40) rfl ?_
  refine g_initObj C (own_w hw 38 rfl) (own_w hw 7 rfl) (own_w hw 8 rfl) rfl (by decide) (W := 1) (Nat.le_of_eq rfl) (by decide) at_40 (pc' := 43) rfl ?_
  refine g_astore C at_43 (v := (.ref a_85)) (L' := #[.val (.int p0), .val (.int p1), .val (.long p2), .second, .val (.ref a_2), .val (.ref a_37), .val (.ref a_51), .val (.ref a_67), .val (.ref a_85), .unset, .unset, .unset, .unset, .unset, .unset, .unset, .unset]) rfl rfl (pc' := 45) rfl ?_
  refine g_iconst C at_45 (v := (4 : Int32)) rfl (pc' := 46) rfl ?_
  have f_98 := (f_79.ext E_87)
  have f_99 := (f_80.ext E_87)
  have f_100 := (f_81.ext E_87)
  have f_101 := (A_70.ext E_87)
  have f_102 := (f_82.ext E_87)
  have f_103 := (f_83.ext E_87)
  refine g_newarray C (own_w hw 39 rfl) (ty := .long) rfl (by decide) (cap := 4) (by decide) (by decide) (by decide) (by decide) at_46 (pc' := 48) rfl ?_
  intro h_104 a_105 g_106 E_107 A_108
  have ne_109 : a_2 ≠ a_105 := ne_new f_98.lt g_106
  have ne_110 : a_37 ≠ a_105 := ne_new f_99.lt g_106
  have ne_111 : a_51 ≠ a_105 := ne_new f_100.lt g_106
  have ne_112 : a_67 ≠ a_105 := ne_new f_101.lt g_106
  have ne_113 : a_85 ≠ a_105 := ne_new A_88.lt g_106
  have ne_114 : dc ≠ a_105 := ne_new f_102.lt g_106
  have ne_115 : hl_29 ≠ a_105 := ne_new f_103.lt g_106
  have f_116 := (Nat.le_trans f_96 E_87.1)
  have ge_a_105 : n0 ≤ a_105 := Nat.le_trans f_116 (Nat.le_of_eq g_106.symm)
  have f_117 := (Nat.le_trans f_97 E_87.1)
  have gs_a_105 : h0.size ≤ a_105 := Nat.le_trans f_117 (Nat.le_of_eq g_106.symm)
  have f_118 : Ary Z h_104 a_105 .long [(.long (0 : Int64)), (.long (0 : Int64)), (.long (0 : Int64)), (.long (0 : Int64))] := A_108
  show Go B n0 _ h_104 7 12 48 #[.val (.int p0), .val (.int p1), .val (.long p2), .second, .val (.ref a_2), .val (.ref a_37), .val (.ref a_51), .val (.ref a_67), .val (.ref a_85), .unset, .unset, .unset, .unset, .unset, .unset, .unset, .unset] [(.ref a_105)]
  refine g_astore C at_48 (v := (.ref a_105)) (L' := #[.val (.int p0), .val (.int p1), .val (.long p2), .second, .val (.ref a_2), .val (.ref a_37), .val (.ref a_51), .val (.ref a_67), .val (.ref a_85), .val (.ref a_105), .unset, .unset, .unset, .unset, .unset, .unset, .unset]) rfl rfl (pc' := 50) rfl ?_
  refine g_aload C at_50 (v := (.ref a_105)) rfl rfl (pc' := 52) rfl ?_
  refine g_iconst C at_52 (v := (0 : Int32)) rfl (pc' := 53) rfl ?_
  refine g_lconst C at_53 (v := (0 : Int64)) rfl (pc' := 54) rfl ?_
  refine g_lastore C f_118 (by decide) (i := 0) (by decide) (show 0 < 4 by decide) (w := (.long (0 : Int64))) rfl ge_a_105 at_54 (pc' := 55) rfl ?_
  intro h_119 K_120 A_121
  have f_122 : Ary Z h_119 a_105 .long [(.long (0 : Int64)), (.long (0 : Int64)), (.long (0 : Int64)), (.long (0 : Int64))] := A_121
  refine g_aload C at_55 (v := (.ref a_105)) rfl rfl (pc' := 57) rfl ?_
  refine g_iconst C at_57 (v := (1 : Int32)) rfl (pc' := 58) rfl ?_
  refine g_ldc2_w C (v := (-1 : Int64)) (own_w hw 40 rfl) at_58 (pc' := 61) rfl ?_
  refine g_lastore C f_122 (by decide) (i := 1) (by decide) (show 1 < 4 by decide) (w := (.long (-1 : Int64))) rfl ge_a_105 at_61 (pc' := 62) rfl ?_
  intro h_123 K_124 A_125
  have f_126 : Ary Z h_123 a_105 .long [(.long (0 : Int64)), (.long (-1 : Int64)), (.long (0 : Int64)), (.long (0 : Int64))] := A_125
  refine g_aload C at_62 (v := (.ref a_105)) rfl rfl (pc' := 64) rfl ?_
  refine g_iconst C at_64 (v := (2 : Int32)) rfl (pc' := 65) rfl ?_
  refine g_ldc2_w C (v := (-1 : Int64)) (own_w hw 40 rfl) at_65 (pc' := 68) rfl ?_
  refine g_lastore C f_126 (by decide) (i := 2) (by decide) (show 2 < 4 by decide) (w := (.long (-1 : Int64))) rfl ge_a_105 at_68 (pc' := 69) rfl ?_
  intro h_127 K_128 A_129
  have f_130 : Ary Z h_127 a_105 .long [(.long (0 : Int64)), (.long (-1 : Int64)), (.long (-1 : Int64)), (.long (0 : Int64))] := A_129
  refine g_aload C at_69 (v := (.ref a_105)) rfl rfl (pc' := 71) rfl ?_
  refine g_iconst C at_71 (v := (3 : Int32)) rfl (pc' := 72) rfl ?_
  refine g_ldc2_w C (v := (-1 : Int64)) (own_w hw 40 rfl) at_72 (pc' := 75) rfl ?_
  refine g_lastore C f_130 (by decide) (i := 3) (by decide) (show 3 < 4 by decide) (w := (.long (-1 : Int64))) rfl ge_a_105 at_75 (pc' := 76) rfl ?_
  intro h_131 K_132 A_133
  have f_134 : Ary Z h_131 a_105 .long [(.long (0 : Int64)), (.long (-1 : Int64)), (.long (-1 : Int64)), (.long (-1 : Int64))] := A_133
  refine g_aload C at_76 (v := (.ref a_2)) rfl rfl (pc' := 78) rfl ?_
  refine g_aload C at_78 (v := (.ref a_105)) rfl rfl (pc' := 80) rfl ?_
  refine g_iload_n C at_80 (v := p0) rfl (pc' := 81) rfl ?_
  refine g_iconst C at_81 (v := (0 : Int32)) rfl (pc' := 82) rfl ?_
  refine g_iushr C (x := p0) (y := (0 : Int32)) at_82  (pc' := 83) rfl ?_
  refine g_iconst C at_83 (v := (3 : Int32)) rfl (pc' := 84) rfl ?_
  refine g_iand C (x := (Jvm.Free.XT.ushr p0 (0 : Int32))) (y := (3 : Int32)) at_84  (pc' := 85) rfl ?_
  refine g_aload C at_85 (v := (.ref a_37)) rfl rfl (pc' := 87) rfl ?_
  refine g_aload C at_87 (v := (.ref a_51)) rfl rfl (pc' := 89) rfl ?_
  refine g_aload C at_89 (v := (.ref a_67)) rfl rfl (pc' := 91) rfl ?_
  have f_135 := (((((((((f_20.ext E_39).ext E_53).ext E_69).ext E_87).ext E_107).keep K_120 (ninS ne_109 nin0)).keep K_124 (ninS ne_109 nin0)).keep K_128 (ninS ne_109 nin0)).keep K_132 (ninS ne_109 nin0))
  have f_136 := (((((((((f_21.ext E_39).ext E_53).ext E_69).ext E_87).ext E_107).keep K_120 (ninS ne_109 nin0)).keep K_124 (ninS ne_109 nin0)).keep K_128 (ninS ne_109 nin0)).keep K_132 (ninS ne_109 nin0))
  have f_137 := (((((((((f_22.ext E_39).ext E_53).ext E_69).ext E_87).ext E_107).keep K_120 (ninS ne_109 nin0)).keep K_124 (ninS ne_109 nin0)).keep K_128 (ninS ne_109 nin0)).keep K_132 (ninS ne_109 nin0))
  have f_138 := (((((((((f_23.ext E_39).ext E_53).ext E_69).ext E_87).ext E_107).keep K_120 (ninS ne_109 nin0)).keep K_124 (ninS ne_109 nin0)).keep K_128 (ninS ne_109 nin0)).keep K_132 (ninS ne_109 nin0))
  have f_139 := (((((((((f_24.ext E_39).ext E_53).ext E_69).ext E_87).ext E_107).keep K_120 (ninS ne_109 nin0)).keep K_124 (ninS ne_109 nin0)).keep K_128 (ninS ne_109 nin0)).keep K_132 (ninS ne_109 nin0))
  have f_141 := (Nat.le_trans (Nat.le_trans (Nat.le_trans (Nat.le_trans (Nat.le_trans f_116 E_107.1) K_120.1) K_124.1) K_128.1) K_132.1)
  have f_142 := ((((((((((f_13.keep K_28 (allS ge_a_2 all0)).ext E_39).ext E_53).ext E_69).ext E_87).ext E_107).keep K_120 (allS ge_a_105 all0)).keep K_124 (allS ge_a_105 all0)).keep K_128 (allS ge_a_105 all0)).keep K_132 (allS ge_a_105 all0))
  have f_143 := (((((f_98.ext E_107).keep K_120).keep K_124).keep K_128).keep K_132)
  have f_144 := (((((f_103.ext E_107).keep K_120).keep K_124).keep K_128).keep K_132)
  have f_145 := (((((((((f_25.ext E_39).ext E_53).ext E_69).ext E_87).ext E_107).keep K_120 (ninS ne_115 nin0)).keep K_124 (ninS ne_115 nin0)).keep K_128 (ninS ne_115 nin0)).keep K_132 (ninS ne_115 nin0))
  have f_146 := (((((((((f_27.ext E_39).ext E_53).ext E_69).ext E_87).ext E_107).keep K_120 (ninS ne_115 nin0)).keep K_124 (ninS ne_115 nin0)).keep K_128 (ninS ne_115 nin0)).keep K_132 (ninS ne_115 nin0))
  have f_147 := (((((((((f_26.ext E_39).ext E_53).ext E_69).ext E_87).ext E_107).keep K_120 (ninS ne_115 nin0)).keep K_124 (ninS ne_115 nin0)).keep K_128 (ninS ne_115 nin0)).keep K_132 (ninS ne_115 nin0))
  have sq_140 : SQ Z n0 a_2 hl_29 a_105 dc a_37 a_51 a_67 0 h_131 := ⟨0, 0, 0, -1, -1, -1, .null, 0, _, 0, f_141, f_142, rfl, Nat.le_refl _, rfl, rfl, ⟨by decide, by decide, by decide, by decide, by decide, by decide, by decide, Or.inl ⟨rfl, by decide, by decide, by decide, by decide⟩⟩, f_143, f_135, f_136, f_137, f_138, f_139, f_144, f_145, f_146, Or.inl ⟨rfl, f_147⟩, f_134⟩
  refine g_static C (own_w hw 41 rfl) (own_w hw 42 rfl) (own_w hw 43 rfl) (own_w hw 44 rfl) (by decide) (rm_step l Z a0 hw n0 a_2 hl_29 a_105 dc a_37 a_51 a_67 ((Jvm.Free.XT.ushr p0 (0 : Int32)) &&& (3 : Int32)) 0 h_131 f_141 dd sq_140 (by decide) ge_a_2 ge_hl_29 ge_a_105 ne_32 ne_109 ne_115 ne_57 ne_73 ne_74) (st := []) [(.ref a_2), (.ref a_105), (.int ((Jvm.Free.XT.ushr p0 (0 : Int32)) &&& (3 : Int32))), (.ref a_37), (.ref a_51), (.ref a_67)] rfl rfl own_pd_8_step rfl rfl (by decide) (W := 0) (Nat.le_of_eq rfl) (by decide) (by decide) (by decide) at_91 (pc' := 94) rfl ?_
  intro v_150 h_148 q_149
  obtain ⟨rfl, sq_151⟩ := q_149
  show Go B n0 _ h_148 9 25 94 #[.val (.int p0), .val (.int p1), .val (.long p2), .second, .val (.ref a_2), .val (.ref a_37), .val (.ref a_51), .val (.ref a_67), .val (.ref a_85), .val (.ref a_105), .unset, .unset, .unset, .unset, .unset, .unset, .unset] []
  refine g_aload C at_94 (v := (.ref a_2)) rfl rfl (pc' := 96) rfl ?_
  refine g_aload C at_96 (v := (.ref a_105)) rfl rfl (pc' := 98) rfl ?_
  refine g_iload_n C at_98 (v := p0) rfl (pc' := 99) rfl ?_
  refine g_iconst C at_99 (v := (2 : Int32)) rfl (pc' := 100) rfl ?_
  refine g_iushr C (x := p0) (y := (2 : Int32)) at_100  (pc' := 101) rfl ?_
  refine g_iconst C at_101 (v := (3 : Int32)) rfl (pc' := 102) rfl ?_
  refine g_iand C (x := (Jvm.Free.XT.ushr p0 (2 : Int32))) (y := (3 : Int32)) at_102  (pc' := 103) rfl ?_
  refine g_aload C at_103 (v := (.ref a_37)) rfl rfl (pc' := 105) rfl ?_
  refine g_aload C at_105 (v := (.ref a_51)) rfl rfl (pc' := 107) rfl ?_
  refine g_aload C at_107 (v := (.ref a_67)) rfl rfl (pc' := 109) rfl ?_
  refine g_static C (own_w hw 41 rfl) (own_w hw 42 rfl) (own_w hw 43 rfl) (own_w hw 44 rfl) (by decide) (rm_step l Z a0 hw n0 a_2 hl_29 a_105 dc a_37 a_51 a_67 ((Jvm.Free.XT.ushr p0 (2 : Int32)) &&& (3 : Int32)) 1 h_148 (SQ.sz sq_151) dd sq_151 (by decide) ge_a_2 ge_hl_29 ge_a_105 ne_32 ne_109 ne_115 ne_57 ne_73 ne_74) (st := []) [(.ref a_2), (.ref a_105), (.int ((Jvm.Free.XT.ushr p0 (2 : Int32)) &&& (3 : Int32))), (.ref a_37), (.ref a_51), (.ref a_67)] rfl rfl own_pd_8_step rfl rfl (by decide) (W := 0) (Nat.le_of_eq rfl) (by decide) (by decide) (by decide) at_109 (pc' := 112) rfl ?_
  intro v_154 h_152 q_153
  obtain ⟨rfl, sq_155⟩ := q_153
  show Go B n0 _ h_152 11 38 112 #[.val (.int p0), .val (.int p1), .val (.long p2), .second, .val (.ref a_2), .val (.ref a_37), .val (.ref a_51), .val (.ref a_67), .val (.ref a_85), .val (.ref a_105), .unset, .unset, .unset, .unset, .unset, .unset, .unset] []
  refine g_aload C at_112 (v := (.ref a_2)) rfl rfl (pc' := 114) rfl ?_
  refine g_aload C at_114 (v := (.ref a_105)) rfl rfl (pc' := 116) rfl ?_
  refine g_iload_n C at_116 (v := p0) rfl (pc' := 117) rfl ?_
  refine g_iconst C at_117 (v := (4 : Int32)) rfl (pc' := 118) rfl ?_
  refine g_iushr C (x := p0) (y := (4 : Int32)) at_118  (pc' := 119) rfl ?_
  refine g_iconst C at_119 (v := (3 : Int32)) rfl (pc' := 120) rfl ?_
  refine g_iand C (x := (Jvm.Free.XT.ushr p0 (4 : Int32))) (y := (3 : Int32)) at_120  (pc' := 121) rfl ?_
  refine g_aload C at_121 (v := (.ref a_37)) rfl rfl (pc' := 123) rfl ?_
  refine g_aload C at_123 (v := (.ref a_51)) rfl rfl (pc' := 125) rfl ?_
  refine g_aload C at_125 (v := (.ref a_67)) rfl rfl (pc' := 127) rfl ?_
  refine g_static C (own_w hw 41 rfl) (own_w hw 42 rfl) (own_w hw 43 rfl) (own_w hw 44 rfl) (by decide) (rm_step l Z a0 hw n0 a_2 hl_29 a_105 dc a_37 a_51 a_67 ((Jvm.Free.XT.ushr p0 (4 : Int32)) &&& (3 : Int32)) 2 h_152 (SQ.sz sq_155) dd sq_155 (by decide) ge_a_2 ge_hl_29 ge_a_105 ne_32 ne_109 ne_115 ne_57 ne_73 ne_74) (st := []) [(.ref a_2), (.ref a_105), (.int ((Jvm.Free.XT.ushr p0 (4 : Int32)) &&& (3 : Int32))), (.ref a_37), (.ref a_51), (.ref a_67)] rfl rfl own_pd_8_step rfl rfl (by decide) (W := 0) (Nat.le_of_eq rfl) (by decide) (by decide) (by decide) at_127 (pc' := 130) rfl ?_
  intro v_158 h_156 q_157
  obtain ⟨rfl, sq_159⟩ := q_157
  show Go B n0 _ h_156 13 51 130 #[.val (.int p0), .val (.int p1), .val (.long p2), .second, .val (.ref a_2), .val (.ref a_37), .val (.ref a_51), .val (.ref a_67), .val (.ref a_85), .val (.ref a_105), .unset, .unset, .unset, .unset, .unset, .unset, .unset] []
  refine g_aload C at_130 (v := (.ref a_2)) rfl rfl (pc' := 132) rfl ?_
  refine g_aload C at_132 (v := (.ref a_105)) rfl rfl (pc' := 134) rfl ?_
  refine g_iload_n C at_134 (v := p0) rfl (pc' := 135) rfl ?_
  refine g_bipush C at_135 (v := (6 : Int32)) rfl (pc' := 137) rfl ?_
  refine g_iushr C (x := p0) (y := (6 : Int32)) at_137  (pc' := 138) rfl ?_
  refine g_iconst C at_138 (v := (3 : Int32)) rfl (pc' := 139) rfl ?_
  refine g_iand C (x := (Jvm.Free.XT.ushr p0 (6 : Int32))) (y := (3 : Int32)) at_139  (pc' := 140) rfl ?_
  refine g_aload C at_140 (v := (.ref a_37)) rfl rfl (pc' := 142) rfl ?_
  refine g_aload C at_142 (v := (.ref a_51)) rfl rfl (pc' := 144) rfl ?_
  refine g_aload C at_144 (v := (.ref a_67)) rfl rfl (pc' := 146) rfl ?_
  refine g_static C (own_w hw 41 rfl) (own_w hw 42 rfl) (own_w hw 43 rfl) (own_w hw 44 rfl) (by decide) (rm_step l Z a0 hw n0 a_2 hl_29 a_105 dc a_37 a_51 a_67 ((Jvm.Free.XT.ushr p0 (6 : Int32)) &&& (3 : Int32)) 3 h_156 (SQ.sz sq_159) dd sq_159 (by decide) ge_a_2 ge_hl_29 ge_a_105 ne_32 ne_109 ne_115 ne_57 ne_73 ne_74) (st := []) [(.ref a_2), (.ref a_105), (.int ((Jvm.Free.XT.ushr p0 (6 : Int32)) &&& (3 : Int32))), (.ref a_37), (.ref a_51), (.ref a_67)] rfl rfl own_pd_8_step rfl rfl (by decide) (W := 0) (Nat.le_of_eq rfl) (by decide) (by decide) (by decide) at_146 (pc' := 149) rfl ?_
  intro v_162 h_160 q_161
  obtain ⟨rfl, sq_163⟩ := q_161
  show Go B n0 _ h_160 15 64 149 #[.val (.int p0), .val (.int p1), .val (.long p2), .second, .val (.ref a_2), .val (.ref a_37), .val (.ref a_51), .val (.ref a_67), .val (.ref a_85), .val (.ref a_105), .unset, .unset, .unset, .unset, .unset, .unset, .unset] []
  refine g_aload C at_149 (v := (.ref a_2)) rfl rfl (pc' := 151) rfl ?_
  refine g_aload C at_151 (v := (.ref a_105)) rfl rfl (pc' := 153) rfl ?_
  refine g_iload_n C at_153 (v := p0) rfl (pc' := 154) rfl ?_
  refine g_bipush C at_154 (v := (8 : Int32)) rfl (pc' := 156) rfl ?_
  refine g_iushr C (x := p0) (y := (8 : Int32)) at_156  (pc' := 157) rfl ?_
  refine g_iconst C at_157 (v := (3 : Int32)) rfl (pc' := 158) rfl ?_
  refine g_iand C (x := (Jvm.Free.XT.ushr p0 (8 : Int32))) (y := (3 : Int32)) at_158  (pc' := 159) rfl ?_
  refine g_aload C at_159 (v := (.ref a_37)) rfl rfl (pc' := 161) rfl ?_
  refine g_aload C at_161 (v := (.ref a_51)) rfl rfl (pc' := 163) rfl ?_
  refine g_aload C at_163 (v := (.ref a_67)) rfl rfl (pc' := 165) rfl ?_
  refine g_static C (own_w hw 41 rfl) (own_w hw 42 rfl) (own_w hw 43 rfl) (own_w hw 44 rfl) (by decide) (rm_step l Z a0 hw n0 a_2 hl_29 a_105 dc a_37 a_51 a_67 ((Jvm.Free.XT.ushr p0 (8 : Int32)) &&& (3 : Int32)) 4 h_160 (SQ.sz sq_163) dd sq_163 (by decide) ge_a_2 ge_hl_29 ge_a_105 ne_32 ne_109 ne_115 ne_57 ne_73 ne_74) (st := []) [(.ref a_2), (.ref a_105), (.int ((Jvm.Free.XT.ushr p0 (8 : Int32)) &&& (3 : Int32))), (.ref a_37), (.ref a_51), (.ref a_67)] rfl rfl own_pd_8_step rfl rfl (by decide) (W := 0) (Nat.le_of_eq rfl) (by decide) (by decide) (by decide) at_165 (pc' := 168) rfl ?_
  intro v_166 h_164 q_165
  obtain ⟨rfl, sq_167⟩ := q_165
  show Go B n0 _ h_164 17 77 168 #[.val (.int p0), .val (.int p1), .val (.long p2), .second, .val (.ref a_2), .val (.ref a_37), .val (.ref a_51), .val (.ref a_67), .val (.ref a_85), .val (.ref a_105), .unset, .unset, .unset, .unset, .unset, .unset, .unset] []
  refine g_aload C at_168 (v := (.ref a_2)) rfl rfl (pc' := 170) rfl ?_
  refine g_aload C at_170 (v := (.ref a_105)) rfl rfl (pc' := 172) rfl ?_
  refine g_iload_n C at_172 (v := p0) rfl (pc' := 173) rfl ?_
  refine g_bipush C at_173 (v := (10 : Int32)) rfl (pc' := 175) rfl ?_
  refine g_iushr C (x := p0) (y := (10 : Int32)) at_175  (pc' := 176) rfl ?_
  refine g_iconst C at_176 (v := (3 : Int32)) rfl (pc' := 177) rfl ?_
  refine g_iand C (x := (Jvm.Free.XT.ushr p0 (10 : Int32))) (y := (3 : Int32)) at_177  (pc' := 178) rfl ?_
  refine g_aload C at_178 (v := (.ref a_37)) rfl rfl (pc' := 180) rfl ?_
  refine g_aload C at_180 (v := (.ref a_51)) rfl rfl (pc' := 182) rfl ?_
  refine g_aload C at_182 (v := (.ref a_67)) rfl rfl (pc' := 184) rfl ?_
  refine g_static C (own_w hw 41 rfl) (own_w hw 42 rfl) (own_w hw 43 rfl) (own_w hw 44 rfl) (by decide) (rm_step l Z a0 hw n0 a_2 hl_29 a_105 dc a_37 a_51 a_67 ((Jvm.Free.XT.ushr p0 (10 : Int32)) &&& (3 : Int32)) 5 h_164 (SQ.sz sq_167) dd sq_167 (by decide) ge_a_2 ge_hl_29 ge_a_105 ne_32 ne_109 ne_115 ne_57 ne_73 ne_74) (st := []) [(.ref a_2), (.ref a_105), (.int ((Jvm.Free.XT.ushr p0 (10 : Int32)) &&& (3 : Int32))), (.ref a_37), (.ref a_51), (.ref a_67)] rfl rfl own_pd_8_step rfl rfl (by decide) (W := 0) (Nat.le_of_eq rfl) (by decide) (by decide) (by decide) at_184 (pc' := 187) rfl ?_
  intro v_170 h_168 q_169
  obtain ⟨rfl, sq_171⟩ := q_169
  show Go B n0 _ h_168 19 90 187 #[.val (.int p0), .val (.int p1), .val (.long p2), .second, .val (.ref a_2), .val (.ref a_37), .val (.ref a_51), .val (.ref a_67), .val (.ref a_85), .val (.ref a_105), .unset, .unset, .unset, .unset, .unset, .unset, .unset] []
  have szF := SQ.sz sq_171
  have oldF := SQ.old sq_171
  obtain ⟨t, A, O', s1, s2, s3, lw, m, z, p, -, -, hlw, -, -, -, iv, Es, S0, S1, S2, S3, S4, -, -, -, -, Aar⟩ := sq_171
  refine g_iload_n C at_187 (v := p1) rfl (pc' := 188) rfl ?_
  refine g_iconst C at_188 (v := (3 : Int32)) rfl (pc' := 189) rfl ?_
  refine g_iand C (x := p1) (y := (3 : Int32)) at_189  (pc' := 190) rfl ?_
  refine g_istore C at_190 (v := (p1 &&& (3 : Int32))) (L' := #[.val (.int p0), .val (.int p1), .val (.long p2), .second, .val (.ref a_2), .val (.ref a_37), .val (.ref a_51), .val (.ref a_67), .val (.ref a_85), .val (.ref a_105), .val (.int (p1 &&& (3 : Int32))), .unset, .unset, .unset, .unset, .unset, .unset]) rfl (pc' := 192) rfl ?_
  refine g_iload C at_192 (v := (p1 &&& (3 : Int32))) rfl (pc' := 194) rfl ?_
  by_cases hb_172 : (p1 &&& (3 : Int32)) = (0 : Int32)
  · refine g_if_n C at_194 (Jvm.Free.XT.i0_ne_f hb_172) (pc' := 197) rfl ?_
    refine g_aload C at_197 (v := (.ref a_37)) rfl rfl (pc' := 199) rfl ?_
    refine g_goto C at_199 (pc' := 226) (by decide) (by decide) ?_
    refine g_astore C at_226 (v := (.ref a_37)) (L' := #[.val (.int p0), .val (.int p1), .val (.long p2), .second, .val (.ref a_2), .val (.ref a_37), .val (.ref a_51), .val (.ref a_67), .val (.ref a_85), .val (.ref a_105), .val (.int (p1 &&& (3 : Int32))), .val (.ref a_37), .unset, .unset, .unset, .unset, .unset]) rfl rfl (pc' := 228) rfl ?_
    have t_173 : ∀ (sp : Int64) (hsp : 1 ≤ sp.toInt), Go B n0 (fun v h => v = some (.int 1)) h_168 19 90 252 #[.val (.int p0), .val (.int p1), .val (.long p2), .second, .val (.ref a_2), .val (.ref a_37), .val (.ref a_51), .val (.ref a_67), .val (.ref a_85), .val (.ref a_105), .val (.int (p1 &&& (3 : Int32))), .val (.ref a_37), .unset, .unset, .unset, .unset, .unset] [(.long sp)] := by
      intro sp hsp
      refine g_lstore C at_252 (v := sp) (L' := #[.val (.int p0), .val (.int p1), .val (.long p2), .second, .val (.ref a_2), .val (.ref a_37), .val (.ref a_51), .val (.ref a_67), .val (.ref a_85), .val (.ref a_105), .val (.int (p1 &&& (3 : Int32))), .val (.ref a_37), .val (.long sp), .second, .unset, .unset, .unset]) rfl (pc' := 254) rfl ?_
      refine g_ldc2_w C (v := (-1 : Int64)) (own_w hw 40 rfl) at_254 (pc' := 257) rfl ?_
      refine g_lstore C at_257 (v := (-1 : Int64)) (L' := #[.val (.int p0), .val (.int p1), .val (.long p2), .second, .val (.ref a_2), .val (.ref a_37), .val (.ref a_51), .val (.ref a_67), .val (.ref a_85), .val (.ref a_105), .val (.int (p1 &&& (3 : Int32))), .val (.ref a_37), .val (.long sp), .second, .val (.long (-1 : Int64)), .second, .unset]) rfl (pc' := 259) rfl ?_
      refine g_iload C at_259 (v := (p1 &&& (3 : Int32))) rfl (pc' := 261) rfl ?_
      refine g_if_y C at_261 (Jvm.Free.XT.i0_eq_t hb_172) (pc' := 275) (by decide) (by decide) ?_
      refine g_iload C at_275 (v := (p1 &&& (3 : Int32))) rfl (pc' := 277) rfl ?_
      refine g_iconst C at_277 (v := (1 : Int32)) rfl (pc' := 278) rfl ?_
      refine g_icmp_n C at_278 (Jvm.Free.XT.ii_eq_f (by rw [hb_172]; decide)) (pc' := 281) rfl ?_
      refine g_lload C at_281 (v := (-1 : Int64)) rfl (pc' := 283) rfl ?_
      refine g_aload C at_283 (v := (.ref a_105)) rfl rfl (pc' := 285) rfl ?_
      refine g_iconst C at_285 (v := (2 : Int32)) rfl (pc' := 286) rfl ?_
      refine g_laload C Aar (by decide) (i := 2) (by decide) (v := s2) rfl at_286 (pc' := 287) rfl ?_
      refine g_static C (own_w hw 106 rfl) (own_w hw 107 rfl) (own_w hw 100 rfl) (own_w hw 108 rfl) (by decide) (rm_maxL l Z a0 hw n0 (-1 : Int64) s2 h_168 szF ) (st := []) [(.long (-1 : Int64)), (.long s2)] rfl rfl own_pd_5_max rfl rfl (by decide) (W := 0) (Nat.le_of_eq rfl) (by decide) (by decide) (by decide) at_287 (pc' := 290) rfl ?_
      intro v_176 h_174 q_175
      obtain ⟨rfl, rfl⟩ := q_175
      show Go B n0 _ h_168 19 90 290 #[.val (.int p0), .val (.int p1), .val (.long p2), .second, .val (.ref a_2), .val (.ref a_37), .val (.ref a_51), .val (.ref a_67), .val (.ref a_85), .val (.ref a_105), .val (.int (p1 &&& (3 : Int32))), .val (.ref a_37), .val (.long sp), .second, .val (.long (-1 : Int64)), .second, .unset] [(.long (mxF (-1 : Int64) s2))]
      refine g_lstore C at_290 (v := (mxF (-1 : Int64) s2)) (L' := #[.val (.int p0), .val (.int p1), .val (.long p2), .second, .val (.ref a_2), .val (.ref a_37), .val (.ref a_51), .val (.ref a_67), .val (.ref a_85), .val (.ref a_105), .val (.int (p1 &&& (3 : Int32))), .val (.ref a_37), .val (.long sp), .second, .val (.long (mxF (-1 : Int64) s2)), .second, .unset]) rfl (pc' := 292) rfl ?_
      refine g_iload C at_292 (v := (p1 &&& (3 : Int32))) rfl (pc' := 294) rfl ?_
      refine g_iconst C at_294 (v := (2 : Int32)) rfl (pc' := 295) rfl ?_
      refine g_icmp_n C at_295 (Jvm.Free.XT.ii_eq_f (by rw [hb_172]; decide)) (pc' := 298) rfl ?_
      refine g_lload C at_298 (v := (mxF (-1 : Int64) s2)) rfl (pc' := 300) rfl ?_
      refine g_aload C at_300 (v := (.ref a_105)) rfl rfl (pc' := 302) rfl ?_
      refine g_iconst C at_302 (v := (3 : Int32)) rfl (pc' := 303) rfl ?_
      refine g_laload C Aar (by decide) (i := 3) (by decide) (v := s3) rfl at_303 (pc' := 304) rfl ?_
      refine g_static C (own_w hw 106 rfl) (own_w hw 107 rfl) (own_w hw 100 rfl) (own_w hw 108 rfl) (by decide) (rm_maxL l Z a0 hw n0 (mxF (-1 : Int64) s2) s3 h_168 szF ) (st := []) [(.long (mxF (-1 : Int64) s2)), (.long s3)] rfl rfl own_pd_5_max rfl rfl (by decide) (W := 0) (Nat.le_of_eq rfl) (by decide) (by decide) (by decide) at_304 (pc' := 307) rfl ?_
      intro v_179 h_177 q_178
      obtain ⟨rfl, rfl⟩ := q_178
      show Go B n0 _ h_168 19 90 307 #[.val (.int p0), .val (.int p1), .val (.long p2), .second, .val (.ref a_2), .val (.ref a_37), .val (.ref a_51), .val (.ref a_67), .val (.ref a_85), .val (.ref a_105), .val (.int (p1 &&& (3 : Int32))), .val (.ref a_37), .val (.long sp), .second, .val (.long (mxF (-1 : Int64) s2)), .second, .unset] [(.long (mxF (mxF (-1 : Int64) s2) s3))]
      refine g_lstore C at_307 (v := (mxF (mxF (-1 : Int64) s2) s3)) (L' := #[.val (.int p0), .val (.int p1), .val (.long p2), .second, .val (.ref a_2), .val (.ref a_37), .val (.ref a_51), .val (.ref a_67), .val (.ref a_85), .val (.ref a_105), .val (.int (p1 &&& (3 : Int32))), .val (.ref a_37), .val (.long sp), .second, .val (.long (mxF (mxF (-1 : Int64) s2) s3)), .second, .unset]) rfl (pc' := 309) rfl ?_
      refine g_lload C at_309 (v := (mxF (mxF (-1 : Int64) s2) s3)) rfl (pc' := 311) rfl ?_
      refine g_lload C at_311 (v := sp) rfl (pc' := 313) rfl ?_
      refine g_lcmp C (x := (mxF (mxF (-1 : Int64) s2) s3)) (y := sp) at_313 (pc' := 314) rfl ?_
      by_cases hb_180 : (mxF (mxF (-1 : Int64) s2) s3) < sp
      · refine g_if_y C at_314 (Jvm.Free.XT.ll_lt_t hb_180) (pc' := 321) (by decide) (by decide) ?_
        refine g_iconst C at_321 (v := (0 : Int32)) rfl (pc' := 322) rfl ?_
        refine g_istore C at_322 (v := (0 : Int32)) (L' := #[.val (.int p0), .val (.int p1), .val (.long p2), .second, .val (.ref a_2), .val (.ref a_37), .val (.ref a_51), .val (.ref a_67), .val (.ref a_85), .val (.ref a_105), .val (.int (p1 &&& (3 : Int32))), .val (.ref a_37), .val (.long sp), .second, .val (.long (mxF (mxF (-1 : Int64) s2) s3)), .second, .val (.int (0 : Int32))]) rfl (pc' := 324) rfl ?_
        refine g_aload C at_324 (v := (.ref a_2)) rfl rfl (pc' := 326) rfl ?_
        refine g_lload C at_326 (v := sp) rfl (pc' := 328) rfl ?_
        refine g_aload C at_328 (v := (.ref a_37)) rfl rfl (pc' := 330) rfl ?_
        refine g_virtual C (own_w hw 109 rfl) (own_w hw 110 rfl) (own_w hw 112 rfl) (own_w hw 111 rfl) (own_w hw 2 rfl) (own_w hw 113 rfl) (notFace_of_selects (args := #[]) (mvT C.2.2.2.2.1 (own_w hw 112 rfl))) (by decide) Es (rm_wa l Z a0 hw n0 a_2 hl_29 a_37 t A O' lw sp h_168 szF Es ge_a_2 S0 S1 S2 S3 S4 hlw) (st := []) [(.long sp), (.ref a_37)] rfl rfl own_pd_6_workedAbove rfl rfl (by decide) (W := 0) (Nat.le_of_eq rfl) (by decide) (by decide) (by decide) at_330 (pc' := 333) rfl ?_
        intro v_183 h_181 q_182
        obtain ⟨rfl, rfl⟩ := q_182
        show Go B n0 _ h_168 19 90 333 #[.val (.int p0), .val (.int p1), .val (.long p2), .second, .val (.ref a_2), .val (.ref a_37), .val (.ref a_51), .val (.ref a_67), .val (.ref a_85), .val (.ref a_105), .val (.int (p1 &&& (3 : Int32))), .val (.ref a_37), .val (.long sp), .second, .val (.long (mxF (mxF (-1 : Int64) s2) s3)), .second, .val (.int (0 : Int32))] [(.int (waF lw a_37 A O' sp))]
        refine g_iload C at_333 (v := (0 : Int32)) rfl (pc' := 335) rfl ?_
        refine g_icmp_n C at_335 (Jvm.Free.XT.ii_ne_f (by rw [fin_a iv ne_57 ne_73 hsp, if_pos hb_180])) (pc' := 338) rfl ?_
        refine g_iconst C at_338 (v := (1 : Int32)) rfl (pc' := 339) rfl ?_
        refine g_goto C at_339 (pc' := 343) (by decide) (by decide) ?_
        refine g_ret C (v := (.int (1 : Int32))) (ty := .boolean) rfl rfl (Or.inl ⟨rfl, Or.inr (Or.inl rfl), _, rfl⟩) at_343 (by decide) (by decide) ?_
        rfl
      · refine g_if_n C at_314 (Jvm.Free.XT.ll_lt_f hb_180) (pc' := 317) rfl ?_
        refine g_iconst C at_317 (v := (1 : Int32)) rfl (pc' := 318) rfl ?_
        refine g_goto C at_318 (pc' := 322) (by decide) (by decide) ?_
        refine g_istore C at_322 (v := (1 : Int32)) (L' := #[.val (.int p0), .val (.int p1), .val (.long p2), .second, .val (.ref a_2), .val (.ref a_37), .val (.ref a_51), .val (.ref a_67), .val (.ref a_85), .val (.ref a_105), .val (.int (p1 &&& (3 : Int32))), .val (.ref a_37), .val (.long sp), .second, .val (.long (mxF (mxF (-1 : Int64) s2) s3)), .second, .val (.int (1 : Int32))]) rfl (pc' := 324) rfl ?_
        refine g_aload C at_324 (v := (.ref a_2)) rfl rfl (pc' := 326) rfl ?_
        refine g_lload C at_326 (v := sp) rfl (pc' := 328) rfl ?_
        refine g_aload C at_328 (v := (.ref a_37)) rfl rfl (pc' := 330) rfl ?_
        refine g_virtual C (own_w hw 109 rfl) (own_w hw 110 rfl) (own_w hw 112 rfl) (own_w hw 111 rfl) (own_w hw 2 rfl) (own_w hw 113 rfl) (notFace_of_selects (args := #[]) (mvT C.2.2.2.2.1 (own_w hw 112 rfl))) (by decide) Es (rm_wa l Z a0 hw n0 a_2 hl_29 a_37 t A O' lw sp h_168 szF Es ge_a_2 S0 S1 S2 S3 S4 hlw) (st := []) [(.long sp), (.ref a_37)] rfl rfl own_pd_6_workedAbove rfl rfl (by decide) (W := 0) (Nat.le_of_eq rfl) (by decide) (by decide) (by decide) at_330 (pc' := 333) rfl ?_
        intro v_186 h_184 q_185
        obtain ⟨rfl, rfl⟩ := q_185
        show Go B n0 _ h_168 19 90 333 #[.val (.int p0), .val (.int p1), .val (.long p2), .second, .val (.ref a_2), .val (.ref a_37), .val (.ref a_51), .val (.ref a_67), .val (.ref a_85), .val (.ref a_105), .val (.int (p1 &&& (3 : Int32))), .val (.ref a_37), .val (.long sp), .second, .val (.long (mxF (mxF (-1 : Int64) s2) s3)), .second, .val (.int (1 : Int32))] [(.int (waF lw a_37 A O' sp))]
        refine g_iload C at_333 (v := (1 : Int32)) rfl (pc' := 335) rfl ?_
        refine g_icmp_n C at_335 (Jvm.Free.XT.ii_ne_f (by rw [fin_a iv ne_57 ne_73 hsp, if_neg hb_180])) (pc' := 338) rfl ?_
        refine g_iconst C at_338 (v := (1 : Int32)) rfl (pc' := 339) rfl ?_
        refine g_goto C at_339 (pc' := 343) (by decide) (by decide) ?_
        refine g_ret C (v := (.int (1 : Int32))) (ty := .boolean) rfl rfl (Or.inl ⟨rfl, Or.inr (Or.inl rfl), _, rfl⟩) at_343 (by decide) (by decide) ?_
        rfl
    refine g_lload_n C at_228 (v := p2) rfl (pc' := 229) rfl ?_
    refine g_bipush C at_229 (v := (62 : Int32)) rfl (pc' := 231) rfl ?_
    refine g_lushr C (x := p2) (y := (62 : Int32)) at_231  (pc' := 232) rfl ?_
    refine g_lconst C at_232 (v := (0 : Int64)) rfl (pc' := 233) rfl ?_
    refine g_lcmp C (x := (Jvm.Free.XT.ushrL p2 (62 : Int32))) (y := (0 : Int64)) at_233 (pc' := 234) rfl ?_
    by_cases hb_187 : (Jvm.Free.XT.ushrL p2 (62 : Int32)) = (0 : Int64)
    · refine g_if_n C at_234 (Jvm.Free.XT.ll_ne_f hb_187) (pc' := 237) rfl ?_
      refine g_lconst C at_237 (v := (1 : Int64)) rfl (pc' := 238) rfl ?_
      refine g_lload_n C at_238 (v := p2) rfl (pc' := 239) rfl ?_
      refine g_ldc2_w C (v := (7 : Int64)) (own_w hw 105 rfl) at_239 (pc' := 242) rfl ?_
      refine g_land C (x := p2) (y := (7 : Int64)) at_242  (pc' := 243) rfl ?_
      refine g_ladd C (x := (1 : Int64)) (y := (p2 &&& (7 : Int64))) at_243  (pc' := 244) rfl ?_
      refine g_goto C at_244 (pc' := 252) (by decide) (by decide) ?_
      exact t_173 ((1 : Int64) + (p2 &&& (7 : Int64))) (own_sp1 p2)
    · refine g_if_y C at_234 (Jvm.Free.XT.ll_ne_t hb_187) (pc' := 247) (by decide) (by decide) ?_
      refine g_lconst C at_247 (v := (1 : Int64)) rfl (pc' := 248) rfl ?_
      refine g_lload_n C at_248 (v := p2) rfl (pc' := 249) rfl ?_
      refine g_iconst C at_249 (v := (2 : Int32)) rfl (pc' := 250) rfl ?_
      refine g_lushr C (x := p2) (y := (2 : Int32)) at_250  (pc' := 251) rfl ?_
      refine g_ladd C (x := (1 : Int64)) (y := (Jvm.Free.XT.ushrL p2 (2 : Int32))) at_251  (pc' := 252) rfl ?_
      exact t_173 ((1 : Int64) + (Jvm.Free.XT.ushrL p2 (2 : Int32))) (own_sp2 p2)
  · refine g_if_y C at_194 (Jvm.Free.XT.i0_ne_t hb_172) (pc' := 202) (by decide) (by decide) ?_
    refine g_iload C at_202 (v := (p1 &&& (3 : Int32))) rfl (pc' := 204) rfl ?_
    refine g_iconst C at_204 (v := (1 : Int32)) rfl (pc' := 205) rfl ?_
    by_cases hb_188 : (p1 &&& (3 : Int32)) = (1 : Int32)
    · refine g_icmp_n C at_205 (Jvm.Free.XT.ii_ne_f hb_188) (pc' := 208) rfl ?_
      refine g_aload C at_208 (v := (.ref a_51)) rfl rfl (pc' := 210) rfl ?_
      refine g_goto C at_210 (pc' := 226) (by decide) (by decide) ?_
      refine g_astore C at_226 (v := (.ref a_51)) (L' := #[.val (.int p0), .val (.int p1), .val (.long p2), .second, .val (.ref a_2), .val (.ref a_37), .val (.ref a_51), .val (.ref a_67), .val (.ref a_85), .val (.ref a_105), .val (.int (p1 &&& (3 : Int32))), .val (.ref a_51), .unset, .unset, .unset, .unset, .unset]) rfl rfl (pc' := 228) rfl ?_
      have t_189 : ∀ (sp : Int64) (hsp : 1 ≤ sp.toInt), Go B n0 (fun v h => v = some (.int 1)) h_168 19 90 252 #[.val (.int p0), .val (.int p1), .val (.long p2), .second, .val (.ref a_2), .val (.ref a_37), .val (.ref a_51), .val (.ref a_67), .val (.ref a_85), .val (.ref a_105), .val (.int (p1 &&& (3 : Int32))), .val (.ref a_51), .unset, .unset, .unset, .unset, .unset] [(.long sp)] := by
        intro sp hsp
        refine g_lstore C at_252 (v := sp) (L' := #[.val (.int p0), .val (.int p1), .val (.long p2), .second, .val (.ref a_2), .val (.ref a_37), .val (.ref a_51), .val (.ref a_67), .val (.ref a_85), .val (.ref a_105), .val (.int (p1 &&& (3 : Int32))), .val (.ref a_51), .val (.long sp), .second, .unset, .unset, .unset]) rfl (pc' := 254) rfl ?_
        refine g_ldc2_w C (v := (-1 : Int64)) (own_w hw 40 rfl) at_254 (pc' := 257) rfl ?_
        refine g_lstore C at_257 (v := (-1 : Int64)) (L' := #[.val (.int p0), .val (.int p1), .val (.long p2), .second, .val (.ref a_2), .val (.ref a_37), .val (.ref a_51), .val (.ref a_67), .val (.ref a_85), .val (.ref a_105), .val (.int (p1 &&& (3 : Int32))), .val (.ref a_51), .val (.long sp), .second, .val (.long (-1 : Int64)), .second, .unset]) rfl (pc' := 259) rfl ?_
        refine g_iload C at_259 (v := (p1 &&& (3 : Int32))) rfl (pc' := 261) rfl ?_
        refine g_if_n C at_261 (Jvm.Free.XT.i0_eq_f hb_172) (pc' := 264) rfl ?_
        refine g_lload C at_264 (v := (-1 : Int64)) rfl (pc' := 266) rfl ?_
        refine g_aload C at_266 (v := (.ref a_105)) rfl rfl (pc' := 268) rfl ?_
        refine g_iconst C at_268 (v := (1 : Int32)) rfl (pc' := 269) rfl ?_
        refine g_laload C Aar (by decide) (i := 1) (by decide) (v := s1) rfl at_269 (pc' := 270) rfl ?_
        refine g_static C (own_w hw 106 rfl) (own_w hw 107 rfl) (own_w hw 100 rfl) (own_w hw 108 rfl) (by decide) (rm_maxL l Z a0 hw n0 (-1 : Int64) s1 h_168 szF ) (st := []) [(.long (-1 : Int64)), (.long s1)] rfl rfl own_pd_5_max rfl rfl (by decide) (W := 0) (Nat.le_of_eq rfl) (by decide) (by decide) (by decide) at_270 (pc' := 273) rfl ?_
        intro v_192 h_190 q_191
        obtain ⟨rfl, rfl⟩ := q_191
        show Go B n0 _ h_168 19 90 273 #[.val (.int p0), .val (.int p1), .val (.long p2), .second, .val (.ref a_2), .val (.ref a_37), .val (.ref a_51), .val (.ref a_67), .val (.ref a_85), .val (.ref a_105), .val (.int (p1 &&& (3 : Int32))), .val (.ref a_51), .val (.long sp), .second, .val (.long (-1 : Int64)), .second, .unset] [(.long (mxF (-1 : Int64) s1))]
        refine g_lstore C at_273 (v := (mxF (-1 : Int64) s1)) (L' := #[.val (.int p0), .val (.int p1), .val (.long p2), .second, .val (.ref a_2), .val (.ref a_37), .val (.ref a_51), .val (.ref a_67), .val (.ref a_85), .val (.ref a_105), .val (.int (p1 &&& (3 : Int32))), .val (.ref a_51), .val (.long sp), .second, .val (.long (mxF (-1 : Int64) s1)), .second, .unset]) rfl (pc' := 275) rfl ?_
        refine g_iload C at_275 (v := (p1 &&& (3 : Int32))) rfl (pc' := 277) rfl ?_
        refine g_iconst C at_277 (v := (1 : Int32)) rfl (pc' := 278) rfl ?_
        refine g_icmp_y C at_278 (Jvm.Free.XT.ii_eq_t hb_188) (pc' := 292) (by decide) (by decide) ?_
        refine g_iload C at_292 (v := (p1 &&& (3 : Int32))) rfl (pc' := 294) rfl ?_
        refine g_iconst C at_294 (v := (2 : Int32)) rfl (pc' := 295) rfl ?_
        refine g_icmp_n C at_295 (Jvm.Free.XT.ii_eq_f (by rw [hb_188]; decide)) (pc' := 298) rfl ?_
        refine g_lload C at_298 (v := (mxF (-1 : Int64) s1)) rfl (pc' := 300) rfl ?_
        refine g_aload C at_300 (v := (.ref a_105)) rfl rfl (pc' := 302) rfl ?_
        refine g_iconst C at_302 (v := (3 : Int32)) rfl (pc' := 303) rfl ?_
        refine g_laload C Aar (by decide) (i := 3) (by decide) (v := s3) rfl at_303 (pc' := 304) rfl ?_
        refine g_static C (own_w hw 106 rfl) (own_w hw 107 rfl) (own_w hw 100 rfl) (own_w hw 108 rfl) (by decide) (rm_maxL l Z a0 hw n0 (mxF (-1 : Int64) s1) s3 h_168 szF ) (st := []) [(.long (mxF (-1 : Int64) s1)), (.long s3)] rfl rfl own_pd_5_max rfl rfl (by decide) (W := 0) (Nat.le_of_eq rfl) (by decide) (by decide) (by decide) at_304 (pc' := 307) rfl ?_
        intro v_195 h_193 q_194
        obtain ⟨rfl, rfl⟩ := q_194
        show Go B n0 _ h_168 19 90 307 #[.val (.int p0), .val (.int p1), .val (.long p2), .second, .val (.ref a_2), .val (.ref a_37), .val (.ref a_51), .val (.ref a_67), .val (.ref a_85), .val (.ref a_105), .val (.int (p1 &&& (3 : Int32))), .val (.ref a_51), .val (.long sp), .second, .val (.long (mxF (-1 : Int64) s1)), .second, .unset] [(.long (mxF (mxF (-1 : Int64) s1) s3))]
        refine g_lstore C at_307 (v := (mxF (mxF (-1 : Int64) s1) s3)) (L' := #[.val (.int p0), .val (.int p1), .val (.long p2), .second, .val (.ref a_2), .val (.ref a_37), .val (.ref a_51), .val (.ref a_67), .val (.ref a_85), .val (.ref a_105), .val (.int (p1 &&& (3 : Int32))), .val (.ref a_51), .val (.long sp), .second, .val (.long (mxF (mxF (-1 : Int64) s1) s3)), .second, .unset]) rfl (pc' := 309) rfl ?_
        refine g_lload C at_309 (v := (mxF (mxF (-1 : Int64) s1) s3)) rfl (pc' := 311) rfl ?_
        refine g_lload C at_311 (v := sp) rfl (pc' := 313) rfl ?_
        refine g_lcmp C (x := (mxF (mxF (-1 : Int64) s1) s3)) (y := sp) at_313 (pc' := 314) rfl ?_
        by_cases hb_196 : (mxF (mxF (-1 : Int64) s1) s3) < sp
        · refine g_if_y C at_314 (Jvm.Free.XT.ll_lt_t hb_196) (pc' := 321) (by decide) (by decide) ?_
          refine g_iconst C at_321 (v := (0 : Int32)) rfl (pc' := 322) rfl ?_
          refine g_istore C at_322 (v := (0 : Int32)) (L' := #[.val (.int p0), .val (.int p1), .val (.long p2), .second, .val (.ref a_2), .val (.ref a_37), .val (.ref a_51), .val (.ref a_67), .val (.ref a_85), .val (.ref a_105), .val (.int (p1 &&& (3 : Int32))), .val (.ref a_51), .val (.long sp), .second, .val (.long (mxF (mxF (-1 : Int64) s1) s3)), .second, .val (.int (0 : Int32))]) rfl (pc' := 324) rfl ?_
          refine g_aload C at_324 (v := (.ref a_2)) rfl rfl (pc' := 326) rfl ?_
          refine g_lload C at_326 (v := sp) rfl (pc' := 328) rfl ?_
          refine g_aload C at_328 (v := (.ref a_51)) rfl rfl (pc' := 330) rfl ?_
          refine g_virtual C (own_w hw 109 rfl) (own_w hw 110 rfl) (own_w hw 112 rfl) (own_w hw 111 rfl) (own_w hw 2 rfl) (own_w hw 113 rfl) (notFace_of_selects (args := #[]) (mvT C.2.2.2.2.1 (own_w hw 112 rfl))) (by decide) Es (rm_wa l Z a0 hw n0 a_2 hl_29 a_51 t A O' lw sp h_168 szF Es ge_a_2 S0 S1 S2 S3 S4 hlw) (st := []) [(.long sp), (.ref a_51)] rfl rfl own_pd_6_workedAbove rfl rfl (by decide) (W := 0) (Nat.le_of_eq rfl) (by decide) (by decide) (by decide) at_330 (pc' := 333) rfl ?_
          intro v_199 h_197 q_198
          obtain ⟨rfl, rfl⟩ := q_198
          show Go B n0 _ h_168 19 90 333 #[.val (.int p0), .val (.int p1), .val (.long p2), .second, .val (.ref a_2), .val (.ref a_37), .val (.ref a_51), .val (.ref a_67), .val (.ref a_85), .val (.ref a_105), .val (.int (p1 &&& (3 : Int32))), .val (.ref a_51), .val (.long sp), .second, .val (.long (mxF (mxF (-1 : Int64) s1) s3)), .second, .val (.int (0 : Int32))] [(.int (waF lw a_51 A O' sp))]
          refine g_iload C at_333 (v := (0 : Int32)) rfl (pc' := 335) rfl ?_
          refine g_icmp_n C at_335 (Jvm.Free.XT.ii_ne_f (by rw [fin_b iv ne_57 ne_74 hsp, if_pos hb_196])) (pc' := 338) rfl ?_
          refine g_iconst C at_338 (v := (1 : Int32)) rfl (pc' := 339) rfl ?_
          refine g_goto C at_339 (pc' := 343) (by decide) (by decide) ?_
          refine g_ret C (v := (.int (1 : Int32))) (ty := .boolean) rfl rfl (Or.inl ⟨rfl, Or.inr (Or.inl rfl), _, rfl⟩) at_343 (by decide) (by decide) ?_
          rfl
        · refine g_if_n C at_314 (Jvm.Free.XT.ll_lt_f hb_196) (pc' := 317) rfl ?_
          refine g_iconst C at_317 (v := (1 : Int32)) rfl (pc' := 318) rfl ?_
          refine g_goto C at_318 (pc' := 322) (by decide) (by decide) ?_
          refine g_istore C at_322 (v := (1 : Int32)) (L' := #[.val (.int p0), .val (.int p1), .val (.long p2), .second, .val (.ref a_2), .val (.ref a_37), .val (.ref a_51), .val (.ref a_67), .val (.ref a_85), .val (.ref a_105), .val (.int (p1 &&& (3 : Int32))), .val (.ref a_51), .val (.long sp), .second, .val (.long (mxF (mxF (-1 : Int64) s1) s3)), .second, .val (.int (1 : Int32))]) rfl (pc' := 324) rfl ?_
          refine g_aload C at_324 (v := (.ref a_2)) rfl rfl (pc' := 326) rfl ?_
          refine g_lload C at_326 (v := sp) rfl (pc' := 328) rfl ?_
          refine g_aload C at_328 (v := (.ref a_51)) rfl rfl (pc' := 330) rfl ?_
          refine g_virtual C (own_w hw 109 rfl) (own_w hw 110 rfl) (own_w hw 112 rfl) (own_w hw 111 rfl) (own_w hw 2 rfl) (own_w hw 113 rfl) (notFace_of_selects (args := #[]) (mvT C.2.2.2.2.1 (own_w hw 112 rfl))) (by decide) Es (rm_wa l Z a0 hw n0 a_2 hl_29 a_51 t A O' lw sp h_168 szF Es ge_a_2 S0 S1 S2 S3 S4 hlw) (st := []) [(.long sp), (.ref a_51)] rfl rfl own_pd_6_workedAbove rfl rfl (by decide) (W := 0) (Nat.le_of_eq rfl) (by decide) (by decide) (by decide) at_330 (pc' := 333) rfl ?_
          intro v_202 h_200 q_201
          obtain ⟨rfl, rfl⟩ := q_201
          show Go B n0 _ h_168 19 90 333 #[.val (.int p0), .val (.int p1), .val (.long p2), .second, .val (.ref a_2), .val (.ref a_37), .val (.ref a_51), .val (.ref a_67), .val (.ref a_85), .val (.ref a_105), .val (.int (p1 &&& (3 : Int32))), .val (.ref a_51), .val (.long sp), .second, .val (.long (mxF (mxF (-1 : Int64) s1) s3)), .second, .val (.int (1 : Int32))] [(.int (waF lw a_51 A O' sp))]
          refine g_iload C at_333 (v := (1 : Int32)) rfl (pc' := 335) rfl ?_
          refine g_icmp_n C at_335 (Jvm.Free.XT.ii_ne_f (by rw [fin_b iv ne_57 ne_74 hsp, if_neg hb_196])) (pc' := 338) rfl ?_
          refine g_iconst C at_338 (v := (1 : Int32)) rfl (pc' := 339) rfl ?_
          refine g_goto C at_339 (pc' := 343) (by decide) (by decide) ?_
          refine g_ret C (v := (.int (1 : Int32))) (ty := .boolean) rfl rfl (Or.inl ⟨rfl, Or.inr (Or.inl rfl), _, rfl⟩) at_343 (by decide) (by decide) ?_
          rfl
      refine g_lload_n C at_228 (v := p2) rfl (pc' := 229) rfl ?_
      refine g_bipush C at_229 (v := (62 : Int32)) rfl (pc' := 231) rfl ?_
      refine g_lushr C (x := p2) (y := (62 : Int32)) at_231  (pc' := 232) rfl ?_
      refine g_lconst C at_232 (v := (0 : Int64)) rfl (pc' := 233) rfl ?_
      refine g_lcmp C (x := (Jvm.Free.XT.ushrL p2 (62 : Int32))) (y := (0 : Int64)) at_233 (pc' := 234) rfl ?_
      by_cases hb_203 : (Jvm.Free.XT.ushrL p2 (62 : Int32)) = (0 : Int64)
      · refine g_if_n C at_234 (Jvm.Free.XT.ll_ne_f hb_203) (pc' := 237) rfl ?_
        refine g_lconst C at_237 (v := (1 : Int64)) rfl (pc' := 238) rfl ?_
        refine g_lload_n C at_238 (v := p2) rfl (pc' := 239) rfl ?_
        refine g_ldc2_w C (v := (7 : Int64)) (own_w hw 105 rfl) at_239 (pc' := 242) rfl ?_
        refine g_land C (x := p2) (y := (7 : Int64)) at_242  (pc' := 243) rfl ?_
        refine g_ladd C (x := (1 : Int64)) (y := (p2 &&& (7 : Int64))) at_243  (pc' := 244) rfl ?_
        refine g_goto C at_244 (pc' := 252) (by decide) (by decide) ?_
        exact t_189 ((1 : Int64) + (p2 &&& (7 : Int64))) (own_sp1 p2)
      · refine g_if_y C at_234 (Jvm.Free.XT.ll_ne_t hb_203) (pc' := 247) (by decide) (by decide) ?_
        refine g_lconst C at_247 (v := (1 : Int64)) rfl (pc' := 248) rfl ?_
        refine g_lload_n C at_248 (v := p2) rfl (pc' := 249) rfl ?_
        refine g_iconst C at_249 (v := (2 : Int32)) rfl (pc' := 250) rfl ?_
        refine g_lushr C (x := p2) (y := (2 : Int32)) at_250  (pc' := 251) rfl ?_
        refine g_ladd C (x := (1 : Int64)) (y := (Jvm.Free.XT.ushrL p2 (2 : Int32))) at_251  (pc' := 252) rfl ?_
        exact t_189 ((1 : Int64) + (Jvm.Free.XT.ushrL p2 (2 : Int32))) (own_sp2 p2)
    · refine g_icmp_y C at_205 (Jvm.Free.XT.ii_ne_t hb_188) (pc' := 213) (by decide) (by decide) ?_
      refine g_iload C at_213 (v := (p1 &&& (3 : Int32))) rfl (pc' := 215) rfl ?_
      refine g_iconst C at_215 (v := (2 : Int32)) rfl (pc' := 216) rfl ?_
      by_cases hb_204 : (p1 &&& (3 : Int32)) = (2 : Int32)
      · refine g_icmp_n C at_216 (Jvm.Free.XT.ii_ne_f hb_204) (pc' := 219) rfl ?_
        refine g_aload C at_219 (v := (.ref a_67)) rfl rfl (pc' := 221) rfl ?_
        refine g_goto C at_221 (pc' := 226) (by decide) (by decide) ?_
        refine g_astore C at_226 (v := (.ref a_67)) (L' := #[.val (.int p0), .val (.int p1), .val (.long p2), .second, .val (.ref a_2), .val (.ref a_37), .val (.ref a_51), .val (.ref a_67), .val (.ref a_85), .val (.ref a_105), .val (.int (p1 &&& (3 : Int32))), .val (.ref a_67), .unset, .unset, .unset, .unset, .unset]) rfl rfl (pc' := 228) rfl ?_
        have t_205 : ∀ (sp : Int64) (hsp : 1 ≤ sp.toInt), Go B n0 (fun v h => v = some (.int 1)) h_168 19 90 252 #[.val (.int p0), .val (.int p1), .val (.long p2), .second, .val (.ref a_2), .val (.ref a_37), .val (.ref a_51), .val (.ref a_67), .val (.ref a_85), .val (.ref a_105), .val (.int (p1 &&& (3 : Int32))), .val (.ref a_67), .unset, .unset, .unset, .unset, .unset] [(.long sp)] := by
          intro sp hsp
          refine g_lstore C at_252 (v := sp) (L' := #[.val (.int p0), .val (.int p1), .val (.long p2), .second, .val (.ref a_2), .val (.ref a_37), .val (.ref a_51), .val (.ref a_67), .val (.ref a_85), .val (.ref a_105), .val (.int (p1 &&& (3 : Int32))), .val (.ref a_67), .val (.long sp), .second, .unset, .unset, .unset]) rfl (pc' := 254) rfl ?_
          refine g_ldc2_w C (v := (-1 : Int64)) (own_w hw 40 rfl) at_254 (pc' := 257) rfl ?_
          refine g_lstore C at_257 (v := (-1 : Int64)) (L' := #[.val (.int p0), .val (.int p1), .val (.long p2), .second, .val (.ref a_2), .val (.ref a_37), .val (.ref a_51), .val (.ref a_67), .val (.ref a_85), .val (.ref a_105), .val (.int (p1 &&& (3 : Int32))), .val (.ref a_67), .val (.long sp), .second, .val (.long (-1 : Int64)), .second, .unset]) rfl (pc' := 259) rfl ?_
          refine g_iload C at_259 (v := (p1 &&& (3 : Int32))) rfl (pc' := 261) rfl ?_
          refine g_if_n C at_261 (Jvm.Free.XT.i0_eq_f hb_172) (pc' := 264) rfl ?_
          refine g_lload C at_264 (v := (-1 : Int64)) rfl (pc' := 266) rfl ?_
          refine g_aload C at_266 (v := (.ref a_105)) rfl rfl (pc' := 268) rfl ?_
          refine g_iconst C at_268 (v := (1 : Int32)) rfl (pc' := 269) rfl ?_
          refine g_laload C Aar (by decide) (i := 1) (by decide) (v := s1) rfl at_269 (pc' := 270) rfl ?_
          refine g_static C (own_w hw 106 rfl) (own_w hw 107 rfl) (own_w hw 100 rfl) (own_w hw 108 rfl) (by decide) (rm_maxL l Z a0 hw n0 (-1 : Int64) s1 h_168 szF ) (st := []) [(.long (-1 : Int64)), (.long s1)] rfl rfl own_pd_5_max rfl rfl (by decide) (W := 0) (Nat.le_of_eq rfl) (by decide) (by decide) (by decide) at_270 (pc' := 273) rfl ?_
          intro v_208 h_206 q_207
          obtain ⟨rfl, rfl⟩ := q_207
          show Go B n0 _ h_168 19 90 273 #[.val (.int p0), .val (.int p1), .val (.long p2), .second, .val (.ref a_2), .val (.ref a_37), .val (.ref a_51), .val (.ref a_67), .val (.ref a_85), .val (.ref a_105), .val (.int (p1 &&& (3 : Int32))), .val (.ref a_67), .val (.long sp), .second, .val (.long (-1 : Int64)), .second, .unset] [(.long (mxF (-1 : Int64) s1))]
          refine g_lstore C at_273 (v := (mxF (-1 : Int64) s1)) (L' := #[.val (.int p0), .val (.int p1), .val (.long p2), .second, .val (.ref a_2), .val (.ref a_37), .val (.ref a_51), .val (.ref a_67), .val (.ref a_85), .val (.ref a_105), .val (.int (p1 &&& (3 : Int32))), .val (.ref a_67), .val (.long sp), .second, .val (.long (mxF (-1 : Int64) s1)), .second, .unset]) rfl (pc' := 275) rfl ?_
          refine g_iload C at_275 (v := (p1 &&& (3 : Int32))) rfl (pc' := 277) rfl ?_
          refine g_iconst C at_277 (v := (1 : Int32)) rfl (pc' := 278) rfl ?_
          refine g_icmp_n C at_278 (Jvm.Free.XT.ii_eq_f hb_188) (pc' := 281) rfl ?_
          refine g_lload C at_281 (v := (mxF (-1 : Int64) s1)) rfl (pc' := 283) rfl ?_
          refine g_aload C at_283 (v := (.ref a_105)) rfl rfl (pc' := 285) rfl ?_
          refine g_iconst C at_285 (v := (2 : Int32)) rfl (pc' := 286) rfl ?_
          refine g_laload C Aar (by decide) (i := 2) (by decide) (v := s2) rfl at_286 (pc' := 287) rfl ?_
          refine g_static C (own_w hw 106 rfl) (own_w hw 107 rfl) (own_w hw 100 rfl) (own_w hw 108 rfl) (by decide) (rm_maxL l Z a0 hw n0 (mxF (-1 : Int64) s1) s2 h_168 szF ) (st := []) [(.long (mxF (-1 : Int64) s1)), (.long s2)] rfl rfl own_pd_5_max rfl rfl (by decide) (W := 0) (Nat.le_of_eq rfl) (by decide) (by decide) (by decide) at_287 (pc' := 290) rfl ?_
          intro v_211 h_209 q_210
          obtain ⟨rfl, rfl⟩ := q_210
          show Go B n0 _ h_168 19 90 290 #[.val (.int p0), .val (.int p1), .val (.long p2), .second, .val (.ref a_2), .val (.ref a_37), .val (.ref a_51), .val (.ref a_67), .val (.ref a_85), .val (.ref a_105), .val (.int (p1 &&& (3 : Int32))), .val (.ref a_67), .val (.long sp), .second, .val (.long (mxF (-1 : Int64) s1)), .second, .unset] [(.long (mxF (mxF (-1 : Int64) s1) s2))]
          refine g_lstore C at_290 (v := (mxF (mxF (-1 : Int64) s1) s2)) (L' := #[.val (.int p0), .val (.int p1), .val (.long p2), .second, .val (.ref a_2), .val (.ref a_37), .val (.ref a_51), .val (.ref a_67), .val (.ref a_85), .val (.ref a_105), .val (.int (p1 &&& (3 : Int32))), .val (.ref a_67), .val (.long sp), .second, .val (.long (mxF (mxF (-1 : Int64) s1) s2)), .second, .unset]) rfl (pc' := 292) rfl ?_
          refine g_iload C at_292 (v := (p1 &&& (3 : Int32))) rfl (pc' := 294) rfl ?_
          refine g_iconst C at_294 (v := (2 : Int32)) rfl (pc' := 295) rfl ?_
          refine g_icmp_y C at_295 (Jvm.Free.XT.ii_eq_t hb_204) (pc' := 309) (by decide) (by decide) ?_
          refine g_lload C at_309 (v := (mxF (mxF (-1 : Int64) s1) s2)) rfl (pc' := 311) rfl ?_
          refine g_lload C at_311 (v := sp) rfl (pc' := 313) rfl ?_
          refine g_lcmp C (x := (mxF (mxF (-1 : Int64) s1) s2)) (y := sp) at_313 (pc' := 314) rfl ?_
          by_cases hb_212 : (mxF (mxF (-1 : Int64) s1) s2) < sp
          · refine g_if_y C at_314 (Jvm.Free.XT.ll_lt_t hb_212) (pc' := 321) (by decide) (by decide) ?_
            refine g_iconst C at_321 (v := (0 : Int32)) rfl (pc' := 322) rfl ?_
            refine g_istore C at_322 (v := (0 : Int32)) (L' := #[.val (.int p0), .val (.int p1), .val (.long p2), .second, .val (.ref a_2), .val (.ref a_37), .val (.ref a_51), .val (.ref a_67), .val (.ref a_85), .val (.ref a_105), .val (.int (p1 &&& (3 : Int32))), .val (.ref a_67), .val (.long sp), .second, .val (.long (mxF (mxF (-1 : Int64) s1) s2)), .second, .val (.int (0 : Int32))]) rfl (pc' := 324) rfl ?_
            refine g_aload C at_324 (v := (.ref a_2)) rfl rfl (pc' := 326) rfl ?_
            refine g_lload C at_326 (v := sp) rfl (pc' := 328) rfl ?_
            refine g_aload C at_328 (v := (.ref a_67)) rfl rfl (pc' := 330) rfl ?_
            refine g_virtual C (own_w hw 109 rfl) (own_w hw 110 rfl) (own_w hw 112 rfl) (own_w hw 111 rfl) (own_w hw 2 rfl) (own_w hw 113 rfl) (notFace_of_selects (args := #[]) (mvT C.2.2.2.2.1 (own_w hw 112 rfl))) (by decide) Es (rm_wa l Z a0 hw n0 a_2 hl_29 a_67 t A O' lw sp h_168 szF Es ge_a_2 S0 S1 S2 S3 S4 hlw) (st := []) [(.long sp), (.ref a_67)] rfl rfl own_pd_6_workedAbove rfl rfl (by decide) (W := 0) (Nat.le_of_eq rfl) (by decide) (by decide) (by decide) at_330 (pc' := 333) rfl ?_
            intro v_215 h_213 q_214
            obtain ⟨rfl, rfl⟩ := q_214
            show Go B n0 _ h_168 19 90 333 #[.val (.int p0), .val (.int p1), .val (.long p2), .second, .val (.ref a_2), .val (.ref a_37), .val (.ref a_51), .val (.ref a_67), .val (.ref a_85), .val (.ref a_105), .val (.int (p1 &&& (3 : Int32))), .val (.ref a_67), .val (.long sp), .second, .val (.long (mxF (mxF (-1 : Int64) s1) s2)), .second, .val (.int (0 : Int32))] [(.int (waF lw a_67 A O' sp))]
            refine g_iload C at_333 (v := (0 : Int32)) rfl (pc' := 335) rfl ?_
            refine g_icmp_n C at_335 (Jvm.Free.XT.ii_ne_f (by rw [fin_c iv ne_73 ne_74 hsp, if_pos hb_212])) (pc' := 338) rfl ?_
            refine g_iconst C at_338 (v := (1 : Int32)) rfl (pc' := 339) rfl ?_
            refine g_goto C at_339 (pc' := 343) (by decide) (by decide) ?_
            refine g_ret C (v := (.int (1 : Int32))) (ty := .boolean) rfl rfl (Or.inl ⟨rfl, Or.inr (Or.inl rfl), _, rfl⟩) at_343 (by decide) (by decide) ?_
            rfl
          · refine g_if_n C at_314 (Jvm.Free.XT.ll_lt_f hb_212) (pc' := 317) rfl ?_
            refine g_iconst C at_317 (v := (1 : Int32)) rfl (pc' := 318) rfl ?_
            refine g_goto C at_318 (pc' := 322) (by decide) (by decide) ?_
            refine g_istore C at_322 (v := (1 : Int32)) (L' := #[.val (.int p0), .val (.int p1), .val (.long p2), .second, .val (.ref a_2), .val (.ref a_37), .val (.ref a_51), .val (.ref a_67), .val (.ref a_85), .val (.ref a_105), .val (.int (p1 &&& (3 : Int32))), .val (.ref a_67), .val (.long sp), .second, .val (.long (mxF (mxF (-1 : Int64) s1) s2)), .second, .val (.int (1 : Int32))]) rfl (pc' := 324) rfl ?_
            refine g_aload C at_324 (v := (.ref a_2)) rfl rfl (pc' := 326) rfl ?_
            refine g_lload C at_326 (v := sp) rfl (pc' := 328) rfl ?_
            refine g_aload C at_328 (v := (.ref a_67)) rfl rfl (pc' := 330) rfl ?_
            refine g_virtual C (own_w hw 109 rfl) (own_w hw 110 rfl) (own_w hw 112 rfl) (own_w hw 111 rfl) (own_w hw 2 rfl) (own_w hw 113 rfl) (notFace_of_selects (args := #[]) (mvT C.2.2.2.2.1 (own_w hw 112 rfl))) (by decide) Es (rm_wa l Z a0 hw n0 a_2 hl_29 a_67 t A O' lw sp h_168 szF Es ge_a_2 S0 S1 S2 S3 S4 hlw) (st := []) [(.long sp), (.ref a_67)] rfl rfl own_pd_6_workedAbove rfl rfl (by decide) (W := 0) (Nat.le_of_eq rfl) (by decide) (by decide) (by decide) at_330 (pc' := 333) rfl ?_
            intro v_218 h_216 q_217
            obtain ⟨rfl, rfl⟩ := q_217
            show Go B n0 _ h_168 19 90 333 #[.val (.int p0), .val (.int p1), .val (.long p2), .second, .val (.ref a_2), .val (.ref a_37), .val (.ref a_51), .val (.ref a_67), .val (.ref a_85), .val (.ref a_105), .val (.int (p1 &&& (3 : Int32))), .val (.ref a_67), .val (.long sp), .second, .val (.long (mxF (mxF (-1 : Int64) s1) s2)), .second, .val (.int (1 : Int32))] [(.int (waF lw a_67 A O' sp))]
            refine g_iload C at_333 (v := (1 : Int32)) rfl (pc' := 335) rfl ?_
            refine g_icmp_n C at_335 (Jvm.Free.XT.ii_ne_f (by rw [fin_c iv ne_73 ne_74 hsp, if_neg hb_212])) (pc' := 338) rfl ?_
            refine g_iconst C at_338 (v := (1 : Int32)) rfl (pc' := 339) rfl ?_
            refine g_goto C at_339 (pc' := 343) (by decide) (by decide) ?_
            refine g_ret C (v := (.int (1 : Int32))) (ty := .boolean) rfl rfl (Or.inl ⟨rfl, Or.inr (Or.inl rfl), _, rfl⟩) at_343 (by decide) (by decide) ?_
            rfl
        refine g_lload_n C at_228 (v := p2) rfl (pc' := 229) rfl ?_
        refine g_bipush C at_229 (v := (62 : Int32)) rfl (pc' := 231) rfl ?_
        refine g_lushr C (x := p2) (y := (62 : Int32)) at_231  (pc' := 232) rfl ?_
        refine g_lconst C at_232 (v := (0 : Int64)) rfl (pc' := 233) rfl ?_
        refine g_lcmp C (x := (Jvm.Free.XT.ushrL p2 (62 : Int32))) (y := (0 : Int64)) at_233 (pc' := 234) rfl ?_
        by_cases hb_219 : (Jvm.Free.XT.ushrL p2 (62 : Int32)) = (0 : Int64)
        · refine g_if_n C at_234 (Jvm.Free.XT.ll_ne_f hb_219) (pc' := 237) rfl ?_
          refine g_lconst C at_237 (v := (1 : Int64)) rfl (pc' := 238) rfl ?_
          refine g_lload_n C at_238 (v := p2) rfl (pc' := 239) rfl ?_
          refine g_ldc2_w C (v := (7 : Int64)) (own_w hw 105 rfl) at_239 (pc' := 242) rfl ?_
          refine g_land C (x := p2) (y := (7 : Int64)) at_242  (pc' := 243) rfl ?_
          refine g_ladd C (x := (1 : Int64)) (y := (p2 &&& (7 : Int64))) at_243  (pc' := 244) rfl ?_
          refine g_goto C at_244 (pc' := 252) (by decide) (by decide) ?_
          exact t_205 ((1 : Int64) + (p2 &&& (7 : Int64))) (own_sp1 p2)
        · refine g_if_y C at_234 (Jvm.Free.XT.ll_ne_t hb_219) (pc' := 247) (by decide) (by decide) ?_
          refine g_lconst C at_247 (v := (1 : Int64)) rfl (pc' := 248) rfl ?_
          refine g_lload_n C at_248 (v := p2) rfl (pc' := 249) rfl ?_
          refine g_iconst C at_249 (v := (2 : Int32)) rfl (pc' := 250) rfl ?_
          refine g_lushr C (x := p2) (y := (2 : Int32)) at_250  (pc' := 251) rfl ?_
          refine g_ladd C (x := (1 : Int64)) (y := (Jvm.Free.XT.ushrL p2 (2 : Int32))) at_251  (pc' := 252) rfl ?_
          exact t_205 ((1 : Int64) + (Jvm.Free.XT.ushrL p2 (2 : Int32))) (own_sp2 p2)
      · refine g_icmp_y C at_216 (Jvm.Free.XT.ii_ne_t hb_204) (pc' := 224) (by decide) (by decide) ?_
        refine g_aload C at_224 (v := (.ref a_85)) rfl rfl (pc' := 226) rfl ?_
        refine g_astore C at_226 (v := (.ref a_85)) (L' := #[.val (.int p0), .val (.int p1), .val (.long p2), .second, .val (.ref a_2), .val (.ref a_37), .val (.ref a_51), .val (.ref a_67), .val (.ref a_85), .val (.ref a_105), .val (.int (p1 &&& (3 : Int32))), .val (.ref a_85), .unset, .unset, .unset, .unset, .unset]) rfl rfl (pc' := 228) rfl ?_
        have t_220 : ∀ (sp : Int64) (hsp : 1 ≤ sp.toInt), Go B n0 (fun v h => v = some (.int 1)) h_168 19 90 252 #[.val (.int p0), .val (.int p1), .val (.long p2), .second, .val (.ref a_2), .val (.ref a_37), .val (.ref a_51), .val (.ref a_67), .val (.ref a_85), .val (.ref a_105), .val (.int (p1 &&& (3 : Int32))), .val (.ref a_85), .unset, .unset, .unset, .unset, .unset] [(.long sp)] := by
          intro sp hsp
          refine g_lstore C at_252 (v := sp) (L' := #[.val (.int p0), .val (.int p1), .val (.long p2), .second, .val (.ref a_2), .val (.ref a_37), .val (.ref a_51), .val (.ref a_67), .val (.ref a_85), .val (.ref a_105), .val (.int (p1 &&& (3 : Int32))), .val (.ref a_85), .val (.long sp), .second, .unset, .unset, .unset]) rfl (pc' := 254) rfl ?_
          refine g_ldc2_w C (v := (-1 : Int64)) (own_w hw 40 rfl) at_254 (pc' := 257) rfl ?_
          refine g_lstore C at_257 (v := (-1 : Int64)) (L' := #[.val (.int p0), .val (.int p1), .val (.long p2), .second, .val (.ref a_2), .val (.ref a_37), .val (.ref a_51), .val (.ref a_67), .val (.ref a_85), .val (.ref a_105), .val (.int (p1 &&& (3 : Int32))), .val (.ref a_85), .val (.long sp), .second, .val (.long (-1 : Int64)), .second, .unset]) rfl (pc' := 259) rfl ?_
          refine g_iload C at_259 (v := (p1 &&& (3 : Int32))) rfl (pc' := 261) rfl ?_
          refine g_if_n C at_261 (Jvm.Free.XT.i0_eq_f hb_172) (pc' := 264) rfl ?_
          refine g_lload C at_264 (v := (-1 : Int64)) rfl (pc' := 266) rfl ?_
          refine g_aload C at_266 (v := (.ref a_105)) rfl rfl (pc' := 268) rfl ?_
          refine g_iconst C at_268 (v := (1 : Int32)) rfl (pc' := 269) rfl ?_
          refine g_laload C Aar (by decide) (i := 1) (by decide) (v := s1) rfl at_269 (pc' := 270) rfl ?_
          refine g_static C (own_w hw 106 rfl) (own_w hw 107 rfl) (own_w hw 100 rfl) (own_w hw 108 rfl) (by decide) (rm_maxL l Z a0 hw n0 (-1 : Int64) s1 h_168 szF ) (st := []) [(.long (-1 : Int64)), (.long s1)] rfl rfl own_pd_5_max rfl rfl (by decide) (W := 0) (Nat.le_of_eq rfl) (by decide) (by decide) (by decide) at_270 (pc' := 273) rfl ?_
          intro v_223 h_221 q_222
          obtain ⟨rfl, rfl⟩ := q_222
          show Go B n0 _ h_168 19 90 273 #[.val (.int p0), .val (.int p1), .val (.long p2), .second, .val (.ref a_2), .val (.ref a_37), .val (.ref a_51), .val (.ref a_67), .val (.ref a_85), .val (.ref a_105), .val (.int (p1 &&& (3 : Int32))), .val (.ref a_85), .val (.long sp), .second, .val (.long (-1 : Int64)), .second, .unset] [(.long (mxF (-1 : Int64) s1))]
          refine g_lstore C at_273 (v := (mxF (-1 : Int64) s1)) (L' := #[.val (.int p0), .val (.int p1), .val (.long p2), .second, .val (.ref a_2), .val (.ref a_37), .val (.ref a_51), .val (.ref a_67), .val (.ref a_85), .val (.ref a_105), .val (.int (p1 &&& (3 : Int32))), .val (.ref a_85), .val (.long sp), .second, .val (.long (mxF (-1 : Int64) s1)), .second, .unset]) rfl (pc' := 275) rfl ?_
          refine g_iload C at_275 (v := (p1 &&& (3 : Int32))) rfl (pc' := 277) rfl ?_
          refine g_iconst C at_277 (v := (1 : Int32)) rfl (pc' := 278) rfl ?_
          refine g_icmp_n C at_278 (Jvm.Free.XT.ii_eq_f hb_188) (pc' := 281) rfl ?_
          refine g_lload C at_281 (v := (mxF (-1 : Int64) s1)) rfl (pc' := 283) rfl ?_
          refine g_aload C at_283 (v := (.ref a_105)) rfl rfl (pc' := 285) rfl ?_
          refine g_iconst C at_285 (v := (2 : Int32)) rfl (pc' := 286) rfl ?_
          refine g_laload C Aar (by decide) (i := 2) (by decide) (v := s2) rfl at_286 (pc' := 287) rfl ?_
          refine g_static C (own_w hw 106 rfl) (own_w hw 107 rfl) (own_w hw 100 rfl) (own_w hw 108 rfl) (by decide) (rm_maxL l Z a0 hw n0 (mxF (-1 : Int64) s1) s2 h_168 szF ) (st := []) [(.long (mxF (-1 : Int64) s1)), (.long s2)] rfl rfl own_pd_5_max rfl rfl (by decide) (W := 0) (Nat.le_of_eq rfl) (by decide) (by decide) (by decide) at_287 (pc' := 290) rfl ?_
          intro v_226 h_224 q_225
          obtain ⟨rfl, rfl⟩ := q_225
          show Go B n0 _ h_168 19 90 290 #[.val (.int p0), .val (.int p1), .val (.long p2), .second, .val (.ref a_2), .val (.ref a_37), .val (.ref a_51), .val (.ref a_67), .val (.ref a_85), .val (.ref a_105), .val (.int (p1 &&& (3 : Int32))), .val (.ref a_85), .val (.long sp), .second, .val (.long (mxF (-1 : Int64) s1)), .second, .unset] [(.long (mxF (mxF (-1 : Int64) s1) s2))]
          refine g_lstore C at_290 (v := (mxF (mxF (-1 : Int64) s1) s2)) (L' := #[.val (.int p0), .val (.int p1), .val (.long p2), .second, .val (.ref a_2), .val (.ref a_37), .val (.ref a_51), .val (.ref a_67), .val (.ref a_85), .val (.ref a_105), .val (.int (p1 &&& (3 : Int32))), .val (.ref a_85), .val (.long sp), .second, .val (.long (mxF (mxF (-1 : Int64) s1) s2)), .second, .unset]) rfl (pc' := 292) rfl ?_
          refine g_iload C at_292 (v := (p1 &&& (3 : Int32))) rfl (pc' := 294) rfl ?_
          refine g_iconst C at_294 (v := (2 : Int32)) rfl (pc' := 295) rfl ?_
          refine g_icmp_n C at_295 (Jvm.Free.XT.ii_eq_f hb_204) (pc' := 298) rfl ?_
          refine g_lload C at_298 (v := (mxF (mxF (-1 : Int64) s1) s2)) rfl (pc' := 300) rfl ?_
          refine g_aload C at_300 (v := (.ref a_105)) rfl rfl (pc' := 302) rfl ?_
          refine g_iconst C at_302 (v := (3 : Int32)) rfl (pc' := 303) rfl ?_
          refine g_laload C Aar (by decide) (i := 3) (by decide) (v := s3) rfl at_303 (pc' := 304) rfl ?_
          refine g_static C (own_w hw 106 rfl) (own_w hw 107 rfl) (own_w hw 100 rfl) (own_w hw 108 rfl) (by decide) (rm_maxL l Z a0 hw n0 (mxF (mxF (-1 : Int64) s1) s2) s3 h_168 szF ) (st := []) [(.long (mxF (mxF (-1 : Int64) s1) s2)), (.long s3)] rfl rfl own_pd_5_max rfl rfl (by decide) (W := 0) (Nat.le_of_eq rfl) (by decide) (by decide) (by decide) at_304 (pc' := 307) rfl ?_
          intro v_229 h_227 q_228
          obtain ⟨rfl, rfl⟩ := q_228
          show Go B n0 _ h_168 19 90 307 #[.val (.int p0), .val (.int p1), .val (.long p2), .second, .val (.ref a_2), .val (.ref a_37), .val (.ref a_51), .val (.ref a_67), .val (.ref a_85), .val (.ref a_105), .val (.int (p1 &&& (3 : Int32))), .val (.ref a_85), .val (.long sp), .second, .val (.long (mxF (mxF (-1 : Int64) s1) s2)), .second, .unset] [(.long (mxF (mxF (mxF (-1 : Int64) s1) s2) s3))]
          refine g_lstore C at_307 (v := (mxF (mxF (mxF (-1 : Int64) s1) s2) s3)) (L' := #[.val (.int p0), .val (.int p1), .val (.long p2), .second, .val (.ref a_2), .val (.ref a_37), .val (.ref a_51), .val (.ref a_67), .val (.ref a_85), .val (.ref a_105), .val (.int (p1 &&& (3 : Int32))), .val (.ref a_85), .val (.long sp), .second, .val (.long (mxF (mxF (mxF (-1 : Int64) s1) s2) s3)), .second, .unset]) rfl (pc' := 309) rfl ?_
          refine g_lload C at_309 (v := (mxF (mxF (mxF (-1 : Int64) s1) s2) s3)) rfl (pc' := 311) rfl ?_
          refine g_lload C at_311 (v := sp) rfl (pc' := 313) rfl ?_
          refine g_lcmp C (x := (mxF (mxF (mxF (-1 : Int64) s1) s2) s3)) (y := sp) at_313 (pc' := 314) rfl ?_
          by_cases hb_230 : (mxF (mxF (mxF (-1 : Int64) s1) s2) s3) < sp
          · refine g_if_y C at_314 (Jvm.Free.XT.ll_lt_t hb_230) (pc' := 321) (by decide) (by decide) ?_
            refine g_iconst C at_321 (v := (0 : Int32)) rfl (pc' := 322) rfl ?_
            refine g_istore C at_322 (v := (0 : Int32)) (L' := #[.val (.int p0), .val (.int p1), .val (.long p2), .second, .val (.ref a_2), .val (.ref a_37), .val (.ref a_51), .val (.ref a_67), .val (.ref a_85), .val (.ref a_105), .val (.int (p1 &&& (3 : Int32))), .val (.ref a_85), .val (.long sp), .second, .val (.long (mxF (mxF (mxF (-1 : Int64) s1) s2) s3)), .second, .val (.int (0 : Int32))]) rfl (pc' := 324) rfl ?_
            refine g_aload C at_324 (v := (.ref a_2)) rfl rfl (pc' := 326) rfl ?_
            refine g_lload C at_326 (v := sp) rfl (pc' := 328) rfl ?_
            refine g_aload C at_328 (v := (.ref a_85)) rfl rfl (pc' := 330) rfl ?_
            refine g_virtual C (own_w hw 109 rfl) (own_w hw 110 rfl) (own_w hw 112 rfl) (own_w hw 111 rfl) (own_w hw 2 rfl) (own_w hw 113 rfl) (notFace_of_selects (args := #[]) (mvT C.2.2.2.2.1 (own_w hw 112 rfl))) (by decide) Es (rm_wa l Z a0 hw n0 a_2 hl_29 a_85 t A O' lw sp h_168 szF Es ge_a_2 S0 S1 S2 S3 S4 hlw) (st := []) [(.long sp), (.ref a_85)] rfl rfl own_pd_6_workedAbove rfl rfl (by decide) (W := 0) (Nat.le_of_eq rfl) (by decide) (by decide) (by decide) at_330 (pc' := 333) rfl ?_
            intro v_233 h_231 q_232
            obtain ⟨rfl, rfl⟩ := q_232
            show Go B n0 _ h_168 19 90 333 #[.val (.int p0), .val (.int p1), .val (.long p2), .second, .val (.ref a_2), .val (.ref a_37), .val (.ref a_51), .val (.ref a_67), .val (.ref a_85), .val (.ref a_105), .val (.int (p1 &&& (3 : Int32))), .val (.ref a_85), .val (.long sp), .second, .val (.long (mxF (mxF (mxF (-1 : Int64) s1) s2) s3)), .second, .val (.int (0 : Int32))] [(.int (waF lw a_85 A O' sp))]
            refine g_iload C at_333 (v := (0 : Int32)) rfl (pc' := 335) rfl ?_
            refine g_icmp_n C at_335 (Jvm.Free.XT.ii_ne_f (by rw [fin_d iv ne_91 ne_92 ne_93 hsp, if_pos hb_230])) (pc' := 338) rfl ?_
            refine g_iconst C at_338 (v := (1 : Int32)) rfl (pc' := 339) rfl ?_
            refine g_goto C at_339 (pc' := 343) (by decide) (by decide) ?_
            refine g_ret C (v := (.int (1 : Int32))) (ty := .boolean) rfl rfl (Or.inl ⟨rfl, Or.inr (Or.inl rfl), _, rfl⟩) at_343 (by decide) (by decide) ?_
            rfl
          · refine g_if_n C at_314 (Jvm.Free.XT.ll_lt_f hb_230) (pc' := 317) rfl ?_
            refine g_iconst C at_317 (v := (1 : Int32)) rfl (pc' := 318) rfl ?_
            refine g_goto C at_318 (pc' := 322) (by decide) (by decide) ?_
            refine g_istore C at_322 (v := (1 : Int32)) (L' := #[.val (.int p0), .val (.int p1), .val (.long p2), .second, .val (.ref a_2), .val (.ref a_37), .val (.ref a_51), .val (.ref a_67), .val (.ref a_85), .val (.ref a_105), .val (.int (p1 &&& (3 : Int32))), .val (.ref a_85), .val (.long sp), .second, .val (.long (mxF (mxF (mxF (-1 : Int64) s1) s2) s3)), .second, .val (.int (1 : Int32))]) rfl (pc' := 324) rfl ?_
            refine g_aload C at_324 (v := (.ref a_2)) rfl rfl (pc' := 326) rfl ?_
            refine g_lload C at_326 (v := sp) rfl (pc' := 328) rfl ?_
            refine g_aload C at_328 (v := (.ref a_85)) rfl rfl (pc' := 330) rfl ?_
            refine g_virtual C (own_w hw 109 rfl) (own_w hw 110 rfl) (own_w hw 112 rfl) (own_w hw 111 rfl) (own_w hw 2 rfl) (own_w hw 113 rfl) (notFace_of_selects (args := #[]) (mvT C.2.2.2.2.1 (own_w hw 112 rfl))) (by decide) Es (rm_wa l Z a0 hw n0 a_2 hl_29 a_85 t A O' lw sp h_168 szF Es ge_a_2 S0 S1 S2 S3 S4 hlw) (st := []) [(.long sp), (.ref a_85)] rfl rfl own_pd_6_workedAbove rfl rfl (by decide) (W := 0) (Nat.le_of_eq rfl) (by decide) (by decide) (by decide) at_330 (pc' := 333) rfl ?_
            intro v_236 h_234 q_235
            obtain ⟨rfl, rfl⟩ := q_235
            show Go B n0 _ h_168 19 90 333 #[.val (.int p0), .val (.int p1), .val (.long p2), .second, .val (.ref a_2), .val (.ref a_37), .val (.ref a_51), .val (.ref a_67), .val (.ref a_85), .val (.ref a_105), .val (.int (p1 &&& (3 : Int32))), .val (.ref a_85), .val (.long sp), .second, .val (.long (mxF (mxF (mxF (-1 : Int64) s1) s2) s3)), .second, .val (.int (1 : Int32))] [(.int (waF lw a_85 A O' sp))]
            refine g_iload C at_333 (v := (1 : Int32)) rfl (pc' := 335) rfl ?_
            refine g_icmp_n C at_335 (Jvm.Free.XT.ii_ne_f (by rw [fin_d iv ne_91 ne_92 ne_93 hsp, if_neg hb_230])) (pc' := 338) rfl ?_
            refine g_iconst C at_338 (v := (1 : Int32)) rfl (pc' := 339) rfl ?_
            refine g_goto C at_339 (pc' := 343) (by decide) (by decide) ?_
            refine g_ret C (v := (.int (1 : Int32))) (ty := .boolean) rfl rfl (Or.inl ⟨rfl, Or.inr (Or.inl rfl), _, rfl⟩) at_343 (by decide) (by decide) ?_
            rfl
        refine g_lload_n C at_228 (v := p2) rfl (pc' := 229) rfl ?_
        refine g_bipush C at_229 (v := (62 : Int32)) rfl (pc' := 231) rfl ?_
        refine g_lushr C (x := p2) (y := (62 : Int32)) at_231  (pc' := 232) rfl ?_
        refine g_lconst C at_232 (v := (0 : Int64)) rfl (pc' := 233) rfl ?_
        refine g_lcmp C (x := (Jvm.Free.XT.ushrL p2 (62 : Int32))) (y := (0 : Int64)) at_233 (pc' := 234) rfl ?_
        by_cases hb_237 : (Jvm.Free.XT.ushrL p2 (62 : Int32)) = (0 : Int64)
        · refine g_if_n C at_234 (Jvm.Free.XT.ll_ne_f hb_237) (pc' := 237) rfl ?_
          refine g_lconst C at_237 (v := (1 : Int64)) rfl (pc' := 238) rfl ?_
          refine g_lload_n C at_238 (v := p2) rfl (pc' := 239) rfl ?_
          refine g_ldc2_w C (v := (7 : Int64)) (own_w hw 105 rfl) at_239 (pc' := 242) rfl ?_
          refine g_land C (x := p2) (y := (7 : Int64)) at_242  (pc' := 243) rfl ?_
          refine g_ladd C (x := (1 : Int64)) (y := (p2 &&& (7 : Int64))) at_243  (pc' := 244) rfl ?_
          refine g_goto C at_244 (pc' := 252) (by decide) (by decide) ?_
          exact t_220 ((1 : Int64) + (p2 &&& (7 : Int64))) (own_sp1 p2)
        · refine g_if_y C at_234 (Jvm.Free.XT.ll_ne_t hb_237) (pc' := 247) (by decide) (by decide) ?_
          refine g_lconst C at_247 (v := (1 : Int64)) rfl (pc' := 248) rfl ?_
          refine g_lload_n C at_248 (v := p2) rfl (pc' := 249) rfl ?_
          refine g_iconst C at_249 (v := (2 : Int32)) rfl (pc' := 250) rfl ?_
          refine g_lushr C (x := p2) (y := (2 : Int32)) at_250  (pc' := 251) rfl ?_
          refine g_ladd C (x := (1 : Int64)) (y := (Jvm.Free.XT.ushrL p2 (2 : Int32))) at_251  (pc' := 252) rfl ?_
          exact t_220 ((1 : Int64) + (Jvm.Free.XT.ushrL p2 (2 : Int32))) (own_sp2 p2)
set_option maxRecDepth 65536 in
set_option maxHeartbeats 40000000 in
theorem comes_1 {Post : Tables → Env → Array Value → State → Outcome → State → Prop} (hpost : ∀ tb e args s v u, (limb_1_1.after args s (.returned v) u = true ∧ limb_1_2.after args s (.returned v) u = true ∧ True) → FrameEnd s (.returned v) u (Jvm.fieldLocs frame_1_writes args s ++ Jvm.arrayLocs frame_1_arrays args s ++ Jvm.staticLocs frame_1_statics s) 40 192 → Post tb e args s (.returned v) u) :
    ArmFor flags0 classFile x code maxLocals ret World_1 tables_1 room_1 Calls_1 rest_1 Pre_1 Post := by
  intro l hfl _ _ p e ha hc hk s m args below hf hA hF happ hP
  obtain ⟨hcalls, hrest, hpre⟩ := hP
  obtain ⟨-, -, -, hnamed, -, -, -, hat⟩ := (Spec.applies_iff hf).mp happ
  obtain ⟨hg, hn⟩ := and_e (Cond.before_iff.mp (show (Jvm.Cond.and given_1 narrow_1).before args s = true from hpre))
  obtain ⟨gc, gr0⟩ := and_e hg
  obtain ⟨ga0, gr1⟩ := and_e gr0
  obtain ⟨ga1, gr2⟩ := and_e gr1
  obtain ⟨w0, w1, w2, rfl⟩ : ∃ w0 w1 w2 : Value, args = #[w0, w1, w2] := by
    have hs : args.size = 3 := by simpa [Cond.value, given_1] using gc
    obtain ⟨L⟩ := args
    match L, hs with
    | [w0, w1, w2], _ => exact ⟨w0, w1, w2, rfl⟩
  have hw := fun d (hd : d ∈ tables_1) => atoms_spec (ws := Jvm.Cond.code x code maxLocals ret :: tables_1) hat d (List.mem_cons_of_mem _ hd)
  have hfit : Fit s := fun {y c} hc i hi => by
    obtain ⟨ha, rfl⟩ := Array.getElem?_eq_some_iff.mp hc
    have q := List.all_eq_true.mp ((Array.all_eq_true_iff_forall_mem.mp hF) _ (Array.getElem_mem ha)) i (List.mem_range.mpr hi)
    simpa [Array.getElem?_eq_getElem hi] using q
  obtain ⟨i0, ei0⟩ := is_v ga0
  obtain rfl : w0 = (.int i0) := Option.some.inj ei0
  obtain ⟨i1, ei1⟩ := is_v ga1
  obtain rfl : w1 = (.int i1) := Option.some.inj ei1
  obtain ⟨i2, ei2⟩ := isL_v gr2
  obtain rfl : w2 = (.long i2) := Option.some.inj ei2
  have hr0 : rest_1_c.before _ s = true := hrest
  rw [rest_1_c_eq] at hr0
  obtain ⟨hjs, -⟩ := atoms_of jdkStatics_1 hr0
  have hj := fun (k : Nat) {d : Jvm.Cond} (e : jdkStatics_1[k]? = some d) => hjs d (List.mem_of_getElem? e)
  obtain ⟨dc, dd⟩ := own_dc (own_w hw 11 rfl) (hj 2 rfl) (hj 6 rfl) (hj 7 rfl) (hj 8 rfl)
  obtain ⟨n, o, h1, h2, h3, _, L, rfl, ⟨N, rfl⟩, hq⟩ := rm_law l s _ hw s.heap.size i0 i1 i2 dc s.heap (Nat.le_refl _) dd (Old.start s) tables_1 p e ha hc hk s m _ below hf ((Spec.applies_iff_loose hf).mp happ).1 ⟨rfl, State.Warmed39.refl s, rfl⟩ trivial
  refine ⟨n, _, h1, h2, h3, hpost _ _ _ _ _ _ ⟨Cond.after_iff.mpr rfl, Cond.after_iff.mpr (eq_i res_at (Term.int_eval (1)) rfl), trivial⟩ ⟨hq.1, hq.2.1, (hq.2.2.sift fun y hy => Or.inr (N y hy)).mono (by decide) (by decide)⟩⟩
theorem main_1_1 : Claimed_1_1 := comes_1 fun _ _ _ _ _ _ h hF => ⟨h.1, hF⟩
theorem main_1_2 : Claimed_1_2 := comes_1 fun _ _ _ _ _ _ h hF => ⟨h.2.1, hF⟩
end Jvm.Pilot.@@N@@
namespace Jvm.Pilot.@@N@@
open Jvm Jvm.ClassFile Sem Op Lib Jvm.Free Jvm.Stand Jvm.Pilot.@@N@@.Jvm.D
/-! MADE BY PROGRAM (witnessworld.py) out of the Statement's table words and the real class files: 23 classes; the members and pool entries that the words name. The judged class is class 1, her method 1. -/
namespace start1
open Jvm.ClassFile
def u (s : String) : CpInfo := .utf8 (stringToUtf16 s)
/-- a pool by its gaps: so many unusable entries, then the entry; so many at the end -/
def gap : Nat → List CpInfo → List CpInfo
  | 0, r => r
  | n + 1, r => .unusable :: gap n r
def poolList (es : List (Nat × CpInfo)) (last : Nat) : List CpInfo := es.foldr (fun e r => gap e.1 (e.2 :: r)) (gap last [])
def pool (es : List (Nat × CpInfo)) (last : Nat) : Array CpInfo := ⟨poolList es last⟩
def fileOf (pool : Array CpInfo) (this : Nat) (attrs : Array Attribute := #[]) (ms : Array MethodInfo := #[]) (fl : Nat := 33) (sup : Nat := 0) (ifs : Array Nat := #[]) (fds : Array FieldInfo := #[]) : ClassFile where
  minorVersion := 0
  majorVersion := 65
  constantPool := pool
  accessFlags := fl
  thisClass := this
  superClass := sup
  interfaces := ifs
  fields := fds
  methods := ms
  attributes := attrs
def plain (name : String) (sup : Option ClassId) : Class where
  name := name
  kind := .ordinary
  loader := none
  accessFlags := 33
  super := sup
  interfaces := #[]
  cf := none
  fields := #[]
  methods := #[]
  instanceTypes := #[]
  staticTypes := #[]
  resolved := #[]
  callSites := []
  init := .initialized
  statics := none
  mirror := none

def pool0 : Array CpInfo := pool [(5, u "<init>"), (0, u "()V"), (1, .class_ 10), (1, u "java/lang/Object")] 113

def k0c0 : Code := { maxStack := 0, maxLocals := 1, code := object_method_1_code, exceptionTable := #[], attributes := #[] }
def k0m0 : Method := { name := "<init>", desc := "()V", sig := { parameters := [], returnType := none }, accessFlags := 1, code := some k0c0 }
/-- java/lang/Object -/
def k0 : Class := { plain "java/lang/Object" none with
  accessFlags := 33
  interfaces := #[]
  cf := some (fileOf pool0 8 #[] #[{ accessFlags := 1, nameIndex := 5, descriptorIndex := 6, attributes := #[] }] 33 0 #[] #[])
  fields := #[]
  methods := #[k0m0]
  instanceTypes := #[]
  staticTypes := #[]
  resolved := Array.replicate 124 none
  statics := none }

def pool1 : Array CpInfo := pool [(1, .methodref 2 3), (0, .class_ 4), (0, .nameAndType 5 6), (0, u "java/lang/Object"), (0, u "<init>"), (0, u "()V"), (0, .class_ 8), (0, u "com/example/measured_savepoints/measuredsavepoints/SavepointStack"), (0, .methodref 7 3), (0, .long 18446744073709551615), (1, .methodref 13 14), (0, .class_ 15), (0, .nameAndType 16 17), (0, u "com/example/measured_savepoints/measuredsavepoints/SavepointStackWorkedAbovePinLaw"), (0, u "step"), (0, u "(Lcom/example/measured_savepoints/measuredsavepoints/SavepointStack;[JILjava/lang/Object;Ljava/lang/Object;Ljava/lang/Object;)V"), (0, .long 7), (1, .methodref 21 22), (0, .class_ 23), (0, .nameAndType 24 25), (0, u "java/lang/Math"), (0, u "max"), (0, u "(JJ)J"), (0, .methodref 7 27), (0, .nameAndType 28 29), (0, u "workedAbove"), (0, u "(JLjava/lang/Object;)Z"), (0, .methodref 7 31), (0, .nameAndType 32 33), (0, u "push"), (0, u "(Ljava/lang/Object;)J"), (0, .methodref 7 35), (0, .nameAndType 36 37), (0, u "noteWork"), (0, u "(Ljava/lang/Object;)V"), (2, u "law"), (0, u "(IIJ)Z")] 5

def k1m0 : Method := { name := "<init>", desc := "()V", sig := { parameters := [], returnType := none }, accessFlags := 1, code := none }
def k1c1 : Code := { maxStack := 6, maxLocals := 17, code := code, exceptionTable := #[], attributes := #[] }
def k1m1 : Method := { name := "law", desc := "(IIJ)Z", sig := { parameters := [.int, .int, .long], returnType := some .boolean }, accessFlags := 9, code := some k1c1 }
def k1c2 : Code := { maxStack := 6, maxLocals := 6, code := method_3_code, exceptionTable := #[], attributes := #[] }
def k1m2 : Method := { name := "step", desc := "(Lcom/example/measured_savepoints/measuredsavepoints/SavepointStack;[JILjava/lang/Object;Ljava/lang/Object;Ljava/lang/Object;)V", sig := { parameters := [(.object "com/example/measured_savepoints/measuredsavepoints/SavepointStack"), (.array .long), .int, (.object "java/lang/Object"), (.object "java/lang/Object"), (.object "java/lang/Object")], returnType := none }, accessFlags := 10, code := some k1c2 }
/-- com/example/measured_savepoints/measuredsavepoints/SavepointStackWorkedAbovePinLaw -/
def k1 : Class := { plain "com/example/measured_savepoints/measuredsavepoints/SavepointStackWorkedAbovePinLaw" (some 0) with
  accessFlags := 49
  interfaces := #[]
  cf := some (fileOf pool1 13 #[] #[{ accessFlags := 1, nameIndex := 5, descriptorIndex := 6, attributes := #[] }, { accessFlags := 9, nameIndex := 40, descriptorIndex := 41, attributes := #[] }, { accessFlags := 10, nameIndex := 16, descriptorIndex := 17, attributes := #[] }] 49 2 #[] #[])
  fields := #[]
  methods := #[k1m0, k1m1, k1m2]
  instanceTypes := #[]
  staticTypes := #[]
  resolved := Array.replicate 47 none
  statics := none }

def pool2 : Array CpInfo := pool [(1, .methodref 2 3), (0, .class_ 4), (0, .nameAndType 5 6), (0, u "java/lang/Object"), (0, u "<init>"), (0, u "()V"), (0, .class_ 8), (0, u "java/util/ArrayList"), (0, .methodref 7 3), (0, .fieldref 11 12), (0, .class_ 13), (0, .nameAndType 14 15), (0, u "com/example/measured_savepoints/measuredsavepoints/SavepointStack"), (0, u "held"), (0, u "Ljava/util/List;"), (0, .fieldref 11 17), (0, .nameAndType 18 19), (0, u "lastStamp"), (0, u "J"), (0, .class_ 21), (0, u "com/example/measured_savepoints/measuredsavepoints/SavepointStack$Held"), (0, .methodref 20 23), (0, .nameAndType 5 24), (0, u "(JLjava/lang/Object;Z)V"), (0, .interfaceMethodref 26 27), (0, .class_ 28), (0, .nameAndType 29 30), (0, u "java/util/List"), (0, u "add"), (0, u "(Ljava/lang/Object;)Z"), (28, .fieldref 11 60), (0, .nameAndType 61 62), (0, u "lastWorker"), (0, u "Ljava/lang/Object;"), (0, .fieldref 11 64), (0, .nameAndType 65 19), (0, u "lastWorkAt"), (0, .fieldref 11 67), (0, .nameAndType 68 19), (0, u "othersWorkAt"), (25, u "push"), (0, u "(Ljava/lang/Object;)J"), (7, u "noteWork"), (0, u "(Ljava/lang/Object;)V"), (0, u "workedAbove"), (0, u "(JLjava/lang/Object;)Z")] 32

def k2c0 : Code := { maxStack := 3, maxLocals := 1, code := prog_55_method_1_code, exceptionTable := #[], attributes := #[] }
def k2m0 : Method := { name := "<init>", desc := "()V", sig := { parameters := [], returnType := none }, accessFlags := 0, code := some k2c0 }
def k2c1 : Code := { maxStack := 7, maxLocals := 2, code := prog_55_method_2_code, exceptionTable := #[], attributes := #[] }
def k2m1 : Method := { name := "push", desc := "(Ljava/lang/Object;)J", sig := { parameters := [(.object "java/lang/Object")], returnType := some .long }, accessFlags := 0, code := some k2c1 }
def k2c2 : Code := { maxStack := 3, maxLocals := 2, code := prog_55_method_6_code, exceptionTable := #[], attributes := #[] }
def k2m2 : Method := { name := "noteWork", desc := "(Ljava/lang/Object;)V", sig := { parameters := [(.object "java/lang/Object")], returnType := none }, accessFlags := 0, code := some k2c2 }
def k2c3 : Code := { maxStack := 4, maxLocals := 6, code := prog_55_method_7_code, exceptionTable := #[], attributes := #[] }
def k2m3 : Method := { name := "workedAbove", desc := "(JLjava/lang/Object;)Z", sig := { parameters := [.long, (.object "java/lang/Object")], returnType := some .boolean }, accessFlags := 0, code := some k2c3 }
/-- com/example/measured_savepoints/measuredsavepoints/SavepointStack -/
def k2 : Class := { plain "com/example/measured_savepoints/measuredsavepoints/SavepointStack" (some 0) with
  accessFlags := 48
  interfaces := #[]
  cf := some (fileOf pool2 11 #[.nestMembers #[20]] #[{ accessFlags := 0, nameIndex := 5, descriptorIndex := 6, attributes := #[] }, { accessFlags := 0, nameIndex := 94, descriptorIndex := 95, attributes := #[] }, { accessFlags := 0, nameIndex := 103, descriptorIndex := 104, attributes := #[] }, { accessFlags := 0, nameIndex := 105, descriptorIndex := 106, attributes := #[] }] 48 2 #[] #[{ accessFlags := 2, nameIndex := 18, descriptorIndex := 19, attributes := #[] }, { accessFlags := 18, nameIndex := 14, descriptorIndex := 15, attributes := #[] }, { accessFlags := 2, nameIndex := 61, descriptorIndex := 62, attributes := #[] }, { accessFlags := 2, nameIndex := 65, descriptorIndex := 19, attributes := #[] }, { accessFlags := 2, nameIndex := 68, descriptorIndex := 19, attributes := #[] }])
  fields := #[{ name := "lastStamp", type := .long, accessFlags := 2, slot := 0, constantValue := 0 }, { name := "held", type := (.object "java/util/List"), accessFlags := 18, slot := 1, constantValue := 0 }, { name := "lastWorker", type := (.object "java/lang/Object"), accessFlags := 2, slot := 2, constantValue := 0 }, { name := "lastWorkAt", type := .long, accessFlags := 2, slot := 3, constantValue := 0 }, { name := "othersWorkAt", type := .long, accessFlags := 2, slot := 4, constantValue := 0 }]
  methods := #[k2m0, k2m1, k2m2, k2m3]
  instanceTypes := #[.long, (.object "java/util/List"), (.object "java/lang/Object"), .long, .long]
  staticTypes := #[]
  resolved := ((Array.replicate 139 none).setIfInBounds 20 (some (.cls 14))).setIfInBounds 22 (some (.method ⟨14, 0⟩))
  statics := none }

def pool3 : Array CpInfo := pool [(8, .class_ 10), (1, u "java/lang/Iterable"), (24, .class_ 36), (0, u "java/lang/Object")] 25

/-- java/lang/Iterable -/
def k3 : Class := { plain "java/lang/Iterable" (some 0) with
  accessFlags := 1537
  interfaces := #[]
  cf := some (fileOf pool3 8 #[] #[] 1537 35 #[] #[])
  fields := #[]
  methods := #[]
  instanceTypes := #[]
  staticTypes := #[]
  resolved := Array.replicate 62 none
  statics := none }

def pool4 : Array CpInfo := pool [(10, .class_ 12), (1, u "java/util/Collection"), (47, .class_ 61), (0, u "java/lang/Object"), (0, .class_ 63), (0, u "java/lang/Iterable")] 51

/-- java/util/Collection -/
def k4 : Class := { plain "java/util/Collection" (some 0) with
  accessFlags := 1537
  interfaces := #[3]
  cf := some (fileOf pool4 10 #[] #[] 1537 60 #[62] #[])
  fields := #[]
  methods := #[]
  instanceTypes := #[]
  staticTypes := #[]
  resolved := Array.replicate 115 none
  statics := none }

def pool5 : Array CpInfo := pool [(1, .methodref 2 3), (0, .class_ 4), (0, .nameAndType 5 6), (0, u "java/lang/Object"), (0, u "<init>"), (0, u "()V"), (1, .class_ 10), (1, u "java/util/AbstractCollection"), (66, .class_ 78), (0, u "java/util/Collection")] 81

def k5c0 : Code := { maxStack := 1, maxLocals := 1, code := jdk_22_method_1_code, exceptionTable := #[], attributes := #[] }
def k5m0 : Method := { name := "<init>", desc := "()V", sig := { parameters := [], returnType := none }, accessFlags := 4, code := some k5c0 }
/-- java/util/AbstractCollection -/
def k5 : Class := { plain "java/util/AbstractCollection" (some 0) with
  accessFlags := 1057
  interfaces := #[4]
  cf := some (fileOf pool5 8 #[] #[{ accessFlags := 4, nameIndex := 5, descriptorIndex := 6, attributes := #[] }] 1057 2 #[77] #[])
  fields := #[]
  methods := #[k5m0]
  instanceTypes := #[]
  staticTypes := #[]
  resolved := Array.replicate 160 none
  statics := none }

def pool6 : Array CpInfo := pool [(8, .class_ 10), (1, u "java/util/SequencedCollection"), (15, .class_ 27), (0, u "java/lang/Object"), (0, .class_ 29), (0, u "java/util/Collection")] 27

/-- java/util/SequencedCollection -/
def k6 : Class := { plain "java/util/SequencedCollection" (some 0) with
  accessFlags := 1537
  interfaces := #[4]
  cf := some (fileOf pool6 8 #[] #[] 1537 26 #[28] #[])
  fields := #[]
  methods := #[]
  instanceTypes := #[]
  staticTypes := #[]
  resolved := Array.replicate 57 none
  statics := none }

def pool7 : Array CpInfo := pool [(8, .class_ 10), (1, u "java/util/List"), (49, u "add"), (3, u "(Ljava/lang/Object;)Z"), (38, .class_ 104), (0, u "java/lang/Object"), (15, .class_ 121), (0, u "java/util/SequencedCollection")] 129

def k7m0 : Method := { name := "add", desc := "(Ljava/lang/Object;)Z", sig := { parameters := [(.object "java/lang/Object")], returnType := some .boolean }, accessFlags := 1025, code := none }
/-- java/util/List -/
def k7 : Class := { plain "java/util/List" (some 0) with
  accessFlags := 1537
  interfaces := #[6]
  cf := some (fileOf pool7 8 #[] #[{ accessFlags := 1025, nameIndex := 60, descriptorIndex := 64, attributes := #[] }] 1537 103 #[120] #[])
  fields := #[]
  methods := #[k7m0]
  instanceTypes := #[]
  staticTypes := #[]
  resolved := Array.replicate 251 none
  statics := none }

def pool8 : Array CpInfo := pool [(1, .methodref 2 3), (0, .class_ 4), (0, .nameAndType 5 6), (0, u "java/util/AbstractCollection"), (0, u "<init>"), (0, u "()V"), (0, .fieldref 8 9), (0, .class_ 10), (0, .nameAndType 11 12), (0, u "java/util/AbstractList"), (0, u "modCount"), (0, u "I"), (64, .class_ 78), (0, u "java/util/AbstractList$Itr"), (3, .class_ 83), (0, u "java/util/AbstractList$ListItr"), (9, .class_ 94), (0, u "java/util/AbstractList$RandomAccessSubList"), (3, .class_ 99), (0, u "java/util/AbstractList$SubList"), (33, .class_ 134), (0, u "java/util/List"), (73, .class_ 209), (0, u "java/util/AbstractList$SubList$1"), (0, .class_ 211), (0, u "java/util/AbstractList$RandomAccessSpliterator")] 6

def k8c0 : Code := { maxStack := 2, maxLocals := 1, code := jdk_39_method_1_code, exceptionTable := #[], attributes := #[] }
def k8m0 : Method := { name := "<init>", desc := "()V", sig := { parameters := [], returnType := none }, accessFlags := 4, code := some k8c0 }
/-- java/util/AbstractList -/
def k8 : Class := { plain "java/util/AbstractList" (some 5) with
  accessFlags := 1057
  interfaces := #[7]
  cf := some (fileOf pool8 8 #[.nestMembers #[93, 98, 208, 210, 82, 77]] #[{ accessFlags := 4, nameIndex := 5, descriptorIndex := 6, attributes := #[] }] 1057 2 #[133] #[{ accessFlags := 132, nameIndex := 11, descriptorIndex := 12, attributes := #[] }])
  fields := #[{ name := "modCount", type := .int, accessFlags := 132, slot := 0, constantValue := 0 }]
  methods := #[k8m0]
  instanceTypes := #[.int]
  staticTypes := #[]
  resolved := Array.replicate 218 none
  statics := none }

def pool9 : Array CpInfo := pool [(1, .class_ 2), (0, u "java/util/RandomAccess"), (0, .class_ 4), (0, u "java/lang/Object")] 2

/-- java/util/RandomAccess -/
def k9 : Class := { plain "java/util/RandomAccess" (some 0) with
  accessFlags := 1537
  interfaces := #[]
  cf := some (fileOf pool9 1 #[] #[] 1537 3 #[] #[])
  fields := #[]
  methods := #[]
  instanceTypes := #[]
  staticTypes := #[]
  resolved := Array.replicate 7 none
  statics := none }

def pool10 : Array CpInfo := pool [(1, .class_ 2), (0, u "java/lang/Cloneable"), (0, .class_ 4), (0, u "java/lang/Object")] 2

/-- java/lang/Cloneable -/
def k10 : Class := { plain "java/lang/Cloneable" (some 0) with
  accessFlags := 1537
  interfaces := #[]
  cf := some (fileOf pool10 1 #[] #[] 1537 3 #[] #[])
  fields := #[]
  methods := #[]
  instanceTypes := #[]
  staticTypes := #[]
  resolved := Array.replicate 7 none
  statics := none }

def pool11 : Array CpInfo := pool [(1, .class_ 2), (0, u "java/io/Serializable"), (0, .class_ 4), (0, u "java/lang/Object")] 2

/-- java/io/Serializable -/
def k11 : Class := { plain "java/io/Serializable" (some 0) with
  accessFlags := 1537
  interfaces := #[]
  cf := some (fileOf pool11 1 #[] #[] 1537 3 #[] #[])
  fields := #[]
  methods := #[]
  instanceTypes := #[]
  staticTypes := #[]
  resolved := Array.replicate 7 none
  statics := none }

def pool12 : Array CpInfo := pool [(1, .methodref 2 3), (0, .class_ 4), (0, .nameAndType 5 6), (0, u "java/util/AbstractList"), (0, u "<init>"), (0, u "()V"), (0, .class_ 8), (0, u "java/lang/Object"), (0, .fieldref 10 11), (0, .class_ 12), (0, .nameAndType 13 14), (0, u "java/util/ArrayList"), (0, u "elementData"), (0, u "[Ljava/lang/Object;"), (2, u "EMPTY_ELEMENTDATA"), (21, .fieldref 10 40), (0, .nameAndType 41 14), (0, u "DEFAULTCAPACITY_EMPTY_ELEMENTDATA"), (5, u "()[Ljava/lang/Object;"), (0, .fieldref 10 49), (0, .nameAndType 50 51), (0, u "size"), (0, u "I"), (11, .fieldref 10 64), (0, .nameAndType 65 51), (0, u "modCount"), (3, .methodref 10 70), (0, .nameAndType 71 72), (0, u "grow"), (0, u "(I)[Ljava/lang/Object;"), (6, .methodref 80 81), (0, .class_ 82), (0, .nameAndType 83 84), (0, u "java/lang/Math"), (0, u "max"), (0, u "(II)I"), (11, u "(Ljava/lang/Object;)Z"), (32, .methodref 10 130), (0, .nameAndType 71 47), (0, .methodref 10 132), (0, .nameAndType 133 134), (0, u "add"), (0, u "(Ljava/lang/Object;[Ljava/lang/Object;I)V"), (13, .class_ 149), (0, u "java/util/List"), (112, .class_ 263), (0, u "java/util/ArrayList$ListItr"), (3, .class_ 268), (0, u "java/util/ArrayList$Itr"), (7, .class_ 277), (0, u "java/util/ArrayList$SubList"), (12, .class_ 291), (0, u "java/util/ArrayList$ArrayListSpliterator"), (37, .class_ 330), (0, u "java/util/RandomAccess"), (0, .class_ 332), (0, u "java/lang/Cloneable"), (0, .class_ 334), (0, u "java/io/Serializable"), (0, u "serialVersionUID"), (0, u "J"), (3, u "DEFAULT_CAPACITY"), (159, .class_ 501), (0, u "java/util/ArrayList$SubList$2"), (0, .class_ 503), (0, u "java/util/ArrayList$SubList$1")] 5

def k12c0 : Code := { maxStack := 2, maxLocals := 1, code := jdk_38_method_2_code, exceptionTable := #[], attributes := #[] }
def k12m0 : Method := { name := "<init>", desc := "()V", sig := { parameters := [], returnType := none }, accessFlags := 1, code := some k12c0 }
def k12c1 : Code := { maxStack := 4, maxLocals := 4, code := jdk_38_method_6_code, exceptionTable := #[], attributes := #[] }
def k12m1 : Method := { name := "grow", desc := "(I)[Ljava/lang/Object;", sig := { parameters := [.int], returnType := some (.array (.object "java/lang/Object")) }, accessFlags := 2, code := some k12c1 }
def k12c2 : Code := { maxStack := 3, maxLocals := 1, code := jdk_38_method_7_code, exceptionTable := #[], attributes := #[] }
def k12m2 : Method := { name := "grow", desc := "()[Ljava/lang/Object;", sig := { parameters := [], returnType := some (.array (.object "java/lang/Object")) }, accessFlags := 2, code := some k12c2 }
def k12c3 : Code := { maxStack := 3, maxLocals := 4, code := jdk_38_method_24_code, exceptionTable := #[], attributes := #[] }
def k12m3 : Method := { name := "add", desc := "(Ljava/lang/Object;[Ljava/lang/Object;I)V", sig := { parameters := [(.object "java/lang/Object"), (.array (.object "java/lang/Object")), .int], returnType := none }, accessFlags := 2, code := some k12c3 }
def k12c4 : Code := { maxStack := 4, maxLocals := 2, code := jdk_38_method_25_code, exceptionTable := #[], attributes := #[] }
def k12m4 : Method := { name := "add", desc := "(Ljava/lang/Object;)Z", sig := { parameters := [(.object "java/lang/Object")], returnType := some .boolean }, accessFlags := 1, code := some k12c4 }
/-- java/util/ArrayList -/
def k12 : Class := { plain "java/util/ArrayList" (some 8) with
  accessFlags := 33
  interfaces := #[7, 9, 10, 11]
  cf := some (fileOf pool12 10 #[.nestMembers #[290, 276, 500, 502, 262, 267]] #[{ accessFlags := 1, nameIndex := 5, descriptorIndex := 6, attributes := #[] }, { accessFlags := 2, nameIndex := 71, descriptorIndex := 72, attributes := #[] }, { accessFlags := 2, nameIndex := 71, descriptorIndex := 47, attributes := #[] }, { accessFlags := 2, nameIndex := 133, descriptorIndex := 134, attributes := #[] }, { accessFlags := 1, nameIndex := 133, descriptorIndex := 96, attributes := #[] }] 33 2 #[148, 329, 331, 333] #[{ accessFlags := 26, nameIndex := 335, descriptorIndex := 336, attributes := #[] }, { accessFlags := 26, nameIndex := 340, descriptorIndex := 51, attributes := #[] }, { accessFlags := 26, nameIndex := 17, descriptorIndex := 14, attributes := #[] }, { accessFlags := 26, nameIndex := 41, descriptorIndex := 14, attributes := #[] }, { accessFlags := 128, nameIndex := 13, descriptorIndex := 14, attributes := #[] }, { accessFlags := 2, nameIndex := 50, descriptorIndex := 51, attributes := #[] }])
  fields := #[{ name := "serialVersionUID", type := .long, accessFlags := 26, slot := 0, constantValue := 0 }, { name := "DEFAULT_CAPACITY", type := .int, accessFlags := 26, slot := 1, constantValue := 0 }, { name := "EMPTY_ELEMENTDATA", type := (.array (.object "java/lang/Object")), accessFlags := 26, slot := 2, constantValue := 0 }, { name := "DEFAULTCAPACITY_EMPTY_ELEMENTDATA", type := (.array (.object "java/lang/Object")), accessFlags := 26, slot := 3, constantValue := 0 }, { name := "elementData", type := (.array (.object "java/lang/Object")), accessFlags := 128, slot := 1, constantValue := 0 }, { name := "size", type := .int, accessFlags := 2, slot := 2, constantValue := 0 }]
  methods := #[k12m0, k12m1, k12m2, k12m3, k12m4]
  instanceTypes := #[.int, (.array (.object "java/lang/Object")), .int]
  staticTypes := #[.long, .int, (.array (.object "java/lang/Object")), (.array (.object "java/lang/Object"))]
  resolved := Array.replicate 509 none
  statics := some 0 }

def pool13 : Array CpInfo := pool [(1, .methodref 2 3), (0, .class_ 4), (0, .nameAndType 5 6), (0, u "java/lang/Object"), (0, u "<init>"), (0, u "()V"), (0, .class_ 8), (0, u "java/lang/Record")] 13

def k13c0 : Code := { maxStack := 1, maxLocals := 1, code := jdk_30_method_1_code, exceptionTable := #[], attributes := #[] }
def k13m0 : Method := { name := "<init>", desc := "()V", sig := { parameters := [], returnType := none }, accessFlags := 4, code := some k13c0 }
/-- java/lang/Record -/
def k13 : Class := { plain "java/lang/Record" (some 0) with
  accessFlags := 1057
  interfaces := #[]
  cf := some (fileOf pool13 7 #[] #[{ accessFlags := 4, nameIndex := 5, descriptorIndex := 6, attributes := #[] }] 1057 2 #[] #[])
  fields := #[]
  methods := #[k13m0]
  instanceTypes := #[]
  staticTypes := #[]
  resolved := Array.replicate 22 none
  statics := none }

def pool14 : Array CpInfo := pool [(1, .methodref 2 3), (0, .class_ 4), (0, .nameAndType 5 6), (0, u "java/lang/Record"), (0, u "<init>"), (0, u "()V"), (0, .fieldref 8 9), (0, .class_ 10), (0, .nameAndType 11 12), (0, u "com/example/measured_savepoints/measuredsavepoints/SavepointStack$Held"), (0, u "stamp"), (0, u "J"), (0, .fieldref 8 14), (0, .nameAndType 15 16), (0, u "user"), (0, u "Ljava/lang/Object;"), (0, .fieldref 8 18), (0, .nameAndType 19 20), (0, u "firmly"), (0, u "Z"), (12, u "(JLjava/lang/Object;Z)V"), (12, .class_ 47), (0, u "com/example/measured_savepoints/measuredsavepoints/SavepointStack")] 21

def k14c0 : Code := { maxStack := 3, maxLocals := 5, code := prog_56_method_1_code, exceptionTable := #[], attributes := #[] }
def k14m0 : Method := { name := "<init>", desc := "(JLjava/lang/Object;Z)V", sig := { parameters := [.long, (.object "java/lang/Object"), .boolean], returnType := none }, accessFlags := 2, code := some k14c0 }
/-- com/example/measured_savepoints/measuredsavepoints/SavepointStack$Held -/
def k14 : Class := { plain "com/example/measured_savepoints/measuredsavepoints/SavepointStack$Held" (some 13) with
  accessFlags := 48
  interfaces := #[]
  cf := some (fileOf pool14 8 #[.nestHost 46] #[{ accessFlags := 2, nameIndex := 5, descriptorIndex := 33, attributes := #[] }] 48 2 #[] #[{ accessFlags := 18, nameIndex := 11, descriptorIndex := 12, attributes := #[] }, { accessFlags := 18, nameIndex := 15, descriptorIndex := 16, attributes := #[] }, { accessFlags := 18, nameIndex := 19, descriptorIndex := 20, attributes := #[] }])
  fields := #[{ name := "stamp", type := .long, accessFlags := 18, slot := 0, constantValue := 0 }, { name := "user", type := (.object "java/lang/Object"), accessFlags := 18, slot := 1, constantValue := 0 }, { name := "firmly", type := .boolean, accessFlags := 18, slot := 2, constantValue := 0 }]
  methods := #[k14m0]
  instanceTypes := #[.long, (.object "java/lang/Object"), .boolean]
  staticTypes := #[]
  resolved := Array.replicate 69 none
  statics := none }

def pool15 : Array CpInfo := pool [(1, .class_ 2), (0, u "java/lang/Math"), (1, .class_ 6), (1, u "java/lang/Object"), (0, u "<init>"), (0, u "()V"), (89, .class_ 100), (1, u "java/lang/Math$RandomNumberGeneratorHolder"), (20, u "(JJ)J"), (50, u "negativeZeroFloatBits"), (0, u "J"), (2, u "negativeZeroDoubleBits"), (21, u "max"), (46, u "$assertionsDisabled"), (0, u "Z"), (88, u "(II)I"), (2, u "twoToTheDoubleScaleDown"), (0, u "D"), (4, u "twoToTheDoubleScaleUp"), (9, u "E"), (3, u "PI"), (2, u "TAU"), (2, u "DEGREES_TO_RADIANS"), (0, u "RADIANS_TO_DEGREES")] 94

def k15m0 : Method := { name := "<init>", desc := "()V", sig := { parameters := [], returnType := none }, accessFlags := 2, code := none }
def k15c1 : Code := { maxStack := 2, maxLocals := 2, code := jdk_29_method_65_code, exceptionTable := #[], attributes := #[] }
def k15m1 : Method := { name := "max", desc := "(II)I", sig := { parameters := [.int, .int], returnType := some .int }, accessFlags := 9, code := some k15c1 }
def k15c2 : Code := { maxStack := 4, maxLocals := 4, code := jdk_29_method_66_code, exceptionTable := #[], attributes := #[] }
def k15m2 : Method := { name := "max", desc := "(JJ)J", sig := { parameters := [.long, .long], returnType := some .long }, accessFlags := 9, code := some k15c2 }
/-- java/lang/Math -/
def k15 : Class := { plain "java/lang/Math" (some 0) with
  accessFlags := 49
  interfaces := #[]
  cf := some (fileOf pool15 1 #[.nestMembers #[98]] #[{ accessFlags := 2, nameIndex := 7, descriptorIndex := 8, attributes := #[] }, { accessFlags := 9, nameIndex := 198, descriptorIndex := 335, attributes := #[] }, { accessFlags := 9, nameIndex := 198, descriptorIndex := 121, attributes := #[] }] 49 4 #[] #[{ accessFlags := 25, nameIndex := 354, descriptorIndex := 339, attributes := #[] }, { accessFlags := 25, nameIndex := 358, descriptorIndex := 339, attributes := #[] }, { accessFlags := 25, nameIndex := 361, descriptorIndex := 339, attributes := #[] }, { accessFlags := 26, nameIndex := 364, descriptorIndex := 339, attributes := #[] }, { accessFlags := 26, nameIndex := 365, descriptorIndex := 339, attributes := #[] }, { accessFlags := 26, nameIndex := 172, descriptorIndex := 173, attributes := #[] }, { accessFlags := 26, nameIndex := 176, descriptorIndex := 173, attributes := #[] }, { accessFlags := 8, nameIndex := 344, descriptorIndex := 339, attributes := #[] }, { accessFlags := 8, nameIndex := 338, descriptorIndex := 339, attributes := #[] }, { accessFlags := 4120, nameIndex := 245, descriptorIndex := 246, attributes := #[] }])
  fields := #[{ name := "E", type := .double, accessFlags := 25, slot := 0, constantValue := 0 }, { name := "PI", type := .double, accessFlags := 25, slot := 1, constantValue := 0 }, { name := "TAU", type := .double, accessFlags := 25, slot := 2, constantValue := 0 }, { name := "DEGREES_TO_RADIANS", type := .double, accessFlags := 26, slot := 3, constantValue := 0 }, { name := "RADIANS_TO_DEGREES", type := .double, accessFlags := 26, slot := 4, constantValue := 0 }, { name := "negativeZeroFloatBits", type := .long, accessFlags := 26, slot := 5, constantValue := 0 }, { name := "negativeZeroDoubleBits", type := .long, accessFlags := 26, slot := 6, constantValue := 0 }, { name := "twoToTheDoubleScaleUp", type := .double, accessFlags := 8, slot := 7, constantValue := 0 }, { name := "twoToTheDoubleScaleDown", type := .double, accessFlags := 8, slot := 8, constantValue := 0 }, { name := "$assertionsDisabled", type := .boolean, accessFlags := 4120, slot := 9, constantValue := 0 }]
  methods := #[k15m0, k15m1, k15m2]
  instanceTypes := #[]
  staticTypes := #[.double, .double, .double, .double, .double, .long, .long, .double, .double, .boolean]
  resolved := Array.replicate 460 none
  statics := none }

/-- the primitive byte -/
def k16 : Class := { plain "byte" none with kind := .primitive 'B', accessFlags := 0x411 }
/-- [B -/
def k17 : Class := { plain "[B" (some 0) with kind := .array 16 .byte, interfaces := #[10, 11], accessFlags := 1041 }

/-- the primitive int -/
def k18 : Class := { plain "int" none with kind := .primitive 'I', accessFlags := 0x411 }
/-- [I -/
def k19 : Class := { plain "[I" (some 0) with kind := .array 18 .int, interfaces := #[10, 11], accessFlags := 1041 }

/-- the primitive long -/
def k20 : Class := { plain "long" none with kind := .primitive 'J', accessFlags := 0x411 }
/-- [J -/
def k21 : Class := { plain "[J" (some 0) with kind := .array 20 .long, interfaces := #[10, 11], accessFlags := 1041 }

/-- [Ljava/lang/Object; -/
def k22 : Class := { plain "[Ljava/lang/Object;" (some 0) with kind := .array 0 (.object "java/lang/Object"), interfaces := #[10, 11], accessFlags := 1041 }

def heap : Heap := #[{ cls := 12, slots := #[.long 0, .int 0, .ref 1, .ref 2], vm := .statics 12 },
  { cls := 22, slots := #[], vm := .none },
  { cls := 22, slots := #[], vm := .none }]
def classes : Array Class := #[k0, k1, k2, k3, k4, k5, k6, k7, k8, k9, k10, k11, k12, k13, k14, k15, k16, k17, k18, k19, k20, k21, k22]
def interned : List (Array UInt16 × Addr) := []
def slotsUsed : Nat := 4
def theMethod : MethodId := ⟨1, 1⟩
def args0 : Array Value := #[.int 1, .int 2, .long 3]
def aboutOver (below : List Frame) : State where
  vm := { classes := classes, interned := interned.toArray }
  heap := heap
  slotsUsed := slotsUsed
  threads := #[{ frames := .invoking theMethod args0 :: below }]
def below0 : List Frame := [.native { method := ⟨0, 0⟩, args := #[] }]
def about1 : State := aboutOver below0
def p0 : Program := .bare "" "" ""
def e0 : Env := launch0.env 0 0 0
theorem w_frames : about1.frames = Frame.invoking theMethod args0 :: below0 := rfl
set_option maxRecDepth 65536 in
theorem w_args : argsFit about1.vm theMethod args0 = true := by decide +kernel
set_option maxRecDepth 65536 in
theorem w_heap : heapFits about1 = true := by decide +kernel
set_option maxRecDepth 65536 in
theorem w_runnable : about1.curStatus? = some .runnable := by decide +kernel
set_option maxRecDepth 65536 in
theorem w_alone : about1.alone = true := by decide +kernel
set_option maxRecDepth 65536 in
theorem w_named : about1.methodNamed? x = some theMethod := by decide +kernel
set_option maxRecDepth 65536 in
theorem w_hears : about1.hears theMethod below0 = true := by decide +kernel
set_option maxRecDepth 65536 in
theorem w_ripe : about1.ripe theMethod args0 below0 = true := by decide +kernel
theorem w_running : about1.status = .running := rfl
set_option maxRecDepth 65536 in
theorem w_room : about1.hasRoom e0.platform room_1 = true :=
  launch0.hasRoom_least _ room_1 (by decide +kernel) (by decide +kernel) (by decide +kernel) (by decide +kernel) (by decide +kernel) (by decide +kernel)
theorem allAtoms_all (ts : List Jvm.Cond) (a : Array Jvm.Value) (st : Jvm.State) : (allAtoms ts).before a st = ts.all (fun c => c.before a st) := by
  induction ts with
  | nil => rfl
  | cons c t ih =>
    show (Jvm.Cond.and c (allAtoms t)).before a st = _
    rw [Jvm.Cond.before_and, ih, List.all_cons]
def words1 : List Jvm.Cond := Jvm.Cond.code x code maxLocals ret :: tables_1
/-- a 'code' word, met by the world's own term for the bytes: nothing is compared byte by byte -/
theorem code_word {y : MethodName} {bytes : ByteArray} {mx : Nat} {rt : Option FieldType} {a : Array Value} {s : State} {m : MethodId} {meth : Method} {c : Code} (h1 : s.methodNamed? y = some m) (h2 : s.vm.method? m = some meth) (h3 : meth.code = some c) (h4 : c.code = bytes)
    (h5 : (c.maxLocals == mx && c.exceptionTable.isEmpty && decide (c.maxStack ≤ mostOperands) && decide (meth.sig.returnType = rt) && !meth.locks && decide (parseMethodDescriptor y.desc = some meth.sig)) = true) : (Jvm.Cond.code y bytes mx rt).before a s = true := by
  simp only [Bool.and_eq_true, beq_iff_eq, Bool.not_eq_true', decide_eq_true_eq] at h5
  obtain ⟨⟨⟨⟨⟨g1, g2⟩, g3⟩, g4⟩, g5⟩, g6⟩ := h5
  simp [Cond.before, Cond.holds, Cond.value, h1, h2, h3, h4, g1, g2, g3, g4, g5, g6]
def isCode : Jvm.Cond → Bool
  | .code _ _ _ _ => true
  | _ => false
theorem all_split {L : List Jvm.Cond} {P : Jvm.Cond → Bool} (h1 : L.all (fun c => isCode c || P c) = true) (h2 : ∀ c ∈ L.filter isCode, P c = true) : L.all P = true := by
  refine List.all_eq_true.mpr fun c hc => ?_
  have h := List.all_eq_true.mp h1 c hc
  rcases Bool.eq_false_or_eq_true (isCode c) with hi | hi
  · exact h2 c (List.mem_filter.mpr ⟨hc, hi⟩)
  · simpa [hi] using h
set_option maxRecDepth 65536 in
theorem w_c0 : (Jvm.Cond.code x code maxLocals ret).before args0 about1 = true := code_word (m := ⟨1, 1⟩) (meth := k1m1) (c := k1c1) (by decide +kernel) rfl rfl rfl (by decide +kernel)
set_option maxRecDepth 65536 in
theorem w_c1 : (Jvm.Cond.code ({ cls := "com/example/measured_savepoints/measuredsavepoints/SavepointStack", name := "<init>", desc := "()V" } : Jvm.MethodName) prog_55_method_1_code (1 : Nat) (Option.none : Option Jvm.ClassFile.FieldType)).before args0 about1 = true := code_word (m := ⟨2, 0⟩) (meth := k2m0) (c := k2c0) (by decide +kernel) rfl rfl rfl (by decide +kernel)
set_option maxRecDepth 65536 in
theorem w_c2 : (Jvm.Cond.code ({ cls := "java/lang/Object", name := "<init>", desc := "()V" } : Jvm.MethodName) object_method_1_code (1 : Nat) (Option.none : Option Jvm.ClassFile.FieldType)).before args0 about1 = true := code_word (m := ⟨0, 0⟩) (meth := k0m0) (c := k0c0) (by decide +kernel) rfl rfl rfl (by decide +kernel)
set_option maxRecDepth 65536 in
theorem w_c3 : (Jvm.Cond.code ({ cls := "java/util/ArrayList", name := "<init>", desc := "()V" } : Jvm.MethodName) jdk_38_method_2_code (1 : Nat) (Option.none : Option Jvm.ClassFile.FieldType)).before args0 about1 = true := code_word (m := ⟨12, 0⟩) (meth := k12m0) (c := k12c0) (by decide +kernel) rfl rfl rfl (by decide +kernel)
set_option maxRecDepth 65536 in
theorem w_c4 : (Jvm.Cond.code ({ cls := "java/util/AbstractList", name := "<init>", desc := "()V" } : Jvm.MethodName) jdk_39_method_1_code (1 : Nat) (Option.none : Option Jvm.ClassFile.FieldType)).before args0 about1 = true := code_word (m := ⟨8, 0⟩) (meth := k8m0) (c := k8c0) (by decide +kernel) rfl rfl rfl (by decide +kernel)
set_option maxRecDepth 65536 in
theorem w_c5 : (Jvm.Cond.code ({ cls := "java/util/AbstractCollection", name := "<init>", desc := "()V" } : Jvm.MethodName) jdk_22_method_1_code (1 : Nat) (Option.none : Option Jvm.ClassFile.FieldType)).before args0 about1 = true := code_word (m := ⟨5, 0⟩) (meth := k5m0) (c := k5c0) (by decide +kernel) rfl rfl rfl (by decide +kernel)
set_option maxRecDepth 65536 in
theorem w_c6 : (Jvm.Cond.code ({ cls := "com/example/measured_savepoints/measuredsavepoints/SavepointStackWorkedAbovePinLaw", name := "step", desc := "(Lcom/example/measured_savepoints/measuredsavepoints/SavepointStack;[JILjava/lang/Object;Ljava/lang/Object;Ljava/lang/Object;)V" } : Jvm.MethodName) method_3_code (6 : Nat) (Option.none : Option Jvm.ClassFile.FieldType)).before args0 about1 = true := code_word (m := ⟨1, 2⟩) (meth := k1m2) (c := k1c2) (by decide +kernel) rfl rfl rfl (by decide +kernel)
set_option maxRecDepth 65536 in
theorem w_c7 : (Jvm.Cond.code ({ cls := "com/example/measured_savepoints/measuredsavepoints/SavepointStack", name := "push", desc := "(Ljava/lang/Object;)J" } : Jvm.MethodName) prog_55_method_2_code (2 : Nat) (Option.some Jvm.ClassFile.FieldType.long)).before args0 about1 = true := code_word (m := ⟨2, 1⟩) (meth := k2m1) (c := k2c1) (by decide +kernel) rfl rfl rfl (by decide +kernel)
set_option maxRecDepth 65536 in
theorem w_c8 : (Jvm.Cond.code ({ cls := "com/example/measured_savepoints/measuredsavepoints/SavepointStack$Held", name := "<init>", desc := "(JLjava/lang/Object;Z)V" } : Jvm.MethodName) prog_56_method_1_code (5 : Nat) (Option.none : Option Jvm.ClassFile.FieldType)).before args0 about1 = true := code_word (m := ⟨14, 0⟩) (meth := k14m0) (c := k14c0) (by decide +kernel) rfl rfl rfl (by decide +kernel)
set_option maxRecDepth 65536 in
theorem w_c9 : (Jvm.Cond.code ({ cls := "java/lang/Record", name := "<init>", desc := "()V" } : Jvm.MethodName) jdk_30_method_1_code (1 : Nat) (Option.none : Option Jvm.ClassFile.FieldType)).before args0 about1 = true := code_word (m := ⟨13, 0⟩) (meth := k13m0) (c := k13c0) (by decide +kernel) rfl rfl rfl (by decide +kernel)
set_option maxRecDepth 65536 in
theorem w_c10 : (Jvm.Cond.code ({ cls := "java/util/ArrayList", name := "add", desc := "(Ljava/lang/Object;)Z" } : Jvm.MethodName) jdk_38_method_25_code (2 : Nat) (Option.some Jvm.ClassFile.FieldType.boolean)).before args0 about1 = true := code_word (m := ⟨12, 4⟩) (meth := k12m4) (c := k12c4) (by decide +kernel) rfl rfl rfl (by decide +kernel)
set_option maxRecDepth 65536 in
theorem w_c11 : (Jvm.Cond.code ({ cls := "java/util/ArrayList", name := "add", desc := "(Ljava/lang/Object;[Ljava/lang/Object;I)V" } : Jvm.MethodName) jdk_38_method_24_code (4 : Nat) (Option.none : Option Jvm.ClassFile.FieldType)).before args0 about1 = true := code_word (m := ⟨12, 3⟩) (meth := k12m3) (c := k12c3) (by decide +kernel) rfl rfl rfl (by decide +kernel)
set_option maxRecDepth 65536 in
theorem w_c12 : (Jvm.Cond.code ({ cls := "java/util/ArrayList", name := "grow", desc := "()[Ljava/lang/Object;" } : Jvm.MethodName) jdk_38_method_7_code (1 : Nat) (Option.some (Jvm.ClassFile.FieldType.array (Jvm.ClassFile.FieldType.object "java/lang/Object")))).before args0 about1 = true := code_word (m := ⟨12, 2⟩) (meth := k12m2) (c := k12c2) (by decide +kernel) rfl rfl rfl (by decide +kernel)
set_option maxRecDepth 65536 in
theorem w_c13 : (Jvm.Cond.code ({ cls := "java/util/ArrayList", name := "grow", desc := "(I)[Ljava/lang/Object;" } : Jvm.MethodName) jdk_38_method_6_code (4 : Nat) (Option.some (Jvm.ClassFile.FieldType.array (Jvm.ClassFile.FieldType.object "java/lang/Object")))).before args0 about1 = true := code_word (m := ⟨12, 1⟩) (meth := k12m1) (c := k12c1) (by decide +kernel) rfl rfl rfl (by decide +kernel)
set_option maxRecDepth 65536 in
theorem w_c14 : (Jvm.Cond.code ({ cls := "java/lang/Math", name := "max", desc := "(II)I" } : Jvm.MethodName) jdk_29_method_65_code (2 : Nat) (Option.some Jvm.ClassFile.FieldType.int)).before args0 about1 = true := code_word (m := ⟨15, 1⟩) (meth := k15m1) (c := k15c1) (by decide +kernel) rfl rfl rfl (by decide +kernel)
set_option maxRecDepth 65536 in
theorem w_c15 : (Jvm.Cond.code ({ cls := "java/lang/Math", name := "max", desc := "(JJ)J" } : Jvm.MethodName) jdk_29_method_66_code (4 : Nat) (Option.some Jvm.ClassFile.FieldType.long)).before args0 about1 = true := code_word (m := ⟨15, 2⟩) (meth := k15m2) (c := k15c2) (by decide +kernel) rfl rfl rfl (by decide +kernel)
set_option maxRecDepth 65536 in
theorem w_c16 : (Jvm.Cond.code ({ cls := "com/example/measured_savepoints/measuredsavepoints/SavepointStack", name := "workedAbove", desc := "(JLjava/lang/Object;)Z" } : Jvm.MethodName) prog_55_method_7_code (6 : Nat) (Option.some Jvm.ClassFile.FieldType.boolean)).before args0 about1 = true := code_word (m := ⟨2, 3⟩) (meth := k2m3) (c := k2c3) (by decide +kernel) rfl rfl rfl (by decide +kernel)
set_option maxRecDepth 65536 in
theorem w_c17 : (Jvm.Cond.code ({ cls := "com/example/measured_savepoints/measuredsavepoints/SavepointStack", name := "noteWork", desc := "(Ljava/lang/Object;)V" } : Jvm.MethodName) prog_55_method_6_code (2 : Nat) (Option.none : Option Jvm.ClassFile.FieldType)).before args0 about1 = true := code_word (m := ⟨2, 2⟩) (meth := k2m2) (c := k2c2) (by decide +kernel) rfl rfl rfl (by decide +kernel)
def codes1 : List Jvm.Cond := [Jvm.Cond.code x code maxLocals ret, Jvm.Cond.code ({ cls := "com/example/measured_savepoints/measuredsavepoints/SavepointStack", name := "<init>", desc := "()V" } : Jvm.MethodName) prog_55_method_1_code (1 : Nat) (Option.none : Option Jvm.ClassFile.FieldType), Jvm.Cond.code ({ cls := "java/lang/Object", name := "<init>", desc := "()V" } : Jvm.MethodName) object_method_1_code (1 : Nat) (Option.none : Option Jvm.ClassFile.FieldType), Jvm.Cond.code ({ cls := "java/util/ArrayList", name := "<init>", desc := "()V" } : Jvm.MethodName) jdk_38_method_2_code (1 : Nat) (Option.none : Option Jvm.ClassFile.FieldType), Jvm.Cond.code ({ cls := "java/util/AbstractList", name := "<init>", desc := "()V" } : Jvm.MethodName) jdk_39_method_1_code (1 : Nat) (Option.none : Option Jvm.ClassFile.FieldType), Jvm.Cond.code ({ cls := "java/util/AbstractCollection", name := "<init>", desc := "()V" } : Jvm.MethodName) jdk_22_method_1_code (1 : Nat) (Option.none : Option Jvm.ClassFile.FieldType), Jvm.Cond.code ({ cls := "com/example/measured_savepoints/measuredsavepoints/SavepointStackWorkedAbovePinLaw", name := "step", desc := "(Lcom/example/measured_savepoints/measuredsavepoints/SavepointStack;[JILjava/lang/Object;Ljava/lang/Object;Ljava/lang/Object;)V" } : Jvm.MethodName) method_3_code (6 : Nat) (Option.none : Option Jvm.ClassFile.FieldType), Jvm.Cond.code ({ cls := "com/example/measured_savepoints/measuredsavepoints/SavepointStack", name := "push", desc := "(Ljava/lang/Object;)J" } : Jvm.MethodName) prog_55_method_2_code (2 : Nat) (Option.some Jvm.ClassFile.FieldType.long), Jvm.Cond.code ({ cls := "com/example/measured_savepoints/measuredsavepoints/SavepointStack$Held", name := "<init>", desc := "(JLjava/lang/Object;Z)V" } : Jvm.MethodName) prog_56_method_1_code (5 : Nat) (Option.none : Option Jvm.ClassFile.FieldType), Jvm.Cond.code ({ cls := "java/lang/Record", name := "<init>", desc := "()V" } : Jvm.MethodName) jdk_30_method_1_code (1 : Nat) (Option.none : Option Jvm.ClassFile.FieldType), Jvm.Cond.code ({ cls := "java/util/ArrayList", name := "add", desc := "(Ljava/lang/Object;)Z" } : Jvm.MethodName) jdk_38_method_25_code (2 : Nat) (Option.some Jvm.ClassFile.FieldType.boolean), Jvm.Cond.code ({ cls := "java/util/ArrayList", name := "add", desc := "(Ljava/lang/Object;[Ljava/lang/Object;I)V" } : Jvm.MethodName) jdk_38_method_24_code (4 : Nat) (Option.none : Option Jvm.ClassFile.FieldType), Jvm.Cond.code ({ cls := "java/util/ArrayList", name := "grow", desc := "()[Ljava/lang/Object;" } : Jvm.MethodName) jdk_38_method_7_code (1 : Nat) (Option.some (Jvm.ClassFile.FieldType.array (Jvm.ClassFile.FieldType.object "java/lang/Object"))), Jvm.Cond.code ({ cls := "java/util/ArrayList", name := "grow", desc := "(I)[Ljava/lang/Object;" } : Jvm.MethodName) jdk_38_method_6_code (4 : Nat) (Option.some (Jvm.ClassFile.FieldType.array (Jvm.ClassFile.FieldType.object "java/lang/Object"))), Jvm.Cond.code ({ cls := "java/lang/Math", name := "max", desc := "(II)I" } : Jvm.MethodName) jdk_29_method_65_code (2 : Nat) (Option.some Jvm.ClassFile.FieldType.int), Jvm.Cond.code ({ cls := "java/lang/Math", name := "max", desc := "(JJ)J" } : Jvm.MethodName) jdk_29_method_66_code (4 : Nat) (Option.some Jvm.ClassFile.FieldType.long), Jvm.Cond.code ({ cls := "com/example/measured_savepoints/measuredsavepoints/SavepointStack", name := "workedAbove", desc := "(JLjava/lang/Object;)Z" } : Jvm.MethodName) prog_55_method_7_code (6 : Nat) (Option.some Jvm.ClassFile.FieldType.boolean), Jvm.Cond.code ({ cls := "com/example/measured_savepoints/measuredsavepoints/SavepointStack", name := "noteWork", desc := "(Ljava/lang/Object;)V" } : Jvm.MethodName) prog_55_method_6_code (2 : Nat) (Option.none : Option Jvm.ClassFile.FieldType)]
set_option maxRecDepth 65536 in
theorem codes_eq : words1.filter isCode = codes1 := rfl
theorem w_codes : ∀ c ∈ words1.filter isCode, c.before args0 about1 = true := by
  rw [codes_eq]
  intro c hc
  simp only [codes1, List.mem_cons, List.not_mem_nil, or_false] at hc
  rcases hc with rfl | rfl | rfl | rfl | rfl | rfl | rfl | rfl | rfl | rfl | rfl | rfl | rfl | rfl | rfl | rfl | rfl | rfl
  · exact w_c0
  · exact w_c1
  · exact w_c2
  · exact w_c3
  · exact w_c4
  · exact w_c5
  · exact w_c6
  · exact w_c7
  · exact w_c8
  · exact w_c9
  · exact w_c10
  · exact w_c11
  · exact w_c12
  · exact w_c13
  · exact w_c14
  · exact w_c15
  · exact w_c16
  · exact w_c17
set_option maxRecDepth 65536 in
theorem w_t1 : (words1.take 24).all (fun c => isCode c || c.before args0 about1) = true := by decide +kernel
set_option maxRecDepth 65536 in
theorem w_t2 : ((words1.drop 24).take 24).all (fun c => isCode c || c.before args0 about1) = true := by decide +kernel
set_option maxRecDepth 65536 in
theorem w_t3 : (((words1.drop 24).drop 24).take 24).all (fun c => isCode c || c.before args0 about1) = true := by decide +kernel
set_option maxRecDepth 65536 in
theorem w_t4 : ((((words1.drop 24).drop 24).drop 24).take 24).all (fun c => isCode c || c.before args0 about1) = true := by decide +kernel
set_option maxRecDepth 65536 in
theorem w_t5 : (((((words1.drop 24).drop 24).drop 24).drop 24).take 24).all (fun c => isCode c || c.before args0 about1) = true := by decide +kernel
set_option maxRecDepth 65536 in
theorem w_t6 : (((((words1.drop 24).drop 24).drop 24).drop 24).drop 24).all (fun c => isCode c || c.before args0 about1) = true := by decide +kernel
theorem w_tables : (allAtoms (Jvm.Cond.code x code maxLocals ret :: tables_1)).before args0 about1 = true := by
  rw [allAtoms_all]
  show words1.all (fun c => c.before args0 about1) = true
  refine all_split ?_ w_codes
  rw [← List.take_append_drop 24 words1, List.all_append, w_t1, ← List.take_append_drop 24 (words1.drop 24), List.all_append, w_t2, ← List.take_append_drop 24 ((words1.drop 24).drop 24), List.all_append, w_t3, ← List.take_append_drop 24 (((words1.drop 24).drop 24).drop 24), List.all_append, w_t4, ← List.take_append_drop 24 ((((words1.drop 24).drop 24).drop 24).drop 24), List.all_append, w_t5, w_t6]
  rfl
set_option maxRecDepth 65536 in
theorem w_rest : rest_1_c.before args0 about1 = true := by decide +kernel
set_option maxRecDepth 65536 in
theorem w_case : (Jvm.Cond.and given_1 narrow_1).before args0 about1 = true := by decide +kernel
theorem w_applies : (headSpec (Jvm.Cond.code x code maxLocals ret :: tables_1) room_1).applies x e0.platform about1 = true :=
  (Spec.applies_iff w_frames).mpr ⟨w_running, w_runnable, w_alone, w_named, w_hears, w_ripe, w_room, w_tables⟩
theorem atStart : AtStart classFile x code maxLocals ret World_1 tables_1 room_1 Calls_1 rest_1 Pre_1 launch0 p0 e0 about1 theMethod args0 below0 :=
  ⟨lists_1, trivial, launch0.admits_env _ _ _, launch0.least_env, fairChoices_fair.cas, fairChoices_fair.clock, w_frames, w_args, w_heap, w_applies, trivial, w_rest, w_case⟩
end start1
theorem witness_1 : WitnessClaimed_1 := ⟨start1.p0, start1.e0, start1.about1, start1.theMethod, start1.args0, start1.below0, start1.atStart⟩
end Jvm.Pilot.@@N@@
