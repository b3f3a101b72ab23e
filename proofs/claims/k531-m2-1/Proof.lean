import JvmDerived
import JvmDerived.Pilot.@@N@@Statement
import JvmDerived.Pilot.@@N@@Code
set_option linter.unusedVariables false
set_option linter.unusedSimpArgs false
namespace Jvm.OwnKit
open Jvm Jvm.ClassFile Sem Op Lib Jvm.Stand Jvm.Free Jvm.LawKit Jvm.RoadKit
/-! A small calculus of my own over the library's laws: Go says 'from here the body comes to its end, and what it leaves satisfies Q'. -/
abbrev Bod : Type := Program × Launch × Env × Room × State × MethodId × Array Value × List Frame × Method × Code
abbrev Bod.p (B : Bod) : Program := B.1
abbrev Bod.l (B : Bod) : Launch := B.2.1
abbrev Bod.e (B : Bod) : Env := B.2.2.1
abbrev Bod.R (B : Bod) : Room := B.2.2.2.1
abbrev Bod.s (B : Bod) : State := B.2.2.2.2.1
abbrev Bod.m (B : Bod) : MethodId := B.2.2.2.2.2.1
abbrev Bod.args (B : Bod) : Array Value := B.2.2.2.2.2.2.1
abbrev Bod.below (B : Bod) : List Frame := B.2.2.2.2.2.2.2.1
abbrev Bod.meth (B : Bod) : Method := B.2.2.2.2.2.2.2.2.1
abbrev Bod.c (B : Bod) : Code := B.2.2.2.2.2.2.2.2.2
abbrev St (B : Bod) (T : State) (locs : List Loc) (k n : Nat) : Prop := Stand B.p B.l B.e B.R B.s B.m B.args B.below B.meth B.c T locs k n
def Fin0 (B : Bod) (n0 : Nat) (Q : Option Value → Heap → Prop) (g : JFrame) (T : State) : Prop :=
  ∃ t o, Steps B.p.tables B.e B.below (T.setTop g) t ∧ t.status = .running ∧ Ended t B.below o ∧ ∃ v L, o = .returned v ∧ (Fr n0 L ∧ Q v t.heap) ∧ FrameEnd B.s o t L B.R.cells B.R.slots
def Go (B : Bod) (n0 : Nat) (Q : Option Value → Heap → Prop) (h : Heap) (k n pc : Nat) (L : Array Slot) (st : List Value) : Prop :=
  ∀ T locs, St B T locs k n → Fr n0 locs → T.heap = h → Fin0 B n0 Q (mkF B.m pc L st) T
def Ctx (B : Bod) (l : Launch) (rm : Room) (bytes : ByteArray) (own nm : String) (maxL : Nat) (ret : Option FieldType) (Z : State) : Prop :=
  B.l = l ∧ B.R = rm ∧ B.p.tables.exec = Jvm.exec ∧ B.c.code = bytes ∧ Z.Warmed39 B.s.vm ∧ B.s.vm.findClass own = some B.m.cls ∧ B.meth.name = nm ∧ B.c.maxLocals = maxL ∧ B.meth.sig.returnType = ret ∧ B.meth.locks = false
/-- a method's contract: called with these arguments over this heap it returns, and Q holds of what it returns and of the heap it leaves -/
def Met1 (l : Launch) (Z : State) (y : MethodName) (bytes : ByteArray) (maxL : Nat) (ret : Option FieldType) (rm : Room) (n0 : Nat) (as' : Array Value) (h0 : Heap) (Q : Option Value → Heap → Prop) : Prop :=
  ∀ ws : List Jvm.Cond, MetFree l y (head1 (Jvm.Cond.code y bytes maxL ret :: ws) rm) (fun a U => a = as' ∧ Z.Warmed39 U.vm ∧ U.heap = h0) (fun _ _ _ _ _ => True) (fun _ U o U' => ∃ v L, o = .returned v ∧ (Fr n0 L ∧ Q v U'.heap) ∧ FrameEnd U o U' L rm.cells rm.slots)
section Base
variable {B : Bod} {l : Launch} {rm : Room} {bytes : ByteArray} {own nm : String} {maxL : Nat} {ret : Option FieldType} {Z : State} {n0 : Nat} {Q : Option Value → Heap → Prop} {h : Heap} {k n pc pc' : Nat} {L L' : Array Slot} {st st' : List Value} {a0 : Array Value}
theorem met_of {y : MethodName} {as' : Array Value} (hp : plainFor y = true) {L0 : Array Slot} (hL : argsToLocals as' maxL = L0) (go : ∀ B : Bod, Ctx B l rm bytes y.cls y.name maxL ret Z → Go B n0 Q h 0 0 0 L0 []) : Met1 l Z y bytes maxL ret rm n0 as' h Q := by
  intro ws
  refine MetFree.of_bodySF hp hisR ?_
  intro p e s m args below meth c s₁ Bd hml0 hP hK
  obtain ⟨rfl, hZ, hh⟩ := hP
  subst hL
  obtain ⟨t, o, h1, h2, h3, v, L, h4, h5, h6⟩ := go (p, l, e, rm, s, m, args, below, meth, c) ⟨rfl, rfl, Bd.exec, Bd.bytes, hZ, findClass_of_methodNamed Bd.named, (name_of_methodNamed Bd.named Bd.method).1, hml0, Bd.returns, BodyLoose.notSynchronized Bd⟩ s₁ [] (Stand.of_body Bd) (Fr.nil n0) (by rw [← hh, Bd.state]; rfl)
  exact ⟨t, o, h1, h2, h3, v, L, h4, h5, h6⟩
/-- a step that moves the frame alone -/
theorem Go.step (f : ∀ T locs, St B T locs k n → T.heap = h → ∀ t, Steps B.p.tables B.e B.below (T.setTop (mkF B.m pc' L' st')) t → Steps B.p.tables B.e B.below (T.setTop (mkF B.m pc L st)) t) (go : Go B n0 Q h k n pc' L' st') : Go B n0 Q h k n pc L st := fun T locs X N eT => by
  obtain ⟨t, o, a, r⟩ := go T locs X N eT
  exact ⟨t, o, f T locs X eT t a, r⟩
/-- a step that moves the tables too -/
theorem Go.move (f : ∀ T locs, St B T locs k n → T.heap = h → ∃ T', St B T' locs k n ∧ T'.heap = h ∧ ∀ t, Steps B.p.tables B.e B.below (T'.setTop (mkF B.m pc' L' st')) t → Steps B.p.tables B.e B.below (T.setTop (mkF B.m pc L st)) t) (go : Go B n0 Q h k n pc' L' st') : Go B n0 Q h k n pc L st := fun T locs X N eT => by
  obtain ⟨T', X', e', f'⟩ := f T locs X eT
  obtain ⟨t, o, a, r⟩ := go T' locs X' N e'
  exact ⟨t, o, f' t a, r⟩
theorem Go.eqs {st2 : List Value} (go : Go B n0 Q h k n pc L st2) (e : st = st2) : Go B n0 Q h k n pc L st := e ▸ go
theorem Go.eqh {h2 : Heap} (go : Go B n0 Q h2 k n pc L st) (e : h = h2) : Go B n0 Q h k n pc L st := e ▸ go
theorem g_iload_n (C : Ctx B l rm bytes own nm maxL ret Z) {i : Fin 4} {v : Int32} (hd : decode bytes pc = .ok (.iload_n i, 1)) (hl : L[i.val]? = some (.val (.int v))) (hpc : pc + 1 = pc') (go : Go B n0 Q h k n pc' L (.int v :: st)) : Go B n0 Q h k n pc L st := go.step fun T locs X eT t q => Jvm.Free.XS.iloadN X.here C.2.2.1 rfl (hb C.2.2.2.1 hd) hl (by subst hpc; exact q)
theorem g_iload (C : Ctx B l rm bytes own nm maxL ret Z) {i : Nat} {v : Int32} (hd : decode bytes pc = .ok (.iload i, 2)) (hl : L[i]? = some (.val (.int v))) (hpc : pc + 2 = pc') (go : Go B n0 Q h k n pc' L (.int v :: st)) : Go B n0 Q h k n pc L st := go.step fun T locs X eT t q => Jvm.Free.XS.iload X.here C.2.2.1 rfl (hb C.2.2.2.1 hd) hl (by subst hpc; exact q)
theorem g_lload_n (C : Ctx B l rm bytes own nm maxL ret Z) {i : Fin 4} {v : Int64} (hd : decode bytes pc = .ok (.lload_n i, 1)) (hl : L[i.val]? = some (.val (.long v))) (hpc : pc + 1 = pc') (go : Go B n0 Q h k n pc' L (.long v :: st)) : Go B n0 Q h k n pc L st := go.step fun T locs X eT t q => Jvm.Free.XT.lloadN X.here C.2.2.1 rfl (hb C.2.2.2.1 hd) hl (by subst hpc; exact q)
theorem g_lload (C : Ctx B l rm bytes own nm maxL ret Z) {i : Nat} {v : Int64} (hd : decode bytes pc = .ok (.lload i, 2)) (hl : L[i]? = some (.val (.long v))) (hpc : pc + 2 = pc') (go : Go B n0 Q h k n pc' L (.long v :: st)) : Go B n0 Q h k n pc L st := go.step fun T locs X eT t q => Jvm.Free.XT.lload X.here C.2.2.1 rfl (hb C.2.2.2.1 hd) hl (by subst hpc; exact q)
theorem g_aload_n (C : Ctx B l rm bytes own nm maxL ret Z) {i : Fin 4} {v : Value} (hd : decode bytes pc = .ok (.aload_n i, 1)) (hl : L[i.val]? = some (.val v)) (hv : v.isRef = true) (hpc : pc + 1 = pc') (go : Go B n0 Q h k n pc' L (v :: st)) : Go B n0 Q h k n pc L st := go.step fun T locs X eT t q => Jvm.Free.XS.aloadN X.here C.2.2.1 rfl (hb C.2.2.2.1 hd) hl hv (by subst hpc; exact q)
theorem g_aload (C : Ctx B l rm bytes own nm maxL ret Z) {i : Nat} {v : Value} (hd : decode bytes pc = .ok (.aload i, 2)) (hl : L[i]? = some (.val v)) (hv : v.isRef = true) (hpc : pc + 2 = pc') (go : Go B n0 Q h k n pc' L (v :: st)) : Go B n0 Q h k n pc L st := go.step fun T locs X eT t q => Jvm.Free.XS.aload X.here C.2.2.1 rfl (hb C.2.2.2.1 hd) hl hv (by subst hpc; exact q)
theorem g_istore_n (C : Ctx B l rm bytes own nm maxL ret Z) {i : Fin 4} {v : Int32} (hd : decode bytes pc = .ok (.istore_n i, 1)) (hl : storeLocals L i.val (.int v) = some L') (hpc : pc + 1 = pc') (go : Go B n0 Q h k n pc' L' st) : Go B n0 Q h k n pc L (.int v :: st) := go.step fun T locs X eT t q => Jvm.Free.XS.istoreN X.here C.2.2.1 rfl (hb C.2.2.2.1 hd) rfl hl (by subst hpc; exact q)
theorem g_istore (C : Ctx B l rm bytes own nm maxL ret Z) {i : Nat} {v : Int32} (hd : decode bytes pc = .ok (.istore i, 2)) (hl : storeLocals L i (.int v) = some L') (hpc : pc + 2 = pc') (go : Go B n0 Q h k n pc' L' st) : Go B n0 Q h k n pc L (.int v :: st) := go.step fun T locs X eT t q => Jvm.Free.XS.istore X.here C.2.2.1 rfl (hb C.2.2.2.1 hd) rfl hl (by subst hpc; exact q)
theorem g_lstore_n (C : Ctx B l rm bytes own nm maxL ret Z) {i : Fin 4} {v : Int64} (hd : decode bytes pc = .ok (.lstore_n i, 1)) (hl : storeLocals L i.val (.long v) = some L') (hpc : pc + 1 = pc') (go : Go B n0 Q h k n pc' L' st) : Go B n0 Q h k n pc L (.long v :: st) := go.step fun T locs X eT t q => Jvm.Free.XT.lstoreN X.here C.2.2.1 rfl (hb C.2.2.2.1 hd) rfl hl (by subst hpc; exact q)
theorem g_lstore (C : Ctx B l rm bytes own nm maxL ret Z) {i : Nat} {v : Int64} (hd : decode bytes pc = .ok (.lstore i, 2)) (hl : storeLocals L i (.long v) = some L') (hpc : pc + 2 = pc') (go : Go B n0 Q h k n pc' L' st) : Go B n0 Q h k n pc L (.long v :: st) := go.step fun T locs X eT t q => Jvm.Free.XT.lstore X.here C.2.2.1 rfl (hb C.2.2.2.1 hd) rfl hl (by subst hpc; exact q)
theorem g_astore_n (C : Ctx B l rm bytes own nm maxL ret Z) {i : Fin 4} {v : Value} (hd : decode bytes pc = .ok (.astore_n i, 1)) (hl : storeLocals L i.val v = some L') (hv : v.isRef = true) (hpc : pc + 1 = pc') (go : Go B n0 Q h k n pc' L' st) : Go B n0 Q h k n pc L (v :: st) := go.step fun T locs X eT t q => Jvm.Free.XS.astoreN X.here C.2.2.1 rfl (hb C.2.2.2.1 hd) rfl hv hl (by subst hpc; exact q)
theorem g_astore (C : Ctx B l rm bytes own nm maxL ret Z) {i : Nat} {v : Value} (hd : decode bytes pc = .ok (.astore i, 2)) (hl : storeLocals L i v = some L') (hv : v.isRef = true) (hpc : pc + 2 = pc') (go : Go B n0 Q h k n pc' L' st) : Go B n0 Q h k n pc L (v :: st) := go.step fun T locs X eT t q => Jvm.Free.XS.astore X.here C.2.2.1 rfl (hb C.2.2.2.1 hd) rfl hv hl (by subst hpc; exact q)
theorem g_iinc (C : Ctx B l rm bytes own nm maxL ret Z) {i : Nat} {z : Int} {v w : Int32} (hd : decode bytes pc = .ok (.iinc i z, 3)) (hl : L[i]? = some (.val (.int v))) (hw : v + Int32.ofInt z = w) (hl' : storeLocals L i (.int w) = some L') (hpc : pc + 3 = pc') (go : Go B n0 Q h k n pc' L' st) : Go B n0 Q h k n pc L st := go.step fun T locs X eT t q => Jvm.Free.XS.iinc X.here C.2.2.1 rfl (hb C.2.2.2.1 hd) hl (by rw [hw]; exact hl') (by subst hpc; exact q)
theorem g_iconst (C : Ctx B l rm bytes own nm maxL ret Z) {z : Int} {v : Int32} (hd : decode bytes pc = .ok (.iconst z, 1)) (hv : Int32.ofInt z = v) (hpc : pc + 1 = pc') (go : Go B n0 Q h k n pc' L (.int v :: st)) : Go B n0 Q h k n pc L st := go.step fun T locs X eT t q => Jvm.Free.XS.iconst X.here C.2.2.1 rfl (hb C.2.2.2.1 hd) (by subst hpc hv; exact q)
theorem g_bipush (C : Ctx B l rm bytes own nm maxL ret Z) {z : Int} {v : Int32} (hd : decode bytes pc = .ok (.bipush z, 2)) (hv : (Int8.ofInt z).toInt32 = v) (hpc : pc + 2 = pc') (go : Go B n0 Q h k n pc' L (.int v :: st)) : Go B n0 Q h k n pc L st := go.step fun T locs X eT t q => Jvm.Free.XS.bipush X.here C.2.2.1 rfl (hb C.2.2.2.1 hd) (by subst hpc hv; exact q)
theorem g_lconst (C : Ctx B l rm bytes own nm maxL ret Z) {i : Fin 2} {v : Int64} (hd : decode bytes pc = .ok (.lconst i, 1)) (hv : Int64.ofNat i = v) (hpc : pc + 1 = pc') (go : Go B n0 Q h k n pc' L (.long v :: st)) : Go B n0 Q h k n pc L st := go.step fun T locs X eT t q => Jvm.Free.XT.lconst X.here C.2.2.1 rfl (hb C.2.2.2.1 hd) (by subst hpc hv; exact q)
theorem g_aconst_null (C : Ctx B l rm bytes own nm maxL ret Z)  (hd : decode bytes pc = .ok (.aconst_null, 1))  (hpc : pc + 1 = pc') (go : Go B n0 Q h k n pc' L (.null :: st)) : Go B n0 Q h k n pc L st := go.step fun T locs X eT t q => Jvm.Free.XS.aconstNull X.here C.2.2.1 rfl (hb C.2.2.2.1 hd)  (by subst hpc; exact q)
theorem g_iadd (C : Ctx B l rm bytes own nm maxL ret Z) {x y : Int32} (hd : decode bytes pc = .ok (.iadd, 1))  (hpc : pc + 1 = pc') (go : Go B n0 Q h k n pc' L (.int (x + y) :: st)) : Go B n0 Q h k n pc L (.int y :: .int x :: st) := go.step fun T locs X eT t q => Jvm.Free.XS.iadd X.here C.2.2.1 rfl (hb C.2.2.2.1 hd) rfl (by subst hpc; exact q)
theorem g_isub (C : Ctx B l rm bytes own nm maxL ret Z) {x y : Int32} (hd : decode bytes pc = .ok (.isub, 1))  (hpc : pc + 1 = pc') (go : Go B n0 Q h k n pc' L (.int (x - y) :: st)) : Go B n0 Q h k n pc L (.int y :: .int x :: st) := go.step fun T locs X eT t q => Jvm.Free.XS.isub X.here C.2.2.1 rfl (hb C.2.2.2.1 hd) rfl (by subst hpc; exact q)
theorem g_iand (C : Ctx B l rm bytes own nm maxL ret Z) {x y : Int32} (hd : decode bytes pc = .ok (.iand, 1))  (hpc : pc + 1 = pc') (go : Go B n0 Q h k n pc' L (.int (x &&& y) :: st)) : Go B n0 Q h k n pc L (.int y :: .int x :: st) := go.step fun T locs X eT t q => Jvm.Free.XS.iand X.here C.2.2.1 rfl (hb C.2.2.2.1 hd) rfl (by subst hpc; exact q)
theorem g_imul (C : Ctx B l rm bytes own nm maxL ret Z) {x y : Int32} (hd : decode bytes pc = .ok (.imul, 1))  (hpc : pc + 1 = pc') (go : Go B n0 Q h k n pc' L (.int (x * y) :: st)) : Go B n0 Q h k n pc L (.int y :: .int x :: st) := go.step fun T locs X eT t q => Jvm.Free.XS.imul X.here C.2.2.1 rfl (hb C.2.2.2.1 hd) rfl (by subst hpc; exact q)
theorem g_ixor (C : Ctx B l rm bytes own nm maxL ret Z) {x y : Int32} (hd : decode bytes pc = .ok (.ixor, 1))  (hpc : pc + 1 = pc') (go : Go B n0 Q h k n pc' L (.int (x ^^^ y) :: st)) : Go B n0 Q h k n pc L (.int y :: .int x :: st) := go.step fun T locs X eT t q => Jvm.Free.XT.ixor X.here C.2.2.1 rfl (hb C.2.2.2.1 hd) rfl (by subst hpc; exact q)
theorem g_ior (C : Ctx B l rm bytes own nm maxL ret Z) {x y : Int32} (hd : decode bytes pc = .ok (.ior, 1))  (hpc : pc + 1 = pc') (go : Go B n0 Q h k n pc' L (.int (x ||| y) :: st)) : Go B n0 Q h k n pc L (.int y :: .int x :: st) := go.step fun T locs X eT t q => Jvm.Free.XT.ior X.here C.2.2.1 rfl (hb C.2.2.2.1 hd) rfl (by subst hpc; exact q)
theorem g_ishl (C : Ctx B l rm bytes own nm maxL ret Z) {x y : Int32} (hd : decode bytes pc = .ok (.ishl, 1))  (hpc : pc + 1 = pc') (go : Go B n0 Q h k n pc' L (.int (x <<< (y &&& 31)) :: st)) : Go B n0 Q h k n pc L (.int y :: .int x :: st) := go.step fun T locs X eT t q => Jvm.Free.XT.ishl X.here C.2.2.1 rfl (hb C.2.2.2.1 hd) rfl (by subst hpc; exact q)
theorem g_ishr (C : Ctx B l rm bytes own nm maxL ret Z) {x y : Int32} (hd : decode bytes pc = .ok (.ishr, 1))  (hpc : pc + 1 = pc') (go : Go B n0 Q h k n pc' L (.int (x >>> (y &&& 31)) :: st)) : Go B n0 Q h k n pc L (.int y :: .int x :: st) := go.step fun T locs X eT t q => Jvm.Free.XT.ishr X.here C.2.2.1 rfl (hb C.2.2.2.1 hd) rfl (by subst hpc; exact q)
theorem g_iushr (C : Ctx B l rm bytes own nm maxL ret Z) {x y : Int32} (hd : decode bytes pc = .ok (.iushr, 1))  (hpc : pc + 1 = pc') (go : Go B n0 Q h k n pc' L (.int (Jvm.Free.XT.ushr x y) :: st)) : Go B n0 Q h k n pc L (.int y :: .int x :: st) := go.step fun T locs X eT t q => Jvm.Free.XT.iushr X.here C.2.2.1 rfl (hb C.2.2.2.1 hd) rfl (by subst hpc; exact q)
theorem g_idiv (C : Ctx B l rm bytes own nm maxL ret Z) {x y : Int32} (hd : decode bytes pc = .ok (.idiv, 1)) (hy : y ≠ 0) (hpc : pc + 1 = pc') (go : Go B n0 Q h k n pc' L (.int (x / y) :: st)) : Go B n0 Q h k n pc L (.int y :: .int x :: st) := go.step fun T locs X eT t q => Jvm.Free.XS.idiv X.here C.2.2.1 rfl (hb C.2.2.2.1 hd) rfl hy (by subst hpc; exact q)
theorem g_irem (C : Ctx B l rm bytes own nm maxL ret Z) {x y : Int32} (hd : decode bytes pc = .ok (.irem, 1)) (hy : y ≠ 0) (hpc : pc + 1 = pc') (go : Go B n0 Q h k n pc' L (.int (x - (x / y) * y) :: st)) : Go B n0 Q h k n pc L (.int y :: .int x :: st) := go.step fun T locs X eT t q => Jvm.Free.XS.irem X.here C.2.2.1 rfl (hb C.2.2.2.1 hd) rfl hy (by subst hpc; exact q)
theorem g_ineg (C : Ctx B l rm bytes own nm maxL ret Z) {x : Int32} (hd : decode bytes pc = .ok (.ineg, 1))  (hpc : pc + 1 = pc') (go : Go B n0 Q h k n pc' L (.int (-x) :: st)) : Go B n0 Q h k n pc L (.int x :: st) := go.step fun T locs X eT t q => Jvm.Free.XS.ineg X.here C.2.2.1 rfl (hb C.2.2.2.1 hd) rfl (by subst hpc; exact q)
theorem g_ladd (C : Ctx B l rm bytes own nm maxL ret Z) {x y : Int64} (hd : decode bytes pc = .ok (.ladd, 1))  (hpc : pc + 1 = pc') (go : Go B n0 Q h k n pc' L (.long (x + y) :: st)) : Go B n0 Q h k n pc L (.long y :: .long x :: st) := go.step fun T locs X eT t q => Jvm.Free.XT.ladd X.here C.2.2.1 rfl (hb C.2.2.2.1 hd) rfl (by subst hpc; exact q)
theorem g_lsub (C : Ctx B l rm bytes own nm maxL ret Z) {x y : Int64} (hd : decode bytes pc = .ok (.lsub, 1))  (hpc : pc + 1 = pc') (go : Go B n0 Q h k n pc' L (.long (x - y) :: st)) : Go B n0 Q h k n pc L (.long y :: .long x :: st) := go.step fun T locs X eT t q => Jvm.Free.XT.lsub X.here C.2.2.1 rfl (hb C.2.2.2.1 hd) rfl (by subst hpc; exact q)
theorem g_lmul (C : Ctx B l rm bytes own nm maxL ret Z) {x y : Int64} (hd : decode bytes pc = .ok (.lmul, 1))  (hpc : pc + 1 = pc') (go : Go B n0 Q h k n pc' L (.long (x * y) :: st)) : Go B n0 Q h k n pc L (.long y :: .long x :: st) := go.step fun T locs X eT t q => Jvm.Free.XT.lmul X.here C.2.2.1 rfl (hb C.2.2.2.1 hd) rfl (by subst hpc; exact q)
theorem g_land (C : Ctx B l rm bytes own nm maxL ret Z) {x y : Int64} (hd : decode bytes pc = .ok (.land, 1))  (hpc : pc + 1 = pc') (go : Go B n0 Q h k n pc' L (.long (x &&& y) :: st)) : Go B n0 Q h k n pc L (.long y :: .long x :: st) := go.step fun T locs X eT t q => Jvm.Free.XT.land X.here C.2.2.1 rfl (hb C.2.2.2.1 hd) rfl (by subst hpc; exact q)
theorem g_lor (C : Ctx B l rm bytes own nm maxL ret Z) {x y : Int64} (hd : decode bytes pc = .ok (.lor, 1))  (hpc : pc + 1 = pc') (go : Go B n0 Q h k n pc' L (.long (x ||| y) :: st)) : Go B n0 Q h k n pc L (.long y :: .long x :: st) := go.step fun T locs X eT t q => Jvm.Free.XT.lor X.here C.2.2.1 rfl (hb C.2.2.2.1 hd) rfl (by subst hpc; exact q)
theorem g_lxor (C : Ctx B l rm bytes own nm maxL ret Z) {x y : Int64} (hd : decode bytes pc = .ok (.lxor, 1))  (hpc : pc + 1 = pc') (go : Go B n0 Q h k n pc' L (.long (x ^^^ y) :: st)) : Go B n0 Q h k n pc L (.long y :: .long x :: st) := go.step fun T locs X eT t q => Jvm.Free.XT.lxor X.here C.2.2.1 rfl (hb C.2.2.2.1 hd) rfl (by subst hpc; exact q)
theorem g_ldiv (C : Ctx B l rm bytes own nm maxL ret Z) {x y : Int64} (hd : decode bytes pc = .ok (.ldiv, 1)) (hy : y ≠ 0) (hpc : pc + 1 = pc') (go : Go B n0 Q h k n pc' L (.long (x / y) :: st)) : Go B n0 Q h k n pc L (.long y :: .long x :: st) := go.step fun T locs X eT t q => Jvm.Free.XT.ldiv X.here C.2.2.1 rfl (hb C.2.2.2.1 hd) rfl hy (by subst hpc; exact q)
theorem g_lrem (C : Ctx B l rm bytes own nm maxL ret Z) {x y : Int64} (hd : decode bytes pc = .ok (.lrem, 1)) (hy : y ≠ 0) (hpc : pc + 1 = pc') (go : Go B n0 Q h k n pc' L (.long (x - (x / y) * y) :: st)) : Go B n0 Q h k n pc L (.long y :: .long x :: st) := go.step fun T locs X eT t q => Jvm.Free.XT.lrem X.here C.2.2.1 rfl (hb C.2.2.2.1 hd) rfl hy (by subst hpc; exact q)
theorem g_lneg (C : Ctx B l rm bytes own nm maxL ret Z) {x : Int64} (hd : decode bytes pc = .ok (.lneg, 1))  (hpc : pc + 1 = pc') (go : Go B n0 Q h k n pc' L (.long (-x) :: st)) : Go B n0 Q h k n pc L (.long x :: st) := go.step fun T locs X eT t q => Jvm.Free.XT.lneg X.here C.2.2.1 rfl (hb C.2.2.2.1 hd) rfl (by subst hpc; exact q)
theorem g_lshl (C : Ctx B l rm bytes own nm maxL ret Z) {x : Int64} {y : Int32} (hd : decode bytes pc = .ok (.lshl, 1))  (hpc : pc + 1 = pc') (go : Go B n0 Q h k n pc' L (.long (x <<< (y.toInt64 &&& 63)) :: st)) : Go B n0 Q h k n pc L (.int y :: .long x :: st) := go.step fun T locs X eT t q => Jvm.Free.XT.lshl X.here C.2.2.1 rfl (hb C.2.2.2.1 hd) rfl (by subst hpc; exact q)
theorem g_lshr (C : Ctx B l rm bytes own nm maxL ret Z) {x : Int64} {y : Int32} (hd : decode bytes pc = .ok (.lshr, 1))  (hpc : pc + 1 = pc') (go : Go B n0 Q h k n pc' L (.long (x >>> (y.toInt64 &&& 63)) :: st)) : Go B n0 Q h k n pc L (.int y :: .long x :: st) := go.step fun T locs X eT t q => Jvm.Free.XT.lshr X.here C.2.2.1 rfl (hb C.2.2.2.1 hd) rfl (by subst hpc; exact q)
theorem g_lushr (C : Ctx B l rm bytes own nm maxL ret Z) {x : Int64} {y : Int32} (hd : decode bytes pc = .ok (.lushr, 1))  (hpc : pc + 1 = pc') (go : Go B n0 Q h k n pc' L (.long (Jvm.Free.XT.ushrL x y) :: st)) : Go B n0 Q h k n pc L (.int y :: .long x :: st) := go.step fun T locs X eT t q => Jvm.Free.XT.lushr X.here C.2.2.1 rfl (hb C.2.2.2.1 hd) rfl (by subst hpc; exact q)
theorem g_lcmp (C : Ctx B l rm bytes own nm maxL ret Z) {x y : Int64} (hd : decode bytes pc = .ok (.lcmp, 1))  (hpc : pc + 1 = pc') (go : Go B n0 Q h k n pc' L (.int (Jvm.Free.XT.cmpL x y) :: st)) : Go B n0 Q h k n pc L (.long y :: .long x :: st) := go.step fun T locs X eT t q => Jvm.Free.XT.lcmp X.here C.2.2.1 rfl (hb C.2.2.2.1 hd) rfl (by subst hpc; exact q)
theorem g_i2l (C : Ctx B l rm bytes own nm maxL ret Z) {x : Int32} (hd : decode bytes pc = .ok (.i2l, 1))  (hpc : pc + 1 = pc') (go : Go B n0 Q h k n pc' L (.long (x.toInt64) :: st)) : Go B n0 Q h k n pc L (.int x :: st) := go.step fun T locs X eT t q => Jvm.Free.XT.i2l X.here C.2.2.1 rfl (hb C.2.2.2.1 hd) rfl (by subst hpc; exact q)
theorem g_l2i (C : Ctx B l rm bytes own nm maxL ret Z) {x : Int64} (hd : decode bytes pc = .ok (.l2i, 1))  (hpc : pc + 1 = pc') (go : Go B n0 Q h k n pc' L (.int (x.toInt32) :: st)) : Go B n0 Q h k n pc L (.long x :: st) := go.step fun T locs X eT t q => Jvm.Free.XT.l2i X.here C.2.2.1 rfl (hb C.2.2.2.1 hd) rfl (by subst hpc; exact q)
theorem g_i2b (C : Ctx B l rm bytes own nm maxL ret Z) {x : Int32} (hd : decode bytes pc = .ok (.i2b, 1))  (hpc : pc + 1 = pc') (go : Go B n0 Q h k n pc' L (.int (x.toInt8.toInt32) :: st)) : Go B n0 Q h k n pc L (.int x :: st) := go.step fun T locs X eT t q => Jvm.Free.XT.i2b X.here C.2.2.1 rfl (hb C.2.2.2.1 hd) rfl (by subst hpc; exact q)
theorem g_i2c (C : Ctx B l rm bytes own nm maxL ret Z) {x : Int32} (hd : decode bytes pc = .ok (.i2c, 1))  (hpc : pc + 1 = pc') (go : Go B n0 Q h k n pc' L (.int (x.toUInt32.toUInt16.toUInt32.toInt32) :: st)) : Go B n0 Q h k n pc L (.int x :: st) := go.step fun T locs X eT t q => Jvm.Free.XT.i2c X.here C.2.2.1 rfl (hb C.2.2.2.1 hd) rfl (by subst hpc; exact q)
theorem g_i2s (C : Ctx B l rm bytes own nm maxL ret Z) {x : Int32} (hd : decode bytes pc = .ok (.i2s, 1))  (hpc : pc + 1 = pc') (go : Go B n0 Q h k n pc' L (.int (x.toInt16.toInt32) :: st)) : Go B n0 Q h k n pc L (.int x :: st) := go.step fun T locs X eT t q => Jvm.Free.XT.i2s X.here C.2.2.1 rfl (hb C.2.2.2.1 hd) rfl (by subst hpc; exact q)
theorem g_dup (C : Ctx B l rm bytes own nm maxL ret Z) {x : Value} (hd : decode bytes pc = .ok (.dup, 1)) (hc : x.category = 1) (hpc : pc + 1 = pc') (go : Go B n0 Q h k n pc' L (x :: x :: st)) : Go B n0 Q h k n pc L (x :: st) := go.step fun T locs X eT t q => Jvm.Free.XS.dup X.here C.2.2.1 rfl (hb C.2.2.2.1 hd) rfl hc (by subst hpc; exact q)
theorem g_pop (C : Ctx B l rm bytes own nm maxL ret Z) {x : Value} (hd : decode bytes pc = .ok (.pop, 1)) (hc : x.category = 1) (hpc : pc + 1 = pc') (go : Go B n0 Q h k n pc' L st) : Go B n0 Q h k n pc L (x :: st) := go.step fun T locs X eT t q => Jvm.Free.XT.pop X.here C.2.2.1 rfl (hb C.2.2.2.1 hd) rfl hc (by subst hpc; exact q)
theorem g_dup_x1 (C : Ctx B l rm bytes own nm maxL ret Z) {x y : Value} (hd : decode bytes pc = .ok (.dup_x1, 1)) (hc : x.category = 1) (hc' : y.category = 1) (hpc : pc + 1 = pc') (go : Go B n0 Q h k n pc' L (x :: y :: x :: st)) : Go B n0 Q h k n pc L (x :: y :: st) := go.step fun T locs X eT t q => Jvm.Free.XT.dupX1 X.here C.2.2.1 rfl (hb C.2.2.2.1 hd) rfl hc hc' (by subst hpc; exact q)
theorem g_dup2 (C : Ctx B l rm bytes own nm maxL ret Z) {x y : Value} (hd : decode bytes pc = .ok (.dup2, 1)) (hc : x.category = 1) (hc' : y.category = 1) (hpc : pc + 1 = pc') (go : Go B n0 Q h k n pc' L (x :: y :: x :: y :: st)) : Go B n0 Q h k n pc L (x :: y :: st) := go.step fun T locs X eT t q => Jvm.Free.XT.dup2 X.here C.2.2.1 rfl (hb C.2.2.2.1 hd) rfl hc hc' (by subst hpc; exact q)
theorem g_dup2L (C : Ctx B l rm bytes own nm maxL ret Z) {x : Int64} (hd : decode bytes pc = .ok (.dup2, 1))  (hpc : pc + 1 = pc') (go : Go B n0 Q h k n pc' L (.long x :: .long x :: st)) : Go B n0 Q h k n pc L (.long x :: st) := go.step fun T locs X eT t q => Jvm.Free.XT.dup2L X.here C.2.2.1 rfl (hb C.2.2.2.1 hd) rfl (by subst hpc; exact q)
theorem g_goto (C : Ctx B l rm bytes own nm maxL ret Z) {o : Int} (hd : decode bytes pc = .ok (.goto o, 3)) (ho : 0 ≤ (pc : Int) + o) (hp : ((pc : Int) + o).toNat = pc') (go : Go B n0 Q h k n pc' L st) : Go B n0 Q h k n pc L st := go.step fun T locs X eT t q => Jvm.Free.XS.goto X.here C.2.2.1 rfl rfl (hb C.2.2.2.1 hd) ho hp q
theorem g_if_y (C : Ctx B l rm bytes own nm maxL ret Z) {cd : ClassFile.Cond} {x : Int32} {o : Int} (hd : decode bytes pc = .ok (.ifCond cd o, 3)) (hc : ifCond.holds cd x = true) (ho : 0 ≤ (pc : Int) + o) (hp : ((pc : Int) + o).toNat = pc') (go : Go B n0 Q h k n pc' L st) : Go B n0 Q h k n pc L (.int x :: st) := go.step fun T locs X eT t q => Jvm.Free.XS.ifYes X.here C.2.2.1 rfl rfl (hb C.2.2.2.1 hd) rfl hc ho hp q
theorem g_if_n (C : Ctx B l rm bytes own nm maxL ret Z) {cd : ClassFile.Cond} {x : Int32} {o : Int} (hd : decode bytes pc = .ok (.ifCond cd o, 3)) (hc : ifCond.holds cd x = false) (hpc : pc + 3 = pc') (go : Go B n0 Q h k n pc' L st) : Go B n0 Q h k n pc L (.int x :: st) := go.step fun T locs X eT t q => Jvm.Free.XS.ifNo X.here C.2.2.1 rfl (hb C.2.2.2.1 hd) rfl hc (by subst hpc; exact q)
theorem g_icmp_y (C : Ctx B l rm bytes own nm maxL ret Z) {cd : ClassFile.Cond} {x y : Int32} {o : Int} (hd : decode bytes pc = .ok (.if_icmp cd o, 3)) (hc : if_icmp.holds cd x y = true) (ho : 0 ≤ (pc : Int) + o) (hp : ((pc : Int) + o).toNat = pc') (go : Go B n0 Q h k n pc' L st) : Go B n0 Q h k n pc L (.int y :: .int x :: st) := go.step fun T locs X eT t q => Jvm.Free.XS.icmpYes X.here C.2.2.1 rfl rfl (hb C.2.2.2.1 hd) rfl hc ho hp q
theorem g_icmp_n (C : Ctx B l rm bytes own nm maxL ret Z) {cd : ClassFile.Cond} {x y : Int32} {o : Int} (hd : decode bytes pc = .ok (.if_icmp cd o, 3)) (hc : if_icmp.holds cd x y = false) (hpc : pc + 3 = pc') (go : Go B n0 Q h k n pc' L st) : Go B n0 Q h k n pc L (.int y :: .int x :: st) := go.step fun T locs X eT t q => Jvm.Free.XS.icmpNo X.here C.2.2.1 rfl (hb C.2.2.2.1 hd) rfl hc (by subst hpc; exact q)
theorem g_acmp_y (C : Ctx B l rm bytes own nm maxL ret Z) {cd : ClassFile.ACond} {x y : Value} {o : Int} (hd : decode bytes pc = .ok (.if_acmp cd o, 3)) (hc1 : x.isRef = true) (hc2 : y.isRef = true) (hc : Jvm.Free.XT.acmp cd x y = true) (ho : 0 ≤ (pc : Int) + o) (hp : ((pc : Int) + o).toNat = pc') (go : Go B n0 Q h k n pc' L st) : Go B n0 Q h k n pc L (y :: x :: st) := go.step fun T locs X eT t q => Jvm.Free.XT.acmpYes X.here C.2.2.1 rfl rfl (hb C.2.2.2.1 hd) rfl hc1 hc2 hc ho hp q
theorem g_acmp_n (C : Ctx B l rm bytes own nm maxL ret Z) {cd : ClassFile.ACond} {x y : Value} {o : Int} (hd : decode bytes pc = .ok (.if_acmp cd o, 3)) (hc1 : x.isRef = true) (hc2 : y.isRef = true) (hc : Jvm.Free.XT.acmp cd x y = false) (hpc : pc + 3 = pc') (go : Go B n0 Q h k n pc' L st) : Go B n0 Q h k n pc L (y :: x :: st) := go.step fun T locs X eT t q => Jvm.Free.XT.acmpNo X.here C.2.2.1 rfl (hb C.2.2.2.1 hd) rfl hc1 hc2 hc (by subst hpc; exact q)
theorem g_ifnull_y (C : Ctx B l rm bytes own nm maxL ret Z) {o : Int} (hd : decode bytes pc = .ok (.ifnull o, 3)) (ho : 0 ≤ (pc : Int) + o) (hp : ((pc : Int) + o).toNat = pc') (go : Go B n0 Q h k n pc' L st) : Go B n0 Q h k n pc L (.null :: st) := go.step fun T locs X eT t q => Jvm.Free.XS.ifnullYes X.here C.2.2.1 rfl rfl (hb C.2.2.2.1 hd) rfl ho hp q
theorem g_ifnull_n (C : Ctx B l rm bytes own nm maxL ret Z) {o : Int} {b : Addr} (hd : decode bytes pc = .ok (.ifnull o, 3)) (hpc : pc + 3 = pc') (go : Go B n0 Q h k n pc' L st) : Go B n0 Q h k n pc L (.ref b :: st) := go.step fun T locs X eT t q => Jvm.Free.XS.ifnullNo X.here C.2.2.1 rfl (hb C.2.2.2.1 hd) rfl (by subst hpc; exact q)
theorem g_ifnonnull_y (C : Ctx B l rm bytes own nm maxL ret Z) {o : Int} {b : Addr} (hd : decode bytes pc = .ok (.ifnonnull o, 3)) (ho : 0 ≤ (pc : Int) + o) (hp : ((pc : Int) + o).toNat = pc') (go : Go B n0 Q h k n pc' L st) : Go B n0 Q h k n pc L (.ref b :: st) := go.step fun T locs X eT t q => Jvm.Free.XT.ifnonnullYes X.here C.2.2.1 rfl rfl (hb C.2.2.2.1 hd) rfl ho hp q
theorem g_ifnonnull_n (C : Ctx B l rm bytes own nm maxL ret Z) {o : Int} (hd : decode bytes pc = .ok (.ifnonnull o, 3)) (hpc : pc + 3 = pc') (go : Go B n0 Q h k n pc' L st) : Go B n0 Q h k n pc L (.null :: st) := go.step fun T locs X eT t q => Jvm.Free.XT.ifnonnullNo X.here C.2.2.1 rfl (hb C.2.2.2.1 hd) rfl (by subst hpc; exact q)
theorem g_ldc (C : Ctx B l rm bytes own nm maxL ret Z) {i : Nat} {v : Int32} (w : (Jvm.Cond.constant own i v).before a0 Z = true) (hd : decode bytes pc = .ok (.ldc i, 2)) (hpc : pc + 2 = pc') (go : Go B n0 Q h k n pc' L (.int v :: st)) : Go B n0 Q h k n pc L st := go.step fun T locs X eT t q => X.ldcInt C.2.2.1 C.2.2.2.2.2.1 (mvT C.2.2.2.2.1 w) (g := mkF B.m pc L st) rfl (hb C.2.2.2.1 hd) t (by subst hpc; exact q)
theorem g_ldc_w (C : Ctx B l rm bytes own nm maxL ret Z) {i : Nat} {v : Int32} (w : (Jvm.Cond.constant own i v).before a0 Z = true) (hd : decode bytes pc = .ok (.ldc_w i, 3)) (hpc : pc + 3 = pc') (go : Go B n0 Q h k n pc' L (.int v :: st)) : Go B n0 Q h k n pc L st := go.step fun T locs X eT t q => X.ldcwInt C.2.2.1 C.2.2.2.2.2.1 (mvT C.2.2.2.2.1 w) (g := mkF B.m pc L st) rfl (hb C.2.2.2.1 hd) t (by subst hpc; exact q)
theorem g_ldc2_w (C : Ctx B l rm bytes own nm maxL ret Z) {i : Nat} {v : Int64} (w : (Jvm.Cond.constantLong own i v).before a0 Z = true) (hd : decode bytes pc = .ok (.ldc2_w i, 3)) (hpc : pc + 3 = pc') (go : Go B n0 Q h k n pc' L (.long v :: st)) : Go B n0 Q h k n pc L st := go.step fun T locs X eT t q => X.ldc2Long C.2.2.1 C.2.2.2.2.2.1 (mvT C.2.2.2.2.1 w) (g := mkF B.m pc L st) rfl (hb C.2.2.2.1 hd) t (by subst hpc; exact q)
theorem g_getfield (C : Ctx B l rm bytes own nm maxL ret Z) {i : Nat} {R0 O fn d host : String} {a : Addr} {v : Value} (w : (Jvm.Cond.fieldLink own i R0 fn d).before a0 Z = true ∨ (Jvm.Cond.fieldLinkNest own i R0 fn d host).before a0 Z = true) (via : Via Z R0 O fn d) (F : Fld Z h a O fn d v) (hd : decode bytes pc = .ok (.getfield i, 3)) (hpc : pc + 3 = pc') (go : Go B n0 Q h k n pc' L (v :: st)) : Go B n0 Q h k n pc L (.ref a :: st) := go.move fun T locs X eT => by
  obtain ⟨T', X', e', f⟩ := getF X C.2.2.1 C.2.2.2.2.1 C.2.2.2.2.2.1 w via eT F (g := mkF B.m pc L (.ref a :: st)) rfl rfl (hb C.2.2.2.1 hd)
  subst hpc; exact ⟨T', X', e', f⟩
theorem g_getstatic (C : Ctx B l rm bytes own nm maxL ret Z) {i : Nat} {R0 O fn d host : String} {v : Value} (w : (Jvm.Cond.fieldLink own i R0 fn d).before a0 Z = true ∨ (Jvm.Cond.fieldLinkNest own i R0 fn d host).before a0 Z = true) (via : Via Z R0 O fn d) (F : Sta Z h O fn d v) (hd : decode bytes pc = .ok (.getstatic i, 3)) (hpc : pc + 3 = pc') (go : Go B n0 Q h k n pc' L (v :: st)) : Go B n0 Q h k n pc L st := go.move fun T locs X eT => by
  obtain ⟨T', X', e', f⟩ := getS2 X C.2.2.1 C.2.2.2.2.1 C.2.2.2.2.2.1 w via eT F (g := mkF B.m pc L st) rfl (hb C.2.2.2.1 hd)
  subst hpc; exact ⟨T', X', e', f⟩
theorem g_checkcast (C : Ctx B l rm bytes own nm maxL ret Z) {i : Nat} {K : String} {a : Addr} (w : (Jvm.Cond.classLink own i K).before a0 Z = true) (F : Ins Z h a K true) (hd : decode bytes pc = .ok (.checkcast i, 3)) (hpc : pc + 3 = pc') (go : Go B n0 Q h k n pc' L (.ref a :: st)) : Go B n0 Q h k n pc L (.ref a :: st) := go.move fun T locs X eT => by
  obtain ⟨T', X', e', f⟩ := castY X C.2.2.1 C.2.2.2.2.1 C.2.2.2.2.2.1 w eT F (g := mkF B.m pc L (.ref a :: st)) rfl rfl (hb C.2.2.2.1 hd)
  subst hpc; exact ⟨T', X', e', f⟩
theorem g_instanceof_y (C : Ctx B l rm bytes own nm maxL ret Z) {i : Nat} {K : String} {a : Addr} (w : (Jvm.Cond.classLink own i K).before a0 Z = true) (F : Ins Z h a K true) (hd : decode bytes pc = .ok (.instanceof i, 3)) (hpc : pc + 3 = pc') (go : Go B n0 Q h k n pc' L (.int 1 :: st)) : Go B n0 Q h k n pc L (.ref a :: st) := go.move fun T locs X eT => by
  obtain ⟨T', X', e', f⟩ := instY X C.2.2.1 C.2.2.2.2.1 C.2.2.2.2.2.1 w eT F (g := mkF B.m pc L (.ref a :: st)) rfl rfl (hb C.2.2.2.1 hd)
  subst hpc; exact ⟨T', X', e', f⟩
theorem g_instanceof_n (C : Ctx B l rm bytes own nm maxL ret Z) {i : Nat} {K K' : String} {a : Addr} (w : (Jvm.Cond.classLink own i K).before a0 Z = true) (E : Exa Z h a K') (F : ∃ c t, Z.vm.findClass K' = some c ∧ Z.vm.findClass K = some t ∧ Z.vm.assignable c t = false) (hd : decode bytes pc = .ok (.instanceof i, 3)) (hpc : pc + 3 = pc') (go : Go B n0 Q h k n pc' L (.int 0 :: st)) : Go B n0 Q h k n pc L (.ref a :: st) := go.move fun T locs X eT => by
  obtain ⟨T', X', e', f⟩ := instNo X C.2.2.1 C.2.2.2.2.1 C.2.2.2.2.2.1 w eT E F (g := mkF B.m pc L (.ref a :: st)) rfl rfl (hb C.2.2.2.1 hd)
  subst hpc; exact ⟨T', X', e', f⟩
theorem g_putfield (C : Ctx B l rm bytes own nm maxL ret Z) {i kk : Nat} {R0 O fn d host K : String} {ty : FieldType} {a : Addr} {v old : Value} (w : (Jvm.Cond.fieldLink own i R0 fn d).before a0 Z = true ∨ (Jvm.Cond.fieldLinkNest own i R0 fn d host).before a0 Z = true) (via : Via Z R0 O fn d) (F : Fld Z h a O fn d old) (E : Exa Z h a K) (Ly : (Jvm.Cond.lays K O fn d).before a0 Z = true ∨ ((Jvm.Cond.laysFinal K O fn d).before a0 Z = true ∧ own = O ∧ nm = "<init>")) (wi : (Jvm.Cond.instantiable K kk).before a0 Z = true) (hty : parseFieldDescriptor d = some ty) (hn : narrow ty v = v) (hf : fits ty v = true) (ge : n0 ≤ a) (hd : decode bytes pc = .ok (.putfield i, 3)) (hpc : pc + 3 = pc') (go : ∀ h', Wr h h' a (Jvm.RoadKit.slotOf Z O fn d) v → Go B n0 Q h' k n pc' L st) : Go B n0 Q h k n pc L (v :: .ref a :: st) := fun T locs X N eT => by
  obtain ⟨T', h', X', e', W, f⟩ := putF X C.2.2.1 C.2.2.2.2.1 C.2.2.2.2.2.1 w via eT F E (Ly.imp id fun q => ⟨q.1, q.2.1, by rw [C.2.2.2.2.2.2.1]; exact q.2.2⟩) wi hty hn hf (g := mkF B.m pc L (v :: .ref a :: st)) rfl rfl (hb C.2.2.2.1 hd)
  obtain ⟨t, o, q, r⟩ := go h' W T' _ X' (Fr.snoc X' N ge) e'
  subst hpc
  exact ⟨t, o, f t q, r⟩
theorem g_new (C : Ctx B l rm bytes own nm maxL ret Z) {i nn : Nat} {K : String} (w : (Jvm.Cond.classLink own i K).before a0 Z = true) (wi : (Jvm.Cond.instantiable K nn).before a0 Z = true) (wz : (Jvm.Cond.initialized K).before a0 Z = true) (hc : k + 1 ≤ rm.cells) (hl : n + nn ≤ rm.slots) (hd : decode bytes pc = .ok (.new i, 3)) (hpc : pc + 3 = pc') (go : ∀ h' a, a = h.size → Ext h h' → Exa Z h' a K → (∀ {O fn d : String} {ty : FieldType}, Laid Z a0 K O fn d → parseFieldDescriptor d = some ty → Fld Z h' a O fn d (defaultValue ty)) → Go B n0 Q h' (k + 1) (n + nn) pc' L (.ref a :: st)) : Go B n0 Q h k n pc L st := fun T locs X N eT => by
  obtain ⟨T', h', X', e', E, A, D, -, f⟩ := newO X C.2.2.1 C.2.2.2.2.1 C.2.2.2.2.2.1 w wi wz eT (g := mkF B.m pc L st) rfl (hb C.2.2.2.1 hd) (by rw [C.2.1]; exact hc) (by rw [C.2.1]; exact hl)
  obtain ⟨t, o, q, r⟩ := go h' _ rfl E A D T' _ X' N e'
  subst hpc
  exact ⟨t, o, f t q, r⟩
theorem g_initObj (C : Ctx B l rm bytes own nm maxL ret Z) {i : Nat} {a : Addr} (w1 : (Jvm.Cond.methodLink own i Lib.objectInit).before a0 Z = true) (w2 : (Jvm.Cond.instanceMethod Lib.objectInit).before a0 Z = true) (w3 : (Jvm.Cond.code Lib.objectInit ⟨#[0xb1]⟩ 1 none).before a0 Z = true) (hsz : L.size = maxL) (hf : 1 ≤ rm.frames) {W : Nat} (hW : (st.map fun v => v.category).sum ≤ W) (hl : W + 12 ≤ rm.locals) (hd : decode bytes pc = .ok (.invokespecial i, 3)) (hpc : pc + 3 = pc') (go : Go B n0 Q h k n pc' L st) : Go B n0 Q h k n pc L (.ref a :: st) := fun T locs X N eT => by
  obtain ⟨T', X', e', f⟩ := initO X C.2.2.1 C.2.2.2.2.1 C.2.2.2.2.2.1 w1 w2 w3 eT (g := mkF B.m pc L (.ref a :: st)) rfl (by rw [C.2.2.2.2.2.2.2.1]; exact hsz) rfl (hb C.2.2.2.1 hd) (by rw [C.2.1]; exact hf) (W := W) (by show 2 * 0 + _ ≤ _; omega) (by rw [C.2.1]; exact hl)
  obtain ⟨t, o, q, r⟩ := go T' _ X' N e'
  subst hpc
  exact ⟨t, o, f t q, r⟩
theorem g_static (C : Ctx B l rm bytes own nm maxL ret Z) {i : Nat} {y : MethodName} {b' : ByteArray} {mx : Nat} {rt : Option FieldType} {rm' : Room} {as' : Array Value} {Q' : Option Value → Heap → Prop} (w1 : (Jvm.Cond.methodLink own i y).before a0 Z = true) (w2 : (Jvm.Cond.static y).before a0 Z = true) (wz : (Jvm.Cond.initialized y.cls).before a0 Z = true) (wc : (Jvm.Cond.code y b' mx rt).before a0 Z = true) (hy : y.cls ≠ "java/lang/invoke/MethodHandle" ∧ y.cls ≠ "java/lang/invoke/VarHandle") (K : Met1 l Z y b' mx rt rm' n0 as' h Q') (argsL : List Value) {stk : List Value} (hst : stk = argsL.reverse ++ st) (has : as' = argsL.toArray) {ps : List FieldType} {r' : Option FieldType} (pd : parseMethodDescriptor y.desc = some ⟨ps, r'⟩) (hlen : argsL.length = ps.length) (hsz : L.size = maxL) (hf : rm'.frames + 1 ≤ rm.frames) {W : Nat} (hW : (st.map fun v => v.category).sum ≤ W) (hlo : W + (mx + 11) + rm'.locals ≤ rm.locals) (hc : k + rm'.cells ≤ rm.cells) (hs : n + rm'.slots ≤ rm.slots) (hd : decode bytes pc = .ok (.invokestatic i, 3)) (hpc : pc + 3 = pc') (go : ∀ v h', Q' v h' → Go B n0 Q h' (k + rm'.cells) (n + rm'.slots) pc' L (v.toList ++ st)) : Go B n0 Q h k n pc L stk := fun T locs X N eT => by
  subst hst has
  obtain ⟨v, _, ⟨T', L1, k1, n1⟩, -, X', ⟨L2, ⟨N', hq⟩, l1, l2, l3⟩, f⟩ := Jvm.LawKit.callS X C.2.2.1 (y := y) C.2.2.2.2.2.1 (mvT C.2.2.2.2.1 w1) (mvT C.2.2.2.2.1 w2) (mvT C.2.2.2.2.1 wz) (mvT C.2.2.2.2.1 wc) hy (backOf (W := W) (Q := fun v h L => Fr n0 L ∧ Q' v h) (C.1 ▸ K []) C.2.2.2.2.1 wc wz (by rw [C.2.1]; exact hf) (by rw [C.2.1]; exact hlo)) (g := mkF B.m pc L (argsL.reverse ++ st)) rfl (by rw [C.2.2.2.2.2.2.2.1]; exact hsz) (argsL := argsL) (rest := st) (lenOf pd hlen) rfl (by show 2 * 0 + _ ≤ _; omega) (hb C.2.2.2.1 hd) (fun _ _ => ⟨rfl, eT, by rw [C.2.1]; exact hc, by rw [C.2.1]; exact hs⟩)
  dsimp only [Pt.U, Pt.locs, Pt.cells, Pt.slots] at X' l1 l2 l3 f hq
  subst l1 l2 l3
  obtain ⟨t, o, q, r⟩ := go v _ hq T' _ X' (Fr.app N N') rfl
  subst hpc
  exact ⟨t, o, f t q, r⟩
theorem g_special (C : Ctx B l rm bytes own nm maxL ret Z) {i : Nat} {y : MethodName} {b' : ByteArray} {mx : Nat} {rm' : Room} {as' : Array Value} {Q' : Option Value → Heap → Prop} {a : Addr} (hy1 : y.name = "<init>") (w1 : (Jvm.Cond.methodLink own i y).before a0 Z = true) (w2 : (Jvm.Cond.instanceMethod y).before a0 Z = true) (wz : (Jvm.Cond.initialized y.cls).before a0 Z = true) (wc : (Jvm.Cond.code y b' mx none).before a0 Z = true) (hy : y.cls ≠ "java/lang/invoke/MethodHandle" ∧ y.cls ≠ "java/lang/invoke/VarHandle") (K : Met1 l Z y b' mx none rm' n0 as' h Q') (argsL : List Value) {stk : List Value} (hst : stk = argsL.reverse ++ .ref a :: st) (has : as' = (Value.ref a :: argsL).toArray) {ps : List FieldType} {r' : Option FieldType} (pd : parseMethodDescriptor y.desc = some ⟨ps, r'⟩) (hlen : argsL.length = ps.length) (hsz : L.size = maxL) (hf : rm'.frames + 1 ≤ rm.frames) {W : Nat} (hW : (st.map fun v => v.category).sum ≤ W) (hlo : W + (mx + 11) + rm'.locals ≤ rm.locals) (hc : k + rm'.cells ≤ rm.cells) (hs : n + rm'.slots ≤ rm.slots) (hd : decode bytes pc = .ok (.invokespecial i, 3)) (hpc : pc + 3 = pc') (go : ∀ v h', Q' v h' → Go B n0 Q h' (k + rm'.cells) (n + rm'.slots) pc' L (v.toList ++ st)) : Go B n0 Q h k n pc L stk := fun T locs X N eT => by
  subst hst has
  obtain ⟨v, _, ⟨T', L1, k1, n1⟩, -, X', ⟨L2, ⟨N', hq⟩, l1, l2, l3⟩, f⟩ := X.specialBack C.2.2.1 (y := y) hy1 C.2.2.2.2.2.1 (mvT C.2.2.2.2.1 w1) (mvT C.2.2.2.2.1 w2) (mvT C.2.2.2.2.1 wc) hy (backOf (W := W) (Q := fun v h L => Fr n0 L ∧ Q' v h) (C.1 ▸ K []) C.2.2.2.2.1 wc wz (by rw [C.2.1]; exact hf) (by rw [C.2.1]; exact hlo)) (g := mkF B.m pc L (argsL.reverse ++ .ref a :: st)) rfl (by rw [C.2.2.2.2.2.2.2.1]; exact hsz) (Steps.refl _) (a := a) (argsL := argsL) (rest := st) (lenOf pd hlen) rfl (by show 2 * 0 + _ ≤ _; omega) (hb C.2.2.2.1 hd) (fun _ _ => ⟨rfl, eT, by rw [C.2.1]; exact hc, by rw [C.2.1]; exact hs⟩)
  dsimp only [Pt.U, Pt.locs, Pt.cells, Pt.slots] at X' l1 l2 l3 f hq
  subst l1 l2 l3
  obtain ⟨t, o, q, r⟩ := go v _ hq T' _ X' (Fr.app N N') rfl
  subst hpc
  exact ⟨t, o, f.trans q, r⟩
theorem g_virtual (C : Ctx B l rm bytes own nm maxL ret Z) {i : Nat} {y : MethodName} {b' : ByteArray} {mx : Nat} {rt : Option FieldType} {rm' : Room} {as' : Array Value} {Q' : Option Value → Heap → Prop} {a : Addr} {K' : String} {y0 : MethodName} (w1 : (Jvm.Cond.methodLink own i y0).before a0 Z = true) (w2 : (Jvm.Cond.declares y0).before a0 Z = true) (w3 : (Jvm.Cond.selects K' y0 y).before a0 Z = true) (w4 : (Jvm.Cond.instanceMethod y).before a0 Z = true) (wz : (Jvm.Cond.initialized y.cls).before a0 Z = true) (wc : (Jvm.Cond.code y b' mx rt).before a0 Z = true) (nf : NotFace B.s y0) (hy : y0.cls ≠ "java/lang/invoke/MethodHandle" ∧ y0.cls ≠ "java/lang/invoke/VarHandle") (E : Exa Z h a K') (K : Met1 l Z y b' mx rt rm' n0 as' h Q') (argsL : List Value) {stk : List Value} (hst : stk = argsL.reverse ++ .ref a :: st) (has : as' = (Value.ref a :: argsL).toArray) {ps : List FieldType} {r' : Option FieldType} (pd : parseMethodDescriptor y0.desc = some ⟨ps, r'⟩) (hlen : argsL.length = ps.length) (hsz : L.size = maxL) (hf : rm'.frames + 1 ≤ rm.frames) {W : Nat} (hW : (st.map fun v => v.category).sum ≤ W) (hlo : W + (mx + 11) + rm'.locals ≤ rm.locals) (hc : k + rm'.cells ≤ rm.cells) (hs : n + rm'.slots ≤ rm.slots) (hd : decode bytes pc = .ok (.invokevirtual i, 3)) (hpc : pc + 3 = pc') (go : ∀ v h', Q' v h' → Go B n0 Q h' (k + rm'.cells) (n + rm'.slots) pc' L (v.toList ++ st)) : Go B n0 Q h k n pc L stk := fun T locs X N eT => by
  subst hst has
  obtain ⟨cq, kq, qa, qb, qc⟩ := isOf C.2.2.2.2.1 eT E
  obtain ⟨v, _, ⟨T', L1, k1, n1⟩, -, X', ⟨L2, ⟨N', hq⟩, l1, l2, l3⟩, f⟩ := X.virtualBack C.2.2.1 (y := y0) (z := y) C.2.2.2.2.2.1 (mvT C.2.2.2.2.1 w1) (mvT C.2.2.2.2.1 w2) nf (mvT C.2.2.2.2.1 w3) (mvT C.2.2.2.2.1 w4) hy (backOf (W := W) (Q := fun v h L => Fr n0 L ∧ Q' v h) (C.1 ▸ K []) C.2.2.2.2.1 wc wz (by rw [C.2.1]; exact hf) (by rw [C.2.1]; exact hlo)) qa qc (g := mkF B.m pc L (argsL.reverse ++ .ref a :: st)) rfl (by rw [C.2.2.2.2.2.2.2.1]; exact hsz) (Steps.refl _) (argsL := argsL) (rest := st) (lenOf pd hlen) rfl (by show 2 * 0 + _ ≤ _; omega) (hb C.2.2.2.1 hd) (fun _ _ => ⟨rfl, eT, by rw [C.2.1]; exact hc, by rw [C.2.1]; exact hs⟩)
  dsimp only [Pt.U, Pt.locs, Pt.cells, Pt.slots] at X' l1 l2 l3 f hq
  subst l1 l2 l3
  obtain ⟨t, o, q, r⟩ := go v _ hq T' _ X' (Fr.app N N') rfl
  subst hpc
  exact ⟨t, o, f.trans q, r⟩
theorem g_ret (C : Ctx B l rm bytes own nm maxL ret Z) {v : Value} {ty : FieldType} {i : Instr} (hret : ret = some ty) (hn : narrow ty v = v)
    (hi : (i = .ireturn ∧ (ty = .int ∨ ty = .boolean ∨ ty = .byte ∨ ty = .char ∨ ty = .short) ∧ ∃ z, v = .int z) ∨ (i = .lreturn ∧ ty = .long ∧ ∃ z, v = .long z) ∨ (i = .dreturn ∧ ty = .double ∧ ∃ z, v = .double z) ∨ (i = .freturn ∧ ty = .float ∧ ∃ z, v = .float z) ∨ (i = .areturn ∧ ty.isReference = true ∧ v.isRef = true))
    (hd : decode bytes pc = .ok (i, 1)) (hk : k ≤ rm.cells) (hs : n ≤ rm.slots) (go : Q (some v) h) : Go B n0 Q h k n pc L (v :: st) := fun T locs X N eT => by
  have hr0 : B.meth.sig.returnType = some ty := C.2.2.2.2.2.2.2.2.1.trans hret
  obtain ⟨fs, hr, hrun, hended, hW, hsame⟩ := X.leave (v := some v) (fun q => by rw [hr0] at q; cases q) C.2.2.2.2.2.2.2.2.2
  exact ⟨_, _, retOut X C.2.2.1 hr0 hn hi (hb C.2.2.2.1 hd) hr, hrun, hended, _, _, rfl, ⟨N, by show Q _ T.heap; rw [eT]; exact go⟩, ⟨_, rfl⟩, hW, hsame.mono (by rw [C.2.1]; exact hk) (by rw [C.2.1]; exact hs)⟩
theorem g_return (C : Ctx B l rm bytes own nm maxL ret Z) (hret : ret = none) (hd : decode bytes pc = .ok (.return_, 1)) (hk : k ≤ rm.cells) (hs : n ≤ rm.slots) (go : Q none h) : Go B n0 Q h k n pc L [] := fun T locs X N eT => by
  have hr0 : B.meth.sig.returnType = none := C.2.2.2.2.2.2.2.2.1.trans hret
  obtain ⟨fs, hr, hrun, hended, hW, hsame⟩ := X.leave (v := none) (fun _ => rfl) C.2.2.2.2.2.2.2.2.2
  exact ⟨_, _, X.returnOut C.2.2.1 hr0 (hb C.2.2.2.1 hd) hr, hrun, hended, _, _, rfl, ⟨N, by show Q _ T.heap; rw [eT]; exact go⟩, ⟨_, rfl⟩, hW, hsame.mono (by rw [C.2.1]; exact hk) (by rw [C.2.1]; exact hs)⟩
end Base
/-! arrays made on the road -/
section Arrays
variable {Z : State} {h h' : Heap} {a b : Addr} {ty : FieldType} {vs : List Value} {ws : List Addr} {sl : Nat} {v : Value} {K : String}
def Ary (Z : State) (h : Heap) (a : Addr) (ty : FieldType) (vs : List Value) : Prop := ∃ c : Cell, Arr Z h a c ty ∧ c.slots.toList = vs ∧ vs.length < 2 ^ 31
def AryR (Z : State) (h : Heap) (a : Addr) (K : String) (vs : List Value) : Prop := ∃ c : Cell, Arr Z h a c (.object K) ∧ Ovr Z c.cls K ∧ c.slots.toList = vs ∧ vs.length < 2 ^ 31
theorem AryR.ary (F : AryR Z h a K vs) : Ary Z h a (.object K) vs := by obtain ⟨c, A, -, r⟩ := F; exact ⟨c, A, r⟩
theorem Ary.lt (F : Ary Z h a ty vs) : a < h.size := by obtain ⟨c, A, -⟩ := F; exact A.lt
theorem AryR.lt (F : AryR Z h a K vs) : a < h.size := F.ary.lt
theorem Ary.ext (F : Ary Z h a ty vs) (E : Ext h h') : Ary Z h' a ty vs := by obtain ⟨c, A, r⟩ := F; exact ⟨c, A.ext E, r⟩
theorem AryR.ext (F : AryR Z h a K vs) (E : Ext h h') : AryR Z h' a K vs := by obtain ⟨c, A, r⟩ := F; exact ⟨c, A.ext E, r⟩
theorem Ary.keep (F : Ary Z h a ty vs) (K : Keep h h' ws) (q : a ∉ ws) : Ary Z h' a ty vs := by obtain ⟨c, A, r⟩ := F; exact ⟨c, ⟨K.2.1 a c A.1 q, A.2⟩, r⟩
theorem AryR.keep (F : AryR Z h a K vs) (Kp : Keep h h' ws) (q : a ∉ ws) : AryR Z h' a K vs := by obtain ⟨c, A, r⟩ := F; exact ⟨c, ⟨Kp.2.1 a c A.1 q, A.2⟩, r⟩
theorem set_list (c : Cell) (i : Nat) (v : Value) : (c.setSlot i v).slots.toList = c.slots.toList.set i v := by simp [Cell.setSlot]
theorem keep_ext (E : Ext h h') : Keep h h' [] := (Keep.refl h []).ext E
theorem ne_new {c : Nat} (q : a < c) (e : b = c) : a ≠ b := fun z => absurd q (by rw [z, e]; exact Nat.lt_irrefl _)
theorem ne_newL {c : Nat} (q : a < c) (e : b = c) : b ≠ a := fun z => absurd q (by rw [← z, e]; exact Nat.lt_irrefl _)
theorem ne_ge {c : Nat} (q : a < c) (e : c ≤ b) : a ≠ b := fun z => absurd q (Nat.not_lt.mpr (z ▸ e))
theorem nin1 (q : a ≠ b) : a ∉ [b] := ninS q nin0
theorem in_b {j : Int32} {c : Cell} {i : Nat} (h0 : ¬ j < 0) (hj : j.toNatClampNeg = i) (hi : i < c.slots.size) : ¬ (j < 0 ∨ c.slots.size ≤ j.toNatClampNeg) := fun q => q.elim h0 fun q => by omega
end Arrays
section ArraySteps
variable {B : Bod} {l : Launch} {rm : Room} {bytes : ByteArray} {own nm : String} {maxL : Nat} {ret : Option FieldType} {Z : State} {n0 : Nat} {Q : Option Value → Heap → Prop} {h : Heap} {k n pc pc' : Nat} {L L' : Array Slot} {st st' : List Value} {a0 : Array Value}
theorem g_iaload (C : Ctx B l rm bytes own nm maxL ret Z) {a : Addr} {vs : List Value} {j : Int32} {i : Nat} {v : Int32} (F : Ary Z h a .int vs) (h0 : ¬ j < 0) (hj : j.toNatClampNeg = i) (hv : vs[i]? = some (.int v)) (hd : decode bytes pc = .ok (.iaload, 1)) (hpc : pc + 1 = pc') (go : Go B n0 Q h k n pc' L (.int v :: st)) : Go B n0 Q h k n pc L (.int j :: .ref a :: st) := go.step fun T locs X eT t q => by
  obtain ⟨c, A, rfl, hl⟩ := F
  have hi := (List.getElem?_eq_some_iff.mp hv).1
  rw [Array.length_toList] at hi
  rw [Array.getElem?_toList, ← hj] at hv
  exact X.iaload C.2.2.1 (by rw [eT]; exact A.1) (State.isArrayOf_alike C.2.2.2.2.1.alike A.2.1)  A.2.2 (in_b h0 hj hi) hv (g := mkF B.m pc L (.int j :: .ref a :: st)) rfl rfl (hb C.2.2.2.1 hd) t (by subst hpc; exact q)
theorem g_laload (C : Ctx B l rm bytes own nm maxL ret Z) {a : Addr} {vs : List Value} {j : Int32} {i : Nat} {v : Int64} (F : Ary Z h a .long vs) (h0 : ¬ j < 0) (hj : j.toNatClampNeg = i) (hv : vs[i]? = some (.long v)) (hd : decode bytes pc = .ok (.laload, 1)) (hpc : pc + 1 = pc') (go : Go B n0 Q h k n pc' L (.long v :: st)) : Go B n0 Q h k n pc L (.int j :: .ref a :: st) := go.step fun T locs X eT t q => by
  obtain ⟨c, A, rfl, hl⟩ := F
  have hi := (List.getElem?_eq_some_iff.mp hv).1
  rw [Array.length_toList] at hi
  rw [Array.getElem?_toList, ← hj] at hv
  exact X.laload C.2.2.1 (by rw [eT]; exact A.1) (State.isArrayOf_alike C.2.2.2.2.1.alike A.2.1)  A.2.2 (in_b h0 hj hi) hv (g := mkF B.m pc L (.int j :: .ref a :: st)) rfl rfl (hb C.2.2.2.1 hd) t (by subst hpc; exact q)
theorem g_caload (C : Ctx B l rm bytes own nm maxL ret Z) {a : Addr} {vs : List Value} {j : Int32} {i : Nat} {v : Int32} (F : Ary Z h a .char vs) (h0 : ¬ j < 0) (hj : j.toNatClampNeg = i) (hv : vs[i]? = some (.int v)) (hd : decode bytes pc = .ok (.caload, 1)) (hpc : pc + 1 = pc') (go : Go B n0 Q h k n pc' L (.int v :: st)) : Go B n0 Q h k n pc L (.int j :: .ref a :: st) := go.step fun T locs X eT t q => by
  obtain ⟨c, A, rfl, hl⟩ := F
  have hi := (List.getElem?_eq_some_iff.mp hv).1
  rw [Array.length_toList] at hi
  rw [Array.getElem?_toList, ← hj] at hv
  exact X.caload C.2.2.1 (by rw [eT]; exact A.1) (State.isArrayOf_alike C.2.2.2.2.1.alike A.2.1)  A.2.2 (in_b h0 hj hi) hv (g := mkF B.m pc L (.int j :: .ref a :: st)) rfl rfl (hb C.2.2.2.1 hd) t (by subst hpc; exact q)
theorem g_baloadB (C : Ctx B l rm bytes own nm maxL ret Z) {a : Addr} {vs : List Value} {j : Int32} {i : Nat} {v : Int32} (F : Ary Z h a .byte vs) (h0 : ¬ j < 0) (hj : j.toNatClampNeg = i) (hv : vs[i]? = some (.int v)) (hd : decode bytes pc = .ok (.baload, 1)) (hpc : pc + 1 = pc') (go : Go B n0 Q h k n pc' L (.int v :: st)) : Go B n0 Q h k n pc L (.int j :: .ref a :: st) := go.step fun T locs X eT t q => by
  obtain ⟨c, A, rfl, hl⟩ := F
  have hi := (List.getElem?_eq_some_iff.mp hv).1
  rw [Array.length_toList] at hi
  rw [Array.getElem?_toList, ← hj] at hv
  exact X.baloadBytes C.2.2.1 (by rw [eT]; exact A.1) (State.isArrayOf_alike C.2.2.2.2.1.alike A.2.1)  A.2.2 (in_b h0 hj hi) hv (g := mkF B.m pc L (.int j :: .ref a :: st)) rfl rfl (hb C.2.2.2.1 hd) t (by subst hpc; exact q)
theorem g_baloadZ (C : Ctx B l rm bytes own nm maxL ret Z) {a : Addr} {vs : List Value} {j : Int32} {i : Nat} {v : Int32} (F : Ary Z h a .boolean vs) (h0 : ¬ j < 0) (hj : j.toNatClampNeg = i) (hv : vs[i]? = some (.int v)) (hd : decode bytes pc = .ok (.baload, 1)) (hpc : pc + 1 = pc') (go : Go B n0 Q h k n pc' L (.int v :: st)) : Go B n0 Q h k n pc L (.int j :: .ref a :: st) := go.step fun T locs X eT t q => by
  obtain ⟨c, A, rfl, hl⟩ := F
  have hi := (List.getElem?_eq_some_iff.mp hv).1
  rw [Array.length_toList] at hi
  rw [Array.getElem?_toList, ← hj] at hv
  exact X.baloadBooleans C.2.2.1 (by rw [eT]; exact A.1) (State.isArrayOf_alike C.2.2.2.2.1.alike A.2.1)  A.2.2 (in_b h0 hj hi) hv (g := mkF B.m pc L (.int j :: .ref a :: st)) rfl rfl (hb C.2.2.2.1 hd) t (by subst hpc; exact q)
theorem g_aaload (C : Ctx B l rm bytes own nm maxL ret Z) {a : Addr} {vs : List Value} {j : Int32} {i : Nat} {v : Value} {ty : FieldType} (F : Ary Z h a ty vs) (hty : ty.isReference = true) (h0 : ¬ j < 0) (hj : j.toNatClampNeg = i) (hv : vs[i]? = some v) (hd : decode bytes pc = .ok (.aaload, 1)) (hpc : pc + 1 = pc') (go : Go B n0 Q h k n pc' L (v :: st)) : Go B n0 Q h k n pc L (.int j :: .ref a :: st) := go.step fun T locs X eT t q => by
  obtain ⟨c, A, rfl, hl⟩ := F
  have hi := (List.getElem?_eq_some_iff.mp hv).1
  rw [Array.length_toList] at hi
  rw [Array.getElem?_toList, ← hj] at hv
  exact X.aaload C.2.2.1 (by rw [eT]; exact A.1) (State.isArrayOf_alike C.2.2.2.2.1.alike A.2.1) hty A.2.2 (in_b h0 hj hi) hv (g := mkF B.m pc L (.int j :: .ref a :: st)) rfl rfl (hb C.2.2.2.1 hd) t (by subst hpc; exact q)
theorem g_arraylength (C : Ctx B l rm bytes own nm maxL ret Z) {a : Addr} {vs : List Value} {ty : FieldType} {z : Int32} (F : Ary Z h a ty vs) (hz : vs.length.toInt32 = z) (hd : decode bytes pc = .ok (.arraylength, 1)) (hpc : pc + 1 = pc') (go : Go B n0 Q h k n pc' L (.int z :: st)) : Go B n0 Q h k n pc L (.ref a :: st) := go.step fun T locs X eT t q => by
  obtain ⟨c, A, rfl, hl⟩ := F
  rw [Array.length_toList] at hz
  exact X.arraylength C.2.2.1 (by rw [eT]; exact A.1) (State.isArrayOf_alike C.2.2.2.2.1.alike A.2.1) (g := mkF B.m pc L (.ref a :: st)) rfl rfl (hb C.2.2.2.1 hd) t (by subst hpc hz; exact q)
theorem g_iastore (C : Ctx B l rm bytes own nm maxL ret Z) {a : Addr} {vs : List Value} {j : Int32} {i : Nat} {v : Int32} {w : Value} (F : Ary Z h a .int vs) (h0 : ¬ j < 0) (hj : j.toNatClampNeg = i) (hi : i < vs.length) (hw : Value.int v = w) (ge : n0 ≤ a) (hd : decode bytes pc = .ok (.iastore, 1)) (hpc : pc + 1 = pc') (go : ∀ h', Keep h h' [a] → Ary Z h' a .int (vs.set i w) → Go B n0 Q h' k n pc' L st) : Go B n0 Q h k n pc L (.int v :: .int j :: .ref a :: st) := fun T locs X N eT => by
  obtain ⟨c, A, rfl, hl⟩ := F
  have hi' := hi
  rw [Array.length_toList] at hi'
  obtain ⟨T', h', X', e', W, f⟩ := stI X C.2.2.1 C.2.2.2.2.1 eT A (in_b h0 hj hi') (g := mkF B.m pc L (.int v :: .int j :: .ref a :: st)) rfl rfl (hb C.2.2.2.1 hd)
  rw [hj, hw] at W
  obtain ⟨t, o, q, r⟩ := go h' (Keep.of_wr W) ⟨_, A.same W, set_list c i w, by rw [List.length_set]; exact hl⟩ T' _ X' (Fr.snoc X' N ge) e'
  subst hpc
  exact ⟨t, o, f t q, r⟩
theorem g_lastore (C : Ctx B l rm bytes own nm maxL ret Z) {a : Addr} {vs : List Value} {j : Int32} {i : Nat} {v : Int64} {w : Value} (F : Ary Z h a .long vs) (h0 : ¬ j < 0) (hj : j.toNatClampNeg = i) (hi : i < vs.length) (hw : Value.long v = w) (ge : n0 ≤ a) (hd : decode bytes pc = .ok (.lastore, 1)) (hpc : pc + 1 = pc') (go : ∀ h', Keep h h' [a] → Ary Z h' a .long (vs.set i w) → Go B n0 Q h' k n pc' L st) : Go B n0 Q h k n pc L (.long v :: .int j :: .ref a :: st) := fun T locs X N eT => by
  obtain ⟨c, A, rfl, hl⟩ := F
  have hi' := hi
  rw [Array.length_toList] at hi'
  obtain ⟨T', h', X', e', W, f⟩ := stJ X C.2.2.1 C.2.2.2.2.1 eT A (in_b h0 hj hi') (g := mkF B.m pc L (.long v :: .int j :: .ref a :: st)) rfl rfl (hb C.2.2.2.1 hd)
  rw [hj, hw] at W
  obtain ⟨t, o, q, r⟩ := go h' (Keep.of_wr W) ⟨_, A.same W, set_list c i w, by rw [List.length_set]; exact hl⟩ T' _ X' (Fr.snoc X' N ge) e'
  subst hpc
  exact ⟨t, o, f t q, r⟩
theorem g_castore (C : Ctx B l rm bytes own nm maxL ret Z) {a : Addr} {vs : List Value} {j : Int32} {i : Nat} {v : Int32} {w : Value} (F : Ary Z h a .char vs) (h0 : ¬ j < 0) (hj : j.toNatClampNeg = i) (hi : i < vs.length) (hw : Value.int (nar .char v) = w) (ge : n0 ≤ a) (hd : decode bytes pc = .ok (.castore, 1)) (hpc : pc + 1 = pc') (go : ∀ h', Keep h h' [a] → Ary Z h' a .char (vs.set i w) → Go B n0 Q h' k n pc' L st) : Go B n0 Q h k n pc L (.int v :: .int j :: .ref a :: st) := fun T locs X N eT => by
  obtain ⟨c, A, rfl, hl⟩ := F
  have hi' := hi
  rw [Array.length_toList] at hi'
  obtain ⟨T', h', X', e', W, f⟩ := stC X C.2.2.1 C.2.2.2.2.1 eT A (in_b h0 hj hi') (g := mkF B.m pc L (.int v :: .int j :: .ref a :: st)) rfl rfl (hb C.2.2.2.1 hd)
  rw [hj, hw] at W
  obtain ⟨t, o, q, r⟩ := go h' (Keep.of_wr W) ⟨_, A.same W, set_list c i w, by rw [List.length_set]; exact hl⟩ T' _ X' (Fr.snoc X' N ge) e'
  subst hpc
  exact ⟨t, o, f t q, r⟩
theorem g_bastoreB (C : Ctx B l rm bytes own nm maxL ret Z) {a : Addr} {vs : List Value} {j : Int32} {i : Nat} {v : Int32} {w : Value} (F : Ary Z h a .byte vs) (h0 : ¬ j < 0) (hj : j.toNatClampNeg = i) (hi : i < vs.length) (hw : Value.int (nar .byte v) = w) (ge : n0 ≤ a) (hd : decode bytes pc = .ok (.bastore, 1)) (hpc : pc + 1 = pc') (go : ∀ h', Keep h h' [a] → Ary Z h' a .byte (vs.set i w) → Go B n0 Q h' k n pc' L st) : Go B n0 Q h k n pc L (.int v :: .int j :: .ref a :: st) := fun T locs X N eT => by
  obtain ⟨c, A, rfl, hl⟩ := F
  have hi' := hi
  rw [Array.length_toList] at hi'
  obtain ⟨T', h', X', e', W, f⟩ := stB X C.2.2.1 C.2.2.2.2.1 eT A (in_b h0 hj hi') (g := mkF B.m pc L (.int v :: .int j :: .ref a :: st)) rfl rfl (hb C.2.2.2.1 hd)
  rw [hj, hw] at W
  obtain ⟨t, o, q, r⟩ := go h' (Keep.of_wr W) ⟨_, A.same W, set_list c i w, by rw [List.length_set]; exact hl⟩ T' _ X' (Fr.snoc X' N ge) e'
  subst hpc
  exact ⟨t, o, f t q, r⟩
theorem g_bastoreZ (C : Ctx B l rm bytes own nm maxL ret Z) {a : Addr} {vs : List Value} {j : Int32} {i : Nat} {v : Int32} {w : Value} (F : Ary Z h a .boolean vs) (h0 : ¬ j < 0) (hj : j.toNatClampNeg = i) (hi : i < vs.length) (hw : Value.int (nar .boolean v) = w) (ge : n0 ≤ a) (hd : decode bytes pc = .ok (.bastore, 1)) (hpc : pc + 1 = pc') (go : ∀ h', Keep h h' [a] → Ary Z h' a .boolean (vs.set i w) → Go B n0 Q h' k n pc' L st) : Go B n0 Q h k n pc L (.int v :: .int j :: .ref a :: st) := fun T locs X N eT => by
  obtain ⟨c, A, rfl, hl⟩ := F
  have hi' := hi
  rw [Array.length_toList] at hi'
  obtain ⟨T', h', X', e', W, f⟩ := stZ X C.2.2.1 C.2.2.2.2.1 eT A (in_b h0 hj hi') (g := mkF B.m pc L (.int v :: .int j :: .ref a :: st)) rfl rfl (hb C.2.2.2.1 hd)
  rw [hj, hw] at W
  obtain ⟨t, o, q, r⟩ := go h' (Keep.of_wr W) ⟨_, A.same W, set_list c i w, by rw [List.length_set]; exact hl⟩ T' _ X' (Fr.snoc X' N ge) e'
  subst hpc
  exact ⟨t, o, f t q, r⟩
theorem g_aastore (C : Ctx B l rm bytes own nm maxL ret Z) {a y : Addr} {K : String} {vs : List Value} {j : Int32} {i : Nat} (F : AryR Z h a K vs) (I : Ins Z h y K true) (h0 : ¬ j < 0) (hj : j.toNatClampNeg = i) (hi : i < vs.length) (ge : n0 ≤ a) (hd : decode bytes pc = .ok (.aastore, 1)) (hpc : pc + 1 = pc') (go : ∀ h', Keep h h' [a] → AryR Z h' a K (vs.set i (.ref y)) → Go B n0 Q h' k n pc' L st) : Go B n0 Q h k n pc L (.ref y :: .int j :: .ref a :: st) := fun T locs X N eT => by
  obtain ⟨c, A, O, rfl, hl⟩ := F
  have hi' := hi
  rw [Array.length_toList] at hi'
  obtain ⟨T', h', X', e', W, f⟩ := stR X C.2.2.1 C.2.2.2.2.1 eT A (in_b h0 hj hi') rfl (Sto.of A O I) (g := mkF B.m pc L (.ref y :: .int j :: .ref a :: st)) rfl rfl (hb C.2.2.2.1 hd)
  rw [hj] at W
  obtain ⟨t, o, q, r⟩ := go h' (Keep.of_wr W) ⟨_, A.same W, O, set_list c i _, by rw [List.length_set]; exact hl⟩ T' _ X' (Fr.snoc X' N ge) e'
  subst hpc
  exact ⟨t, o, f t q, r⟩
theorem g_newarray (C : Ctx B l rm bytes own nm maxL ret Z) {aty : ArrayType} {z : Int32} {cap : Nat} {ty : FieldType} (w : (Jvm.Cond.arrayClass (newarray.typeOf aty)).before a0 Z = true) (hty : newarray.typeOf aty = ty) (hz : ¬ z < 0) (hcap : z.toNatClampNeg = cap) (hcb : cap * 8 ≤ 536870912) (hc : k + 1 ≤ rm.cells) (hl : n + cap ≤ rm.slots) (hd : decode bytes pc = .ok (.newarray aty, 2)) (hpc : pc + 2 = pc') (go : ∀ h' a, a = h.size → Ext h h' → Ary Z h' a ty (List.replicate cap (defaultValue ty)) → Go B n0 Q h' (k + 1) (n + cap) pc' L (.ref a :: st)) : Go B n0 Q h k n pc L (.int z :: st) := fun T locs X N eT => by
  subst hty
  obtain ⟨T', h', cA, X', e', E, A, f⟩ := newP X C.2.2.1 C.2.2.2.2.1 w eT (g := mkF B.m pc L (.int z :: st)) rfl (hb C.2.2.2.1 hd) rfl hz (cap := cap) (Nat.le_of_eq hcap) hcb (by rw [C.2.1]; exact hc) (by rw [C.2.1]; exact hl)
  obtain ⟨t, o, q, r⟩ := go h' _ rfl E ⟨_, A, by rw [← hcap]; simp [newA], by rw [List.length_replicate]; omega⟩ T' _ X' N e'
  subst hpc
  exact ⟨t, o, f t q, r⟩
theorem g_newarrayUpTo (C : Ctx B l rm bytes own nm maxL ret Z) {aty : ArrayType} {z : Int32} {len cap : Nat} {ty : FieldType} (w : (Jvm.Cond.arrayClass (newarray.typeOf aty)).before a0 Z = true) (hty : newarray.typeOf aty = ty) (hz : ¬ z < 0) (hlen : z.toNatClampNeg = len) (hcap : len ≤ cap) (hcb : cap * 8 ≤ 536870912) (hc : k + 1 ≤ rm.cells) (hl : n + cap ≤ rm.slots) (hd : decode bytes pc = .ok (.newarray aty, 2)) (hpc : pc + 2 = pc') (go : ∀ h' a, a = h.size → Ext h h' → Ary Z h' a ty (List.replicate len (defaultValue ty)) → Go B n0 Q h' (k + 1) (n + cap) pc' L (.ref a :: st)) : Go B n0 Q h k n pc L (.int z :: st) := fun T locs X N eT => by
  subst hty
  obtain ⟨T', h', cA, X', e', E, A, f⟩ := newP X C.2.2.1 C.2.2.2.2.1 w eT (g := mkF B.m pc L (.int z :: st)) rfl (hb C.2.2.2.1 hd) rfl hz (cap := cap) (by rw [hlen]; exact hcap) hcb (by rw [C.2.1]; exact hc) (by rw [C.2.1]; exact hl)
  obtain ⟨t, o, q, r⟩ := go h' _ rfl E ⟨_, A, by rw [← hlen]; simp [newA], by rw [List.length_replicate]; omega⟩ T' _ X' N e'
  subst hpc
  exact ⟨t, o, f t q, r⟩
theorem g_anewarray (C : Ctx B l rm bytes own nm maxL ret Z) {i : Nat} {K : String} {z : Int32} {cap : Nat} (w : (Jvm.Cond.classLink own i K).before a0 Z = true) (w2 : (Jvm.Cond.arrayOver (.object K)).before a0 Z = true) (hz : ¬ z < 0) (hcap : z.toNatClampNeg = cap) (hcb : cap * 8 ≤ 536870912) (hc : k + 1 ≤ rm.cells) (hl : n + cap ≤ rm.slots) (hd : decode bytes pc = .ok (.anewarray i, 3)) (hpc : pc + 3 = pc') (go : ∀ h' a, a = h.size → Ext h h' → AryR Z h' a K (List.replicate cap .null) → Go B n0 Q h' (k + 1) (n + cap) pc' L (.ref a :: st)) : Go B n0 Q h k n pc L (.int z :: st) := fun T locs X N eT => by
  obtain ⟨T', h', cA, X', e', E, A, O, f⟩ := newR X C.2.2.1 C.2.2.2.2.1 C.2.2.2.2.2.1 w w2 eT (g := mkF B.m pc L (.int z :: st)) rfl (hb C.2.2.2.1 hd) rfl hz (cap := cap) (Nat.le_of_eq hcap) hcb (by rw [C.2.1]; exact hc) (by rw [C.2.1]; exact hl)
  obtain ⟨t, o, q, r⟩ := go h' _ rfl E ⟨_, A, O, by rw [← hcap]; simp [newA, defaultValue], by rw [List.length_replicate]; omega⟩ T' _ X' N e'
  subst hpc
  exact ⟨t, o, f t q, r⟩
end ArraySteps
end Jvm.OwnKit
namespace Jvm.Pilot.@@N@@
open Jvm Jvm.ClassFile Sem Op Lib Jvm.Free Jvm.Stand Jvm.LawKit Jvm.RoadKit Jvm.OwnKit Bundle Jvm.Pilot.@@N@@.Jvm.D
theorem own_w {a0 : Array Value} {Z : State} (hw : ∀ d ∈ tables_1, d.before a0 Z = true) (k : Nat) {d : Jvm.Cond} (e : tables_1[k]? = some d) : d.before a0 Z = true := hw _ (List.mem_of_getElem? e)
def Ens (Z : State) (e_DOUBLE e_FLOAT e_INT64 e_UINT64 e_INT32 e_FIXED64 e_FIXED32 e_BOOL e_STRING e_GROUP e_MESSAGE e_BYTES e_UINT32 e_ENUM e_SFIXED32 e_SFIXED64 e_SINT32 e_SINT64 : Addr) : Prop := (Sta Z Z.heap "com/example/wirefield/wirefield/FieldType" "DOUBLE" "Lcom/example/wirefield/wirefield/FieldType;" (.ref e_DOUBLE) ∧ Exa Z Z.heap e_DOUBLE "com/example/wirefield/wirefield/FieldType" ∧ Fld Z Z.heap e_DOUBLE "java/lang/Enum" "ordinal" "I" (.int (0 : Int32)) ∧ (∃ r : Addr, Fld Z Z.heap e_DOUBLE "com/example/wirefield/wirefield/FieldType" "keyword" "Ljava/lang/String;" (.ref r))) ∧ (Sta Z Z.heap "com/example/wirefield/wirefield/FieldType" "FLOAT" "Lcom/example/wirefield/wirefield/FieldType;" (.ref e_FLOAT) ∧ Exa Z Z.heap e_FLOAT "com/example/wirefield/wirefield/FieldType" ∧ Fld Z Z.heap e_FLOAT "java/lang/Enum" "ordinal" "I" (.int (1 : Int32)) ∧ (∃ r : Addr, Fld Z Z.heap e_FLOAT "com/example/wirefield/wirefield/FieldType" "keyword" "Ljava/lang/String;" (.ref r))) ∧ (Sta Z Z.heap "com/example/wirefield/wirefield/FieldType" "INT64" "Lcom/example/wirefield/wirefield/FieldType;" (.ref e_INT64) ∧ Exa Z Z.heap e_INT64 "com/example/wirefield/wirefield/FieldType" ∧ Fld Z Z.heap e_INT64 "java/lang/Enum" "ordinal" "I" (.int (2 : Int32)) ∧ (∃ r : Addr, Fld Z Z.heap e_INT64 "com/example/wirefield/wirefield/FieldType" "keyword" "Ljava/lang/String;" (.ref r))) ∧ (Sta Z Z.heap "com/example/wirefield/wirefield/FieldType" "UINT64" "Lcom/example/wirefield/wirefield/FieldType;" (.ref e_UINT64) ∧ Exa Z Z.heap e_UINT64 "com/example/wirefield/wirefield/FieldType" ∧ Fld Z Z.heap e_UINT64 "java/lang/Enum" "ordinal" "I" (.int (3 : Int32)) ∧ (∃ r : Addr, Fld Z Z.heap e_UINT64 "com/example/wirefield/wirefield/FieldType" "keyword" "Ljava/lang/String;" (.ref r))) ∧ (Sta Z Z.heap "com/example/wirefield/wirefield/FieldType" "INT32" "Lcom/example/wirefield/wirefield/FieldType;" (.ref e_INT32) ∧ Exa Z Z.heap e_INT32 "com/example/wirefield/wirefield/FieldType" ∧ Fld Z Z.heap e_INT32 "java/lang/Enum" "ordinal" "I" (.int (4 : Int32)) ∧ (∃ r : Addr, Fld Z Z.heap e_INT32 "com/example/wirefield/wirefield/FieldType" "keyword" "Ljava/lang/String;" (.ref r))) ∧ (Sta Z Z.heap "com/example/wirefield/wirefield/FieldType" "FIXED64" "Lcom/example/wirefield/wirefield/FieldType;" (.ref e_FIXED64) ∧ Exa Z Z.heap e_FIXED64 "com/example/wirefield/wirefield/FieldType" ∧ Fld Z Z.heap e_FIXED64 "java/lang/Enum" "ordinal" "I" (.int (5 : Int32)) ∧ (∃ r : Addr, Fld Z Z.heap e_FIXED64 "com/example/wirefield/wirefield/FieldType" "keyword" "Ljava/lang/String;" (.ref r))) ∧ (Sta Z Z.heap "com/example/wirefield/wirefield/FieldType" "FIXED32" "Lcom/example/wirefield/wirefield/FieldType;" (.ref e_FIXED32) ∧ Exa Z Z.heap e_FIXED32 "com/example/wirefield/wirefield/FieldType" ∧ Fld Z Z.heap e_FIXED32 "java/lang/Enum" "ordinal" "I" (.int (6 : Int32)) ∧ (∃ r : Addr, Fld Z Z.heap e_FIXED32 "com/example/wirefield/wirefield/FieldType" "keyword" "Ljava/lang/String;" (.ref r))) ∧ (Sta Z Z.heap "com/example/wirefield/wirefield/FieldType" "BOOL" "Lcom/example/wirefield/wirefield/FieldType;" (.ref e_BOOL) ∧ Exa Z Z.heap e_BOOL "com/example/wirefield/wirefield/FieldType" ∧ Fld Z Z.heap e_BOOL "java/lang/Enum" "ordinal" "I" (.int (7 : Int32)) ∧ (∃ r : Addr, Fld Z Z.heap e_BOOL "com/example/wirefield/wirefield/FieldType" "keyword" "Ljava/lang/String;" (.ref r))) ∧ (Sta Z Z.heap "com/example/wirefield/wirefield/FieldType" "STRING" "Lcom/example/wirefield/wirefield/FieldType;" (.ref e_STRING) ∧ Exa Z Z.heap e_STRING "com/example/wirefield/wirefield/FieldType" ∧ Fld Z Z.heap e_STRING "java/lang/Enum" "ordinal" "I" (.int (8 : Int32)) ∧ (∃ r : Addr, Fld Z Z.heap e_STRING "com/example/wirefield/wirefield/FieldType" "keyword" "Ljava/lang/String;" (.ref r))) ∧ (Sta Z Z.heap "com/example/wirefield/wirefield/FieldType" "GROUP" "Lcom/example/wirefield/wirefield/FieldType;" (.ref e_GROUP) ∧ Exa Z Z.heap e_GROUP "com/example/wirefield/wirefield/FieldType" ∧ Fld Z Z.heap e_GROUP "com/example/wirefield/wirefield/FieldType" "keyword" "Ljava/lang/String;" .null) ∧ (Sta Z Z.heap "com/example/wirefield/wirefield/FieldType" "MESSAGE" "Lcom/example/wirefield/wirefield/FieldType;" (.ref e_MESSAGE) ∧ Exa Z Z.heap e_MESSAGE "com/example/wirefield/wirefield/FieldType" ∧ Fld Z Z.heap e_MESSAGE "com/example/wirefield/wirefield/FieldType" "keyword" "Ljava/lang/String;" .null) ∧ (Sta Z Z.heap "com/example/wirefield/wirefield/FieldType" "BYTES" "Lcom/example/wirefield/wirefield/FieldType;" (.ref e_BYTES) ∧ Exa Z Z.heap e_BYTES "com/example/wirefield/wirefield/FieldType" ∧ Fld Z Z.heap e_BYTES "java/lang/Enum" "ordinal" "I" (.int (11 : Int32)) ∧ (∃ r : Addr, Fld Z Z.heap e_BYTES "com/example/wirefield/wirefield/FieldType" "keyword" "Ljava/lang/String;" (.ref r))) ∧ (Sta Z Z.heap "com/example/wirefield/wirefield/FieldType" "UINT32" "Lcom/example/wirefield/wirefield/FieldType;" (.ref e_UINT32) ∧ Exa Z Z.heap e_UINT32 "com/example/wirefield/wirefield/FieldType" ∧ Fld Z Z.heap e_UINT32 "java/lang/Enum" "ordinal" "I" (.int (12 : Int32)) ∧ (∃ r : Addr, Fld Z Z.heap e_UINT32 "com/example/wirefield/wirefield/FieldType" "keyword" "Ljava/lang/String;" (.ref r))) ∧ (Sta Z Z.heap "com/example/wirefield/wirefield/FieldType" "ENUM" "Lcom/example/wirefield/wirefield/FieldType;" (.ref e_ENUM) ∧ Exa Z Z.heap e_ENUM "com/example/wirefield/wirefield/FieldType" ∧ Fld Z Z.heap e_ENUM "com/example/wirefield/wirefield/FieldType" "keyword" "Ljava/lang/String;" .null) ∧ (Sta Z Z.heap "com/example/wirefield/wirefield/FieldType" "SFIXED32" "Lcom/example/wirefield/wirefield/FieldType;" (.ref e_SFIXED32) ∧ Exa Z Z.heap e_SFIXED32 "com/example/wirefield/wirefield/FieldType" ∧ Fld Z Z.heap e_SFIXED32 "java/lang/Enum" "ordinal" "I" (.int (14 : Int32)) ∧ (∃ r : Addr, Fld Z Z.heap e_SFIXED32 "com/example/wirefield/wirefield/FieldType" "keyword" "Ljava/lang/String;" (.ref r))) ∧ (Sta Z Z.heap "com/example/wirefield/wirefield/FieldType" "SFIXED64" "Lcom/example/wirefield/wirefield/FieldType;" (.ref e_SFIXED64) ∧ Exa Z Z.heap e_SFIXED64 "com/example/wirefield/wirefield/FieldType" ∧ Fld Z Z.heap e_SFIXED64 "java/lang/Enum" "ordinal" "I" (.int (15 : Int32)) ∧ (∃ r : Addr, Fld Z Z.heap e_SFIXED64 "com/example/wirefield/wirefield/FieldType" "keyword" "Ljava/lang/String;" (.ref r))) ∧ (Sta Z Z.heap "com/example/wirefield/wirefield/FieldType" "SINT32" "Lcom/example/wirefield/wirefield/FieldType;" (.ref e_SINT32) ∧ Exa Z Z.heap e_SINT32 "com/example/wirefield/wirefield/FieldType" ∧ Fld Z Z.heap e_SINT32 "java/lang/Enum" "ordinal" "I" (.int (16 : Int32)) ∧ (∃ r : Addr, Fld Z Z.heap e_SINT32 "com/example/wirefield/wirefield/FieldType" "keyword" "Ljava/lang/String;" (.ref r))) ∧ (Sta Z Z.heap "com/example/wirefield/wirefield/FieldType" "SINT64" "Lcom/example/wirefield/wirefield/FieldType;" (.ref e_SINT64) ∧ Exa Z Z.heap e_SINT64 "com/example/wirefield/wirefield/FieldType" ∧ Fld Z Z.heap e_SINT64 "java/lang/Enum" "ordinal" "I" (.int (17 : Int32)) ∧ (∃ r : Addr, Fld Z Z.heap e_SINT64 "com/example/wirefield/wirefield/FieldType" "keyword" "Ljava/lang/String;" (.ref r)))
theorem own_const {args : Array Value} {s : State} {K K' n d : String} (hx : (Jvm.Cond.exactly (.static K n d) K').value args s none s [] = some true) (hi : (Jvm.Cond.initialized K).before args s = true) (hl : (Jvm.Cond.laysStatic K n d).before args s = true) : ∃ a, Sta s s.heap K n d (.ref a) ∧ Exa s s.heap a K' ∧ (Jvm.Term.static K n d).eval args s none [] s = some (.ref a) := by
  have hx' : (Jvm.Cond.exactly (.static K n d) K').before args s = true := Cond.before_iff.mpr hx
  obtain ⟨a, c, cell, k, e1, -⟩ := Cond.exactly_spec hx'
  exact ⟨a, Sta.start e1 (Or.inr ⟨hi, hl⟩), Exa.start e1 hx, e1⟩
theorem own_fint {args : Array Value} {s : State} {C n d : String} {t : Jvm.Term} {a : Addr} {z : Int32} (e1 : t.eval args s none [] s = some (.ref a)) (h : (Jvm.Cond.eq (.field t C n d) (.int z)).value args s none s [] = some true) : Fld s s.heap a C n d (.int z) :=
  Fld.start (by have q := Cond.eq_int (Cond.before_iff.mpr h) rfl; simpa [Jvm.Term.eval, e1] using q)
theorem own_fref {args : Array Value} {s : State} {C n d K : String} {t : Jvm.Term} {a : Addr} (e1 : t.eval args s none [] s = some (.ref a)) (h : (Jvm.Cond.exactly (.field t C n d) K).value args s none s [] = some true) : ∃ r, Fld s s.heap a C n d (.ref r) := by
  obtain ⟨r, c, cell, k, e2, -⟩ := Cond.exactly_spec (Cond.before_iff.mpr h)
  exact ⟨r, Fld.start (by simpa [Jvm.Term.eval, e1] using e2)⟩
theorem own_fnull {args : Array Value} {s : State} {C n d : String} {t : Jvm.Term} {a : Addr} (e1 : t.eval args s none [] s = some (.ref a)) (h : (Jvm.Cond.eq (.field t C n d) .null).value args s none s [] = some true) : Fld s s.heap a C n d .null := by
  refine Fld.start ?_
  cases q : s.fieldOf? a C n d with
  | none => simp [Jvm.Cond.value, Jvm.Term.eval, e1, q] at h
  | some v => cases v <;> simp_all [Jvm.Cond.value, Jvm.Term.eval]
theorem own_nn (x : Int32) : 0 ≤ (x &&& (2147483647 : Int32)).toInt := by
  have h := c_mask x (2147483647 : Int32) 31 (by decide) (by decide)
  rw [h]; exact Int.emod_nonneg _ (by decide)
theorem own_rem18 {x : Int32} (hx : 0 ≤ x.toInt) : 0 ≤ (x - (x / (18 : Int32)) * (18 : Int32)).toInt ∧ (x - (x / (18 : Int32)) * (18 : Int32)).toInt < 18 := by
  have e : (18 : Int32).toInt = 18 := rfl
  have h1 := (c_idiv x (18 : Int32) 18 rfl (by decide)).1 hx
  have h2 := c_imul (x / (18 : Int32)) (18 : Int32)
  have h3 := c_isub x (x / (18 : Int32) * (18 : Int32))
  have r1 := rng32 x
  have r2 := rng32 (x - x / (18 : Int32) * (18 : Int32))
  rw [h1, e] at h2
  omega
theorem d1_0 : decode prog_13_method_12_code 0 = .ok (.aload_n 0, 1) := by decide +kernel
theorem d1_1 : decode prog_13_method_12_code 1 = .ok (.getfield 81, 3) := by decide +kernel
theorem d1_4 : decode prog_13_method_12_code 4 = .ok (.ifnull 28, 3) := by decide +kernel
theorem d1_7 : decode prog_13_method_12_code 7 = .ok (.aload_n 0, 1) := by decide +kernel
theorem d1_8 : decode prog_13_method_12_code 8 = .ok (.getstatic 3, 3) := by decide +kernel
theorem d1_11 : decode prog_13_method_12_code 11 = .ok (.if_acmp .eq 21, 3) := by decide +kernel
theorem d1_32 : decode prog_13_method_12_code 32 = .ok (.iconst 0, 1) := by decide +kernel
theorem d1_33 : decode prog_13_method_12_code 33 = .ok (.ireturn, 1) := by decide +kernel
theorem own_pn_com_example_wirefield_wirefield_FieldType : plainName "com/example/wirefield/wirefield/FieldType" = true := by first | (simp [plainName, overriddenIn]; done) | decide +kernel
set_option maxRecDepth 65536 in
set_option maxHeartbeats 40000000 in
theorem rm_isMapKey_DOUBLE (l : Launch) (Z : State) (a0 : Array Value) (hw : ∀ d ∈ tables_1, d.before a0 Z = true) (n0 : Nat) (e_DOUBLE e_FLOAT e_INT64 e_UINT64 e_INT32 e_FIXED64 e_FIXED32 e_BOOL e_STRING e_GROUP e_MESSAGE e_BYTES e_UINT32 e_ENUM e_SFIXED32 e_SFIXED64 e_SINT32 e_SINT64 : Addr) (h0 : Heap) (Z0 : n0 ≤ h0.size) (en : Ens Z e_DOUBLE e_FLOAT e_INT64 e_UINT64 e_INT32 e_FIXED64 e_FIXED32 e_BOOL e_STRING e_GROUP e_MESSAGE e_BYTES e_UINT32 e_ENUM e_SFIXED32 e_SFIXED64 e_SINT32 e_SINT64) (O : Old Z n0 h0) :
    Met1 l Z (⟨"com/example/wirefield/wirefield/FieldType", "isMapKey", "()Z"⟩ : MethodName) prog_13_method_12_code 1 (some .boolean) ({ frames := 0, cells := 0, slots := 0, locals := 0 } : Room) n0 #[(.ref e_DOUBLE)] h0 (fun v h => v = some (.int (0 : Int32)) ∧ h0 = h) := by
  refine met_of (plainFor_of_name own_pn_com_example_wirefield_wirefield_FieldType) (L0 := #[.val (.ref e_DOUBLE)]) (by first | rfl | (simp [argsToLocals, Value.category]; done)) ?_
  intro B C
  change Ctx B l _ _ "com/example/wirefield/wirefield/FieldType" "isMapKey" _ _ Z at C
  have en' := en
  obtain ⟨⟨S_DOUBLE, X_DOUBLE, D_DOUBLE, ⟨r_DOUBLE, F_DOUBLE⟩⟩, ⟨S_FLOAT, X_FLOAT, D_FLOAT, ⟨r_FLOAT, F_FLOAT⟩⟩, ⟨S_INT64, X_INT64, D_INT64, ⟨r_INT64, F_INT64⟩⟩, ⟨S_UINT64, X_UINT64, D_UINT64, ⟨r_UINT64, F_UINT64⟩⟩, ⟨S_INT32, X_INT32, D_INT32, ⟨r_INT32, F_INT32⟩⟩, ⟨S_FIXED64, X_FIXED64, D_FIXED64, ⟨r_FIXED64, F_FIXED64⟩⟩, ⟨S_FIXED32, X_FIXED32, D_FIXED32, ⟨r_FIXED32, F_FIXED32⟩⟩, ⟨S_BOOL, X_BOOL, D_BOOL, ⟨r_BOOL, F_BOOL⟩⟩, ⟨S_STRING, X_STRING, D_STRING, ⟨r_STRING, F_STRING⟩⟩, ⟨S_GROUP, X_GROUP, F_GROUP⟩, ⟨S_MESSAGE, X_MESSAGE, F_MESSAGE⟩, ⟨S_BYTES, X_BYTES, D_BYTES, ⟨r_BYTES, F_BYTES⟩⟩, ⟨S_UINT32, X_UINT32, D_UINT32, ⟨r_UINT32, F_UINT32⟩⟩, ⟨S_ENUM, X_ENUM, F_ENUM⟩, ⟨S_SFIXED32, X_SFIXED32, D_SFIXED32, ⟨r_SFIXED32, F_SFIXED32⟩⟩, ⟨S_SFIXED64, X_SFIXED64, D_SFIXED64, ⟨r_SFIXED64, F_SFIXED64⟩⟩, ⟨S_SINT32, X_SINT32, D_SINT32, ⟨r_SINT32, F_SINT32⟩⟩, ⟨S_SINT64, X_SINT64, D_SINT64, ⟨r_SINT64, F_SINT64⟩⟩⟩ := en'
  refine g_aload_n C d1_0 (v := (.ref e_DOUBLE)) rfl rfl (pc' := 1) rfl ?_
  refine g_getfield C (host := "") (v := (.ref r_DOUBLE)) (Or.inl (own_w hw 47 rfl)) Via.refl (F_DOUBLE.ext O.2) d1_1 (pc' := 4) rfl ?_
  refine g_ifnull_n C d1_4 (pc' := 7) rfl ?_
  refine g_aload_n C d1_7 (v := (.ref e_DOUBLE)) rfl rfl (pc' := 8) rfl ?_
  refine g_getstatic C (host := "") (v := (.ref e_DOUBLE)) (Or.inl (own_w hw 49 rfl)) Via.refl (S_DOUBLE.ext O.2) d1_8 (pc' := 11) rfl ?_
  refine g_acmp_y C d1_11 rfl rfl (Jvm.Free.XT.aa_eq_t rfl) (pc' := 32) (by decide) (by decide) ?_
  refine g_iconst C d1_32 (v := (0 : Int32)) rfl (pc' := 33) rfl ?_
  refine g_ret C (v := (.int (0 : Int32))) (ty := .boolean) rfl rfl (Or.inl ⟨rfl, Or.inr (Or.inl rfl), _, rfl⟩) d1_33 (by decide) (by decide) ?_
  exact ⟨rfl, rfl⟩
theorem d1_14 : decode prog_13_method_12_code 14 = .ok (.aload_n 0, 1) := by decide +kernel
theorem d1_15 : decode prog_13_method_12_code 15 = .ok (.getstatic 7, 3) := by decide +kernel
theorem d1_18 : decode prog_13_method_12_code 18 = .ok (.if_acmp .eq 14, 3) := by decide +kernel
set_option maxRecDepth 65536 in
set_option maxHeartbeats 40000000 in
theorem rm_isMapKey_FLOAT (l : Launch) (Z : State) (a0 : Array Value) (hw : ∀ d ∈ tables_1, d.before a0 Z = true) (n0 : Nat) (e_DOUBLE e_FLOAT e_INT64 e_UINT64 e_INT32 e_FIXED64 e_FIXED32 e_BOOL e_STRING e_GROUP e_MESSAGE e_BYTES e_UINT32 e_ENUM e_SFIXED32 e_SFIXED64 e_SINT32 e_SINT64 : Addr) (h0 : Heap) (Z0 : n0 ≤ h0.size) (en : Ens Z e_DOUBLE e_FLOAT e_INT64 e_UINT64 e_INT32 e_FIXED64 e_FIXED32 e_BOOL e_STRING e_GROUP e_MESSAGE e_BYTES e_UINT32 e_ENUM e_SFIXED32 e_SFIXED64 e_SINT32 e_SINT64) (O : Old Z n0 h0) :
    Met1 l Z (⟨"com/example/wirefield/wirefield/FieldType", "isMapKey", "()Z"⟩ : MethodName) prog_13_method_12_code 1 (some .boolean) ({ frames := 0, cells := 0, slots := 0, locals := 0 } : Room) n0 #[(.ref e_FLOAT)] h0 (fun v h => v = some (.int (0 : Int32)) ∧ h0 = h) := by
  refine met_of (plainFor_of_name own_pn_com_example_wirefield_wirefield_FieldType) (L0 := #[.val (.ref e_FLOAT)]) (by first | rfl | (simp [argsToLocals, Value.category]; done)) ?_
  intro B C
  change Ctx B l _ _ "com/example/wirefield/wirefield/FieldType" "isMapKey" _ _ Z at C
  have en' := en
  obtain ⟨⟨S_DOUBLE, X_DOUBLE, D_DOUBLE, ⟨r_DOUBLE, F_DOUBLE⟩⟩, ⟨S_FLOAT, X_FLOAT, D_FLOAT, ⟨r_FLOAT, F_FLOAT⟩⟩, ⟨S_INT64, X_INT64, D_INT64, ⟨r_INT64, F_INT64⟩⟩, ⟨S_UINT64, X_UINT64, D_UINT64, ⟨r_UINT64, F_UINT64⟩⟩, ⟨S_INT32, X_INT32, D_INT32, ⟨r_INT32, F_INT32⟩⟩, ⟨S_FIXED64, X_FIXED64, D_FIXED64, ⟨r_FIXED64, F_FIXED64⟩⟩, ⟨S_FIXED32, X_FIXED32, D_FIXED32, ⟨r_FIXED32, F_FIXED32⟩⟩, ⟨S_BOOL, X_BOOL, D_BOOL, ⟨r_BOOL, F_BOOL⟩⟩, ⟨S_STRING, X_STRING, D_STRING, ⟨r_STRING, F_STRING⟩⟩, ⟨S_GROUP, X_GROUP, F_GROUP⟩, ⟨S_MESSAGE, X_MESSAGE, F_MESSAGE⟩, ⟨S_BYTES, X_BYTES, D_BYTES, ⟨r_BYTES, F_BYTES⟩⟩, ⟨S_UINT32, X_UINT32, D_UINT32, ⟨r_UINT32, F_UINT32⟩⟩, ⟨S_ENUM, X_ENUM, F_ENUM⟩, ⟨S_SFIXED32, X_SFIXED32, D_SFIXED32, ⟨r_SFIXED32, F_SFIXED32⟩⟩, ⟨S_SFIXED64, X_SFIXED64, D_SFIXED64, ⟨r_SFIXED64, F_SFIXED64⟩⟩, ⟨S_SINT32, X_SINT32, D_SINT32, ⟨r_SINT32, F_SINT32⟩⟩, ⟨S_SINT64, X_SINT64, D_SINT64, ⟨r_SINT64, F_SINT64⟩⟩⟩ := en'
  refine g_aload_n C d1_0 (v := (.ref e_FLOAT)) rfl rfl (pc' := 1) rfl ?_
  refine g_getfield C (host := "") (v := (.ref r_FLOAT)) (Or.inl (own_w hw 47 rfl)) Via.refl (F_FLOAT.ext O.2) d1_1 (pc' := 4) rfl ?_
  refine g_ifnull_n C d1_4 (pc' := 7) rfl ?_
  refine g_aload_n C d1_7 (v := (.ref e_FLOAT)) rfl rfl (pc' := 8) rfl ?_
  refine g_getstatic C (host := "") (v := (.ref e_DOUBLE)) (Or.inl (own_w hw 49 rfl)) Via.refl (S_DOUBLE.ext O.2) d1_8 (pc' := 11) rfl ?_
  refine g_acmp_n C d1_11 rfl rfl (Jvm.Free.XT.aa_eq_f (fun q => (Fld.ne D_FLOAT D_DOUBLE (by decide)) (Value.ref.inj q))) (pc' := 14) rfl ?_
  refine g_aload_n C d1_14 (v := (.ref e_FLOAT)) rfl rfl (pc' := 15) rfl ?_
  refine g_getstatic C (host := "") (v := (.ref e_FLOAT)) (Or.inl (own_w hw 50 rfl)) Via.refl (S_FLOAT.ext O.2) d1_15 (pc' := 18) rfl ?_
  refine g_acmp_y C d1_18 rfl rfl (Jvm.Free.XT.aa_eq_t rfl) (pc' := 32) (by decide) (by decide) ?_
  refine g_iconst C d1_32 (v := (0 : Int32)) rfl (pc' := 33) rfl ?_
  refine g_ret C (v := (.int (0 : Int32))) (ty := .boolean) rfl rfl (Or.inl ⟨rfl, Or.inr (Or.inl rfl), _, rfl⟩) d1_33 (by decide) (by decide) ?_
  exact ⟨rfl, rfl⟩
theorem d1_21 : decode prog_13_method_12_code 21 = .ok (.aload_n 0, 1) := by decide +kernel
theorem d1_22 : decode prog_13_method_12_code 22 = .ok (.getstatic 37, 3) := by decide +kernel
theorem d1_25 : decode prog_13_method_12_code 25 = .ok (.if_acmp .eq 7, 3) := by decide +kernel
theorem d1_28 : decode prog_13_method_12_code 28 = .ok (.iconst 1, 1) := by decide +kernel
theorem d1_29 : decode prog_13_method_12_code 29 = .ok (.goto 4, 3) := by decide +kernel
set_option maxRecDepth 65536 in
set_option maxHeartbeats 40000000 in
theorem rm_isMapKey_INT64 (l : Launch) (Z : State) (a0 : Array Value) (hw : ∀ d ∈ tables_1, d.before a0 Z = true) (n0 : Nat) (e_DOUBLE e_FLOAT e_INT64 e_UINT64 e_INT32 e_FIXED64 e_FIXED32 e_BOOL e_STRING e_GROUP e_MESSAGE e_BYTES e_UINT32 e_ENUM e_SFIXED32 e_SFIXED64 e_SINT32 e_SINT64 : Addr) (h0 : Heap) (Z0 : n0 ≤ h0.size) (en : Ens Z e_DOUBLE e_FLOAT e_INT64 e_UINT64 e_INT32 e_FIXED64 e_FIXED32 e_BOOL e_STRING e_GROUP e_MESSAGE e_BYTES e_UINT32 e_ENUM e_SFIXED32 e_SFIXED64 e_SINT32 e_SINT64) (O : Old Z n0 h0) :
    Met1 l Z (⟨"com/example/wirefield/wirefield/FieldType", "isMapKey", "()Z"⟩ : MethodName) prog_13_method_12_code 1 (some .boolean) ({ frames := 0, cells := 0, slots := 0, locals := 0 } : Room) n0 #[(.ref e_INT64)] h0 (fun v h => v = some (.int (1 : Int32)) ∧ h0 = h) := by
  refine met_of (plainFor_of_name own_pn_com_example_wirefield_wirefield_FieldType) (L0 := #[.val (.ref e_INT64)]) (by first | rfl | (simp [argsToLocals, Value.category]; done)) ?_
  intro B C
  change Ctx B l _ _ "com/example/wirefield/wirefield/FieldType" "isMapKey" _ _ Z at C
  have en' := en
  obtain ⟨⟨S_DOUBLE, X_DOUBLE, D_DOUBLE, ⟨r_DOUBLE, F_DOUBLE⟩⟩, ⟨S_FLOAT, X_FLOAT, D_FLOAT, ⟨r_FLOAT, F_FLOAT⟩⟩, ⟨S_INT64, X_INT64, D_INT64, ⟨r_INT64, F_INT64⟩⟩, ⟨S_UINT64, X_UINT64, D_UINT64, ⟨r_UINT64, F_UINT64⟩⟩, ⟨S_INT32, X_INT32, D_INT32, ⟨r_INT32, F_INT32⟩⟩, ⟨S_FIXED64, X_FIXED64, D_FIXED64, ⟨r_FIXED64, F_FIXED64⟩⟩, ⟨S_FIXED32, X_FIXED32, D_FIXED32, ⟨r_FIXED32, F_FIXED32⟩⟩, ⟨S_BOOL, X_BOOL, D_BOOL, ⟨r_BOOL, F_BOOL⟩⟩, ⟨S_STRING, X_STRING, D_STRING, ⟨r_STRING, F_STRING⟩⟩, ⟨S_GROUP, X_GROUP, F_GROUP⟩, ⟨S_MESSAGE, X_MESSAGE, F_MESSAGE⟩, ⟨S_BYTES, X_BYTES, D_BYTES, ⟨r_BYTES, F_BYTES⟩⟩, ⟨S_UINT32, X_UINT32, D_UINT32, ⟨r_UINT32, F_UINT32⟩⟩, ⟨S_ENUM, X_ENUM, F_ENUM⟩, ⟨S_SFIXED32, X_SFIXED32, D_SFIXED32, ⟨r_SFIXED32, F_SFIXED32⟩⟩, ⟨S_SFIXED64, X_SFIXED64, D_SFIXED64, ⟨r_SFIXED64, F_SFIXED64⟩⟩, ⟨S_SINT32, X_SINT32, D_SINT32, ⟨r_SINT32, F_SINT32⟩⟩, ⟨S_SINT64, X_SINT64, D_SINT64, ⟨r_SINT64, F_SINT64⟩⟩⟩ := en'
  refine g_aload_n C d1_0 (v := (.ref e_INT64)) rfl rfl (pc' := 1) rfl ?_
  refine g_getfield C (host := "") (v := (.ref r_INT64)) (Or.inl (own_w hw 47 rfl)) Via.refl (F_INT64.ext O.2) d1_1 (pc' := 4) rfl ?_
  refine g_ifnull_n C d1_4 (pc' := 7) rfl ?_
  refine g_aload_n C d1_7 (v := (.ref e_INT64)) rfl rfl (pc' := 8) rfl ?_
  refine g_getstatic C (host := "") (v := (.ref e_DOUBLE)) (Or.inl (own_w hw 49 rfl)) Via.refl (S_DOUBLE.ext O.2) d1_8 (pc' := 11) rfl ?_
  refine g_acmp_n C d1_11 rfl rfl (Jvm.Free.XT.aa_eq_f (fun q => (Fld.ne D_INT64 D_DOUBLE (by decide)) (Value.ref.inj q))) (pc' := 14) rfl ?_
  refine g_aload_n C d1_14 (v := (.ref e_INT64)) rfl rfl (pc' := 15) rfl ?_
  refine g_getstatic C (host := "") (v := (.ref e_FLOAT)) (Or.inl (own_w hw 50 rfl)) Via.refl (S_FLOAT.ext O.2) d1_15 (pc' := 18) rfl ?_
  refine g_acmp_n C d1_18 rfl rfl (Jvm.Free.XT.aa_eq_f (fun q => (Fld.ne D_INT64 D_FLOAT (by decide)) (Value.ref.inj q))) (pc' := 21) rfl ?_
  refine g_aload_n C d1_21 (v := (.ref e_INT64)) rfl rfl (pc' := 22) rfl ?_
  refine g_getstatic C (host := "") (v := (.ref e_BYTES)) (Or.inl (own_w hw 51 rfl)) Via.refl (S_BYTES.ext O.2) d1_22 (pc' := 25) rfl ?_
  refine g_acmp_n C d1_25 rfl rfl (Jvm.Free.XT.aa_eq_f (fun q => (Fld.ne D_INT64 D_BYTES (by decide)) (Value.ref.inj q))) (pc' := 28) rfl ?_
  refine g_iconst C d1_28 (v := (1 : Int32)) rfl (pc' := 29) rfl ?_
  refine g_goto C d1_29 (pc' := 33) (by decide) (by decide) ?_
  refine g_ret C (v := (.int (1 : Int32))) (ty := .boolean) rfl rfl (Or.inl ⟨rfl, Or.inr (Or.inl rfl), _, rfl⟩) d1_33 (by decide) (by decide) ?_
  exact ⟨rfl, rfl⟩
set_option maxRecDepth 65536 in
set_option maxHeartbeats 40000000 in
theorem rm_isMapKey_UINT64 (l : Launch) (Z : State) (a0 : Array Value) (hw : ∀ d ∈ tables_1, d.before a0 Z = true) (n0 : Nat) (e_DOUBLE e_FLOAT e_INT64 e_UINT64 e_INT32 e_FIXED64 e_FIXED32 e_BOOL e_STRING e_GROUP e_MESSAGE e_BYTES e_UINT32 e_ENUM e_SFIXED32 e_SFIXED64 e_SINT32 e_SINT64 : Addr) (h0 : Heap) (Z0 : n0 ≤ h0.size) (en : Ens Z e_DOUBLE e_FLOAT e_INT64 e_UINT64 e_INT32 e_FIXED64 e_FIXED32 e_BOOL e_STRING e_GROUP e_MESSAGE e_BYTES e_UINT32 e_ENUM e_SFIXED32 e_SFIXED64 e_SINT32 e_SINT64) (O : Old Z n0 h0) :
    Met1 l Z (⟨"com/example/wirefield/wirefield/FieldType", "isMapKey", "()Z"⟩ : MethodName) prog_13_method_12_code 1 (some .boolean) ({ frames := 0, cells := 0, slots := 0, locals := 0 } : Room) n0 #[(.ref e_UINT64)] h0 (fun v h => v = some (.int (1 : Int32)) ∧ h0 = h) := by
  refine met_of (plainFor_of_name own_pn_com_example_wirefield_wirefield_FieldType) (L0 := #[.val (.ref e_UINT64)]) (by first | rfl | (simp [argsToLocals, Value.category]; done)) ?_
  intro B C
  change Ctx B l _ _ "com/example/wirefield/wirefield/FieldType" "isMapKey" _ _ Z at C
  have en' := en
  obtain ⟨⟨S_DOUBLE, X_DOUBLE, D_DOUBLE, ⟨r_DOUBLE, F_DOUBLE⟩⟩, ⟨S_FLOAT, X_FLOAT, D_FLOAT, ⟨r_FLOAT, F_FLOAT⟩⟩, ⟨S_INT64, X_INT64, D_INT64, ⟨r_INT64, F_INT64⟩⟩, ⟨S_UINT64, X_UINT64, D_UINT64, ⟨r_UINT64, F_UINT64⟩⟩, ⟨S_INT32, X_INT32, D_INT32, ⟨r_INT32, F_INT32⟩⟩, ⟨S_FIXED64, X_FIXED64, D_FIXED64, ⟨r_FIXED64, F_FIXED64⟩⟩, ⟨S_FIXED32, X_FIXED32, D_FIXED32, ⟨r_FIXED32, F_FIXED32⟩⟩, ⟨S_BOOL, X_BOOL, D_BOOL, ⟨r_BOOL, F_BOOL⟩⟩, ⟨S_STRING, X_STRING, D_STRING, ⟨r_STRING, F_STRING⟩⟩, ⟨S_GROUP, X_GROUP, F_GROUP⟩, ⟨S_MESSAGE, X_MESSAGE, F_MESSAGE⟩, ⟨S_BYTES, X_BYTES, D_BYTES, ⟨r_BYTES, F_BYTES⟩⟩, ⟨S_UINT32, X_UINT32, D_UINT32, ⟨r_UINT32, F_UINT32⟩⟩, ⟨S_ENUM, X_ENUM, F_ENUM⟩, ⟨S_SFIXED32, X_SFIXED32, D_SFIXED32, ⟨r_SFIXED32, F_SFIXED32⟩⟩, ⟨S_SFIXED64, X_SFIXED64, D_SFIXED64, ⟨r_SFIXED64, F_SFIXED64⟩⟩, ⟨S_SINT32, X_SINT32, D_SINT32, ⟨r_SINT32, F_SINT32⟩⟩, ⟨S_SINT64, X_SINT64, D_SINT64, ⟨r_SINT64, F_SINT64⟩⟩⟩ := en'
  refine g_aload_n C d1_0 (v := (.ref e_UINT64)) rfl rfl (pc' := 1) rfl ?_
  refine g_getfield C (host := "") (v := (.ref r_UINT64)) (Or.inl (own_w hw 47 rfl)) Via.refl (F_UINT64.ext O.2) d1_1 (pc' := 4) rfl ?_
  refine g_ifnull_n C d1_4 (pc' := 7) rfl ?_
  refine g_aload_n C d1_7 (v := (.ref e_UINT64)) rfl rfl (pc' := 8) rfl ?_
  refine g_getstatic C (host := "") (v := (.ref e_DOUBLE)) (Or.inl (own_w hw 49 rfl)) Via.refl (S_DOUBLE.ext O.2) d1_8 (pc' := 11) rfl ?_
  refine g_acmp_n C d1_11 rfl rfl (Jvm.Free.XT.aa_eq_f (fun q => (Fld.ne D_UINT64 D_DOUBLE (by decide)) (Value.ref.inj q))) (pc' := 14) rfl ?_
  refine g_aload_n C d1_14 (v := (.ref e_UINT64)) rfl rfl (pc' := 15) rfl ?_
  refine g_getstatic C (host := "") (v := (.ref e_FLOAT)) (Or.inl (own_w hw 50 rfl)) Via.refl (S_FLOAT.ext O.2) d1_15 (pc' := 18) rfl ?_
  refine g_acmp_n C d1_18 rfl rfl (Jvm.Free.XT.aa_eq_f (fun q => (Fld.ne D_UINT64 D_FLOAT (by decide)) (Value.ref.inj q))) (pc' := 21) rfl ?_
  refine g_aload_n C d1_21 (v := (.ref e_UINT64)) rfl rfl (pc' := 22) rfl ?_
  refine g_getstatic C (host := "") (v := (.ref e_BYTES)) (Or.inl (own_w hw 51 rfl)) Via.refl (S_BYTES.ext O.2) d1_22 (pc' := 25) rfl ?_
  refine g_acmp_n C d1_25 rfl rfl (Jvm.Free.XT.aa_eq_f (fun q => (Fld.ne D_UINT64 D_BYTES (by decide)) (Value.ref.inj q))) (pc' := 28) rfl ?_
  refine g_iconst C d1_28 (v := (1 : Int32)) rfl (pc' := 29) rfl ?_
  refine g_goto C d1_29 (pc' := 33) (by decide) (by decide) ?_
  refine g_ret C (v := (.int (1 : Int32))) (ty := .boolean) rfl rfl (Or.inl ⟨rfl, Or.inr (Or.inl rfl), _, rfl⟩) d1_33 (by decide) (by decide) ?_
  exact ⟨rfl, rfl⟩
set_option maxRecDepth 65536 in
set_option maxHeartbeats 40000000 in
theorem rm_isMapKey_INT32 (l : Launch) (Z : State) (a0 : Array Value) (hw : ∀ d ∈ tables_1, d.before a0 Z = true) (n0 : Nat) (e_DOUBLE e_FLOAT e_INT64 e_UINT64 e_INT32 e_FIXED64 e_FIXED32 e_BOOL e_STRING e_GROUP e_MESSAGE e_BYTES e_UINT32 e_ENUM e_SFIXED32 e_SFIXED64 e_SINT32 e_SINT64 : Addr) (h0 : Heap) (Z0 : n0 ≤ h0.size) (en : Ens Z e_DOUBLE e_FLOAT e_INT64 e_UINT64 e_INT32 e_FIXED64 e_FIXED32 e_BOOL e_STRING e_GROUP e_MESSAGE e_BYTES e_UINT32 e_ENUM e_SFIXED32 e_SFIXED64 e_SINT32 e_SINT64) (O : Old Z n0 h0) :
    Met1 l Z (⟨"com/example/wirefield/wirefield/FieldType", "isMapKey", "()Z"⟩ : MethodName) prog_13_method_12_code 1 (some .boolean) ({ frames := 0, cells := 0, slots := 0, locals := 0 } : Room) n0 #[(.ref e_INT32)] h0 (fun v h => v = some (.int (1 : Int32)) ∧ h0 = h) := by
  refine met_of (plainFor_of_name own_pn_com_example_wirefield_wirefield_FieldType) (L0 := #[.val (.ref e_INT32)]) (by first | rfl | (simp [argsToLocals, Value.category]; done)) ?_
  intro B C
  change Ctx B l _ _ "com/example/wirefield/wirefield/FieldType" "isMapKey" _ _ Z at C
  have en' := en
  obtain ⟨⟨S_DOUBLE, X_DOUBLE, D_DOUBLE, ⟨r_DOUBLE, F_DOUBLE⟩⟩, ⟨S_FLOAT, X_FLOAT, D_FLOAT, ⟨r_FLOAT, F_FLOAT⟩⟩, ⟨S_INT64, X_INT64, D_INT64, ⟨r_INT64, F_INT64⟩⟩, ⟨S_UINT64, X_UINT64, D_UINT64, ⟨r_UINT64, F_UINT64⟩⟩, ⟨S_INT32, X_INT32, D_INT32, ⟨r_INT32, F_INT32⟩⟩, ⟨S_FIXED64, X_FIXED64, D_FIXED64, ⟨r_FIXED64, F_FIXED64⟩⟩, ⟨S_FIXED32, X_FIXED32, D_FIXED32, ⟨r_FIXED32, F_FIXED32⟩⟩, ⟨S_BOOL, X_BOOL, D_BOOL, ⟨r_BOOL, F_BOOL⟩⟩, ⟨S_STRING, X_STRING, D_STRING, ⟨r_STRING, F_STRING⟩⟩, ⟨S_GROUP, X_GROUP, F_GROUP⟩, ⟨S_MESSAGE, X_MESSAGE, F_MESSAGE⟩, ⟨S_BYTES, X_BYTES, D_BYTES, ⟨r_BYTES, F_BYTES⟩⟩, ⟨S_UINT32, X_UINT32, D_UINT32, ⟨r_UINT32, F_UINT32⟩⟩, ⟨S_ENUM, X_ENUM, F_ENUM⟩, ⟨S_SFIXED32, X_SFIXED32, D_SFIXED32, ⟨r_SFIXED32, F_SFIXED32⟩⟩, ⟨S_SFIXED64, X_SFIXED64, D_SFIXED64, ⟨r_SFIXED64, F_SFIXED64⟩⟩, ⟨S_SINT32, X_SINT32, D_SINT32, ⟨r_SINT32, F_SINT32⟩⟩, ⟨S_SINT64, X_SINT64, D_SINT64, ⟨r_SINT64, F_SINT64⟩⟩⟩ := en'
  refine g_aload_n C d1_0 (v := (.ref e_INT32)) rfl rfl (pc' := 1) rfl ?_
  refine g_getfield C (host := "") (v := (.ref r_INT32)) (Or.inl (own_w hw 47 rfl)) Via.refl (F_INT32.ext O.2) d1_1 (pc' := 4) rfl ?_
  refine g_ifnull_n C d1_4 (pc' := 7) rfl ?_
  refine g_aload_n C d1_7 (v := (.ref e_INT32)) rfl rfl (pc' := 8) rfl ?_
  refine g_getstatic C (host := "") (v := (.ref e_DOUBLE)) (Or.inl (own_w hw 49 rfl)) Via.refl (S_DOUBLE.ext O.2) d1_8 (pc' := 11) rfl ?_
  refine g_acmp_n C d1_11 rfl rfl (Jvm.Free.XT.aa_eq_f (fun q => (Fld.ne D_INT32 D_DOUBLE (by decide)) (Value.ref.inj q))) (pc' := 14) rfl ?_
  refine g_aload_n C d1_14 (v := (.ref e_INT32)) rfl rfl (pc' := 15) rfl ?_
  refine g_getstatic C (host := "") (v := (.ref e_FLOAT)) (Or.inl (own_w hw 50 rfl)) Via.refl (S_FLOAT.ext O.2) d1_15 (pc' := 18) rfl ?_
  refine g_acmp_n C d1_18 rfl rfl (Jvm.Free.XT.aa_eq_f (fun q => (Fld.ne D_INT32 D_FLOAT (by decide)) (Value.ref.inj q))) (pc' := 21) rfl ?_
  refine g_aload_n C d1_21 (v := (.ref e_INT32)) rfl rfl (pc' := 22) rfl ?_
  refine g_getstatic C (host := "") (v := (.ref e_BYTES)) (Or.inl (own_w hw 51 rfl)) Via.refl (S_BYTES.ext O.2) d1_22 (pc' := 25) rfl ?_
  refine g_acmp_n C d1_25 rfl rfl (Jvm.Free.XT.aa_eq_f (fun q => (Fld.ne D_INT32 D_BYTES (by decide)) (Value.ref.inj q))) (pc' := 28) rfl ?_
  refine g_iconst C d1_28 (v := (1 : Int32)) rfl (pc' := 29) rfl ?_
  refine g_goto C d1_29 (pc' := 33) (by decide) (by decide) ?_
  refine g_ret C (v := (.int (1 : Int32))) (ty := .boolean) rfl rfl (Or.inl ⟨rfl, Or.inr (Or.inl rfl), _, rfl⟩) d1_33 (by decide) (by decide) ?_
  exact ⟨rfl, rfl⟩
set_option maxRecDepth 65536 in
set_option maxHeartbeats 40000000 in
theorem rm_isMapKey_FIXED64 (l : Launch) (Z : State) (a0 : Array Value) (hw : ∀ d ∈ tables_1, d.before a0 Z = true) (n0 : Nat) (e_DOUBLE e_FLOAT e_INT64 e_UINT64 e_INT32 e_FIXED64 e_FIXED32 e_BOOL e_STRING e_GROUP e_MESSAGE e_BYTES e_UINT32 e_ENUM e_SFIXED32 e_SFIXED64 e_SINT32 e_SINT64 : Addr) (h0 : Heap) (Z0 : n0 ≤ h0.size) (en : Ens Z e_DOUBLE e_FLOAT e_INT64 e_UINT64 e_INT32 e_FIXED64 e_FIXED32 e_BOOL e_STRING e_GROUP e_MESSAGE e_BYTES e_UINT32 e_ENUM e_SFIXED32 e_SFIXED64 e_SINT32 e_SINT64) (O : Old Z n0 h0) :
    Met1 l Z (⟨"com/example/wirefield/wirefield/FieldType", "isMapKey", "()Z"⟩ : MethodName) prog_13_method_12_code 1 (some .boolean) ({ frames := 0, cells := 0, slots := 0, locals := 0 } : Room) n0 #[(.ref e_FIXED64)] h0 (fun v h => v = some (.int (1 : Int32)) ∧ h0 = h) := by
  refine met_of (plainFor_of_name own_pn_com_example_wirefield_wirefield_FieldType) (L0 := #[.val (.ref e_FIXED64)]) (by first | rfl | (simp [argsToLocals, Value.category]; done)) ?_
  intro B C
  change Ctx B l _ _ "com/example/wirefield/wirefield/FieldType" "isMapKey" _ _ Z at C
  have en' := en
  obtain ⟨⟨S_DOUBLE, X_DOUBLE, D_DOUBLE, ⟨r_DOUBLE, F_DOUBLE⟩⟩, ⟨S_FLOAT, X_FLOAT, D_FLOAT, ⟨r_FLOAT, F_FLOAT⟩⟩, ⟨S_INT64, X_INT64, D_INT64, ⟨r_INT64, F_INT64⟩⟩, ⟨S_UINT64, X_UINT64, D_UINT64, ⟨r_UINT64, F_UINT64⟩⟩, ⟨S_INT32, X_INT32, D_INT32, ⟨r_INT32, F_INT32⟩⟩, ⟨S_FIXED64, X_FIXED64, D_FIXED64, ⟨r_FIXED64, F_FIXED64⟩⟩, ⟨S_FIXED32, X_FIXED32, D_FIXED32, ⟨r_FIXED32, F_FIXED32⟩⟩, ⟨S_BOOL, X_BOOL, D_BOOL, ⟨r_BOOL, F_BOOL⟩⟩, ⟨S_STRING, X_STRING, D_STRING, ⟨r_STRING, F_STRING⟩⟩, ⟨S_GROUP, X_GROUP, F_GROUP⟩, ⟨S_MESSAGE, X_MESSAGE, F_MESSAGE⟩, ⟨S_BYTES, X_BYTES, D_BYTES, ⟨r_BYTES, F_BYTES⟩⟩, ⟨S_UINT32, X_UINT32, D_UINT32, ⟨r_UINT32, F_UINT32⟩⟩, ⟨S_ENUM, X_ENUM, F_ENUM⟩, ⟨S_SFIXED32, X_SFIXED32, D_SFIXED32, ⟨r_SFIXED32, F_SFIXED32⟩⟩, ⟨S_SFIXED64, X_SFIXED64, D_SFIXED64, ⟨r_SFIXED64, F_SFIXED64⟩⟩, ⟨S_SINT32, X_SINT32, D_SINT32, ⟨r_SINT32, F_SINT32⟩⟩, ⟨S_SINT64, X_SINT64, D_SINT64, ⟨r_SINT64, F_SINT64⟩⟩⟩ := en'
  refine g_aload_n C d1_0 (v := (.ref e_FIXED64)) rfl rfl (pc' := 1) rfl ?_
  refine g_getfield C (host := "") (v := (.ref r_FIXED64)) (Or.inl (own_w hw 47 rfl)) Via.refl (F_FIXED64.ext O.2) d1_1 (pc' := 4) rfl ?_
  refine g_ifnull_n C d1_4 (pc' := 7) rfl ?_
  refine g_aload_n C d1_7 (v := (.ref e_FIXED64)) rfl rfl (pc' := 8) rfl ?_
  refine g_getstatic C (host := "") (v := (.ref e_DOUBLE)) (Or.inl (own_w hw 49 rfl)) Via.refl (S_DOUBLE.ext O.2) d1_8 (pc' := 11) rfl ?_
  refine g_acmp_n C d1_11 rfl rfl (Jvm.Free.XT.aa_eq_f (fun q => (Fld.ne D_FIXED64 D_DOUBLE (by decide)) (Value.ref.inj q))) (pc' := 14) rfl ?_
  refine g_aload_n C d1_14 (v := (.ref e_FIXED64)) rfl rfl (pc' := 15) rfl ?_
  refine g_getstatic C (host := "") (v := (.ref e_FLOAT)) (Or.inl (own_w hw 50 rfl)) Via.refl (S_FLOAT.ext O.2) d1_15 (pc' := 18) rfl ?_
  refine g_acmp_n C d1_18 rfl rfl (Jvm.Free.XT.aa_eq_f (fun q => (Fld.ne D_FIXED64 D_FLOAT (by decide)) (Value.ref.inj q))) (pc' := 21) rfl ?_
  refine g_aload_n C d1_21 (v := (.ref e_FIXED64)) rfl rfl (pc' := 22) rfl ?_
  refine g_getstatic C (host := "") (v := (.ref e_BYTES)) (Or.inl (own_w hw 51 rfl)) Via.refl (S_BYTES.ext O.2) d1_22 (pc' := 25) rfl ?_
  refine g_acmp_n C d1_25 rfl rfl (Jvm.Free.XT.aa_eq_f (fun q => (Fld.ne D_FIXED64 D_BYTES (by decide)) (Value.ref.inj q))) (pc' := 28) rfl ?_
  refine g_iconst C d1_28 (v := (1 : Int32)) rfl (pc' := 29) rfl ?_
  refine g_goto C d1_29 (pc' := 33) (by decide) (by decide) ?_
  refine g_ret C (v := (.int (1 : Int32))) (ty := .boolean) rfl rfl (Or.inl ⟨rfl, Or.inr (Or.inl rfl), _, rfl⟩) d1_33 (by decide) (by decide) ?_
  exact ⟨rfl, rfl⟩
set_option maxRecDepth 65536 in
set_option maxHeartbeats 40000000 in
theorem rm_isMapKey_FIXED32 (l : Launch) (Z : State) (a0 : Array Value) (hw : ∀ d ∈ tables_1, d.before a0 Z = true) (n0 : Nat) (e_DOUBLE e_FLOAT e_INT64 e_UINT64 e_INT32 e_FIXED64 e_FIXED32 e_BOOL e_STRING e_GROUP e_MESSAGE e_BYTES e_UINT32 e_ENUM e_SFIXED32 e_SFIXED64 e_SINT32 e_SINT64 : Addr) (h0 : Heap) (Z0 : n0 ≤ h0.size) (en : Ens Z e_DOUBLE e_FLOAT e_INT64 e_UINT64 e_INT32 e_FIXED64 e_FIXED32 e_BOOL e_STRING e_GROUP e_MESSAGE e_BYTES e_UINT32 e_ENUM e_SFIXED32 e_SFIXED64 e_SINT32 e_SINT64) (O : Old Z n0 h0) :
    Met1 l Z (⟨"com/example/wirefield/wirefield/FieldType", "isMapKey", "()Z"⟩ : MethodName) prog_13_method_12_code 1 (some .boolean) ({ frames := 0, cells := 0, slots := 0, locals := 0 } : Room) n0 #[(.ref e_FIXED32)] h0 (fun v h => v = some (.int (1 : Int32)) ∧ h0 = h) := by
  refine met_of (plainFor_of_name own_pn_com_example_wirefield_wirefield_FieldType) (L0 := #[.val (.ref e_FIXED32)]) (by first | rfl | (simp [argsToLocals, Value.category]; done)) ?_
  intro B C
  change Ctx B l _ _ "com/example/wirefield/wirefield/FieldType" "isMapKey" _ _ Z at C
  have en' := en
  obtain ⟨⟨S_DOUBLE, X_DOUBLE, D_DOUBLE, ⟨r_DOUBLE, F_DOUBLE⟩⟩, ⟨S_FLOAT, X_FLOAT, D_FLOAT, ⟨r_FLOAT, F_FLOAT⟩⟩, ⟨S_INT64, X_INT64, D_INT64, ⟨r_INT64, F_INT64⟩⟩, ⟨S_UINT64, X_UINT64, D_UINT64, ⟨r_UINT64, F_UINT64⟩⟩, ⟨S_INT32, X_INT32, D_INT32, ⟨r_INT32, F_INT32⟩⟩, ⟨S_FIXED64, X_FIXED64, D_FIXED64, ⟨r_FIXED64, F_FIXED64⟩⟩, ⟨S_FIXED32, X_FIXED32, D_FIXED32, ⟨r_FIXED32, F_FIXED32⟩⟩, ⟨S_BOOL, X_BOOL, D_BOOL, ⟨r_BOOL, F_BOOL⟩⟩, ⟨S_STRING, X_STRING, D_STRING, ⟨r_STRING, F_STRING⟩⟩, ⟨S_GROUP, X_GROUP, F_GROUP⟩, ⟨S_MESSAGE, X_MESSAGE, F_MESSAGE⟩, ⟨S_BYTES, X_BYTES, D_BYTES, ⟨r_BYTES, F_BYTES⟩⟩, ⟨S_UINT32, X_UINT32, D_UINT32, ⟨r_UINT32, F_UINT32⟩⟩, ⟨S_ENUM, X_ENUM, F_ENUM⟩, ⟨S_SFIXED32, X_SFIXED32, D_SFIXED32, ⟨r_SFIXED32, F_SFIXED32⟩⟩, ⟨S_SFIXED64, X_SFIXED64, D_SFIXED64, ⟨r_SFIXED64, F_SFIXED64⟩⟩, ⟨S_SINT32, X_SINT32, D_SINT32, ⟨r_SINT32, F_SINT32⟩⟩, ⟨S_SINT64, X_SINT64, D_SINT64, ⟨r_SINT64, F_SINT64⟩⟩⟩ := en'
  refine g_aload_n C d1_0 (v := (.ref e_FIXED32)) rfl rfl (pc' := 1) rfl ?_
  refine g_getfield C (host := "") (v := (.ref r_FIXED32)) (Or.inl (own_w hw 47 rfl)) Via.refl (F_FIXED32.ext O.2) d1_1 (pc' := 4) rfl ?_
  refine g_ifnull_n C d1_4 (pc' := 7) rfl ?_
  refine g_aload_n C d1_7 (v := (.ref e_FIXED32)) rfl rfl (pc' := 8) rfl ?_
  refine g_getstatic C (host := "") (v := (.ref e_DOUBLE)) (Or.inl (own_w hw 49 rfl)) Via.refl (S_DOUBLE.ext O.2) d1_8 (pc' := 11) rfl ?_
  refine g_acmp_n C d1_11 rfl rfl (Jvm.Free.XT.aa_eq_f (fun q => (Fld.ne D_FIXED32 D_DOUBLE (by decide)) (Value.ref.inj q))) (pc' := 14) rfl ?_
  refine g_aload_n C d1_14 (v := (.ref e_FIXED32)) rfl rfl (pc' := 15) rfl ?_
  refine g_getstatic C (host := "") (v := (.ref e_FLOAT)) (Or.inl (own_w hw 50 rfl)) Via.refl (S_FLOAT.ext O.2) d1_15 (pc' := 18) rfl ?_
  refine g_acmp_n C d1_18 rfl rfl (Jvm.Free.XT.aa_eq_f (fun q => (Fld.ne D_FIXED32 D_FLOAT (by decide)) (Value.ref.inj q))) (pc' := 21) rfl ?_
  refine g_aload_n C d1_21 (v := (.ref e_FIXED32)) rfl rfl (pc' := 22) rfl ?_
  refine g_getstatic C (host := "") (v := (.ref e_BYTES)) (Or.inl (own_w hw 51 rfl)) Via.refl (S_BYTES.ext O.2) d1_22 (pc' := 25) rfl ?_
  refine g_acmp_n C d1_25 rfl rfl (Jvm.Free.XT.aa_eq_f (fun q => (Fld.ne D_FIXED32 D_BYTES (by decide)) (Value.ref.inj q))) (pc' := 28) rfl ?_
  refine g_iconst C d1_28 (v := (1 : Int32)) rfl (pc' := 29) rfl ?_
  refine g_goto C d1_29 (pc' := 33) (by decide) (by decide) ?_
  refine g_ret C (v := (.int (1 : Int32))) (ty := .boolean) rfl rfl (Or.inl ⟨rfl, Or.inr (Or.inl rfl), _, rfl⟩) d1_33 (by decide) (by decide) ?_
  exact ⟨rfl, rfl⟩
set_option maxRecDepth 65536 in
set_option maxHeartbeats 40000000 in
theorem rm_isMapKey_BOOL (l : Launch) (Z : State) (a0 : Array Value) (hw : ∀ d ∈ tables_1, d.before a0 Z = true) (n0 : Nat) (e_DOUBLE e_FLOAT e_INT64 e_UINT64 e_INT32 e_FIXED64 e_FIXED32 e_BOOL e_STRING e_GROUP e_MESSAGE e_BYTES e_UINT32 e_ENUM e_SFIXED32 e_SFIXED64 e_SINT32 e_SINT64 : Addr) (h0 : Heap) (Z0 : n0 ≤ h0.size) (en : Ens Z e_DOUBLE e_FLOAT e_INT64 e_UINT64 e_INT32 e_FIXED64 e_FIXED32 e_BOOL e_STRING e_GROUP e_MESSAGE e_BYTES e_UINT32 e_ENUM e_SFIXED32 e_SFIXED64 e_SINT32 e_SINT64) (O : Old Z n0 h0) :
    Met1 l Z (⟨"com/example/wirefield/wirefield/FieldType", "isMapKey", "()Z"⟩ : MethodName) prog_13_method_12_code 1 (some .boolean) ({ frames := 0, cells := 0, slots := 0, locals := 0 } : Room) n0 #[(.ref e_BOOL)] h0 (fun v h => v = some (.int (1 : Int32)) ∧ h0 = h) := by
  refine met_of (plainFor_of_name own_pn_com_example_wirefield_wirefield_FieldType) (L0 := #[.val (.ref e_BOOL)]) (by first | rfl | (simp [argsToLocals, Value.category]; done)) ?_
  intro B C
  change Ctx B l _ _ "com/example/wirefield/wirefield/FieldType" "isMapKey" _ _ Z at C
  have en' := en
  obtain ⟨⟨S_DOUBLE, X_DOUBLE, D_DOUBLE, ⟨r_DOUBLE, F_DOUBLE⟩⟩, ⟨S_FLOAT, X_FLOAT, D_FLOAT, ⟨r_FLOAT, F_FLOAT⟩⟩, ⟨S_INT64, X_INT64, D_INT64, ⟨r_INT64, F_INT64⟩⟩, ⟨S_UINT64, X_UINT64, D_UINT64, ⟨r_UINT64, F_UINT64⟩⟩, ⟨S_INT32, X_INT32, D_INT32, ⟨r_INT32, F_INT32⟩⟩, ⟨S_FIXED64, X_FIXED64, D_FIXED64, ⟨r_FIXED64, F_FIXED64⟩⟩, ⟨S_FIXED32, X_FIXED32, D_FIXED32, ⟨r_FIXED32, F_FIXED32⟩⟩, ⟨S_BOOL, X_BOOL, D_BOOL, ⟨r_BOOL, F_BOOL⟩⟩, ⟨S_STRING, X_STRING, D_STRING, ⟨r_STRING, F_STRING⟩⟩, ⟨S_GROUP, X_GROUP, F_GROUP⟩, ⟨S_MESSAGE, X_MESSAGE, F_MESSAGE⟩, ⟨S_BYTES, X_BYTES, D_BYTES, ⟨r_BYTES, F_BYTES⟩⟩, ⟨S_UINT32, X_UINT32, D_UINT32, ⟨r_UINT32, F_UINT32⟩⟩, ⟨S_ENUM, X_ENUM, F_ENUM⟩, ⟨S_SFIXED32, X_SFIXED32, D_SFIXED32, ⟨r_SFIXED32, F_SFIXED32⟩⟩, ⟨S_SFIXED64, X_SFIXED64, D_SFIXED64, ⟨r_SFIXED64, F_SFIXED64⟩⟩, ⟨S_SINT32, X_SINT32, D_SINT32, ⟨r_SINT32, F_SINT32⟩⟩, ⟨S_SINT64, X_SINT64, D_SINT64, ⟨r_SINT64, F_SINT64⟩⟩⟩ := en'
  refine g_aload_n C d1_0 (v := (.ref e_BOOL)) rfl rfl (pc' := 1) rfl ?_
  refine g_getfield C (host := "") (v := (.ref r_BOOL)) (Or.inl (own_w hw 47 rfl)) Via.refl (F_BOOL.ext O.2) d1_1 (pc' := 4) rfl ?_
  refine g_ifnull_n C d1_4 (pc' := 7) rfl ?_
  refine g_aload_n C d1_7 (v := (.ref e_BOOL)) rfl rfl (pc' := 8) rfl ?_
  refine g_getstatic C (host := "") (v := (.ref e_DOUBLE)) (Or.inl (own_w hw 49 rfl)) Via.refl (S_DOUBLE.ext O.2) d1_8 (pc' := 11) rfl ?_
  refine g_acmp_n C d1_11 rfl rfl (Jvm.Free.XT.aa_eq_f (fun q => (Fld.ne D_BOOL D_DOUBLE (by decide)) (Value.ref.inj q))) (pc' := 14) rfl ?_
  refine g_aload_n C d1_14 (v := (.ref e_BOOL)) rfl rfl (pc' := 15) rfl ?_
  refine g_getstatic C (host := "") (v := (.ref e_FLOAT)) (Or.inl (own_w hw 50 rfl)) Via.refl (S_FLOAT.ext O.2) d1_15 (pc' := 18) rfl ?_
  refine g_acmp_n C d1_18 rfl rfl (Jvm.Free.XT.aa_eq_f (fun q => (Fld.ne D_BOOL D_FLOAT (by decide)) (Value.ref.inj q))) (pc' := 21) rfl ?_
  refine g_aload_n C d1_21 (v := (.ref e_BOOL)) rfl rfl (pc' := 22) rfl ?_
  refine g_getstatic C (host := "") (v := (.ref e_BYTES)) (Or.inl (own_w hw 51 rfl)) Via.refl (S_BYTES.ext O.2) d1_22 (pc' := 25) rfl ?_
  refine g_acmp_n C d1_25 rfl rfl (Jvm.Free.XT.aa_eq_f (fun q => (Fld.ne D_BOOL D_BYTES (by decide)) (Value.ref.inj q))) (pc' := 28) rfl ?_
  refine g_iconst C d1_28 (v := (1 : Int32)) rfl (pc' := 29) rfl ?_
  refine g_goto C d1_29 (pc' := 33) (by decide) (by decide) ?_
  refine g_ret C (v := (.int (1 : Int32))) (ty := .boolean) rfl rfl (Or.inl ⟨rfl, Or.inr (Or.inl rfl), _, rfl⟩) d1_33 (by decide) (by decide) ?_
  exact ⟨rfl, rfl⟩
set_option maxRecDepth 65536 in
set_option maxHeartbeats 40000000 in
theorem rm_isMapKey_STRING (l : Launch) (Z : State) (a0 : Array Value) (hw : ∀ d ∈ tables_1, d.before a0 Z = true) (n0 : Nat) (e_DOUBLE e_FLOAT e_INT64 e_UINT64 e_INT32 e_FIXED64 e_FIXED32 e_BOOL e_STRING e_GROUP e_MESSAGE e_BYTES e_UINT32 e_ENUM e_SFIXED32 e_SFIXED64 e_SINT32 e_SINT64 : Addr) (h0 : Heap) (Z0 : n0 ≤ h0.size) (en : Ens Z e_DOUBLE e_FLOAT e_INT64 e_UINT64 e_INT32 e_FIXED64 e_FIXED32 e_BOOL e_STRING e_GROUP e_MESSAGE e_BYTES e_UINT32 e_ENUM e_SFIXED32 e_SFIXED64 e_SINT32 e_SINT64) (O : Old Z n0 h0) :
    Met1 l Z (⟨"com/example/wirefield/wirefield/FieldType", "isMapKey", "()Z"⟩ : MethodName) prog_13_method_12_code 1 (some .boolean) ({ frames := 0, cells := 0, slots := 0, locals := 0 } : Room) n0 #[(.ref e_STRING)] h0 (fun v h => v = some (.int (1 : Int32)) ∧ h0 = h) := by
  refine met_of (plainFor_of_name own_pn_com_example_wirefield_wirefield_FieldType) (L0 := #[.val (.ref e_STRING)]) (by first | rfl | (simp [argsToLocals, Value.category]; done)) ?_
  intro B C
  change Ctx B l _ _ "com/example/wirefield/wirefield/FieldType" "isMapKey" _ _ Z at C
  have en' := en
  obtain ⟨⟨S_DOUBLE, X_DOUBLE, D_DOUBLE, ⟨r_DOUBLE, F_DOUBLE⟩⟩, ⟨S_FLOAT, X_FLOAT, D_FLOAT, ⟨r_FLOAT, F_FLOAT⟩⟩, ⟨S_INT64, X_INT64, D_INT64, ⟨r_INT64, F_INT64⟩⟩, ⟨S_UINT64, X_UINT64, D_UINT64, ⟨r_UINT64, F_UINT64⟩⟩, ⟨S_INT32, X_INT32, D_INT32, ⟨r_INT32, F_INT32⟩⟩, ⟨S_FIXED64, X_FIXED64, D_FIXED64, ⟨r_FIXED64, F_FIXED64⟩⟩, ⟨S_FIXED32, X_FIXED32, D_FIXED32, ⟨r_FIXED32, F_FIXED32⟩⟩, ⟨S_BOOL, X_BOOL, D_BOOL, ⟨r_BOOL, F_BOOL⟩⟩, ⟨S_STRING, X_STRING, D_STRING, ⟨r_STRING, F_STRING⟩⟩, ⟨S_GROUP, X_GROUP, F_GROUP⟩, ⟨S_MESSAGE, X_MESSAGE, F_MESSAGE⟩, ⟨S_BYTES, X_BYTES, D_BYTES, ⟨r_BYTES, F_BYTES⟩⟩, ⟨S_UINT32, X_UINT32, D_UINT32, ⟨r_UINT32, F_UINT32⟩⟩, ⟨S_ENUM, X_ENUM, F_ENUM⟩, ⟨S_SFIXED32, X_SFIXED32, D_SFIXED32, ⟨r_SFIXED32, F_SFIXED32⟩⟩, ⟨S_SFIXED64, X_SFIXED64, D_SFIXED64, ⟨r_SFIXED64, F_SFIXED64⟩⟩, ⟨S_SINT32, X_SINT32, D_SINT32, ⟨r_SINT32, F_SINT32⟩⟩, ⟨S_SINT64, X_SINT64, D_SINT64, ⟨r_SINT64, F_SINT64⟩⟩⟩ := en'
  refine g_aload_n C d1_0 (v := (.ref e_STRING)) rfl rfl (pc' := 1) rfl ?_
  refine g_getfield C (host := "") (v := (.ref r_STRING)) (Or.inl (own_w hw 47 rfl)) Via.refl (F_STRING.ext O.2) d1_1 (pc' := 4) rfl ?_
  refine g_ifnull_n C d1_4 (pc' := 7) rfl ?_
  refine g_aload_n C d1_7 (v := (.ref e_STRING)) rfl rfl (pc' := 8) rfl ?_
  refine g_getstatic C (host := "") (v := (.ref e_DOUBLE)) (Or.inl (own_w hw 49 rfl)) Via.refl (S_DOUBLE.ext O.2) d1_8 (pc' := 11) rfl ?_
  refine g_acmp_n C d1_11 rfl rfl (Jvm.Free.XT.aa_eq_f (fun q => (Fld.ne D_STRING D_DOUBLE (by decide)) (Value.ref.inj q))) (pc' := 14) rfl ?_
  refine g_aload_n C d1_14 (v := (.ref e_STRING)) rfl rfl (pc' := 15) rfl ?_
  refine g_getstatic C (host := "") (v := (.ref e_FLOAT)) (Or.inl (own_w hw 50 rfl)) Via.refl (S_FLOAT.ext O.2) d1_15 (pc' := 18) rfl ?_
  refine g_acmp_n C d1_18 rfl rfl (Jvm.Free.XT.aa_eq_f (fun q => (Fld.ne D_STRING D_FLOAT (by decide)) (Value.ref.inj q))) (pc' := 21) rfl ?_
  refine g_aload_n C d1_21 (v := (.ref e_STRING)) rfl rfl (pc' := 22) rfl ?_
  refine g_getstatic C (host := "") (v := (.ref e_BYTES)) (Or.inl (own_w hw 51 rfl)) Via.refl (S_BYTES.ext O.2) d1_22 (pc' := 25) rfl ?_
  refine g_acmp_n C d1_25 rfl rfl (Jvm.Free.XT.aa_eq_f (fun q => (Fld.ne D_STRING D_BYTES (by decide)) (Value.ref.inj q))) (pc' := 28) rfl ?_
  refine g_iconst C d1_28 (v := (1 : Int32)) rfl (pc' := 29) rfl ?_
  refine g_goto C d1_29 (pc' := 33) (by decide) (by decide) ?_
  refine g_ret C (v := (.int (1 : Int32))) (ty := .boolean) rfl rfl (Or.inl ⟨rfl, Or.inr (Or.inl rfl), _, rfl⟩) d1_33 (by decide) (by decide) ?_
  exact ⟨rfl, rfl⟩
set_option maxRecDepth 65536 in
set_option maxHeartbeats 40000000 in
theorem rm_isMapKey_GROUP (l : Launch) (Z : State) (a0 : Array Value) (hw : ∀ d ∈ tables_1, d.before a0 Z = true) (n0 : Nat) (e_DOUBLE e_FLOAT e_INT64 e_UINT64 e_INT32 e_FIXED64 e_FIXED32 e_BOOL e_STRING e_GROUP e_MESSAGE e_BYTES e_UINT32 e_ENUM e_SFIXED32 e_SFIXED64 e_SINT32 e_SINT64 : Addr) (h0 : Heap) (Z0 : n0 ≤ h0.size) (en : Ens Z e_DOUBLE e_FLOAT e_INT64 e_UINT64 e_INT32 e_FIXED64 e_FIXED32 e_BOOL e_STRING e_GROUP e_MESSAGE e_BYTES e_UINT32 e_ENUM e_SFIXED32 e_SFIXED64 e_SINT32 e_SINT64) (O : Old Z n0 h0) :
    Met1 l Z (⟨"com/example/wirefield/wirefield/FieldType", "isMapKey", "()Z"⟩ : MethodName) prog_13_method_12_code 1 (some .boolean) ({ frames := 0, cells := 0, slots := 0, locals := 0 } : Room) n0 #[(.ref e_GROUP)] h0 (fun v h => v = some (.int (0 : Int32)) ∧ h0 = h) := by
  refine met_of (plainFor_of_name own_pn_com_example_wirefield_wirefield_FieldType) (L0 := #[.val (.ref e_GROUP)]) (by first | rfl | (simp [argsToLocals, Value.category]; done)) ?_
  intro B C
  change Ctx B l _ _ "com/example/wirefield/wirefield/FieldType" "isMapKey" _ _ Z at C
  have en' := en
  obtain ⟨⟨S_DOUBLE, X_DOUBLE, D_DOUBLE, ⟨r_DOUBLE, F_DOUBLE⟩⟩, ⟨S_FLOAT, X_FLOAT, D_FLOAT, ⟨r_FLOAT, F_FLOAT⟩⟩, ⟨S_INT64, X_INT64, D_INT64, ⟨r_INT64, F_INT64⟩⟩, ⟨S_UINT64, X_UINT64, D_UINT64, ⟨r_UINT64, F_UINT64⟩⟩, ⟨S_INT32, X_INT32, D_INT32, ⟨r_INT32, F_INT32⟩⟩, ⟨S_FIXED64, X_FIXED64, D_FIXED64, ⟨r_FIXED64, F_FIXED64⟩⟩, ⟨S_FIXED32, X_FIXED32, D_FIXED32, ⟨r_FIXED32, F_FIXED32⟩⟩, ⟨S_BOOL, X_BOOL, D_BOOL, ⟨r_BOOL, F_BOOL⟩⟩, ⟨S_STRING, X_STRING, D_STRING, ⟨r_STRING, F_STRING⟩⟩, ⟨S_GROUP, X_GROUP, F_GROUP⟩, ⟨S_MESSAGE, X_MESSAGE, F_MESSAGE⟩, ⟨S_BYTES, X_BYTES, D_BYTES, ⟨r_BYTES, F_BYTES⟩⟩, ⟨S_UINT32, X_UINT32, D_UINT32, ⟨r_UINT32, F_UINT32⟩⟩, ⟨S_ENUM, X_ENUM, F_ENUM⟩, ⟨S_SFIXED32, X_SFIXED32, D_SFIXED32, ⟨r_SFIXED32, F_SFIXED32⟩⟩, ⟨S_SFIXED64, X_SFIXED64, D_SFIXED64, ⟨r_SFIXED64, F_SFIXED64⟩⟩, ⟨S_SINT32, X_SINT32, D_SINT32, ⟨r_SINT32, F_SINT32⟩⟩, ⟨S_SINT64, X_SINT64, D_SINT64, ⟨r_SINT64, F_SINT64⟩⟩⟩ := en'
  refine g_aload_n C d1_0 (v := (.ref e_GROUP)) rfl rfl (pc' := 1) rfl ?_
  refine g_getfield C (host := "") (v := .null) (Or.inl (own_w hw 47 rfl)) Via.refl (F_GROUP.ext O.2) d1_1 (pc' := 4) rfl ?_
  refine g_ifnull_y C d1_4 (pc' := 32) (by decide) (by decide) ?_
  refine g_iconst C d1_32 (v := (0 : Int32)) rfl (pc' := 33) rfl ?_
  refine g_ret C (v := (.int (0 : Int32))) (ty := .boolean) rfl rfl (Or.inl ⟨rfl, Or.inr (Or.inl rfl), _, rfl⟩) d1_33 (by decide) (by decide) ?_
  exact ⟨rfl, rfl⟩
set_option maxRecDepth 65536 in
set_option maxHeartbeats 40000000 in
theorem rm_isMapKey_MESSAGE (l : Launch) (Z : State) (a0 : Array Value) (hw : ∀ d ∈ tables_1, d.before a0 Z = true) (n0 : Nat) (e_DOUBLE e_FLOAT e_INT64 e_UINT64 e_INT32 e_FIXED64 e_FIXED32 e_BOOL e_STRING e_GROUP e_MESSAGE e_BYTES e_UINT32 e_ENUM e_SFIXED32 e_SFIXED64 e_SINT32 e_SINT64 : Addr) (h0 : Heap) (Z0 : n0 ≤ h0.size) (en : Ens Z e_DOUBLE e_FLOAT e_INT64 e_UINT64 e_INT32 e_FIXED64 e_FIXED32 e_BOOL e_STRING e_GROUP e_MESSAGE e_BYTES e_UINT32 e_ENUM e_SFIXED32 e_SFIXED64 e_SINT32 e_SINT64) (O : Old Z n0 h0) :
    Met1 l Z (⟨"com/example/wirefield/wirefield/FieldType", "isMapKey", "()Z"⟩ : MethodName) prog_13_method_12_code 1 (some .boolean) ({ frames := 0, cells := 0, slots := 0, locals := 0 } : Room) n0 #[(.ref e_MESSAGE)] h0 (fun v h => v = some (.int (0 : Int32)) ∧ h0 = h) := by
  refine met_of (plainFor_of_name own_pn_com_example_wirefield_wirefield_FieldType) (L0 := #[.val (.ref e_MESSAGE)]) (by first | rfl | (simp [argsToLocals, Value.category]; done)) ?_
  intro B C
  change Ctx B l _ _ "com/example/wirefield/wirefield/FieldType" "isMapKey" _ _ Z at C
  have en' := en
  obtain ⟨⟨S_DOUBLE, X_DOUBLE, D_DOUBLE, ⟨r_DOUBLE, F_DOUBLE⟩⟩, ⟨S_FLOAT, X_FLOAT, D_FLOAT, ⟨r_FLOAT, F_FLOAT⟩⟩, ⟨S_INT64, X_INT64, D_INT64, ⟨r_INT64, F_INT64⟩⟩, ⟨S_UINT64, X_UINT64, D_UINT64, ⟨r_UINT64, F_UINT64⟩⟩, ⟨S_INT32, X_INT32, D_INT32, ⟨r_INT32, F_INT32⟩⟩, ⟨S_FIXED64, X_FIXED64, D_FIXED64, ⟨r_FIXED64, F_FIXED64⟩⟩, ⟨S_FIXED32, X_FIXED32, D_FIXED32, ⟨r_FIXED32, F_FIXED32⟩⟩, ⟨S_BOOL, X_BOOL, D_BOOL, ⟨r_BOOL, F_BOOL⟩⟩, ⟨S_STRING, X_STRING, D_STRING, ⟨r_STRING, F_STRING⟩⟩, ⟨S_GROUP, X_GROUP, F_GROUP⟩, ⟨S_MESSAGE, X_MESSAGE, F_MESSAGE⟩, ⟨S_BYTES, X_BYTES, D_BYTES, ⟨r_BYTES, F_BYTES⟩⟩, ⟨S_UINT32, X_UINT32, D_UINT32, ⟨r_UINT32, F_UINT32⟩⟩, ⟨S_ENUM, X_ENUM, F_ENUM⟩, ⟨S_SFIXED32, X_SFIXED32, D_SFIXED32, ⟨r_SFIXED32, F_SFIXED32⟩⟩, ⟨S_SFIXED64, X_SFIXED64, D_SFIXED64, ⟨r_SFIXED64, F_SFIXED64⟩⟩, ⟨S_SINT32, X_SINT32, D_SINT32, ⟨r_SINT32, F_SINT32⟩⟩, ⟨S_SINT64, X_SINT64, D_SINT64, ⟨r_SINT64, F_SINT64⟩⟩⟩ := en'
  refine g_aload_n C d1_0 (v := (.ref e_MESSAGE)) rfl rfl (pc' := 1) rfl ?_
  refine g_getfield C (host := "") (v := .null) (Or.inl (own_w hw 47 rfl)) Via.refl (F_MESSAGE.ext O.2) d1_1 (pc' := 4) rfl ?_
  refine g_ifnull_y C d1_4 (pc' := 32) (by decide) (by decide) ?_
  refine g_iconst C d1_32 (v := (0 : Int32)) rfl (pc' := 33) rfl ?_
  refine g_ret C (v := (.int (0 : Int32))) (ty := .boolean) rfl rfl (Or.inl ⟨rfl, Or.inr (Or.inl rfl), _, rfl⟩) d1_33 (by decide) (by decide) ?_
  exact ⟨rfl, rfl⟩
set_option maxRecDepth 65536 in
set_option maxHeartbeats 40000000 in
theorem rm_isMapKey_BYTES (l : Launch) (Z : State) (a0 : Array Value) (hw : ∀ d ∈ tables_1, d.before a0 Z = true) (n0 : Nat) (e_DOUBLE e_FLOAT e_INT64 e_UINT64 e_INT32 e_FIXED64 e_FIXED32 e_BOOL e_STRING e_GROUP e_MESSAGE e_BYTES e_UINT32 e_ENUM e_SFIXED32 e_SFIXED64 e_SINT32 e_SINT64 : Addr) (h0 : Heap) (Z0 : n0 ≤ h0.size) (en : Ens Z e_DOUBLE e_FLOAT e_INT64 e_UINT64 e_INT32 e_FIXED64 e_FIXED32 e_BOOL e_STRING e_GROUP e_MESSAGE e_BYTES e_UINT32 e_ENUM e_SFIXED32 e_SFIXED64 e_SINT32 e_SINT64) (O : Old Z n0 h0) :
    Met1 l Z (⟨"com/example/wirefield/wirefield/FieldType", "isMapKey", "()Z"⟩ : MethodName) prog_13_method_12_code 1 (some .boolean) ({ frames := 0, cells := 0, slots := 0, locals := 0 } : Room) n0 #[(.ref e_BYTES)] h0 (fun v h => v = some (.int (0 : Int32)) ∧ h0 = h) := by
  refine met_of (plainFor_of_name own_pn_com_example_wirefield_wirefield_FieldType) (L0 := #[.val (.ref e_BYTES)]) (by first | rfl | (simp [argsToLocals, Value.category]; done)) ?_
  intro B C
  change Ctx B l _ _ "com/example/wirefield/wirefield/FieldType" "isMapKey" _ _ Z at C
  have en' := en
  obtain ⟨⟨S_DOUBLE, X_DOUBLE, D_DOUBLE, ⟨r_DOUBLE, F_DOUBLE⟩⟩, ⟨S_FLOAT, X_FLOAT, D_FLOAT, ⟨r_FLOAT, F_FLOAT⟩⟩, ⟨S_INT64, X_INT64, D_INT64, ⟨r_INT64, F_INT64⟩⟩, ⟨S_UINT64, X_UINT64, D_UINT64, ⟨r_UINT64, F_UINT64⟩⟩, ⟨S_INT32, X_INT32, D_INT32, ⟨r_INT32, F_INT32⟩⟩, ⟨S_FIXED64, X_FIXED64, D_FIXED64, ⟨r_FIXED64, F_FIXED64⟩⟩, ⟨S_FIXED32, X_FIXED32, D_FIXED32, ⟨r_FIXED32, F_FIXED32⟩⟩, ⟨S_BOOL, X_BOOL, D_BOOL, ⟨r_BOOL, F_BOOL⟩⟩, ⟨S_STRING, X_STRING, D_STRING, ⟨r_STRING, F_STRING⟩⟩, ⟨S_GROUP, X_GROUP, F_GROUP⟩, ⟨S_MESSAGE, X_MESSAGE, F_MESSAGE⟩, ⟨S_BYTES, X_BYTES, D_BYTES, ⟨r_BYTES, F_BYTES⟩⟩, ⟨S_UINT32, X_UINT32, D_UINT32, ⟨r_UINT32, F_UINT32⟩⟩, ⟨S_ENUM, X_ENUM, F_ENUM⟩, ⟨S_SFIXED32, X_SFIXED32, D_SFIXED32, ⟨r_SFIXED32, F_SFIXED32⟩⟩, ⟨S_SFIXED64, X_SFIXED64, D_SFIXED64, ⟨r_SFIXED64, F_SFIXED64⟩⟩, ⟨S_SINT32, X_SINT32, D_SINT32, ⟨r_SINT32, F_SINT32⟩⟩, ⟨S_SINT64, X_SINT64, D_SINT64, ⟨r_SINT64, F_SINT64⟩⟩⟩ := en'
  refine g_aload_n C d1_0 (v := (.ref e_BYTES)) rfl rfl (pc' := 1) rfl ?_
  refine g_getfield C (host := "") (v := (.ref r_BYTES)) (Or.inl (own_w hw 47 rfl)) Via.refl (F_BYTES.ext O.2) d1_1 (pc' := 4) rfl ?_
  refine g_ifnull_n C d1_4 (pc' := 7) rfl ?_
  refine g_aload_n C d1_7 (v := (.ref e_BYTES)) rfl rfl (pc' := 8) rfl ?_
  refine g_getstatic C (host := "") (v := (.ref e_DOUBLE)) (Or.inl (own_w hw 49 rfl)) Via.refl (S_DOUBLE.ext O.2) d1_8 (pc' := 11) rfl ?_
  refine g_acmp_n C d1_11 rfl rfl (Jvm.Free.XT.aa_eq_f (fun q => (Fld.ne D_BYTES D_DOUBLE (by decide)) (Value.ref.inj q))) (pc' := 14) rfl ?_
  refine g_aload_n C d1_14 (v := (.ref e_BYTES)) rfl rfl (pc' := 15) rfl ?_
  refine g_getstatic C (host := "") (v := (.ref e_FLOAT)) (Or.inl (own_w hw 50 rfl)) Via.refl (S_FLOAT.ext O.2) d1_15 (pc' := 18) rfl ?_
  refine g_acmp_n C d1_18 rfl rfl (Jvm.Free.XT.aa_eq_f (fun q => (Fld.ne D_BYTES D_FLOAT (by decide)) (Value.ref.inj q))) (pc' := 21) rfl ?_
  refine g_aload_n C d1_21 (v := (.ref e_BYTES)) rfl rfl (pc' := 22) rfl ?_
  refine g_getstatic C (host := "") (v := (.ref e_BYTES)) (Or.inl (own_w hw 51 rfl)) Via.refl (S_BYTES.ext O.2) d1_22 (pc' := 25) rfl ?_
  refine g_acmp_y C d1_25 rfl rfl (Jvm.Free.XT.aa_eq_t rfl) (pc' := 32) (by decide) (by decide) ?_
  refine g_iconst C d1_32 (v := (0 : Int32)) rfl (pc' := 33) rfl ?_
  refine g_ret C (v := (.int (0 : Int32))) (ty := .boolean) rfl rfl (Or.inl ⟨rfl, Or.inr (Or.inl rfl), _, rfl⟩) d1_33 (by decide) (by decide) ?_
  exact ⟨rfl, rfl⟩
set_option maxRecDepth 65536 in
set_option maxHeartbeats 40000000 in
theorem rm_isMapKey_UINT32 (l : Launch) (Z : State) (a0 : Array Value) (hw : ∀ d ∈ tables_1, d.before a0 Z = true) (n0 : Nat) (e_DOUBLE e_FLOAT e_INT64 e_UINT64 e_INT32 e_FIXED64 e_FIXED32 e_BOOL e_STRING e_GROUP e_MESSAGE e_BYTES e_UINT32 e_ENUM e_SFIXED32 e_SFIXED64 e_SINT32 e_SINT64 : Addr) (h0 : Heap) (Z0 : n0 ≤ h0.size) (en : Ens Z e_DOUBLE e_FLOAT e_INT64 e_UINT64 e_INT32 e_FIXED64 e_FIXED32 e_BOOL e_STRING e_GROUP e_MESSAGE e_BYTES e_UINT32 e_ENUM e_SFIXED32 e_SFIXED64 e_SINT32 e_SINT64) (O : Old Z n0 h0) :
    Met1 l Z (⟨"com/example/wirefield/wirefield/FieldType", "isMapKey", "()Z"⟩ : MethodName) prog_13_method_12_code 1 (some .boolean) ({ frames := 0, cells := 0, slots := 0, locals := 0 } : Room) n0 #[(.ref e_UINT32)] h0 (fun v h => v = some (.int (1 : Int32)) ∧ h0 = h) := by
  refine met_of (plainFor_of_name own_pn_com_example_wirefield_wirefield_FieldType) (L0 := #[.val (.ref e_UINT32)]) (by first | rfl | (simp [argsToLocals, Value.category]; done)) ?_
  intro B C
  change Ctx B l _ _ "com/example/wirefield/wirefield/FieldType" "isMapKey" _ _ Z at C
  have en' := en
  obtain ⟨⟨S_DOUBLE, X_DOUBLE, D_DOUBLE, ⟨r_DOUBLE, F_DOUBLE⟩⟩, ⟨S_FLOAT, X_FLOAT, D_FLOAT, ⟨r_FLOAT, F_FLOAT⟩⟩, ⟨S_INT64, X_INT64, D_INT64, ⟨r_INT64, F_INT64⟩⟩, ⟨S_UINT64, X_UINT64, D_UINT64, ⟨r_UINT64, F_UINT64⟩⟩, ⟨S_INT32, X_INT32, D_INT32, ⟨r_INT32, F_INT32⟩⟩, ⟨S_FIXED64, X_FIXED64, D_FIXED64, ⟨r_FIXED64, F_FIXED64⟩⟩, ⟨S_FIXED32, X_FIXED32, D_FIXED32, ⟨r_FIXED32, F_FIXED32⟩⟩, ⟨S_BOOL, X_BOOL, D_BOOL, ⟨r_BOOL, F_BOOL⟩⟩, ⟨S_STRING, X_STRING, D_STRING, ⟨r_STRING, F_STRING⟩⟩, ⟨S_GROUP, X_GROUP, F_GROUP⟩, ⟨S_MESSAGE, X_MESSAGE, F_MESSAGE⟩, ⟨S_BYTES, X_BYTES, D_BYTES, ⟨r_BYTES, F_BYTES⟩⟩, ⟨S_UINT32, X_UINT32, D_UINT32, ⟨r_UINT32, F_UINT32⟩⟩, ⟨S_ENUM, X_ENUM, F_ENUM⟩, ⟨S_SFIXED32, X_SFIXED32, D_SFIXED32, ⟨r_SFIXED32, F_SFIXED32⟩⟩, ⟨S_SFIXED64, X_SFIXED64, D_SFIXED64, ⟨r_SFIXED64, F_SFIXED64⟩⟩, ⟨S_SINT32, X_SINT32, D_SINT32, ⟨r_SINT32, F_SINT32⟩⟩, ⟨S_SINT64, X_SINT64, D_SINT64, ⟨r_SINT64, F_SINT64⟩⟩⟩ := en'
  refine g_aload_n C d1_0 (v := (.ref e_UINT32)) rfl rfl (pc' := 1) rfl ?_
  refine g_getfield C (host := "") (v := (.ref r_UINT32)) (Or.inl (own_w hw 47 rfl)) Via.refl (F_UINT32.ext O.2) d1_1 (pc' := 4) rfl ?_
  refine g_ifnull_n C d1_4 (pc' := 7) rfl ?_
  refine g_aload_n C d1_7 (v := (.ref e_UINT32)) rfl rfl (pc' := 8) rfl ?_
  refine g_getstatic C (host := "") (v := (.ref e_DOUBLE)) (Or.inl (own_w hw 49 rfl)) Via.refl (S_DOUBLE.ext O.2) d1_8 (pc' := 11) rfl ?_
  refine g_acmp_n C d1_11 rfl rfl (Jvm.Free.XT.aa_eq_f (fun q => (Fld.ne D_UINT32 D_DOUBLE (by decide)) (Value.ref.inj q))) (pc' := 14) rfl ?_
  refine g_aload_n C d1_14 (v := (.ref e_UINT32)) rfl rfl (pc' := 15) rfl ?_
  refine g_getstatic C (host := "") (v := (.ref e_FLOAT)) (Or.inl (own_w hw 50 rfl)) Via.refl (S_FLOAT.ext O.2) d1_15 (pc' := 18) rfl ?_
  refine g_acmp_n C d1_18 rfl rfl (Jvm.Free.XT.aa_eq_f (fun q => (Fld.ne D_UINT32 D_FLOAT (by decide)) (Value.ref.inj q))) (pc' := 21) rfl ?_
  refine g_aload_n C d1_21 (v := (.ref e_UINT32)) rfl rfl (pc' := 22) rfl ?_
  refine g_getstatic C (host := "") (v := (.ref e_BYTES)) (Or.inl (own_w hw 51 rfl)) Via.refl (S_BYTES.ext O.2) d1_22 (pc' := 25) rfl ?_
  refine g_acmp_n C d1_25 rfl rfl (Jvm.Free.XT.aa_eq_f (fun q => (Fld.ne D_UINT32 D_BYTES (by decide)) (Value.ref.inj q))) (pc' := 28) rfl ?_
  refine g_iconst C d1_28 (v := (1 : Int32)) rfl (pc' := 29) rfl ?_
  refine g_goto C d1_29 (pc' := 33) (by decide) (by decide) ?_
  refine g_ret C (v := (.int (1 : Int32))) (ty := .boolean) rfl rfl (Or.inl ⟨rfl, Or.inr (Or.inl rfl), _, rfl⟩) d1_33 (by decide) (by decide) ?_
  exact ⟨rfl, rfl⟩
set_option maxRecDepth 65536 in
set_option maxHeartbeats 40000000 in
theorem rm_isMapKey_ENUM (l : Launch) (Z : State) (a0 : Array Value) (hw : ∀ d ∈ tables_1, d.before a0 Z = true) (n0 : Nat) (e_DOUBLE e_FLOAT e_INT64 e_UINT64 e_INT32 e_FIXED64 e_FIXED32 e_BOOL e_STRING e_GROUP e_MESSAGE e_BYTES e_UINT32 e_ENUM e_SFIXED32 e_SFIXED64 e_SINT32 e_SINT64 : Addr) (h0 : Heap) (Z0 : n0 ≤ h0.size) (en : Ens Z e_DOUBLE e_FLOAT e_INT64 e_UINT64 e_INT32 e_FIXED64 e_FIXED32 e_BOOL e_STRING e_GROUP e_MESSAGE e_BYTES e_UINT32 e_ENUM e_SFIXED32 e_SFIXED64 e_SINT32 e_SINT64) (O : Old Z n0 h0) :
    Met1 l Z (⟨"com/example/wirefield/wirefield/FieldType", "isMapKey", "()Z"⟩ : MethodName) prog_13_method_12_code 1 (some .boolean) ({ frames := 0, cells := 0, slots := 0, locals := 0 } : Room) n0 #[(.ref e_ENUM)] h0 (fun v h => v = some (.int (0 : Int32)) ∧ h0 = h) := by
  refine met_of (plainFor_of_name own_pn_com_example_wirefield_wirefield_FieldType) (L0 := #[.val (.ref e_ENUM)]) (by first | rfl | (simp [argsToLocals, Value.category]; done)) ?_
  intro B C
  change Ctx B l _ _ "com/example/wirefield/wirefield/FieldType" "isMapKey" _ _ Z at C
  have en' := en
  obtain ⟨⟨S_DOUBLE, X_DOUBLE, D_DOUBLE, ⟨r_DOUBLE, F_DOUBLE⟩⟩, ⟨S_FLOAT, X_FLOAT, D_FLOAT, ⟨r_FLOAT, F_FLOAT⟩⟩, ⟨S_INT64, X_INT64, D_INT64, ⟨r_INT64, F_INT64⟩⟩, ⟨S_UINT64, X_UINT64, D_UINT64, ⟨r_UINT64, F_UINT64⟩⟩, ⟨S_INT32, X_INT32, D_INT32, ⟨r_INT32, F_INT32⟩⟩, ⟨S_FIXED64, X_FIXED64, D_FIXED64, ⟨r_FIXED64, F_FIXED64⟩⟩, ⟨S_FIXED32, X_FIXED32, D_FIXED32, ⟨r_FIXED32, F_FIXED32⟩⟩, ⟨S_BOOL, X_BOOL, D_BOOL, ⟨r_BOOL, F_BOOL⟩⟩, ⟨S_STRING, X_STRING, D_STRING, ⟨r_STRING, F_STRING⟩⟩, ⟨S_GROUP, X_GROUP, F_GROUP⟩, ⟨S_MESSAGE, X_MESSAGE, F_MESSAGE⟩, ⟨S_BYTES, X_BYTES, D_BYTES, ⟨r_BYTES, F_BYTES⟩⟩, ⟨S_UINT32, X_UINT32, D_UINT32, ⟨r_UINT32, F_UINT32⟩⟩, ⟨S_ENUM, X_ENUM, F_ENUM⟩, ⟨S_SFIXED32, X_SFIXED32, D_SFIXED32, ⟨r_SFIXED32, F_SFIXED32⟩⟩, ⟨S_SFIXED64, X_SFIXED64, D_SFIXED64, ⟨r_SFIXED64, F_SFIXED64⟩⟩, ⟨S_SINT32, X_SINT32, D_SINT32, ⟨r_SINT32, F_SINT32⟩⟩, ⟨S_SINT64, X_SINT64, D_SINT64, ⟨r_SINT64, F_SINT64⟩⟩⟩ := en'
  refine g_aload_n C d1_0 (v := (.ref e_ENUM)) rfl rfl (pc' := 1) rfl ?_
  refine g_getfield C (host := "") (v := .null) (Or.inl (own_w hw 47 rfl)) Via.refl (F_ENUM.ext O.2) d1_1 (pc' := 4) rfl ?_
  refine g_ifnull_y C d1_4 (pc' := 32) (by decide) (by decide) ?_
  refine g_iconst C d1_32 (v := (0 : Int32)) rfl (pc' := 33) rfl ?_
  refine g_ret C (v := (.int (0 : Int32))) (ty := .boolean) rfl rfl (Or.inl ⟨rfl, Or.inr (Or.inl rfl), _, rfl⟩) d1_33 (by decide) (by decide) ?_
  exact ⟨rfl, rfl⟩
set_option maxRecDepth 65536 in
set_option maxHeartbeats 40000000 in
theorem rm_isMapKey_SFIXED32 (l : Launch) (Z : State) (a0 : Array Value) (hw : ∀ d ∈ tables_1, d.before a0 Z = true) (n0 : Nat) (e_DOUBLE e_FLOAT e_INT64 e_UINT64 e_INT32 e_FIXED64 e_FIXED32 e_BOOL e_STRING e_GROUP e_MESSAGE e_BYTES e_UINT32 e_ENUM e_SFIXED32 e_SFIXED64 e_SINT32 e_SINT64 : Addr) (h0 : Heap) (Z0 : n0 ≤ h0.size) (en : Ens Z e_DOUBLE e_FLOAT e_INT64 e_UINT64 e_INT32 e_FIXED64 e_FIXED32 e_BOOL e_STRING e_GROUP e_MESSAGE e_BYTES e_UINT32 e_ENUM e_SFIXED32 e_SFIXED64 e_SINT32 e_SINT64) (O : Old Z n0 h0) :
    Met1 l Z (⟨"com/example/wirefield/wirefield/FieldType", "isMapKey", "()Z"⟩ : MethodName) prog_13_method_12_code 1 (some .boolean) ({ frames := 0, cells := 0, slots := 0, locals := 0 } : Room) n0 #[(.ref e_SFIXED32)] h0 (fun v h => v = some (.int (1 : Int32)) ∧ h0 = h) := by
  refine met_of (plainFor_of_name own_pn_com_example_wirefield_wirefield_FieldType) (L0 := #[.val (.ref e_SFIXED32)]) (by first | rfl | (simp [argsToLocals, Value.category]; done)) ?_
  intro B C
  change Ctx B l _ _ "com/example/wirefield/wirefield/FieldType" "isMapKey" _ _ Z at C
  have en' := en
  obtain ⟨⟨S_DOUBLE, X_DOUBLE, D_DOUBLE, ⟨r_DOUBLE, F_DOUBLE⟩⟩, ⟨S_FLOAT, X_FLOAT, D_FLOAT, ⟨r_FLOAT, F_FLOAT⟩⟩, ⟨S_INT64, X_INT64, D_INT64, ⟨r_INT64, F_INT64⟩⟩, ⟨S_UINT64, X_UINT64, D_UINT64, ⟨r_UINT64, F_UINT64⟩⟩, ⟨S_INT32, X_INT32, D_INT32, ⟨r_INT32, F_INT32⟩⟩, ⟨S_FIXED64, X_FIXED64, D_FIXED64, ⟨r_FIXED64, F_FIXED64⟩⟩, ⟨S_FIXED32, X_FIXED32, D_FIXED32, ⟨r_FIXED32, F_FIXED32⟩⟩, ⟨S_BOOL, X_BOOL, D_BOOL, ⟨r_BOOL, F_BOOL⟩⟩, ⟨S_STRING, X_STRING, D_STRING, ⟨r_STRING, F_STRING⟩⟩, ⟨S_GROUP, X_GROUP, F_GROUP⟩, ⟨S_MESSAGE, X_MESSAGE, F_MESSAGE⟩, ⟨S_BYTES, X_BYTES, D_BYTES, ⟨r_BYTES, F_BYTES⟩⟩, ⟨S_UINT32, X_UINT32, D_UINT32, ⟨r_UINT32, F_UINT32⟩⟩, ⟨S_ENUM, X_ENUM, F_ENUM⟩, ⟨S_SFIXED32, X_SFIXED32, D_SFIXED32, ⟨r_SFIXED32, F_SFIXED32⟩⟩, ⟨S_SFIXED64, X_SFIXED64, D_SFIXED64, ⟨r_SFIXED64, F_SFIXED64⟩⟩, ⟨S_SINT32, X_SINT32, D_SINT32, ⟨r_SINT32, F_SINT32⟩⟩, ⟨S_SINT64, X_SINT64, D_SINT64, ⟨r_SINT64, F_SINT64⟩⟩⟩ := en'
  refine g_aload_n C d1_0 (v := (.ref e_SFIXED32)) rfl rfl (pc' := 1) rfl ?_
  refine g_getfield C (host := "") (v := (.ref r_SFIXED32)) (Or.inl (own_w hw 47 rfl)) Via.refl (F_SFIXED32.ext O.2) d1_1 (pc' := 4) rfl ?_
  refine g_ifnull_n C d1_4 (pc' := 7) rfl ?_
  refine g_aload_n C d1_7 (v := (.ref e_SFIXED32)) rfl rfl (pc' := 8) rfl ?_
  refine g_getstatic C (host := "") (v := (.ref e_DOUBLE)) (Or.inl (own_w hw 49 rfl)) Via.refl (S_DOUBLE.ext O.2) d1_8 (pc' := 11) rfl ?_
  refine g_acmp_n C d1_11 rfl rfl (Jvm.Free.XT.aa_eq_f (fun q => (Fld.ne D_SFIXED32 D_DOUBLE (by decide)) (Value.ref.inj q))) (pc' := 14) rfl ?_
  refine g_aload_n C d1_14 (v := (.ref e_SFIXED32)) rfl rfl (pc' := 15) rfl ?_
  refine g_getstatic C (host := "") (v := (.ref e_FLOAT)) (Or.inl (own_w hw 50 rfl)) Via.refl (S_FLOAT.ext O.2) d1_15 (pc' := 18) rfl ?_
  refine g_acmp_n C d1_18 rfl rfl (Jvm.Free.XT.aa_eq_f (fun q => (Fld.ne D_SFIXED32 D_FLOAT (by decide)) (Value.ref.inj q))) (pc' := 21) rfl ?_
  refine g_aload_n C d1_21 (v := (.ref e_SFIXED32)) rfl rfl (pc' := 22) rfl ?_
  refine g_getstatic C (host := "") (v := (.ref e_BYTES)) (Or.inl (own_w hw 51 rfl)) Via.refl (S_BYTES.ext O.2) d1_22 (pc' := 25) rfl ?_
  refine g_acmp_n C d1_25 rfl rfl (Jvm.Free.XT.aa_eq_f (fun q => (Fld.ne D_SFIXED32 D_BYTES (by decide)) (Value.ref.inj q))) (pc' := 28) rfl ?_
  refine g_iconst C d1_28 (v := (1 : Int32)) rfl (pc' := 29) rfl ?_
  refine g_goto C d1_29 (pc' := 33) (by decide) (by decide) ?_
  refine g_ret C (v := (.int (1 : Int32))) (ty := .boolean) rfl rfl (Or.inl ⟨rfl, Or.inr (Or.inl rfl), _, rfl⟩) d1_33 (by decide) (by decide) ?_
  exact ⟨rfl, rfl⟩
set_option maxRecDepth 65536 in
set_option maxHeartbeats 40000000 in
theorem rm_isMapKey_SFIXED64 (l : Launch) (Z : State) (a0 : Array Value) (hw : ∀ d ∈ tables_1, d.before a0 Z = true) (n0 : Nat) (e_DOUBLE e_FLOAT e_INT64 e_UINT64 e_INT32 e_FIXED64 e_FIXED32 e_BOOL e_STRING e_GROUP e_MESSAGE e_BYTES e_UINT32 e_ENUM e_SFIXED32 e_SFIXED64 e_SINT32 e_SINT64 : Addr) (h0 : Heap) (Z0 : n0 ≤ h0.size) (en : Ens Z e_DOUBLE e_FLOAT e_INT64 e_UINT64 e_INT32 e_FIXED64 e_FIXED32 e_BOOL e_STRING e_GROUP e_MESSAGE e_BYTES e_UINT32 e_ENUM e_SFIXED32 e_SFIXED64 e_SINT32 e_SINT64) (O : Old Z n0 h0) :
    Met1 l Z (⟨"com/example/wirefield/wirefield/FieldType", "isMapKey", "()Z"⟩ : MethodName) prog_13_method_12_code 1 (some .boolean) ({ frames := 0, cells := 0, slots := 0, locals := 0 } : Room) n0 #[(.ref e_SFIXED64)] h0 (fun v h => v = some (.int (1 : Int32)) ∧ h0 = h) := by
  refine met_of (plainFor_of_name own_pn_com_example_wirefield_wirefield_FieldType) (L0 := #[.val (.ref e_SFIXED64)]) (by first | rfl | (simp [argsToLocals, Value.category]; done)) ?_
  intro B C
  change Ctx B l _ _ "com/example/wirefield/wirefield/FieldType" "isMapKey" _ _ Z at C
  have en' := en
  obtain ⟨⟨S_DOUBLE, X_DOUBLE, D_DOUBLE, ⟨r_DOUBLE, F_DOUBLE⟩⟩, ⟨S_FLOAT, X_FLOAT, D_FLOAT, ⟨r_FLOAT, F_FLOAT⟩⟩, ⟨S_INT64, X_INT64, D_INT64, ⟨r_INT64, F_INT64⟩⟩, ⟨S_UINT64, X_UINT64, D_UINT64, ⟨r_UINT64, F_UINT64⟩⟩, ⟨S_INT32, X_INT32, D_INT32, ⟨r_INT32, F_INT32⟩⟩, ⟨S_FIXED64, X_FIXED64, D_FIXED64, ⟨r_FIXED64, F_FIXED64⟩⟩, ⟨S_FIXED32, X_FIXED32, D_FIXED32, ⟨r_FIXED32, F_FIXED32⟩⟩, ⟨S_BOOL, X_BOOL, D_BOOL, ⟨r_BOOL, F_BOOL⟩⟩, ⟨S_STRING, X_STRING, D_STRING, ⟨r_STRING, F_STRING⟩⟩, ⟨S_GROUP, X_GROUP, F_GROUP⟩, ⟨S_MESSAGE, X_MESSAGE, F_MESSAGE⟩, ⟨S_BYTES, X_BYTES, D_BYTES, ⟨r_BYTES, F_BYTES⟩⟩, ⟨S_UINT32, X_UINT32, D_UINT32, ⟨r_UINT32, F_UINT32⟩⟩, ⟨S_ENUM, X_ENUM, F_ENUM⟩, ⟨S_SFIXED32, X_SFIXED32, D_SFIXED32, ⟨r_SFIXED32, F_SFIXED32⟩⟩, ⟨S_SFIXED64, X_SFIXED64, D_SFIXED64, ⟨r_SFIXED64, F_SFIXED64⟩⟩, ⟨S_SINT32, X_SINT32, D_SINT32, ⟨r_SINT32, F_SINT32⟩⟩, ⟨S_SINT64, X_SINT64, D_SINT64, ⟨r_SINT64, F_SINT64⟩⟩⟩ := en'
  refine g_aload_n C d1_0 (v := (.ref e_SFIXED64)) rfl rfl (pc' := 1) rfl ?_
  refine g_getfield C (host := "") (v := (.ref r_SFIXED64)) (Or.inl (own_w hw 47 rfl)) Via.refl (F_SFIXED64.ext O.2) d1_1 (pc' := 4) rfl ?_
  refine g_ifnull_n C d1_4 (pc' := 7) rfl ?_
  refine g_aload_n C d1_7 (v := (.ref e_SFIXED64)) rfl rfl (pc' := 8) rfl ?_
  refine g_getstatic C (host := "") (v := (.ref e_DOUBLE)) (Or.inl (own_w hw 49 rfl)) Via.refl (S_DOUBLE.ext O.2) d1_8 (pc' := 11) rfl ?_
  refine g_acmp_n C d1_11 rfl rfl (Jvm.Free.XT.aa_eq_f (fun q => (Fld.ne D_SFIXED64 D_DOUBLE (by decide)) (Value.ref.inj q))) (pc' := 14) rfl ?_
  refine g_aload_n C d1_14 (v := (.ref e_SFIXED64)) rfl rfl (pc' := 15) rfl ?_
  refine g_getstatic C (host := "") (v := (.ref e_FLOAT)) (Or.inl (own_w hw 50 rfl)) Via.refl (S_FLOAT.ext O.2) d1_15 (pc' := 18) rfl ?_
  refine g_acmp_n C d1_18 rfl rfl (Jvm.Free.XT.aa_eq_f (fun q => (Fld.ne D_SFIXED64 D_FLOAT (by decide)) (Value.ref.inj q))) (pc' := 21) rfl ?_
  refine g_aload_n C d1_21 (v := (.ref e_SFIXED64)) rfl rfl (pc' := 22) rfl ?_
  refine g_getstatic C (host := "") (v := (.ref e_BYTES)) (Or.inl (own_w hw 51 rfl)) Via.refl (S_BYTES.ext O.2) d1_22 (pc' := 25) rfl ?_
  refine g_acmp_n C d1_25 rfl rfl (Jvm.Free.XT.aa_eq_f (fun q => (Fld.ne D_SFIXED64 D_BYTES (by decide)) (Value.ref.inj q))) (pc' := 28) rfl ?_
  refine g_iconst C d1_28 (v := (1 : Int32)) rfl (pc' := 29) rfl ?_
  refine g_goto C d1_29 (pc' := 33) (by decide) (by decide) ?_
  refine g_ret C (v := (.int (1 : Int32))) (ty := .boolean) rfl rfl (Or.inl ⟨rfl, Or.inr (Or.inl rfl), _, rfl⟩) d1_33 (by decide) (by decide) ?_
  exact ⟨rfl, rfl⟩
set_option maxRecDepth 65536 in
set_option maxHeartbeats 40000000 in
theorem rm_isMapKey_SINT32 (l : Launch) (Z : State) (a0 : Array Value) (hw : ∀ d ∈ tables_1, d.before a0 Z = true) (n0 : Nat) (e_DOUBLE e_FLOAT e_INT64 e_UINT64 e_INT32 e_FIXED64 e_FIXED32 e_BOOL e_STRING e_GROUP e_MESSAGE e_BYTES e_UINT32 e_ENUM e_SFIXED32 e_SFIXED64 e_SINT32 e_SINT64 : Addr) (h0 : Heap) (Z0 : n0 ≤ h0.size) (en : Ens Z e_DOUBLE e_FLOAT e_INT64 e_UINT64 e_INT32 e_FIXED64 e_FIXED32 e_BOOL e_STRING e_GROUP e_MESSAGE e_BYTES e_UINT32 e_ENUM e_SFIXED32 e_SFIXED64 e_SINT32 e_SINT64) (O : Old Z n0 h0) :
    Met1 l Z (⟨"com/example/wirefield/wirefield/FieldType", "isMapKey", "()Z"⟩ : MethodName) prog_13_method_12_code 1 (some .boolean) ({ frames := 0, cells := 0, slots := 0, locals := 0 } : Room) n0 #[(.ref e_SINT32)] h0 (fun v h => v = some (.int (1 : Int32)) ∧ h0 = h) := by
  refine met_of (plainFor_of_name own_pn_com_example_wirefield_wirefield_FieldType) (L0 := #[.val (.ref e_SINT32)]) (by first | rfl | (simp [argsToLocals, Value.category]; done)) ?_
  intro B C
  change Ctx B l _ _ "com/example/wirefield/wirefield/FieldType" "isMapKey" _ _ Z at C
  have en' := en
  obtain ⟨⟨S_DOUBLE, X_DOUBLE, D_DOUBLE, ⟨r_DOUBLE, F_DOUBLE⟩⟩, ⟨S_FLOAT, X_FLOAT, D_FLOAT, ⟨r_FLOAT, F_FLOAT⟩⟩, ⟨S_INT64, X_INT64, D_INT64, ⟨r_INT64, F_INT64⟩⟩, ⟨S_UINT64, X_UINT64, D_UINT64, ⟨r_UINT64, F_UINT64⟩⟩, ⟨S_INT32, X_INT32, D_INT32, ⟨r_INT32, F_INT32⟩⟩, ⟨S_FIXED64, X_FIXED64, D_FIXED64, ⟨r_FIXED64, F_FIXED64⟩⟩, ⟨S_FIXED32, X_FIXED32, D_FIXED32, ⟨r_FIXED32, F_FIXED32⟩⟩, ⟨S_BOOL, X_BOOL, D_BOOL, ⟨r_BOOL, F_BOOL⟩⟩, ⟨S_STRING, X_STRING, D_STRING, ⟨r_STRING, F_STRING⟩⟩, ⟨S_GROUP, X_GROUP, F_GROUP⟩, ⟨S_MESSAGE, X_MESSAGE, F_MESSAGE⟩, ⟨S_BYTES, X_BYTES, D_BYTES, ⟨r_BYTES, F_BYTES⟩⟩, ⟨S_UINT32, X_UINT32, D_UINT32, ⟨r_UINT32, F_UINT32⟩⟩, ⟨S_ENUM, X_ENUM, F_ENUM⟩, ⟨S_SFIXED32, X_SFIXED32, D_SFIXED32, ⟨r_SFIXED32, F_SFIXED32⟩⟩, ⟨S_SFIXED64, X_SFIXED64, D_SFIXED64, ⟨r_SFIXED64, F_SFIXED64⟩⟩, ⟨S_SINT32, X_SINT32, D_SINT32, ⟨r_SINT32, F_SINT32⟩⟩, ⟨S_SINT64, X_SINT64, D_SINT64, ⟨r_SINT64, F_SINT64⟩⟩⟩ := en'
  refine g_aload_n C d1_0 (v := (.ref e_SINT32)) rfl rfl (pc' := 1) rfl ?_
  refine g_getfield C (host := "") (v := (.ref r_SINT32)) (Or.inl (own_w hw 47 rfl)) Via.refl (F_SINT32.ext O.2) d1_1 (pc' := 4) rfl ?_
  refine g_ifnull_n C d1_4 (pc' := 7) rfl ?_
  refine g_aload_n C d1_7 (v := (.ref e_SINT32)) rfl rfl (pc' := 8) rfl ?_
  refine g_getstatic C (host := "") (v := (.ref e_DOUBLE)) (Or.inl (own_w hw 49 rfl)) Via.refl (S_DOUBLE.ext O.2) d1_8 (pc' := 11) rfl ?_
  refine g_acmp_n C d1_11 rfl rfl (Jvm.Free.XT.aa_eq_f (fun q => (Fld.ne D_SINT32 D_DOUBLE (by decide)) (Value.ref.inj q))) (pc' := 14) rfl ?_
  refine g_aload_n C d1_14 (v := (.ref e_SINT32)) rfl rfl (pc' := 15) rfl ?_
  refine g_getstatic C (host := "") (v := (.ref e_FLOAT)) (Or.inl (own_w hw 50 rfl)) Via.refl (S_FLOAT.ext O.2) d1_15 (pc' := 18) rfl ?_
  refine g_acmp_n C d1_18 rfl rfl (Jvm.Free.XT.aa_eq_f (fun q => (Fld.ne D_SINT32 D_FLOAT (by decide)) (Value.ref.inj q))) (pc' := 21) rfl ?_
  refine g_aload_n C d1_21 (v := (.ref e_SINT32)) rfl rfl (pc' := 22) rfl ?_
  refine g_getstatic C (host := "") (v := (.ref e_BYTES)) (Or.inl (own_w hw 51 rfl)) Via.refl (S_BYTES.ext O.2) d1_22 (pc' := 25) rfl ?_
  refine g_acmp_n C d1_25 rfl rfl (Jvm.Free.XT.aa_eq_f (fun q => (Fld.ne D_SINT32 D_BYTES (by decide)) (Value.ref.inj q))) (pc' := 28) rfl ?_
  refine g_iconst C d1_28 (v := (1 : Int32)) rfl (pc' := 29) rfl ?_
  refine g_goto C d1_29 (pc' := 33) (by decide) (by decide) ?_
  refine g_ret C (v := (.int (1 : Int32))) (ty := .boolean) rfl rfl (Or.inl ⟨rfl, Or.inr (Or.inl rfl), _, rfl⟩) d1_33 (by decide) (by decide) ?_
  exact ⟨rfl, rfl⟩
set_option maxRecDepth 65536 in
set_option maxHeartbeats 40000000 in
theorem rm_isMapKey_SINT64 (l : Launch) (Z : State) (a0 : Array Value) (hw : ∀ d ∈ tables_1, d.before a0 Z = true) (n0 : Nat) (e_DOUBLE e_FLOAT e_INT64 e_UINT64 e_INT32 e_FIXED64 e_FIXED32 e_BOOL e_STRING e_GROUP e_MESSAGE e_BYTES e_UINT32 e_ENUM e_SFIXED32 e_SFIXED64 e_SINT32 e_SINT64 : Addr) (h0 : Heap) (Z0 : n0 ≤ h0.size) (en : Ens Z e_DOUBLE e_FLOAT e_INT64 e_UINT64 e_INT32 e_FIXED64 e_FIXED32 e_BOOL e_STRING e_GROUP e_MESSAGE e_BYTES e_UINT32 e_ENUM e_SFIXED32 e_SFIXED64 e_SINT32 e_SINT64) (O : Old Z n0 h0) :
    Met1 l Z (⟨"com/example/wirefield/wirefield/FieldType", "isMapKey", "()Z"⟩ : MethodName) prog_13_method_12_code 1 (some .boolean) ({ frames := 0, cells := 0, slots := 0, locals := 0 } : Room) n0 #[(.ref e_SINT64)] h0 (fun v h => v = some (.int (1 : Int32)) ∧ h0 = h) := by
  refine met_of (plainFor_of_name own_pn_com_example_wirefield_wirefield_FieldType) (L0 := #[.val (.ref e_SINT64)]) (by first | rfl | (simp [argsToLocals, Value.category]; done)) ?_
  intro B C
  change Ctx B l _ _ "com/example/wirefield/wirefield/FieldType" "isMapKey" _ _ Z at C
  have en' := en
  obtain ⟨⟨S_DOUBLE, X_DOUBLE, D_DOUBLE, ⟨r_DOUBLE, F_DOUBLE⟩⟩, ⟨S_FLOAT, X_FLOAT, D_FLOAT, ⟨r_FLOAT, F_FLOAT⟩⟩, ⟨S_INT64, X_INT64, D_INT64, ⟨r_INT64, F_INT64⟩⟩, ⟨S_UINT64, X_UINT64, D_UINT64, ⟨r_UINT64, F_UINT64⟩⟩, ⟨S_INT32, X_INT32, D_INT32, ⟨r_INT32, F_INT32⟩⟩, ⟨S_FIXED64, X_FIXED64, D_FIXED64, ⟨r_FIXED64, F_FIXED64⟩⟩, ⟨S_FIXED32, X_FIXED32, D_FIXED32, ⟨r_FIXED32, F_FIXED32⟩⟩, ⟨S_BOOL, X_BOOL, D_BOOL, ⟨r_BOOL, F_BOOL⟩⟩, ⟨S_STRING, X_STRING, D_STRING, ⟨r_STRING, F_STRING⟩⟩, ⟨S_GROUP, X_GROUP, F_GROUP⟩, ⟨S_MESSAGE, X_MESSAGE, F_MESSAGE⟩, ⟨S_BYTES, X_BYTES, D_BYTES, ⟨r_BYTES, F_BYTES⟩⟩, ⟨S_UINT32, X_UINT32, D_UINT32, ⟨r_UINT32, F_UINT32⟩⟩, ⟨S_ENUM, X_ENUM, F_ENUM⟩, ⟨S_SFIXED32, X_SFIXED32, D_SFIXED32, ⟨r_SFIXED32, F_SFIXED32⟩⟩, ⟨S_SFIXED64, X_SFIXED64, D_SFIXED64, ⟨r_SFIXED64, F_SFIXED64⟩⟩, ⟨S_SINT32, X_SINT32, D_SINT32, ⟨r_SINT32, F_SINT32⟩⟩, ⟨S_SINT64, X_SINT64, D_SINT64, ⟨r_SINT64, F_SINT64⟩⟩⟩ := en'
  refine g_aload_n C d1_0 (v := (.ref e_SINT64)) rfl rfl (pc' := 1) rfl ?_
  refine g_getfield C (host := "") (v := (.ref r_SINT64)) (Or.inl (own_w hw 47 rfl)) Via.refl (F_SINT64.ext O.2) d1_1 (pc' := 4) rfl ?_
  refine g_ifnull_n C d1_4 (pc' := 7) rfl ?_
  refine g_aload_n C d1_7 (v := (.ref e_SINT64)) rfl rfl (pc' := 8) rfl ?_
  refine g_getstatic C (host := "") (v := (.ref e_DOUBLE)) (Or.inl (own_w hw 49 rfl)) Via.refl (S_DOUBLE.ext O.2) d1_8 (pc' := 11) rfl ?_
  refine g_acmp_n C d1_11 rfl rfl (Jvm.Free.XT.aa_eq_f (fun q => (Fld.ne D_SINT64 D_DOUBLE (by decide)) (Value.ref.inj q))) (pc' := 14) rfl ?_
  refine g_aload_n C d1_14 (v := (.ref e_SINT64)) rfl rfl (pc' := 15) rfl ?_
  refine g_getstatic C (host := "") (v := (.ref e_FLOAT)) (Or.inl (own_w hw 50 rfl)) Via.refl (S_FLOAT.ext O.2) d1_15 (pc' := 18) rfl ?_
  refine g_acmp_n C d1_18 rfl rfl (Jvm.Free.XT.aa_eq_f (fun q => (Fld.ne D_SINT64 D_FLOAT (by decide)) (Value.ref.inj q))) (pc' := 21) rfl ?_
  refine g_aload_n C d1_21 (v := (.ref e_SINT64)) rfl rfl (pc' := 22) rfl ?_
  refine g_getstatic C (host := "") (v := (.ref e_BYTES)) (Or.inl (own_w hw 51 rfl)) Via.refl (S_BYTES.ext O.2) d1_22 (pc' := 25) rfl ?_
  refine g_acmp_n C d1_25 rfl rfl (Jvm.Free.XT.aa_eq_f (fun q => (Fld.ne D_SINT64 D_BYTES (by decide)) (Value.ref.inj q))) (pc' := 28) rfl ?_
  refine g_iconst C d1_28 (v := (1 : Int32)) rfl (pc' := 29) rfl ?_
  refine g_goto C d1_29 (pc' := 33) (by decide) (by decide) ?_
  refine g_ret C (v := (.int (1 : Int32))) (ty := .boolean) rfl rfl (Or.inl ⟨rfl, Or.inr (Or.inl rfl), _, rfl⟩) d1_33 (by decide) (by decide) ?_
  exact ⟨rfl, rfl⟩
theorem own_split18 (i : Int32) (h0 : 0 ≤ i.toInt) (h1 : i.toInt < 18) : i = (0 : Int32) ∨ i = (1 : Int32) ∨ i = (2 : Int32) ∨ i = (3 : Int32) ∨ i = (4 : Int32) ∨ i = (5 : Int32) ∨ i = (6 : Int32) ∨ i = (7 : Int32) ∨ i = (8 : Int32) ∨ i = (9 : Int32) ∨ i = (10 : Int32) ∨ i = (11 : Int32) ∨ i = (12 : Int32) ∨ i = (13 : Int32) ∨ i = (14 : Int32) ∨ i = (15 : Int32) ∨ i = (16 : Int32) ∨ i = (17 : Int32) := by
  simp only [← Int32.toInt_inj, Int32.reduceToInt]; omega
theorem own_pd_0_isMapKey : parseMethodDescriptor "()Z" = some ⟨[], (some .boolean)⟩ := by decide +kernel
theorem own_pn_com_example_wirefield_wirefield_FieldTypeIsMapKeyPinLaw : plainName "com/example/wirefield/wirefield/FieldTypeIsMapKeyPinLaw" = true := by first | (simp [plainName, overriddenIn]; done) | decide +kernel
set_option maxRecDepth 65536 in
set_option maxHeartbeats 40000000 in
theorem rm_law (l : Launch) (Z : State) (a0 : Array Value) (hw : ∀ d ∈ tables_1, d.before a0 Z = true) (n0 : Nat) (p0 : Int32) (e_DOUBLE e_FLOAT e_INT64 e_UINT64 e_INT32 e_FIXED64 e_FIXED32 e_BOOL e_STRING e_GROUP e_MESSAGE e_BYTES e_UINT32 e_ENUM e_SFIXED32 e_SFIXED64 e_SINT32 e_SINT64 : Addr) (h0 : Heap) (Z0 : n0 ≤ h0.size) (en : Ens Z e_DOUBLE e_FLOAT e_INT64 e_UINT64 e_INT32 e_FIXED64 e_FIXED32 e_BOOL e_STRING e_GROUP e_MESSAGE e_BYTES e_UINT32 e_ENUM e_SFIXED32 e_SFIXED64 e_SINT32 e_SINT64) (O : Old Z n0 h0) :
    Met1 l Z x code maxLocals ret room_1 n0 #[(.int p0)] h0 (fun v h => v = some (.int 1)) := by
  refine met_of (plainFor_of_name own_pn_com_example_wirefield_wirefield_FieldTypeIsMapKeyPinLaw) (L0 := #[.val (.int p0), .unset, .unset, .unset]) (by first | rfl | (simp [argsToLocals, Value.category]; done)) ?_
  intro B C
  change Ctx B l room_1 code "com/example/wirefield/wirefield/FieldTypeIsMapKeyPinLaw" "law" 4 (some .boolean) Z at C
  have en' := en
  obtain ⟨⟨S_DOUBLE, X_DOUBLE, D_DOUBLE, ⟨r_DOUBLE, F_DOUBLE⟩⟩, ⟨S_FLOAT, X_FLOAT, D_FLOAT, ⟨r_FLOAT, F_FLOAT⟩⟩, ⟨S_INT64, X_INT64, D_INT64, ⟨r_INT64, F_INT64⟩⟩, ⟨S_UINT64, X_UINT64, D_UINT64, ⟨r_UINT64, F_UINT64⟩⟩, ⟨S_INT32, X_INT32, D_INT32, ⟨r_INT32, F_INT32⟩⟩, ⟨S_FIXED64, X_FIXED64, D_FIXED64, ⟨r_FIXED64, F_FIXED64⟩⟩, ⟨S_FIXED32, X_FIXED32, D_FIXED32, ⟨r_FIXED32, F_FIXED32⟩⟩, ⟨S_BOOL, X_BOOL, D_BOOL, ⟨r_BOOL, F_BOOL⟩⟩, ⟨S_STRING, X_STRING, D_STRING, ⟨r_STRING, F_STRING⟩⟩, ⟨S_GROUP, X_GROUP, F_GROUP⟩, ⟨S_MESSAGE, X_MESSAGE, F_MESSAGE⟩, ⟨S_BYTES, X_BYTES, D_BYTES, ⟨r_BYTES, F_BYTES⟩⟩, ⟨S_UINT32, X_UINT32, D_UINT32, ⟨r_UINT32, F_UINT32⟩⟩, ⟨S_ENUM, X_ENUM, F_ENUM⟩, ⟨S_SFIXED32, X_SFIXED32, D_SFIXED32, ⟨r_SFIXED32, F_SFIXED32⟩⟩, ⟨S_SFIXED64, X_SFIXED64, D_SFIXED64, ⟨r_SFIXED64, F_SFIXED64⟩⟩, ⟨S_SINT32, X_SINT32, D_SINT32, ⟨r_SINT32, F_SINT32⟩⟩, ⟨S_SINT64, X_SINT64, D_SINT64, ⟨r_SINT64, F_SINT64⟩⟩⟩ := en'
  refine g_iload_n C at_0 (v := p0) rfl (pc' := 1) rfl ?_
  refine g_ldc C (v := (2147483647 : Int32)) (own_w hw 0 rfl) at_1 (pc' := 3) rfl ?_
  refine g_iand C (x := p0) (y := (2147483647 : Int32)) at_3  (pc' := 4) rfl ?_
  refine g_bipush C at_4 (v := (18 : Int32)) rfl (pc' := 6) rfl ?_
  refine g_irem C (x := (p0 &&& (2147483647 : Int32))) (y := (18 : Int32)) at_6 (by decide) (pc' := 7) rfl ?_
  refine g_istore_n C at_7 (v := ((p0 &&& (2147483647 : Int32)) - ((p0 &&& (2147483647 : Int32)) / (18 : Int32)) * (18 : Int32))) (L' := #[.val (.int p0), .val (.int ((p0 &&& (2147483647 : Int32)) - ((p0 &&& (2147483647 : Int32)) / (18 : Int32)) * (18 : Int32))), .unset, .unset]) rfl (pc' := 8) rfl ?_
  refine g_bipush C at_8 (v := (18 : Int32)) rfl (pc' := 10) rfl ?_
  refine g_anewarray C (own_w hw 1 rfl) (own_w hw 2 rfl) (by decide) (cap := 18) (by decide) (by decide) (by decide) (by decide) at_10 (pc' := 13) rfl ?_
  intro h_1 a_2 g_3 E_4 A_5
  have ne_6 : e_BOOL ≠ a_2 := ne_new (X_BOOL.ext O.2).lt g_3
  have ne_7 : e_BYTES ≠ a_2 := ne_new (X_BYTES.ext O.2).lt g_3
  have ne_8 : e_DOUBLE ≠ a_2 := ne_new (X_DOUBLE.ext O.2).lt g_3
  have ne_9 : e_ENUM ≠ a_2 := ne_new (X_ENUM.ext O.2).lt g_3
  have ne_10 : e_FIXED32 ≠ a_2 := ne_new (X_FIXED32.ext O.2).lt g_3
  have ne_11 : e_FIXED64 ≠ a_2 := ne_new (X_FIXED64.ext O.2).lt g_3
  have ne_12 : e_FLOAT ≠ a_2 := ne_new (X_FLOAT.ext O.2).lt g_3
  have ne_13 : e_GROUP ≠ a_2 := ne_new (X_GROUP.ext O.2).lt g_3
  have ne_14 : e_INT32 ≠ a_2 := ne_new (X_INT32.ext O.2).lt g_3
  have ne_15 : e_INT64 ≠ a_2 := ne_new (X_INT64.ext O.2).lt g_3
  have ne_16 : e_MESSAGE ≠ a_2 := ne_new (X_MESSAGE.ext O.2).lt g_3
  have ne_17 : e_SFIXED32 ≠ a_2 := ne_new (X_SFIXED32.ext O.2).lt g_3
  have ne_18 : e_SFIXED64 ≠ a_2 := ne_new (X_SFIXED64.ext O.2).lt g_3
  have ne_19 : e_SINT32 ≠ a_2 := ne_new (X_SINT32.ext O.2).lt g_3
  have ne_20 : e_SINT64 ≠ a_2 := ne_new (X_SINT64.ext O.2).lt g_3
  have ne_21 : e_STRING ≠ a_2 := ne_new (X_STRING.ext O.2).lt g_3
  have ne_22 : e_UINT32 ≠ a_2 := ne_new (X_UINT32.ext O.2).lt g_3
  have ne_23 : e_UINT64 ≠ a_2 := ne_new (X_UINT64.ext O.2).lt g_3
  have ge_a_2 : n0 ≤ a_2 := Nat.le_trans Z0 (Nat.le_of_eq g_3.symm)
  have gs_a_2 : h0.size ≤ a_2 := Nat.le_trans (Nat.le_refl h0.size) (Nat.le_of_eq g_3.symm)
  have f_24 : AryR Z h_1 a_2 "com/example/wirefield/wirefield/FieldType" [.null, .null, .null, .null, .null, .null, .null, .null, .null, .null, .null, .null, .null, .null, .null, .null, .null, .null] := A_5
  show Go B n0 _ h_1 1 18 13 #[.val (.int p0), .val (.int ((p0 &&& (2147483647 : Int32)) - ((p0 &&& (2147483647 : Int32)) / (18 : Int32)) * (18 : Int32))), .unset, .unset] [(.ref a_2)]
  refine g_dup C at_13 rfl (pc' := 14) rfl ?_
  refine g_iconst C at_14 (v := (0 : Int32)) rfl (pc' := 15) rfl ?_
  have f_25 := (O.ext E_4)
  refine g_getstatic C (host := "") (v := (.ref e_DOUBLE)) (Or.inl (own_w hw 3 rfl)) Via.refl (S_DOUBLE.ext f_25.2) at_15 (pc' := 18) rfl ?_
  have f_29 := ((X_DOUBLE.ext O.2).ext E_4)
  refine g_aastore C f_24 (Ins.self f_29) (by decide) (i := 0) (by decide) (show 0 < 18 by decide) ge_a_2 at_18 (pc' := 19) rfl ?_
  intro h_26 K_27 A_28
  have f_30 : AryR Z h_26 a_2 "com/example/wirefield/wirefield/FieldType" [(.ref e_DOUBLE), .null, .null, .null, .null, .null, .null, .null, .null, .null, .null, .null, .null, .null, .null, .null, .null, .null] := A_28
  refine g_dup C at_19 rfl (pc' := 20) rfl ?_
  refine g_iconst C at_20 (v := (1 : Int32)) rfl (pc' := 21) rfl ?_
  have f_31 := (f_25.keep K_27 (allS ge_a_2 all0))
  refine g_getstatic C (host := "") (v := (.ref e_FLOAT)) (Or.inl (own_w hw 7 rfl)) Via.refl (S_FLOAT.ext f_31.2) at_21 (pc' := 24) rfl ?_
  have f_35 := (((X_FLOAT.ext O.2).ext E_4).keep K_27)
  refine g_aastore C f_30 (Ins.self f_35) (by decide) (i := 1) (by decide) (show 1 < 18 by decide) ge_a_2 at_24 (pc' := 25) rfl ?_
  intro h_32 K_33 A_34
  have f_36 : AryR Z h_32 a_2 "com/example/wirefield/wirefield/FieldType" [(.ref e_DOUBLE), (.ref e_FLOAT), .null, .null, .null, .null, .null, .null, .null, .null, .null, .null, .null, .null, .null, .null, .null, .null] := A_34
  refine g_dup C at_25 rfl (pc' := 26) rfl ?_
  refine g_iconst C at_26 (v := (2 : Int32)) rfl (pc' := 27) rfl ?_
  have f_37 := (f_31.keep K_33 (allS ge_a_2 all0))
  refine g_getstatic C (host := "") (v := (.ref e_INT64)) (Or.inl (own_w hw 9 rfl)) Via.refl (S_INT64.ext f_37.2) at_27 (pc' := 30) rfl ?_
  have f_41 := ((((X_INT64.ext O.2).ext E_4).keep K_27).keep K_33)
  refine g_aastore C f_36 (Ins.self f_41) (by decide) (i := 2) (by decide) (show 2 < 18 by decide) ge_a_2 at_30 (pc' := 31) rfl ?_
  intro h_38 K_39 A_40
  have f_42 : AryR Z h_38 a_2 "com/example/wirefield/wirefield/FieldType" [(.ref e_DOUBLE), (.ref e_FLOAT), (.ref e_INT64), .null, .null, .null, .null, .null, .null, .null, .null, .null, .null, .null, .null, .null, .null, .null] := A_40
  refine g_dup C at_31 rfl (pc' := 32) rfl ?_
  refine g_iconst C at_32 (v := (3 : Int32)) rfl (pc' := 33) rfl ?_
  have f_43 := (f_37.keep K_39 (allS ge_a_2 all0))
  refine g_getstatic C (host := "") (v := (.ref e_UINT64)) (Or.inl (own_w hw 11 rfl)) Via.refl (S_UINT64.ext f_43.2) at_33 (pc' := 36) rfl ?_
  have f_47 := (((((X_UINT64.ext O.2).ext E_4).keep K_27).keep K_33).keep K_39)
  refine g_aastore C f_42 (Ins.self f_47) (by decide) (i := 3) (by decide) (show 3 < 18 by decide) ge_a_2 at_36 (pc' := 37) rfl ?_
  intro h_44 K_45 A_46
  have f_48 : AryR Z h_44 a_2 "com/example/wirefield/wirefield/FieldType" [(.ref e_DOUBLE), (.ref e_FLOAT), (.ref e_INT64), (.ref e_UINT64), .null, .null, .null, .null, .null, .null, .null, .null, .null, .null, .null, .null, .null, .null] := A_46
  refine g_dup C at_37 rfl (pc' := 38) rfl ?_
  refine g_iconst C at_38 (v := (4 : Int32)) rfl (pc' := 39) rfl ?_
  have f_49 := (f_43.keep K_45 (allS ge_a_2 all0))
  refine g_getstatic C (host := "") (v := (.ref e_INT32)) (Or.inl (own_w hw 13 rfl)) Via.refl (S_INT32.ext f_49.2) at_39 (pc' := 42) rfl ?_
  have f_53 := ((((((X_INT32.ext O.2).ext E_4).keep K_27).keep K_33).keep K_39).keep K_45)
  refine g_aastore C f_48 (Ins.self f_53) (by decide) (i := 4) (by decide) (show 4 < 18 by decide) ge_a_2 at_42 (pc' := 43) rfl ?_
  intro h_50 K_51 A_52
  have f_54 : AryR Z h_50 a_2 "com/example/wirefield/wirefield/FieldType" [(.ref e_DOUBLE), (.ref e_FLOAT), (.ref e_INT64), (.ref e_UINT64), (.ref e_INT32), .null, .null, .null, .null, .null, .null, .null, .null, .null, .null, .null, .null, .null] := A_52
  refine g_dup C at_43 rfl (pc' := 44) rfl ?_
  refine g_iconst C at_44 (v := (5 : Int32)) rfl (pc' := 45) rfl ?_
  have f_55 := (f_49.keep K_51 (allS ge_a_2 all0))
  refine g_getstatic C (host := "") (v := (.ref e_FIXED64)) (Or.inl (own_w hw 15 rfl)) Via.refl (S_FIXED64.ext f_55.2) at_45 (pc' := 48) rfl ?_
  have f_59 := (((((((X_FIXED64.ext O.2).ext E_4).keep K_27).keep K_33).keep K_39).keep K_45).keep K_51)
  refine g_aastore C f_54 (Ins.self f_59) (by decide) (i := 5) (by decide) (show 5 < 18 by decide) ge_a_2 at_48 (pc' := 49) rfl ?_
  intro h_56 K_57 A_58
  have f_60 : AryR Z h_56 a_2 "com/example/wirefield/wirefield/FieldType" [(.ref e_DOUBLE), (.ref e_FLOAT), (.ref e_INT64), (.ref e_UINT64), (.ref e_INT32), (.ref e_FIXED64), .null, .null, .null, .null, .null, .null, .null, .null, .null, .null, .null, .null] := A_58
  refine g_dup C at_49 rfl (pc' := 50) rfl ?_
  refine g_bipush C at_50 (v := (6 : Int32)) rfl (pc' := 52) rfl ?_
  have f_61 := (f_55.keep K_57 (allS ge_a_2 all0))
  refine g_getstatic C (host := "") (v := (.ref e_FIXED32)) (Or.inl (own_w hw 17 rfl)) Via.refl (S_FIXED32.ext f_61.2) at_52 (pc' := 55) rfl ?_
  have f_65 := ((((((((X_FIXED32.ext O.2).ext E_4).keep K_27).keep K_33).keep K_39).keep K_45).keep K_51).keep K_57)
  refine g_aastore C f_60 (Ins.self f_65) (by decide) (i := 6) (by decide) (show 6 < 18 by decide) ge_a_2 at_55 (pc' := 56) rfl ?_
  intro h_62 K_63 A_64
  have f_66 : AryR Z h_62 a_2 "com/example/wirefield/wirefield/FieldType" [(.ref e_DOUBLE), (.ref e_FLOAT), (.ref e_INT64), (.ref e_UINT64), (.ref e_INT32), (.ref e_FIXED64), (.ref e_FIXED32), .null, .null, .null, .null, .null, .null, .null, .null, .null, .null, .null] := A_64
  refine g_dup C at_56 rfl (pc' := 57) rfl ?_
  refine g_bipush C at_57 (v := (7 : Int32)) rfl (pc' := 59) rfl ?_
  have f_67 := (f_61.keep K_63 (allS ge_a_2 all0))
  refine g_getstatic C (host := "") (v := (.ref e_BOOL)) (Or.inl (own_w hw 19 rfl)) Via.refl (S_BOOL.ext f_67.2) at_59 (pc' := 62) rfl ?_
  have f_71 := (((((((((X_BOOL.ext O.2).ext E_4).keep K_27).keep K_33).keep K_39).keep K_45).keep K_51).keep K_57).keep K_63)
  refine g_aastore C f_66 (Ins.self f_71) (by decide) (i := 7) (by decide) (show 7 < 18 by decide) ge_a_2 at_62 (pc' := 63) rfl ?_
  intro h_68 K_69 A_70
  have f_72 : AryR Z h_68 a_2 "com/example/wirefield/wirefield/FieldType" [(.ref e_DOUBLE), (.ref e_FLOAT), (.ref e_INT64), (.ref e_UINT64), (.ref e_INT32), (.ref e_FIXED64), (.ref e_FIXED32), (.ref e_BOOL), .null, .null, .null, .null, .null, .null, .null, .null, .null, .null] := A_70
  refine g_dup C at_63 rfl (pc' := 64) rfl ?_
  refine g_bipush C at_64 (v := (8 : Int32)) rfl (pc' := 66) rfl ?_
  have f_73 := (f_67.keep K_69 (allS ge_a_2 all0))
  refine g_getstatic C (host := "") (v := (.ref e_STRING)) (Or.inl (own_w hw 21 rfl)) Via.refl (S_STRING.ext f_73.2) at_66 (pc' := 69) rfl ?_
  have f_77 := ((((((((((X_STRING.ext O.2).ext E_4).keep K_27).keep K_33).keep K_39).keep K_45).keep K_51).keep K_57).keep K_63).keep K_69)
  refine g_aastore C f_72 (Ins.self f_77) (by decide) (i := 8) (by decide) (show 8 < 18 by decide) ge_a_2 at_69 (pc' := 70) rfl ?_
  intro h_74 K_75 A_76
  have f_78 : AryR Z h_74 a_2 "com/example/wirefield/wirefield/FieldType" [(.ref e_DOUBLE), (.ref e_FLOAT), (.ref e_INT64), (.ref e_UINT64), (.ref e_INT32), (.ref e_FIXED64), (.ref e_FIXED32), (.ref e_BOOL), (.ref e_STRING), .null, .null, .null, .null, .null, .null, .null, .null, .null] := A_76
  refine g_dup C at_70 rfl (pc' := 71) rfl ?_
  refine g_bipush C at_71 (v := (9 : Int32)) rfl (pc' := 73) rfl ?_
  have f_79 := (f_73.keep K_75 (allS ge_a_2 all0))
  refine g_getstatic C (host := "") (v := (.ref e_GROUP)) (Or.inl (own_w hw 23 rfl)) Via.refl (S_GROUP.ext f_79.2) at_73 (pc' := 76) rfl ?_
  have f_83 := (((((((((((X_GROUP.ext O.2).ext E_4).keep K_27).keep K_33).keep K_39).keep K_45).keep K_51).keep K_57).keep K_63).keep K_69).keep K_75)
  refine g_aastore C f_78 (Ins.self f_83) (by decide) (i := 9) (by decide) (show 9 < 18 by decide) ge_a_2 at_76 (pc' := 77) rfl ?_
  intro h_80 K_81 A_82
  have f_84 : AryR Z h_80 a_2 "com/example/wirefield/wirefield/FieldType" [(.ref e_DOUBLE), (.ref e_FLOAT), (.ref e_INT64), (.ref e_UINT64), (.ref e_INT32), (.ref e_FIXED64), (.ref e_FIXED32), (.ref e_BOOL), (.ref e_STRING), (.ref e_GROUP), .null, .null, .null, .null, .null, .null, .null, .null] := A_82
  refine g_dup C at_77 rfl (pc' := 78) rfl ?_
  refine g_bipush C at_78 (v := (10 : Int32)) rfl (pc' := 80) rfl ?_
  have f_85 := (f_79.keep K_81 (allS ge_a_2 all0))
  refine g_getstatic C (host := "") (v := (.ref e_MESSAGE)) (Or.inl (own_w hw 25 rfl)) Via.refl (S_MESSAGE.ext f_85.2) at_80 (pc' := 83) rfl ?_
  have f_89 := ((((((((((((X_MESSAGE.ext O.2).ext E_4).keep K_27).keep K_33).keep K_39).keep K_45).keep K_51).keep K_57).keep K_63).keep K_69).keep K_75).keep K_81)
  refine g_aastore C f_84 (Ins.self f_89) (by decide) (i := 10) (by decide) (show 10 < 18 by decide) ge_a_2 at_83 (pc' := 84) rfl ?_
  intro h_86 K_87 A_88
  have f_90 : AryR Z h_86 a_2 "com/example/wirefield/wirefield/FieldType" [(.ref e_DOUBLE), (.ref e_FLOAT), (.ref e_INT64), (.ref e_UINT64), (.ref e_INT32), (.ref e_FIXED64), (.ref e_FIXED32), (.ref e_BOOL), (.ref e_STRING), (.ref e_GROUP), (.ref e_MESSAGE), .null, .null, .null, .null, .null, .null, .null] := A_88
  refine g_dup C at_84 rfl (pc' := 85) rfl ?_
  refine g_bipush C at_85 (v := (11 : Int32)) rfl (pc' := 87) rfl ?_
  have f_91 := (f_85.keep K_87 (allS ge_a_2 all0))
  refine g_getstatic C (host := "") (v := (.ref e_BYTES)) (Or.inl (own_w hw 27 rfl)) Via.refl (S_BYTES.ext f_91.2) at_87 (pc' := 90) rfl ?_
  have f_95 := (((((((((((((X_BYTES.ext O.2).ext E_4).keep K_27).keep K_33).keep K_39).keep K_45).keep K_51).keep K_57).keep K_63).keep K_69).keep K_75).keep K_81).keep K_87)
  refine g_aastore C f_90 (Ins.self f_95) (by decide) (i := 11) (by decide) (show 11 < 18 by decide) ge_a_2 at_90 (pc' := 91) rfl ?_
  intro h_92 K_93 A_94
  have f_96 : AryR Z h_92 a_2 "com/example/wirefield/wirefield/FieldType" [(.ref e_DOUBLE), (.ref e_FLOAT), (.ref e_INT64), (.ref e_UINT64), (.ref e_INT32), (.ref e_FIXED64), (.ref e_FIXED32), (.ref e_BOOL), (.ref e_STRING), (.ref e_GROUP), (.ref e_MESSAGE), (.ref e_BYTES), .null, .null, .null, .null, .null, .null] := A_94
  refine g_dup C at_91 rfl (pc' := 92) rfl ?_
  refine g_bipush C at_92 (v := (12 : Int32)) rfl (pc' := 94) rfl ?_
  have f_97 := (f_91.keep K_93 (allS ge_a_2 all0))
  refine g_getstatic C (host := "") (v := (.ref e_UINT32)) (Or.inl (own_w hw 29 rfl)) Via.refl (S_UINT32.ext f_97.2) at_94 (pc' := 97) rfl ?_
  have f_101 := ((((((((((((((X_UINT32.ext O.2).ext E_4).keep K_27).keep K_33).keep K_39).keep K_45).keep K_51).keep K_57).keep K_63).keep K_69).keep K_75).keep K_81).keep K_87).keep K_93)
  refine g_aastore C f_96 (Ins.self f_101) (by decide) (i := 12) (by decide) (show 12 < 18 by decide) ge_a_2 at_97 (pc' := 98) rfl ?_
  intro h_98 K_99 A_100
  have f_102 : AryR Z h_98 a_2 "com/example/wirefield/wirefield/FieldType" [(.ref e_DOUBLE), (.ref e_FLOAT), (.ref e_INT64), (.ref e_UINT64), (.ref e_INT32), (.ref e_FIXED64), (.ref e_FIXED32), (.ref e_BOOL), (.ref e_STRING), (.ref e_GROUP), (.ref e_MESSAGE), (.ref e_BYTES), (.ref e_UINT32), .null, .null, .null, .null, .null] := A_100
  refine g_dup C at_98 rfl (pc' := 99) rfl ?_
  refine g_bipush C at_99 (v := (13 : Int32)) rfl (pc' := 101) rfl ?_
  have f_103 := (f_97.keep K_99 (allS ge_a_2 all0))
  refine g_getstatic C (host := "") (v := (.ref e_ENUM)) (Or.inl (own_w hw 31 rfl)) Via.refl (S_ENUM.ext f_103.2) at_101 (pc' := 104) rfl ?_
  have f_107 := (((((((((((((((X_ENUM.ext O.2).ext E_4).keep K_27).keep K_33).keep K_39).keep K_45).keep K_51).keep K_57).keep K_63).keep K_69).keep K_75).keep K_81).keep K_87).keep K_93).keep K_99)
  refine g_aastore C f_102 (Ins.self f_107) (by decide) (i := 13) (by decide) (show 13 < 18 by decide) ge_a_2 at_104 (pc' := 105) rfl ?_
  intro h_104 K_105 A_106
  have f_108 : AryR Z h_104 a_2 "com/example/wirefield/wirefield/FieldType" [(.ref e_DOUBLE), (.ref e_FLOAT), (.ref e_INT64), (.ref e_UINT64), (.ref e_INT32), (.ref e_FIXED64), (.ref e_FIXED32), (.ref e_BOOL), (.ref e_STRING), (.ref e_GROUP), (.ref e_MESSAGE), (.ref e_BYTES), (.ref e_UINT32), (.ref e_ENUM), .null, .null, .null, .null] := A_106
  refine g_dup C at_105 rfl (pc' := 106) rfl ?_
  refine g_bipush C at_106 (v := (14 : Int32)) rfl (pc' := 108) rfl ?_
  have f_109 := (f_103.keep K_105 (allS ge_a_2 all0))
  refine g_getstatic C (host := "") (v := (.ref e_SFIXED32)) (Or.inl (own_w hw 33 rfl)) Via.refl (S_SFIXED32.ext f_109.2) at_108 (pc' := 111) rfl ?_
  have f_113 := ((((((((((((((((X_SFIXED32.ext O.2).ext E_4).keep K_27).keep K_33).keep K_39).keep K_45).keep K_51).keep K_57).keep K_63).keep K_69).keep K_75).keep K_81).keep K_87).keep K_93).keep K_99).keep K_105)
  refine g_aastore C f_108 (Ins.self f_113) (by decide) (i := 14) (by decide) (show 14 < 18 by decide) ge_a_2 at_111 (pc' := 112) rfl ?_
  intro h_110 K_111 A_112
  have f_114 : AryR Z h_110 a_2 "com/example/wirefield/wirefield/FieldType" [(.ref e_DOUBLE), (.ref e_FLOAT), (.ref e_INT64), (.ref e_UINT64), (.ref e_INT32), (.ref e_FIXED64), (.ref e_FIXED32), (.ref e_BOOL), (.ref e_STRING), (.ref e_GROUP), (.ref e_MESSAGE), (.ref e_BYTES), (.ref e_UINT32), (.ref e_ENUM), (.ref e_SFIXED32), .null, .null, .null] := A_112
  refine g_dup C at_112 rfl (pc' := 113) rfl ?_
  refine g_bipush C at_113 (v := (15 : Int32)) rfl (pc' := 115) rfl ?_
  have f_115 := (f_109.keep K_111 (allS ge_a_2 all0))
  refine g_getstatic C (host := "") (v := (.ref e_SFIXED64)) (Or.inl (own_w hw 35 rfl)) Via.refl (S_SFIXED64.ext f_115.2) at_115 (pc' := 118) rfl ?_
  have f_119 := (((((((((((((((((X_SFIXED64.ext O.2).ext E_4).keep K_27).keep K_33).keep K_39).keep K_45).keep K_51).keep K_57).keep K_63).keep K_69).keep K_75).keep K_81).keep K_87).keep K_93).keep K_99).keep K_105).keep K_111)
  refine g_aastore C f_114 (Ins.self f_119) (by decide) (i := 15) (by decide) (show 15 < 18 by decide) ge_a_2 at_118 (pc' := 119) rfl ?_
  intro h_116 K_117 A_118
  have f_120 : AryR Z h_116 a_2 "com/example/wirefield/wirefield/FieldType" [(.ref e_DOUBLE), (.ref e_FLOAT), (.ref e_INT64), (.ref e_UINT64), (.ref e_INT32), (.ref e_FIXED64), (.ref e_FIXED32), (.ref e_BOOL), (.ref e_STRING), (.ref e_GROUP), (.ref e_MESSAGE), (.ref e_BYTES), (.ref e_UINT32), (.ref e_ENUM), (.ref e_SFIXED32), (.ref e_SFIXED64), .null, .null] := A_118
  refine g_dup C at_119 rfl (pc' := 120) rfl ?_
  refine g_bipush C at_120 (v := (16 : Int32)) rfl (pc' := 122) rfl ?_
  have f_121 := (f_115.keep K_117 (allS ge_a_2 all0))
  refine g_getstatic C (host := "") (v := (.ref e_SINT32)) (Or.inl (own_w hw 37 rfl)) Via.refl (S_SINT32.ext f_121.2) at_122 (pc' := 125) rfl ?_
  have f_125 := ((((((((((((((((((X_SINT32.ext O.2).ext E_4).keep K_27).keep K_33).keep K_39).keep K_45).keep K_51).keep K_57).keep K_63).keep K_69).keep K_75).keep K_81).keep K_87).keep K_93).keep K_99).keep K_105).keep K_111).keep K_117)
  refine g_aastore C f_120 (Ins.self f_125) (by decide) (i := 16) (by decide) (show 16 < 18 by decide) ge_a_2 at_125 (pc' := 126) rfl ?_
  intro h_122 K_123 A_124
  have f_126 : AryR Z h_122 a_2 "com/example/wirefield/wirefield/FieldType" [(.ref e_DOUBLE), (.ref e_FLOAT), (.ref e_INT64), (.ref e_UINT64), (.ref e_INT32), (.ref e_FIXED64), (.ref e_FIXED32), (.ref e_BOOL), (.ref e_STRING), (.ref e_GROUP), (.ref e_MESSAGE), (.ref e_BYTES), (.ref e_UINT32), (.ref e_ENUM), (.ref e_SFIXED32), (.ref e_SFIXED64), (.ref e_SINT32), .null] := A_124
  refine g_dup C at_126 rfl (pc' := 127) rfl ?_
  refine g_bipush C at_127 (v := (17 : Int32)) rfl (pc' := 129) rfl ?_
  have f_127 := (f_121.keep K_123 (allS ge_a_2 all0))
  refine g_getstatic C (host := "") (v := (.ref e_SINT64)) (Or.inl (own_w hw 39 rfl)) Via.refl (S_SINT64.ext f_127.2) at_129 (pc' := 132) rfl ?_
  have f_131 := (((((((((((((((((((X_SINT64.ext O.2).ext E_4).keep K_27).keep K_33).keep K_39).keep K_45).keep K_51).keep K_57).keep K_63).keep K_69).keep K_75).keep K_81).keep K_87).keep K_93).keep K_99).keep K_105).keep K_111).keep K_117).keep K_123)
  refine g_aastore C f_126 (Ins.self f_131) (by decide) (i := 17) (by decide) (show 17 < 18 by decide) ge_a_2 at_132 (pc' := 133) rfl ?_
  intro h_128 K_129 A_130
  have f_132 : AryR Z h_128 a_2 "com/example/wirefield/wirefield/FieldType" [(.ref e_DOUBLE), (.ref e_FLOAT), (.ref e_INT64), (.ref e_UINT64), (.ref e_INT32), (.ref e_FIXED64), (.ref e_FIXED32), (.ref e_BOOL), (.ref e_STRING), (.ref e_GROUP), (.ref e_MESSAGE), (.ref e_BYTES), (.ref e_UINT32), (.ref e_ENUM), (.ref e_SFIXED32), (.ref e_SFIXED64), (.ref e_SINT32), (.ref e_SINT64)] := A_130
  refine g_astore_n C at_133 (v := (.ref a_2)) (L' := #[.val (.int p0), .val (.int ((p0 &&& (2147483647 : Int32)) - ((p0 &&& (2147483647 : Int32)) / (18 : Int32)) * (18 : Int32))), .val (.ref a_2), .unset]) rfl rfl (pc' := 134) rfl ?_
  refine g_bipush C at_134 (v := (18 : Int32)) rfl (pc' := 136) rfl ?_
  have f_133 := (((((((((((f_71.keep K_69).keep K_75).keep K_81).keep K_87).keep K_93).keep K_99).keep K_105).keep K_111).keep K_117).keep K_123).keep K_129)
  have f_134 := (((((((f_95.keep K_93).keep K_99).keep K_105).keep K_111).keep K_117).keep K_123).keep K_129)
  have f_135 := ((((((((((((((((((f_29.keep K_27).keep K_33).keep K_39).keep K_45).keep K_51).keep K_57).keep K_63).keep K_69).keep K_75).keep K_81).keep K_87).keep K_93).keep K_99).keep K_105).keep K_111).keep K_117).keep K_123).keep K_129)
  have f_136 := (((((f_107.keep K_105).keep K_111).keep K_117).keep K_123).keep K_129)
  have f_137 := ((((((((((((f_65.keep K_63).keep K_69).keep K_75).keep K_81).keep K_87).keep K_93).keep K_99).keep K_105).keep K_111).keep K_117).keep K_123).keep K_129)
  have f_138 := (((((((((((((f_59.keep K_57).keep K_63).keep K_69).keep K_75).keep K_81).keep K_87).keep K_93).keep K_99).keep K_105).keep K_111).keep K_117).keep K_123).keep K_129)
  have f_139 := (((((((((((((((((f_35.keep K_33).keep K_39).keep K_45).keep K_51).keep K_57).keep K_63).keep K_69).keep K_75).keep K_81).keep K_87).keep K_93).keep K_99).keep K_105).keep K_111).keep K_117).keep K_123).keep K_129)
  have f_140 := (((((((((f_83.keep K_81).keep K_87).keep K_93).keep K_99).keep K_105).keep K_111).keep K_117).keep K_123).keep K_129)
  have f_141 := ((((((((((((((f_53.keep K_51).keep K_57).keep K_63).keep K_69).keep K_75).keep K_81).keep K_87).keep K_93).keep K_99).keep K_105).keep K_111).keep K_117).keep K_123).keep K_129)
  have f_142 := ((((((((((((((((f_41.keep K_39).keep K_45).keep K_51).keep K_57).keep K_63).keep K_69).keep K_75).keep K_81).keep K_87).keep K_93).keep K_99).keep K_105).keep K_111).keep K_117).keep K_123).keep K_129)
  have f_143 := ((((((((f_89.keep K_87).keep K_93).keep K_99).keep K_105).keep K_111).keep K_117).keep K_123).keep K_129)
  have f_144 := ((((f_113.keep K_111).keep K_117).keep K_123).keep K_129)
  have f_145 := (((f_119.keep K_117).keep K_123).keep K_129)
  have f_146 := ((f_125.keep K_123).keep K_129)
  have f_147 := (f_131.keep K_129)
  have f_148 := ((((((((((f_77.keep K_75).keep K_81).keep K_87).keep K_93).keep K_99).keep K_105).keep K_111).keep K_117).keep K_123).keep K_129)
  have f_149 := ((((((f_101.keep K_99).keep K_105).keep K_111).keep K_117).keep K_123).keep K_129)
  have f_150 := (((((((((((((((f_47.keep K_45).keep K_51).keep K_57).keep K_63).keep K_69).keep K_75).keep K_81).keep K_87).keep K_93).keep K_99).keep K_105).keep K_111).keep K_117).keep K_123).keep K_129)
  refine g_newarray C (own_w hw 41 rfl) (ty := .boolean) rfl (by decide) (cap := 18) (by decide) (by decide) (by decide) (by decide) at_136 (pc' := 138) rfl ?_
  intro h_151 a_152 g_153 E_154 A_155
  have ne_156 : a_2 ≠ a_152 := ne_new f_132.lt g_153
  have ne_157 : e_BOOL ≠ a_152 := ne_new f_133.lt g_153
  have ne_158 : e_BYTES ≠ a_152 := ne_new f_134.lt g_153
  have ne_159 : e_DOUBLE ≠ a_152 := ne_new f_135.lt g_153
  have ne_160 : e_ENUM ≠ a_152 := ne_new f_136.lt g_153
  have ne_161 : e_FIXED32 ≠ a_152 := ne_new f_137.lt g_153
  have ne_162 : e_FIXED64 ≠ a_152 := ne_new f_138.lt g_153
  have ne_163 : e_FLOAT ≠ a_152 := ne_new f_139.lt g_153
  have ne_164 : e_GROUP ≠ a_152 := ne_new f_140.lt g_153
  have ne_165 : e_INT32 ≠ a_152 := ne_new f_141.lt g_153
  have ne_166 : e_INT64 ≠ a_152 := ne_new f_142.lt g_153
  have ne_167 : e_MESSAGE ≠ a_152 := ne_new f_143.lt g_153
  have ne_168 : e_SFIXED32 ≠ a_152 := ne_new f_144.lt g_153
  have ne_169 : e_SFIXED64 ≠ a_152 := ne_new f_145.lt g_153
  have ne_170 : e_SINT32 ≠ a_152 := ne_new f_146.lt g_153
  have ne_171 : e_SINT64 ≠ a_152 := ne_new f_147.lt g_153
  have ne_172 : e_STRING ≠ a_152 := ne_new f_148.lt g_153
  have ne_173 : e_UINT32 ≠ a_152 := ne_new f_149.lt g_153
  have ne_174 : e_UINT64 ≠ a_152 := ne_new f_150.lt g_153
  have f_175 := (Nat.le_trans (Nat.le_trans (Nat.le_trans (Nat.le_trans (Nat.le_trans (Nat.le_trans (Nat.le_trans (Nat.le_trans (Nat.le_trans (Nat.le_trans (Nat.le_trans (Nat.le_trans (Nat.le_trans (Nat.le_trans (Nat.le_trans (Nat.le_trans (Nat.le_trans (Nat.le_trans (Nat.le_trans Z0 E_4.1) K_27.1) K_33.1) K_39.1) K_45.1) K_51.1) K_57.1) K_63.1) K_69.1) K_75.1) K_81.1) K_87.1) K_93.1) K_99.1) K_105.1) K_111.1) K_117.1) K_123.1) K_129.1)
  have ge_a_152 : n0 ≤ a_152 := Nat.le_trans f_175 (Nat.le_of_eq g_153.symm)
  have f_176 := (Nat.le_trans (Nat.le_trans (Nat.le_trans (Nat.le_trans (Nat.le_trans (Nat.le_trans (Nat.le_trans (Nat.le_trans (Nat.le_trans (Nat.le_trans (Nat.le_trans (Nat.le_trans (Nat.le_trans (Nat.le_trans (Nat.le_trans (Nat.le_trans (Nat.le_trans (Nat.le_trans (Nat.le_trans (Nat.le_refl h0.size) E_4.1) K_27.1) K_33.1) K_39.1) K_45.1) K_51.1) K_57.1) K_63.1) K_69.1) K_75.1) K_81.1) K_87.1) K_93.1) K_99.1) K_105.1) K_111.1) K_117.1) K_123.1) K_129.1)
  have gs_a_152 : h0.size ≤ a_152 := Nat.le_trans f_176 (Nat.le_of_eq g_153.symm)
  have f_177 : Ary Z h_151 a_152 .boolean [(.int (0 : Int32)), (.int (0 : Int32)), (.int (0 : Int32)), (.int (0 : Int32)), (.int (0 : Int32)), (.int (0 : Int32)), (.int (0 : Int32)), (.int (0 : Int32)), (.int (0 : Int32)), (.int (0 : Int32)), (.int (0 : Int32)), (.int (0 : Int32)), (.int (0 : Int32)), (.int (0 : Int32)), (.int (0 : Int32)), (.int (0 : Int32)), (.int (0 : Int32)), (.int (0 : Int32))] := A_155
  show Go B n0 _ h_151 2 36 138 #[.val (.int p0), .val (.int ((p0 &&& (2147483647 : Int32)) - ((p0 &&& (2147483647 : Int32)) / (18 : Int32)) * (18 : Int32))), .val (.ref a_2), .unset] [(.ref a_152)]
  refine g_dup C at_138 rfl (pc' := 139) rfl ?_
  refine g_iconst C at_139 (v := (0 : Int32)) rfl (pc' := 140) rfl ?_
  refine g_iconst C at_140 (v := (0 : Int32)) rfl (pc' := 141) rfl ?_
  refine g_bastoreZ C f_177 (by decide) (i := 0) (by decide) (show 0 < 18 by decide) (w := (.int (0 : Int32))) rfl ge_a_152 at_141 (pc' := 142) rfl ?_
  intro h_178 K_179 A_180
  have f_181 : Ary Z h_178 a_152 .boolean [(.int (0 : Int32)), (.int (0 : Int32)), (.int (0 : Int32)), (.int (0 : Int32)), (.int (0 : Int32)), (.int (0 : Int32)), (.int (0 : Int32)), (.int (0 : Int32)), (.int (0 : Int32)), (.int (0 : Int32)), (.int (0 : Int32)), (.int (0 : Int32)), (.int (0 : Int32)), (.int (0 : Int32)), (.int (0 : Int32)), (.int (0 : Int32)), (.int (0 : Int32)), (.int (0 : Int32))] := A_180
  refine g_dup C at_142 rfl (pc' := 143) rfl ?_
  refine g_iconst C at_143 (v := (1 : Int32)) rfl (pc' := 144) rfl ?_
  refine g_iconst C at_144 (v := (0 : Int32)) rfl (pc' := 145) rfl ?_
  refine g_bastoreZ C f_181 (by decide) (i := 1) (by decide) (show 1 < 18 by decide) (w := (.int (0 : Int32))) rfl ge_a_152 at_145 (pc' := 146) rfl ?_
  intro h_182 K_183 A_184
  have f_185 : Ary Z h_182 a_152 .boolean [(.int (0 : Int32)), (.int (0 : Int32)), (.int (0 : Int32)), (.int (0 : Int32)), (.int (0 : Int32)), (.int (0 : Int32)), (.int (0 : Int32)), (.int (0 : Int32)), (.int (0 : Int32)), (.int (0 : Int32)), (.int (0 : Int32)), (.int (0 : Int32)), (.int (0 : Int32)), (.int (0 : Int32)), (.int (0 : Int32)), (.int (0 : Int32)), (.int (0 : Int32)), (.int (0 : Int32))] := A_184
  refine g_dup C at_146 rfl (pc' := 147) rfl ?_
  refine g_iconst C at_147 (v := (2 : Int32)) rfl (pc' := 148) rfl ?_
  refine g_iconst C at_148 (v := (1 : Int32)) rfl (pc' := 149) rfl ?_
  refine g_bastoreZ C f_185 (by decide) (i := 2) (by decide) (show 2 < 18 by decide) (w := (.int (1 : Int32))) rfl ge_a_152 at_149 (pc' := 150) rfl ?_
  intro h_186 K_187 A_188
  have f_189 : Ary Z h_186 a_152 .boolean [(.int (0 : Int32)), (.int (0 : Int32)), (.int (1 : Int32)), (.int (0 : Int32)), (.int (0 : Int32)), (.int (0 : Int32)), (.int (0 : Int32)), (.int (0 : Int32)), (.int (0 : Int32)), (.int (0 : Int32)), (.int (0 : Int32)), (.int (0 : Int32)), (.int (0 : Int32)), (.int (0 : Int32)), (.int (0 : Int32)), (.int (0 : Int32)), (.int (0 : Int32)), (.int (0 : Int32))] := A_188
  refine g_dup C at_150 rfl (pc' := 151) rfl ?_
  refine g_iconst C at_151 (v := (3 : Int32)) rfl (pc' := 152) rfl ?_
  refine g_iconst C at_152 (v := (1 : Int32)) rfl (pc' := 153) rfl ?_
  refine g_bastoreZ C f_189 (by decide) (i := 3) (by decide) (show 3 < 18 by decide) (w := (.int (1 : Int32))) rfl ge_a_152 at_153 (pc' := 154) rfl ?_
  intro h_190 K_191 A_192
  have f_193 : Ary Z h_190 a_152 .boolean [(.int (0 : Int32)), (.int (0 : Int32)), (.int (1 : Int32)), (.int (1 : Int32)), (.int (0 : Int32)), (.int (0 : Int32)), (.int (0 : Int32)), (.int (0 : Int32)), (.int (0 : Int32)), (.int (0 : Int32)), (.int (0 : Int32)), (.int (0 : Int32)), (.int (0 : Int32)), (.int (0 : Int32)), (.int (0 : Int32)), (.int (0 : Int32)), (.int (0 : Int32)), (.int (0 : Int32))] := A_192
  refine g_dup C at_154 rfl (pc' := 155) rfl ?_
  refine g_iconst C at_155 (v := (4 : Int32)) rfl (pc' := 156) rfl ?_
  refine g_iconst C at_156 (v := (1 : Int32)) rfl (pc' := 157) rfl ?_
  refine g_bastoreZ C f_193 (by decide) (i := 4) (by decide) (show 4 < 18 by decide) (w := (.int (1 : Int32))) rfl ge_a_152 at_157 (pc' := 158) rfl ?_
  intro h_194 K_195 A_196
  have f_197 : Ary Z h_194 a_152 .boolean [(.int (0 : Int32)), (.int (0 : Int32)), (.int (1 : Int32)), (.int (1 : Int32)), (.int (1 : Int32)), (.int (0 : Int32)), (.int (0 : Int32)), (.int (0 : Int32)), (.int (0 : Int32)), (.int (0 : Int32)), (.int (0 : Int32)), (.int (0 : Int32)), (.int (0 : Int32)), (.int (0 : Int32)), (.int (0 : Int32)), (.int (0 : Int32)), (.int (0 : Int32)), (.int (0 : Int32))] := A_196
  refine g_dup C at_158 rfl (pc' := 159) rfl ?_
  refine g_iconst C at_159 (v := (5 : Int32)) rfl (pc' := 160) rfl ?_
  refine g_iconst C at_160 (v := (1 : Int32)) rfl (pc' := 161) rfl ?_
  refine g_bastoreZ C f_197 (by decide) (i := 5) (by decide) (show 5 < 18 by decide) (w := (.int (1 : Int32))) rfl ge_a_152 at_161 (pc' := 162) rfl ?_
  intro h_198 K_199 A_200
  have f_201 : Ary Z h_198 a_152 .boolean [(.int (0 : Int32)), (.int (0 : Int32)), (.int (1 : Int32)), (.int (1 : Int32)), (.int (1 : Int32)), (.int (1 : Int32)), (.int (0 : Int32)), (.int (0 : Int32)), (.int (0 : Int32)), (.int (0 : Int32)), (.int (0 : Int32)), (.int (0 : Int32)), (.int (0 : Int32)), (.int (0 : Int32)), (.int (0 : Int32)), (.int (0 : Int32)), (.int (0 : Int32)), (.int (0 : Int32))] := A_200
  refine g_dup C at_162 rfl (pc' := 163) rfl ?_
  refine g_bipush C at_163 (v := (6 : Int32)) rfl (pc' := 165) rfl ?_
  refine g_iconst C at_165 (v := (1 : Int32)) rfl (pc' := 166) rfl ?_
  refine g_bastoreZ C f_201 (by decide) (i := 6) (by decide) (show 6 < 18 by decide) (w := (.int (1 : Int32))) rfl ge_a_152 at_166 (pc' := 167) rfl ?_
  intro h_202 K_203 A_204
  have f_205 : Ary Z h_202 a_152 .boolean [(.int (0 : Int32)), (.int (0 : Int32)), (.int (1 : Int32)), (.int (1 : Int32)), (.int (1 : Int32)), (.int (1 : Int32)), (.int (1 : Int32)), (.int (0 : Int32)), (.int (0 : Int32)), (.int (0 : Int32)), (.int (0 : Int32)), (.int (0 : Int32)), (.int (0 : Int32)), (.int (0 : Int32)), (.int (0 : Int32)), (.int (0 : Int32)), (.int (0 : Int32)), (.int (0 : Int32))] := A_204
  refine g_dup C at_167 rfl (pc' := 168) rfl ?_
  refine g_bipush C at_168 (v := (7 : Int32)) rfl (pc' := 170) rfl ?_
  refine g_iconst C at_170 (v := (1 : Int32)) rfl (pc' := 171) rfl ?_
  refine g_bastoreZ C f_205 (by decide) (i := 7) (by decide) (show 7 < 18 by decide) (w := (.int (1 : Int32))) rfl ge_a_152 at_171 (pc' := 172) rfl ?_
  intro h_206 K_207 A_208
  have f_209 : Ary Z h_206 a_152 .boolean [(.int (0 : Int32)), (.int (0 : Int32)), (.int (1 : Int32)), (.int (1 : Int32)), (.int (1 : Int32)), (.int (1 : Int32)), (.int (1 : Int32)), (.int (1 : Int32)), (.int (0 : Int32)), (.int (0 : Int32)), (.int (0 : Int32)), (.int (0 : Int32)), (.int (0 : Int32)), (.int (0 : Int32)), (.int (0 : Int32)), (.int (0 : Int32)), (.int (0 : Int32)), (.int (0 : Int32))] := A_208
  refine g_dup C at_172 rfl (pc' := 173) rfl ?_
  refine g_bipush C at_173 (v := (8 : Int32)) rfl (pc' := 175) rfl ?_
  refine g_iconst C at_175 (v := (1 : Int32)) rfl (pc' := 176) rfl ?_
  refine g_bastoreZ C f_209 (by decide) (i := 8) (by decide) (show 8 < 18 by decide) (w := (.int (1 : Int32))) rfl ge_a_152 at_176 (pc' := 177) rfl ?_
  intro h_210 K_211 A_212
  have f_213 : Ary Z h_210 a_152 .boolean [(.int (0 : Int32)), (.int (0 : Int32)), (.int (1 : Int32)), (.int (1 : Int32)), (.int (1 : Int32)), (.int (1 : Int32)), (.int (1 : Int32)), (.int (1 : Int32)), (.int (1 : Int32)), (.int (0 : Int32)), (.int (0 : Int32)), (.int (0 : Int32)), (.int (0 : Int32)), (.int (0 : Int32)), (.int (0 : Int32)), (.int (0 : Int32)), (.int (0 : Int32)), (.int (0 : Int32))] := A_212
  refine g_dup C at_177 rfl (pc' := 178) rfl ?_
  refine g_bipush C at_178 (v := (9 : Int32)) rfl (pc' := 180) rfl ?_
  refine g_iconst C at_180 (v := (0 : Int32)) rfl (pc' := 181) rfl ?_
  refine g_bastoreZ C f_213 (by decide) (i := 9) (by decide) (show 9 < 18 by decide) (w := (.int (0 : Int32))) rfl ge_a_152 at_181 (pc' := 182) rfl ?_
  intro h_214 K_215 A_216
  have f_217 : Ary Z h_214 a_152 .boolean [(.int (0 : Int32)), (.int (0 : Int32)), (.int (1 : Int32)), (.int (1 : Int32)), (.int (1 : Int32)), (.int (1 : Int32)), (.int (1 : Int32)), (.int (1 : Int32)), (.int (1 : Int32)), (.int (0 : Int32)), (.int (0 : Int32)), (.int (0 : Int32)), (.int (0 : Int32)), (.int (0 : Int32)), (.int (0 : Int32)), (.int (0 : Int32)), (.int (0 : Int32)), (.int (0 : Int32))] := A_216
  refine g_dup C at_182 rfl (pc' := 183) rfl ?_
  refine g_bipush C at_183 (v := (10 : Int32)) rfl (pc' := 185) rfl ?_
  refine g_iconst C at_185 (v := (0 : Int32)) rfl (pc' := 186) rfl ?_
  refine g_bastoreZ C f_217 (by decide) (i := 10) (by decide) (show 10 < 18 by decide) (w := (.int (0 : Int32))) rfl ge_a_152 at_186 (pc' := 187) rfl ?_
  intro h_218 K_219 A_220
  have f_221 : Ary Z h_218 a_152 .boolean [(.int (0 : Int32)), (.int (0 : Int32)), (.int (1 : Int32)), (.int (1 : Int32)), (.int (1 : Int32)), (.int (1 : Int32)), (.int (1 : Int32)), (.int (1 : Int32)), (.int (1 : Int32)), (.int (0 : Int32)), (.int (0 : Int32)), (.int (0 : Int32)), (.int (0 : Int32)), (.int (0 : Int32)), (.int (0 : Int32)), (.int (0 : Int32)), (.int (0 : Int32)), (.int (0 : Int32))] := A_220
  refine g_dup C at_187 rfl (pc' := 188) rfl ?_
  refine g_bipush C at_188 (v := (11 : Int32)) rfl (pc' := 190) rfl ?_
  refine g_iconst C at_190 (v := (0 : Int32)) rfl (pc' := 191) rfl ?_
  refine g_bastoreZ C f_221 (by decide) (i := 11) (by decide) (show 11 < 18 by decide) (w := (.int (0 : Int32))) rfl ge_a_152 at_191 (pc' := 192) rfl ?_
  intro h_222 K_223 A_224
  have f_225 : Ary Z h_222 a_152 .boolean [(.int (0 : Int32)), (.int (0 : Int32)), (.int (1 : Int32)), (.int (1 : Int32)), (.int (1 : Int32)), (.int (1 : Int32)), (.int (1 : Int32)), (.int (1 : Int32)), (.int (1 : Int32)), (.int (0 : Int32)), (.int (0 : Int32)), (.int (0 : Int32)), (.int (0 : Int32)), (.int (0 : Int32)), (.int (0 : Int32)), (.int (0 : Int32)), (.int (0 : Int32)), (.int (0 : Int32))] := A_224
  refine g_dup C at_192 rfl (pc' := 193) rfl ?_
  refine g_bipush C at_193 (v := (12 : Int32)) rfl (pc' := 195) rfl ?_
  refine g_iconst C at_195 (v := (1 : Int32)) rfl (pc' := 196) rfl ?_
  refine g_bastoreZ C f_225 (by decide) (i := 12) (by decide) (show 12 < 18 by decide) (w := (.int (1 : Int32))) rfl ge_a_152 at_196 (pc' := 197) rfl ?_
  intro h_226 K_227 A_228
  have f_229 : Ary Z h_226 a_152 .boolean [(.int (0 : Int32)), (.int (0 : Int32)), (.int (1 : Int32)), (.int (1 : Int32)), (.int (1 : Int32)), (.int (1 : Int32)), (.int (1 : Int32)), (.int (1 : Int32)), (.int (1 : Int32)), (.int (0 : Int32)), (.int (0 : Int32)), (.int (0 : Int32)), (.int (1 : Int32)), (.int (0 : Int32)), (.int (0 : Int32)), (.int (0 : Int32)), (.int (0 : Int32)), (.int (0 : Int32))] := A_228
  refine g_dup C at_197 rfl (pc' := 198) rfl ?_
  refine g_bipush C at_198 (v := (13 : Int32)) rfl (pc' := 200) rfl ?_
  refine g_iconst C at_200 (v := (0 : Int32)) rfl (pc' := 201) rfl ?_
  refine g_bastoreZ C f_229 (by decide) (i := 13) (by decide) (show 13 < 18 by decide) (w := (.int (0 : Int32))) rfl ge_a_152 at_201 (pc' := 202) rfl ?_
  intro h_230 K_231 A_232
  have f_233 : Ary Z h_230 a_152 .boolean [(.int (0 : Int32)), (.int (0 : Int32)), (.int (1 : Int32)), (.int (1 : Int32)), (.int (1 : Int32)), (.int (1 : Int32)), (.int (1 : Int32)), (.int (1 : Int32)), (.int (1 : Int32)), (.int (0 : Int32)), (.int (0 : Int32)), (.int (0 : Int32)), (.int (1 : Int32)), (.int (0 : Int32)), (.int (0 : Int32)), (.int (0 : Int32)), (.int (0 : Int32)), (.int (0 : Int32))] := A_232
  refine g_dup C at_202 rfl (pc' := 203) rfl ?_
  refine g_bipush C at_203 (v := (14 : Int32)) rfl (pc' := 205) rfl ?_
  refine g_iconst C at_205 (v := (1 : Int32)) rfl (pc' := 206) rfl ?_
  refine g_bastoreZ C f_233 (by decide) (i := 14) (by decide) (show 14 < 18 by decide) (w := (.int (1 : Int32))) rfl ge_a_152 at_206 (pc' := 207) rfl ?_
  intro h_234 K_235 A_236
  have f_237 : Ary Z h_234 a_152 .boolean [(.int (0 : Int32)), (.int (0 : Int32)), (.int (1 : Int32)), (.int (1 : Int32)), (.int (1 : Int32)), (.int (1 : Int32)), (.int (1 : Int32)), (.int (1 : Int32)), (.int (1 : Int32)), (.int (0 : Int32)), (.int (0 : Int32)), (.int (0 : Int32)), (.int (1 : Int32)), (.int (0 : Int32)), (.int (1 : Int32)), (.int (0 : Int32)), (.int (0 : Int32)), (.int (0 : Int32))] := A_236
  refine g_dup C at_207 rfl (pc' := 208) rfl ?_
  refine g_bipush C at_208 (v := (15 : Int32)) rfl (pc' := 210) rfl ?_
  refine g_iconst C at_210 (v := (1 : Int32)) rfl (pc' := 211) rfl ?_
  refine g_bastoreZ C f_237 (by decide) (i := 15) (by decide) (show 15 < 18 by decide) (w := (.int (1 : Int32))) rfl ge_a_152 at_211 (pc' := 212) rfl ?_
  intro h_238 K_239 A_240
  have f_241 : Ary Z h_238 a_152 .boolean [(.int (0 : Int32)), (.int (0 : Int32)), (.int (1 : Int32)), (.int (1 : Int32)), (.int (1 : Int32)), (.int (1 : Int32)), (.int (1 : Int32)), (.int (1 : Int32)), (.int (1 : Int32)), (.int (0 : Int32)), (.int (0 : Int32)), (.int (0 : Int32)), (.int (1 : Int32)), (.int (0 : Int32)), (.int (1 : Int32)), (.int (1 : Int32)), (.int (0 : Int32)), (.int (0 : Int32))] := A_240
  refine g_dup C at_212 rfl (pc' := 213) rfl ?_
  refine g_bipush C at_213 (v := (16 : Int32)) rfl (pc' := 215) rfl ?_
  refine g_iconst C at_215 (v := (1 : Int32)) rfl (pc' := 216) rfl ?_
  refine g_bastoreZ C f_241 (by decide) (i := 16) (by decide) (show 16 < 18 by decide) (w := (.int (1 : Int32))) rfl ge_a_152 at_216 (pc' := 217) rfl ?_
  intro h_242 K_243 A_244
  have f_245 : Ary Z h_242 a_152 .boolean [(.int (0 : Int32)), (.int (0 : Int32)), (.int (1 : Int32)), (.int (1 : Int32)), (.int (1 : Int32)), (.int (1 : Int32)), (.int (1 : Int32)), (.int (1 : Int32)), (.int (1 : Int32)), (.int (0 : Int32)), (.int (0 : Int32)), (.int (0 : Int32)), (.int (1 : Int32)), (.int (0 : Int32)), (.int (1 : Int32)), (.int (1 : Int32)), (.int (1 : Int32)), (.int (0 : Int32))] := A_244
  refine g_dup C at_217 rfl (pc' := 218) rfl ?_
  refine g_bipush C at_218 (v := (17 : Int32)) rfl (pc' := 220) rfl ?_
  refine g_iconst C at_220 (v := (1 : Int32)) rfl (pc' := 221) rfl ?_
  refine g_bastoreZ C f_245 (by decide) (i := 17) (by decide) (show 17 < 18 by decide) (w := (.int (1 : Int32))) rfl ge_a_152 at_221 (pc' := 222) rfl ?_
  intro h_246 K_247 A_248
  have f_249 : Ary Z h_246 a_152 .boolean [(.int (0 : Int32)), (.int (0 : Int32)), (.int (1 : Int32)), (.int (1 : Int32)), (.int (1 : Int32)), (.int (1 : Int32)), (.int (1 : Int32)), (.int (1 : Int32)), (.int (1 : Int32)), (.int (0 : Int32)), (.int (0 : Int32)), (.int (0 : Int32)), (.int (1 : Int32)), (.int (0 : Int32)), (.int (1 : Int32)), (.int (1 : Int32)), (.int (1 : Int32)), (.int (1 : Int32))] := A_248
  refine g_astore_n C at_222 (v := (.ref a_152)) (L' := #[.val (.int p0), .val (.int ((p0 &&& (2147483647 : Int32)) - ((p0 &&& (2147483647 : Int32)) / (18 : Int32)) * (18 : Int32))), .val (.ref a_2), .val (.ref a_152)]) rfl rfl (pc' := 223) rfl ?_
  obtain ⟨i_250, hi_251⟩ : ∃ z : Int32, z = ((p0 &&& (2147483647 : Int32)) - ((p0 &&& (2147483647 : Int32)) / (18 : Int32)) * (18 : Int32)) := ⟨_, rfl⟩
  rw [← hi_251]
  rcases own_split18 i_250 (by rw [hi_251]; exact (own_rem18 (own_nn p0)).1) (by rw [hi_251]; exact (own_rem18 (own_nn p0)).2) with i_250e | i_250e | i_250e | i_250e | i_250e | i_250e | i_250e | i_250e | i_250e | i_250e | i_250e | i_250e | i_250e | i_250e | i_250e | i_250e | i_250e | i_250e
  · subst i_250e
    show Go B n0 _ h_246 2 36 223 #[.val (.int p0), .val (.int (0 : Int32)), .val (.ref a_2), .val (.ref a_152)] []
    refine g_aload_n C at_223 (v := (.ref a_2)) rfl rfl (pc' := 224) rfl ?_
    refine g_iload_n C at_224 (v := (0 : Int32)) rfl (pc' := 225) rfl ?_
    have f_252 := (((((((((((((((((((f_132.ext E_154).keep K_179 (ninS ne_156 nin0)).keep K_183 (ninS ne_156 nin0)).keep K_187 (ninS ne_156 nin0)).keep K_191 (ninS ne_156 nin0)).keep K_195 (ninS ne_156 nin0)).keep K_199 (ninS ne_156 nin0)).keep K_203 (ninS ne_156 nin0)).keep K_207 (ninS ne_156 nin0)).keep K_211 (ninS ne_156 nin0)).keep K_215 (ninS ne_156 nin0)).keep K_219 (ninS ne_156 nin0)).keep K_223 (ninS ne_156 nin0)).keep K_227 (ninS ne_156 nin0)).keep K_231 (ninS ne_156 nin0)).keep K_235 (ninS ne_156 nin0)).keep K_239 (ninS ne_156 nin0)).keep K_243 (ninS ne_156 nin0)).keep K_247 (ninS ne_156 nin0))
    refine g_aaload C (AryR.ary f_252) rfl (by decide) (i := 0) (by decide) (v := (.ref e_DOUBLE)) rfl at_225 (pc' := 226) rfl ?_
    have f_253 := ((((((((((((((((((((f_127.keep K_129 (allS ge_a_2 all0)).ext E_154).keep K_179 (allS ge_a_152 all0)).keep K_183 (allS ge_a_152 all0)).keep K_187 (allS ge_a_152 all0)).keep K_191 (allS ge_a_152 all0)).keep K_195 (allS ge_a_152 all0)).keep K_199 (allS ge_a_152 all0)).keep K_203 (allS ge_a_152 all0)).keep K_207 (allS ge_a_152 all0)).keep K_211 (allS ge_a_152 all0)).keep K_215 (allS ge_a_152 all0)).keep K_219 (allS ge_a_152 all0)).keep K_223 (allS ge_a_152 all0)).keep K_227 (allS ge_a_152 all0)).keep K_231 (allS ge_a_152 all0)).keep K_235 (allS ge_a_152 all0)).keep K_239 (allS ge_a_152 all0)).keep K_243 (allS ge_a_152 all0)).keep K_247 (allS ge_a_152 all0))
    have f_254 := (Nat.le_trans (Nat.le_trans (Nat.le_trans (Nat.le_trans (Nat.le_trans (Nat.le_trans (Nat.le_trans (Nat.le_trans (Nat.le_trans (Nat.le_trans (Nat.le_trans (Nat.le_trans (Nat.le_trans (Nat.le_trans (Nat.le_trans (Nat.le_trans (Nat.le_trans (Nat.le_trans (Nat.le_trans f_175 E_154.1) K_179.1) K_183.1) K_187.1) K_191.1) K_195.1) K_199.1) K_203.1) K_207.1) K_211.1) K_215.1) K_219.1) K_223.1) K_227.1) K_231.1) K_235.1) K_239.1) K_243.1) K_247.1)
    have f_255 := (((((((((((((((((((f_135.ext E_154).keep K_179).keep K_183).keep K_187).keep K_191).keep K_195).keep K_199).keep K_203).keep K_207).keep K_211).keep K_215).keep K_219).keep K_223).keep K_227).keep K_231).keep K_235).keep K_239).keep K_243).keep K_247)
    refine g_virtual C (own_w hw 42 rfl) (own_w hw 43 rfl) (own_w hw 45 rfl) (own_w hw 44 rfl) (own_w hw 4 rfl) (own_w hw 46 rfl) (notFace_of_selects (args := #[]) (mvT C.2.2.2.2.1 (own_w hw 45 rfl))) (by decide) f_255 (rm_isMapKey_DOUBLE l Z a0 hw n0 e_DOUBLE e_FLOAT e_INT64 e_UINT64 e_INT32 e_FIXED64 e_FIXED32 e_BOOL e_STRING e_GROUP e_MESSAGE e_BYTES e_UINT32 e_ENUM e_SFIXED32 e_SFIXED64 e_SINT32 e_SINT64 h_246 f_254 en f_253) (st := []) [] rfl rfl own_pd_0_isMapKey rfl rfl (by decide) (W := 0) (Nat.le_of_eq rfl) (by decide) (by decide) (by decide) at_226 (pc' := 229) rfl ?_
    intro v_258 h_256 q_257
    obtain ⟨rfl, rfl⟩ := q_257
    show Go B n0 _ h_246 2 36 229 #[.val (.int p0), .val (.int (0 : Int32)), .val (.ref a_2), .val (.ref a_152)] [(.int (0 : Int32))]
    refine g_aload_n C at_229 (v := (.ref a_152)) rfl rfl (pc' := 230) rfl ?_
    refine g_iload_n C at_230 (v := (0 : Int32)) rfl (pc' := 231) rfl ?_
    refine g_baloadZ C f_249 (by decide) (i := 0) (by decide) (v := (0 : Int32)) rfl at_231 (pc' := 232) rfl ?_
    refine g_icmp_n C at_232 (Jvm.Free.XT.ii_ne_f (by decide)) (pc' := 235) rfl ?_
    refine g_iconst C at_235 (v := (1 : Int32)) rfl (pc' := 236) rfl ?_
    refine g_goto C at_236 (pc' := 240) (by decide) (by decide) ?_
    refine g_ret C (v := (.int (1 : Int32))) (ty := .boolean) rfl rfl (Or.inl ⟨rfl, Or.inr (Or.inl rfl), _, rfl⟩) at_240 (by decide) (by decide) ?_
    rfl
  · subst i_250e
    show Go B n0 _ h_246 2 36 223 #[.val (.int p0), .val (.int (1 : Int32)), .val (.ref a_2), .val (.ref a_152)] []
    refine g_aload_n C at_223 (v := (.ref a_2)) rfl rfl (pc' := 224) rfl ?_
    refine g_iload_n C at_224 (v := (1 : Int32)) rfl (pc' := 225) rfl ?_
    have f_259 := (((((((((((((((((((f_132.ext E_154).keep K_179 (ninS ne_156 nin0)).keep K_183 (ninS ne_156 nin0)).keep K_187 (ninS ne_156 nin0)).keep K_191 (ninS ne_156 nin0)).keep K_195 (ninS ne_156 nin0)).keep K_199 (ninS ne_156 nin0)).keep K_203 (ninS ne_156 nin0)).keep K_207 (ninS ne_156 nin0)).keep K_211 (ninS ne_156 nin0)).keep K_215 (ninS ne_156 nin0)).keep K_219 (ninS ne_156 nin0)).keep K_223 (ninS ne_156 nin0)).keep K_227 (ninS ne_156 nin0)).keep K_231 (ninS ne_156 nin0)).keep K_235 (ninS ne_156 nin0)).keep K_239 (ninS ne_156 nin0)).keep K_243 (ninS ne_156 nin0)).keep K_247 (ninS ne_156 nin0))
    refine g_aaload C (AryR.ary f_259) rfl (by decide) (i := 1) (by decide) (v := (.ref e_FLOAT)) rfl at_225 (pc' := 226) rfl ?_
    have f_260 := ((((((((((((((((((((f_127.keep K_129 (allS ge_a_2 all0)).ext E_154).keep K_179 (allS ge_a_152 all0)).keep K_183 (allS ge_a_152 all0)).keep K_187 (allS ge_a_152 all0)).keep K_191 (allS ge_a_152 all0)).keep K_195 (allS ge_a_152 all0)).keep K_199 (allS ge_a_152 all0)).keep K_203 (allS ge_a_152 all0)).keep K_207 (allS ge_a_152 all0)).keep K_211 (allS ge_a_152 all0)).keep K_215 (allS ge_a_152 all0)).keep K_219 (allS ge_a_152 all0)).keep K_223 (allS ge_a_152 all0)).keep K_227 (allS ge_a_152 all0)).keep K_231 (allS ge_a_152 all0)).keep K_235 (allS ge_a_152 all0)).keep K_239 (allS ge_a_152 all0)).keep K_243 (allS ge_a_152 all0)).keep K_247 (allS ge_a_152 all0))
    have f_261 := (Nat.le_trans (Nat.le_trans (Nat.le_trans (Nat.le_trans (Nat.le_trans (Nat.le_trans (Nat.le_trans (Nat.le_trans (Nat.le_trans (Nat.le_trans (Nat.le_trans (Nat.le_trans (Nat.le_trans (Nat.le_trans (Nat.le_trans (Nat.le_trans (Nat.le_trans (Nat.le_trans (Nat.le_trans f_175 E_154.1) K_179.1) K_183.1) K_187.1) K_191.1) K_195.1) K_199.1) K_203.1) K_207.1) K_211.1) K_215.1) K_219.1) K_223.1) K_227.1) K_231.1) K_235.1) K_239.1) K_243.1) K_247.1)
    have f_262 := (((((((((((((((((((f_139.ext E_154).keep K_179).keep K_183).keep K_187).keep K_191).keep K_195).keep K_199).keep K_203).keep K_207).keep K_211).keep K_215).keep K_219).keep K_223).keep K_227).keep K_231).keep K_235).keep K_239).keep K_243).keep K_247)
    refine g_virtual C (own_w hw 42 rfl) (own_w hw 43 rfl) (own_w hw 45 rfl) (own_w hw 44 rfl) (own_w hw 4 rfl) (own_w hw 46 rfl) (notFace_of_selects (args := #[]) (mvT C.2.2.2.2.1 (own_w hw 45 rfl))) (by decide) f_262 (rm_isMapKey_FLOAT l Z a0 hw n0 e_DOUBLE e_FLOAT e_INT64 e_UINT64 e_INT32 e_FIXED64 e_FIXED32 e_BOOL e_STRING e_GROUP e_MESSAGE e_BYTES e_UINT32 e_ENUM e_SFIXED32 e_SFIXED64 e_SINT32 e_SINT64 h_246 f_261 en f_260) (st := []) [] rfl rfl own_pd_0_isMapKey rfl rfl (by decide) (W := 0) (Nat.le_of_eq rfl) (by decide) (by decide) (by decide) at_226 (pc' := 229) rfl ?_
    intro v_265 h_263 q_264
    obtain ⟨rfl, rfl⟩ := q_264
    show Go B n0 _ h_246 2 36 229 #[.val (.int p0), .val (.int (1 : Int32)), .val (.ref a_2), .val (.ref a_152)] [(.int (0 : Int32))]
    refine g_aload_n C at_229 (v := (.ref a_152)) rfl rfl (pc' := 230) rfl ?_
    refine g_iload_n C at_230 (v := (1 : Int32)) rfl (pc' := 231) rfl ?_
    refine g_baloadZ C f_249 (by decide) (i := 1) (by decide) (v := (0 : Int32)) rfl at_231 (pc' := 232) rfl ?_
    refine g_icmp_n C at_232 (Jvm.Free.XT.ii_ne_f (by decide)) (pc' := 235) rfl ?_
    refine g_iconst C at_235 (v := (1 : Int32)) rfl (pc' := 236) rfl ?_
    refine g_goto C at_236 (pc' := 240) (by decide) (by decide) ?_
    refine g_ret C (v := (.int (1 : Int32))) (ty := .boolean) rfl rfl (Or.inl ⟨rfl, Or.inr (Or.inl rfl), _, rfl⟩) at_240 (by decide) (by decide) ?_
    rfl
  · subst i_250e
    show Go B n0 _ h_246 2 36 223 #[.val (.int p0), .val (.int (2 : Int32)), .val (.ref a_2), .val (.ref a_152)] []
    refine g_aload_n C at_223 (v := (.ref a_2)) rfl rfl (pc' := 224) rfl ?_
    refine g_iload_n C at_224 (v := (2 : Int32)) rfl (pc' := 225) rfl ?_
    have f_266 := (((((((((((((((((((f_132.ext E_154).keep K_179 (ninS ne_156 nin0)).keep K_183 (ninS ne_156 nin0)).keep K_187 (ninS ne_156 nin0)).keep K_191 (ninS ne_156 nin0)).keep K_195 (ninS ne_156 nin0)).keep K_199 (ninS ne_156 nin0)).keep K_203 (ninS ne_156 nin0)).keep K_207 (ninS ne_156 nin0)).keep K_211 (ninS ne_156 nin0)).keep K_215 (ninS ne_156 nin0)).keep K_219 (ninS ne_156 nin0)).keep K_223 (ninS ne_156 nin0)).keep K_227 (ninS ne_156 nin0)).keep K_231 (ninS ne_156 nin0)).keep K_235 (ninS ne_156 nin0)).keep K_239 (ninS ne_156 nin0)).keep K_243 (ninS ne_156 nin0)).keep K_247 (ninS ne_156 nin0))
    refine g_aaload C (AryR.ary f_266) rfl (by decide) (i := 2) (by decide) (v := (.ref e_INT64)) rfl at_225 (pc' := 226) rfl ?_
    have f_267 := ((((((((((((((((((((f_127.keep K_129 (allS ge_a_2 all0)).ext E_154).keep K_179 (allS ge_a_152 all0)).keep K_183 (allS ge_a_152 all0)).keep K_187 (allS ge_a_152 all0)).keep K_191 (allS ge_a_152 all0)).keep K_195 (allS ge_a_152 all0)).keep K_199 (allS ge_a_152 all0)).keep K_203 (allS ge_a_152 all0)).keep K_207 (allS ge_a_152 all0)).keep K_211 (allS ge_a_152 all0)).keep K_215 (allS ge_a_152 all0)).keep K_219 (allS ge_a_152 all0)).keep K_223 (allS ge_a_152 all0)).keep K_227 (allS ge_a_152 all0)).keep K_231 (allS ge_a_152 all0)).keep K_235 (allS ge_a_152 all0)).keep K_239 (allS ge_a_152 all0)).keep K_243 (allS ge_a_152 all0)).keep K_247 (allS ge_a_152 all0))
    have f_268 := (Nat.le_trans (Nat.le_trans (Nat.le_trans (Nat.le_trans (Nat.le_trans (Nat.le_trans (Nat.le_trans (Nat.le_trans (Nat.le_trans (Nat.le_trans (Nat.le_trans (Nat.le_trans (Nat.le_trans (Nat.le_trans (Nat.le_trans (Nat.le_trans (Nat.le_trans (Nat.le_trans (Nat.le_trans f_175 E_154.1) K_179.1) K_183.1) K_187.1) K_191.1) K_195.1) K_199.1) K_203.1) K_207.1) K_211.1) K_215.1) K_219.1) K_223.1) K_227.1) K_231.1) K_235.1) K_239.1) K_243.1) K_247.1)
    have f_269 := (((((((((((((((((((f_142.ext E_154).keep K_179).keep K_183).keep K_187).keep K_191).keep K_195).keep K_199).keep K_203).keep K_207).keep K_211).keep K_215).keep K_219).keep K_223).keep K_227).keep K_231).keep K_235).keep K_239).keep K_243).keep K_247)
    refine g_virtual C (own_w hw 42 rfl) (own_w hw 43 rfl) (own_w hw 45 rfl) (own_w hw 44 rfl) (own_w hw 4 rfl) (own_w hw 46 rfl) (notFace_of_selects (args := #[]) (mvT C.2.2.2.2.1 (own_w hw 45 rfl))) (by decide) f_269 (rm_isMapKey_INT64 l Z a0 hw n0 e_DOUBLE e_FLOAT e_INT64 e_UINT64 e_INT32 e_FIXED64 e_FIXED32 e_BOOL e_STRING e_GROUP e_MESSAGE e_BYTES e_UINT32 e_ENUM e_SFIXED32 e_SFIXED64 e_SINT32 e_SINT64 h_246 f_268 en f_267) (st := []) [] rfl rfl own_pd_0_isMapKey rfl rfl (by decide) (W := 0) (Nat.le_of_eq rfl) (by decide) (by decide) (by decide) at_226 (pc' := 229) rfl ?_
    intro v_272 h_270 q_271
    obtain ⟨rfl, rfl⟩ := q_271
    show Go B n0 _ h_246 2 36 229 #[.val (.int p0), .val (.int (2 : Int32)), .val (.ref a_2), .val (.ref a_152)] [(.int (1 : Int32))]
    refine g_aload_n C at_229 (v := (.ref a_152)) rfl rfl (pc' := 230) rfl ?_
    refine g_iload_n C at_230 (v := (2 : Int32)) rfl (pc' := 231) rfl ?_
    refine g_baloadZ C f_249 (by decide) (i := 2) (by decide) (v := (1 : Int32)) rfl at_231 (pc' := 232) rfl ?_
    refine g_icmp_n C at_232 (Jvm.Free.XT.ii_ne_f (by decide)) (pc' := 235) rfl ?_
    refine g_iconst C at_235 (v := (1 : Int32)) rfl (pc' := 236) rfl ?_
    refine g_goto C at_236 (pc' := 240) (by decide) (by decide) ?_
    refine g_ret C (v := (.int (1 : Int32))) (ty := .boolean) rfl rfl (Or.inl ⟨rfl, Or.inr (Or.inl rfl), _, rfl⟩) at_240 (by decide) (by decide) ?_
    rfl
  · subst i_250e
    show Go B n0 _ h_246 2 36 223 #[.val (.int p0), .val (.int (3 : Int32)), .val (.ref a_2), .val (.ref a_152)] []
    refine g_aload_n C at_223 (v := (.ref a_2)) rfl rfl (pc' := 224) rfl ?_
    refine g_iload_n C at_224 (v := (3 : Int32)) rfl (pc' := 225) rfl ?_
    have f_273 := (((((((((((((((((((f_132.ext E_154).keep K_179 (ninS ne_156 nin0)).keep K_183 (ninS ne_156 nin0)).keep K_187 (ninS ne_156 nin0)).keep K_191 (ninS ne_156 nin0)).keep K_195 (ninS ne_156 nin0)).keep K_199 (ninS ne_156 nin0)).keep K_203 (ninS ne_156 nin0)).keep K_207 (ninS ne_156 nin0)).keep K_211 (ninS ne_156 nin0)).keep K_215 (ninS ne_156 nin0)).keep K_219 (ninS ne_156 nin0)).keep K_223 (ninS ne_156 nin0)).keep K_227 (ninS ne_156 nin0)).keep K_231 (ninS ne_156 nin0)).keep K_235 (ninS ne_156 nin0)).keep K_239 (ninS ne_156 nin0)).keep K_243 (ninS ne_156 nin0)).keep K_247 (ninS ne_156 nin0))
    refine g_aaload C (AryR.ary f_273) rfl (by decide) (i := 3) (by decide) (v := (.ref e_UINT64)) rfl at_225 (pc' := 226) rfl ?_
    have f_274 := ((((((((((((((((((((f_127.keep K_129 (allS ge_a_2 all0)).ext E_154).keep K_179 (allS ge_a_152 all0)).keep K_183 (allS ge_a_152 all0)).keep K_187 (allS ge_a_152 all0)).keep K_191 (allS ge_a_152 all0)).keep K_195 (allS ge_a_152 all0)).keep K_199 (allS ge_a_152 all0)).keep K_203 (allS ge_a_152 all0)).keep K_207 (allS ge_a_152 all0)).keep K_211 (allS ge_a_152 all0)).keep K_215 (allS ge_a_152 all0)).keep K_219 (allS ge_a_152 all0)).keep K_223 (allS ge_a_152 all0)).keep K_227 (allS ge_a_152 all0)).keep K_231 (allS ge_a_152 all0)).keep K_235 (allS ge_a_152 all0)).keep K_239 (allS ge_a_152 all0)).keep K_243 (allS ge_a_152 all0)).keep K_247 (allS ge_a_152 all0))
    have f_275 := (Nat.le_trans (Nat.le_trans (Nat.le_trans (Nat.le_trans (Nat.le_trans (Nat.le_trans (Nat.le_trans (Nat.le_trans (Nat.le_trans (Nat.le_trans (Nat.le_trans (Nat.le_trans (Nat.le_trans (Nat.le_trans (Nat.le_trans (Nat.le_trans (Nat.le_trans (Nat.le_trans (Nat.le_trans f_175 E_154.1) K_179.1) K_183.1) K_187.1) K_191.1) K_195.1) K_199.1) K_203.1) K_207.1) K_211.1) K_215.1) K_219.1) K_223.1) K_227.1) K_231.1) K_235.1) K_239.1) K_243.1) K_247.1)
    have f_276 := (((((((((((((((((((f_150.ext E_154).keep K_179).keep K_183).keep K_187).keep K_191).keep K_195).keep K_199).keep K_203).keep K_207).keep K_211).keep K_215).keep K_219).keep K_223).keep K_227).keep K_231).keep K_235).keep K_239).keep K_243).keep K_247)
    refine g_virtual C (own_w hw 42 rfl) (own_w hw 43 rfl) (own_w hw 45 rfl) (own_w hw 44 rfl) (own_w hw 4 rfl) (own_w hw 46 rfl) (notFace_of_selects (args := #[]) (mvT C.2.2.2.2.1 (own_w hw 45 rfl))) (by decide) f_276 (rm_isMapKey_UINT64 l Z a0 hw n0 e_DOUBLE e_FLOAT e_INT64 e_UINT64 e_INT32 e_FIXED64 e_FIXED32 e_BOOL e_STRING e_GROUP e_MESSAGE e_BYTES e_UINT32 e_ENUM e_SFIXED32 e_SFIXED64 e_SINT32 e_SINT64 h_246 f_275 en f_274) (st := []) [] rfl rfl own_pd_0_isMapKey rfl rfl (by decide) (W := 0) (Nat.le_of_eq rfl) (by decide) (by decide) (by decide) at_226 (pc' := 229) rfl ?_
    intro v_279 h_277 q_278
    obtain ⟨rfl, rfl⟩ := q_278
    show Go B n0 _ h_246 2 36 229 #[.val (.int p0), .val (.int (3 : Int32)), .val (.ref a_2), .val (.ref a_152)] [(.int (1 : Int32))]
    refine g_aload_n C at_229 (v := (.ref a_152)) rfl rfl (pc' := 230) rfl ?_
    refine g_iload_n C at_230 (v := (3 : Int32)) rfl (pc' := 231) rfl ?_
    refine g_baloadZ C f_249 (by decide) (i := 3) (by decide) (v := (1 : Int32)) rfl at_231 (pc' := 232) rfl ?_
    refine g_icmp_n C at_232 (Jvm.Free.XT.ii_ne_f (by decide)) (pc' := 235) rfl ?_
    refine g_iconst C at_235 (v := (1 : Int32)) rfl (pc' := 236) rfl ?_
    refine g_goto C at_236 (pc' := 240) (by decide) (by decide) ?_
    refine g_ret C (v := (.int (1 : Int32))) (ty := .boolean) rfl rfl (Or.inl ⟨rfl, Or.inr (Or.inl rfl), _, rfl⟩) at_240 (by decide) (by decide) ?_
    rfl
  · subst i_250e
    show Go B n0 _ h_246 2 36 223 #[.val (.int p0), .val (.int (4 : Int32)), .val (.ref a_2), .val (.ref a_152)] []
    refine g_aload_n C at_223 (v := (.ref a_2)) rfl rfl (pc' := 224) rfl ?_
    refine g_iload_n C at_224 (v := (4 : Int32)) rfl (pc' := 225) rfl ?_
    have f_280 := (((((((((((((((((((f_132.ext E_154).keep K_179 (ninS ne_156 nin0)).keep K_183 (ninS ne_156 nin0)).keep K_187 (ninS ne_156 nin0)).keep K_191 (ninS ne_156 nin0)).keep K_195 (ninS ne_156 nin0)).keep K_199 (ninS ne_156 nin0)).keep K_203 (ninS ne_156 nin0)).keep K_207 (ninS ne_156 nin0)).keep K_211 (ninS ne_156 nin0)).keep K_215 (ninS ne_156 nin0)).keep K_219 (ninS ne_156 nin0)).keep K_223 (ninS ne_156 nin0)).keep K_227 (ninS ne_156 nin0)).keep K_231 (ninS ne_156 nin0)).keep K_235 (ninS ne_156 nin0)).keep K_239 (ninS ne_156 nin0)).keep K_243 (ninS ne_156 nin0)).keep K_247 (ninS ne_156 nin0))
    refine g_aaload C (AryR.ary f_280) rfl (by decide) (i := 4) (by decide) (v := (.ref e_INT32)) rfl at_225 (pc' := 226) rfl ?_
    have f_281 := ((((((((((((((((((((f_127.keep K_129 (allS ge_a_2 all0)).ext E_154).keep K_179 (allS ge_a_152 all0)).keep K_183 (allS ge_a_152 all0)).keep K_187 (allS ge_a_152 all0)).keep K_191 (allS ge_a_152 all0)).keep K_195 (allS ge_a_152 all0)).keep K_199 (allS ge_a_152 all0)).keep K_203 (allS ge_a_152 all0)).keep K_207 (allS ge_a_152 all0)).keep K_211 (allS ge_a_152 all0)).keep K_215 (allS ge_a_152 all0)).keep K_219 (allS ge_a_152 all0)).keep K_223 (allS ge_a_152 all0)).keep K_227 (allS ge_a_152 all0)).keep K_231 (allS ge_a_152 all0)).keep K_235 (allS ge_a_152 all0)).keep K_239 (allS ge_a_152 all0)).keep K_243 (allS ge_a_152 all0)).keep K_247 (allS ge_a_152 all0))
    have f_282 := (Nat.le_trans (Nat.le_trans (Nat.le_trans (Nat.le_trans (Nat.le_trans (Nat.le_trans (Nat.le_trans (Nat.le_trans (Nat.le_trans (Nat.le_trans (Nat.le_trans (Nat.le_trans (Nat.le_trans (Nat.le_trans (Nat.le_trans (Nat.le_trans (Nat.le_trans (Nat.le_trans (Nat.le_trans f_175 E_154.1) K_179.1) K_183.1) K_187.1) K_191.1) K_195.1) K_199.1) K_203.1) K_207.1) K_211.1) K_215.1) K_219.1) K_223.1) K_227.1) K_231.1) K_235.1) K_239.1) K_243.1) K_247.1)
    have f_283 := (((((((((((((((((((f_141.ext E_154).keep K_179).keep K_183).keep K_187).keep K_191).keep K_195).keep K_199).keep K_203).keep K_207).keep K_211).keep K_215).keep K_219).keep K_223).keep K_227).keep K_231).keep K_235).keep K_239).keep K_243).keep K_247)
    refine g_virtual C (own_w hw 42 rfl) (own_w hw 43 rfl) (own_w hw 45 rfl) (own_w hw 44 rfl) (own_w hw 4 rfl) (own_w hw 46 rfl) (notFace_of_selects (args := #[]) (mvT C.2.2.2.2.1 (own_w hw 45 rfl))) (by decide) f_283 (rm_isMapKey_INT32 l Z a0 hw n0 e_DOUBLE e_FLOAT e_INT64 e_UINT64 e_INT32 e_FIXED64 e_FIXED32 e_BOOL e_STRING e_GROUP e_MESSAGE e_BYTES e_UINT32 e_ENUM e_SFIXED32 e_SFIXED64 e_SINT32 e_SINT64 h_246 f_282 en f_281) (st := []) [] rfl rfl own_pd_0_isMapKey rfl rfl (by decide) (W := 0) (Nat.le_of_eq rfl) (by decide) (by decide) (by decide) at_226 (pc' := 229) rfl ?_
    intro v_286 h_284 q_285
    obtain ⟨rfl, rfl⟩ := q_285
    show Go B n0 _ h_246 2 36 229 #[.val (.int p0), .val (.int (4 : Int32)), .val (.ref a_2), .val (.ref a_152)] [(.int (1 : Int32))]
    refine g_aload_n C at_229 (v := (.ref a_152)) rfl rfl (pc' := 230) rfl ?_
    refine g_iload_n C at_230 (v := (4 : Int32)) rfl (pc' := 231) rfl ?_
    refine g_baloadZ C f_249 (by decide) (i := 4) (by decide) (v := (1 : Int32)) rfl at_231 (pc' := 232) rfl ?_
    refine g_icmp_n C at_232 (Jvm.Free.XT.ii_ne_f (by decide)) (pc' := 235) rfl ?_
    refine g_iconst C at_235 (v := (1 : Int32)) rfl (pc' := 236) rfl ?_
    refine g_goto C at_236 (pc' := 240) (by decide) (by decide) ?_
    refine g_ret C (v := (.int (1 : Int32))) (ty := .boolean) rfl rfl (Or.inl ⟨rfl, Or.inr (Or.inl rfl), _, rfl⟩) at_240 (by decide) (by decide) ?_
    rfl
  · subst i_250e
    show Go B n0 _ h_246 2 36 223 #[.val (.int p0), .val (.int (5 : Int32)), .val (.ref a_2), .val (.ref a_152)] []
    refine g_aload_n C at_223 (v := (.ref a_2)) rfl rfl (pc' := 224) rfl ?_
    refine g_iload_n C at_224 (v := (5 : Int32)) rfl (pc' := 225) rfl ?_
    have f_287 := (((((((((((((((((((f_132.ext E_154).keep K_179 (ninS ne_156 nin0)).keep K_183 (ninS ne_156 nin0)).keep K_187 (ninS ne_156 nin0)).keep K_191 (ninS ne_156 nin0)).keep K_195 (ninS ne_156 nin0)).keep K_199 (ninS ne_156 nin0)).keep K_203 (ninS ne_156 nin0)).keep K_207 (ninS ne_156 nin0)).keep K_211 (ninS ne_156 nin0)).keep K_215 (ninS ne_156 nin0)).keep K_219 (ninS ne_156 nin0)).keep K_223 (ninS ne_156 nin0)).keep K_227 (ninS ne_156 nin0)).keep K_231 (ninS ne_156 nin0)).keep K_235 (ninS ne_156 nin0)).keep K_239 (ninS ne_156 nin0)).keep K_243 (ninS ne_156 nin0)).keep K_247 (ninS ne_156 nin0))
    refine g_aaload C (AryR.ary f_287) rfl (by decide) (i := 5) (by decide) (v := (.ref e_FIXED64)) rfl at_225 (pc' := 226) rfl ?_
    have f_288 := ((((((((((((((((((((f_127.keep K_129 (allS ge_a_2 all0)).ext E_154).keep K_179 (allS ge_a_152 all0)).keep K_183 (allS ge_a_152 all0)).keep K_187 (allS ge_a_152 all0)).keep K_191 (allS ge_a_152 all0)).keep K_195 (allS ge_a_152 all0)).keep K_199 (allS ge_a_152 all0)).keep K_203 (allS ge_a_152 all0)).keep K_207 (allS ge_a_152 all0)).keep K_211 (allS ge_a_152 all0)).keep K_215 (allS ge_a_152 all0)).keep K_219 (allS ge_a_152 all0)).keep K_223 (allS ge_a_152 all0)).keep K_227 (allS ge_a_152 all0)).keep K_231 (allS ge_a_152 all0)).keep K_235 (allS ge_a_152 all0)).keep K_239 (allS ge_a_152 all0)).keep K_243 (allS ge_a_152 all0)).keep K_247 (allS ge_a_152 all0))
    have f_289 := (Nat.le_trans (Nat.le_trans (Nat.le_trans (Nat.le_trans (Nat.le_trans (Nat.le_trans (Nat.le_trans (Nat.le_trans (Nat.le_trans (Nat.le_trans (Nat.le_trans (Nat.le_trans (Nat.le_trans (Nat.le_trans (Nat.le_trans (Nat.le_trans (Nat.le_trans (Nat.le_trans (Nat.le_trans f_175 E_154.1) K_179.1) K_183.1) K_187.1) K_191.1) K_195.1) K_199.1) K_203.1) K_207.1) K_211.1) K_215.1) K_219.1) K_223.1) K_227.1) K_231.1) K_235.1) K_239.1) K_243.1) K_247.1)
    have f_290 := (((((((((((((((((((f_138.ext E_154).keep K_179).keep K_183).keep K_187).keep K_191).keep K_195).keep K_199).keep K_203).keep K_207).keep K_211).keep K_215).keep K_219).keep K_223).keep K_227).keep K_231).keep K_235).keep K_239).keep K_243).keep K_247)
    refine g_virtual C (own_w hw 42 rfl) (own_w hw 43 rfl) (own_w hw 45 rfl) (own_w hw 44 rfl) (own_w hw 4 rfl) (own_w hw 46 rfl) (notFace_of_selects (args := #[]) (mvT C.2.2.2.2.1 (own_w hw 45 rfl))) (by decide) f_290 (rm_isMapKey_FIXED64 l Z a0 hw n0 e_DOUBLE e_FLOAT e_INT64 e_UINT64 e_INT32 e_FIXED64 e_FIXED32 e_BOOL e_STRING e_GROUP e_MESSAGE e_BYTES e_UINT32 e_ENUM e_SFIXED32 e_SFIXED64 e_SINT32 e_SINT64 h_246 f_289 en f_288) (st := []) [] rfl rfl own_pd_0_isMapKey rfl rfl (by decide) (W := 0) (Nat.le_of_eq rfl) (by decide) (by decide) (by decide) at_226 (pc' := 229) rfl ?_
    intro v_293 h_291 q_292
    obtain ⟨rfl, rfl⟩ := q_292
    show Go B n0 _ h_246 2 36 229 #[.val (.int p0), .val (.int (5 : Int32)), .val (.ref a_2), .val (.ref a_152)] [(.int (1 : Int32))]
    refine g_aload_n C at_229 (v := (.ref a_152)) rfl rfl (pc' := 230) rfl ?_
    refine g_iload_n C at_230 (v := (5 : Int32)) rfl (pc' := 231) rfl ?_
    refine g_baloadZ C f_249 (by decide) (i := 5) (by decide) (v := (1 : Int32)) rfl at_231 (pc' := 232) rfl ?_
    refine g_icmp_n C at_232 (Jvm.Free.XT.ii_ne_f (by decide)) (pc' := 235) rfl ?_
    refine g_iconst C at_235 (v := (1 : Int32)) rfl (pc' := 236) rfl ?_
    refine g_goto C at_236 (pc' := 240) (by decide) (by decide) ?_
    refine g_ret C (v := (.int (1 : Int32))) (ty := .boolean) rfl rfl (Or.inl ⟨rfl, Or.inr (Or.inl rfl), _, rfl⟩) at_240 (by decide) (by decide) ?_
    rfl
  · subst i_250e
    show Go B n0 _ h_246 2 36 223 #[.val (.int p0), .val (.int (6 : Int32)), .val (.ref a_2), .val (.ref a_152)] []
    refine g_aload_n C at_223 (v := (.ref a_2)) rfl rfl (pc' := 224) rfl ?_
    refine g_iload_n C at_224 (v := (6 : Int32)) rfl (pc' := 225) rfl ?_
    have f_294 := (((((((((((((((((((f_132.ext E_154).keep K_179 (ninS ne_156 nin0)).keep K_183 (ninS ne_156 nin0)).keep K_187 (ninS ne_156 nin0)).keep K_191 (ninS ne_156 nin0)).keep K_195 (ninS ne_156 nin0)).keep K_199 (ninS ne_156 nin0)).keep K_203 (ninS ne_156 nin0)).keep K_207 (ninS ne_156 nin0)).keep K_211 (ninS ne_156 nin0)).keep K_215 (ninS ne_156 nin0)).keep K_219 (ninS ne_156 nin0)).keep K_223 (ninS ne_156 nin0)).keep K_227 (ninS ne_156 nin0)).keep K_231 (ninS ne_156 nin0)).keep K_235 (ninS ne_156 nin0)).keep K_239 (ninS ne_156 nin0)).keep K_243 (ninS ne_156 nin0)).keep K_247 (ninS ne_156 nin0))
    refine g_aaload C (AryR.ary f_294) rfl (by decide) (i := 6) (by decide) (v := (.ref e_FIXED32)) rfl at_225 (pc' := 226) rfl ?_
    have f_295 := ((((((((((((((((((((f_127.keep K_129 (allS ge_a_2 all0)).ext E_154).keep K_179 (allS ge_a_152 all0)).keep K_183 (allS ge_a_152 all0)).keep K_187 (allS ge_a_152 all0)).keep K_191 (allS ge_a_152 all0)).keep K_195 (allS ge_a_152 all0)).keep K_199 (allS ge_a_152 all0)).keep K_203 (allS ge_a_152 all0)).keep K_207 (allS ge_a_152 all0)).keep K_211 (allS ge_a_152 all0)).keep K_215 (allS ge_a_152 all0)).keep K_219 (allS ge_a_152 all0)).keep K_223 (allS ge_a_152 all0)).keep K_227 (allS ge_a_152 all0)).keep K_231 (allS ge_a_152 all0)).keep K_235 (allS ge_a_152 all0)).keep K_239 (allS ge_a_152 all0)).keep K_243 (allS ge_a_152 all0)).keep K_247 (allS ge_a_152 all0))
    have f_296 := (Nat.le_trans (Nat.le_trans (Nat.le_trans (Nat.le_trans (Nat.le_trans (Nat.le_trans (Nat.le_trans (Nat.le_trans (Nat.le_trans (Nat.le_trans (Nat.le_trans (Nat.le_trans (Nat.le_trans (Nat.le_trans (Nat.le_trans (Nat.le_trans (Nat.le_trans (Nat.le_trans (Nat.le_trans f_175 E_154.1) K_179.1) K_183.1) K_187.1) K_191.1) K_195.1) K_199.1) K_203.1) K_207.1) K_211.1) K_215.1) K_219.1) K_223.1) K_227.1) K_231.1) K_235.1) K_239.1) K_243.1) K_247.1)
    have f_297 := (((((((((((((((((((f_137.ext E_154).keep K_179).keep K_183).keep K_187).keep K_191).keep K_195).keep K_199).keep K_203).keep K_207).keep K_211).keep K_215).keep K_219).keep K_223).keep K_227).keep K_231).keep K_235).keep K_239).keep K_243).keep K_247)
    refine g_virtual C (own_w hw 42 rfl) (own_w hw 43 rfl) (own_w hw 45 rfl) (own_w hw 44 rfl) (own_w hw 4 rfl) (own_w hw 46 rfl) (notFace_of_selects (args := #[]) (mvT C.2.2.2.2.1 (own_w hw 45 rfl))) (by decide) f_297 (rm_isMapKey_FIXED32 l Z a0 hw n0 e_DOUBLE e_FLOAT e_INT64 e_UINT64 e_INT32 e_FIXED64 e_FIXED32 e_BOOL e_STRING e_GROUP e_MESSAGE e_BYTES e_UINT32 e_ENUM e_SFIXED32 e_SFIXED64 e_SINT32 e_SINT64 h_246 f_296 en f_295) (st := []) [] rfl rfl own_pd_0_isMapKey rfl rfl (by decide) (W := 0) (Nat.le_of_eq rfl) (by decide) (by decide) (by decide) at_226 (pc' := 229) rfl ?_
    intro v_300 h_298 q_299
    obtain ⟨rfl, rfl⟩ := q_299
    show Go B n0 _ h_246 2 36 229 #[.val (.int p0), .val (.int (6 : Int32)), .val (.ref a_2), .val (.ref a_152)] [(.int (1 : Int32))]
    refine g_aload_n C at_229 (v := (.ref a_152)) rfl rfl (pc' := 230) rfl ?_
    refine g_iload_n C at_230 (v := (6 : Int32)) rfl (pc' := 231) rfl ?_
    refine g_baloadZ C f_249 (by decide) (i := 6) (by decide) (v := (1 : Int32)) rfl at_231 (pc' := 232) rfl ?_
    refine g_icmp_n C at_232 (Jvm.Free.XT.ii_ne_f (by decide)) (pc' := 235) rfl ?_
    refine g_iconst C at_235 (v := (1 : Int32)) rfl (pc' := 236) rfl ?_
    refine g_goto C at_236 (pc' := 240) (by decide) (by decide) ?_
    refine g_ret C (v := (.int (1 : Int32))) (ty := .boolean) rfl rfl (Or.inl ⟨rfl, Or.inr (Or.inl rfl), _, rfl⟩) at_240 (by decide) (by decide) ?_
    rfl
  · subst i_250e
    show Go B n0 _ h_246 2 36 223 #[.val (.int p0), .val (.int (7 : Int32)), .val (.ref a_2), .val (.ref a_152)] []
    refine g_aload_n C at_223 (v := (.ref a_2)) rfl rfl (pc' := 224) rfl ?_
    refine g_iload_n C at_224 (v := (7 : Int32)) rfl (pc' := 225) rfl ?_
    have f_301 := (((((((((((((((((((f_132.ext E_154).keep K_179 (ninS ne_156 nin0)).keep K_183 (ninS ne_156 nin0)).keep K_187 (ninS ne_156 nin0)).keep K_191 (ninS ne_156 nin0)).keep K_195 (ninS ne_156 nin0)).keep K_199 (ninS ne_156 nin0)).keep K_203 (ninS ne_156 nin0)).keep K_207 (ninS ne_156 nin0)).keep K_211 (ninS ne_156 nin0)).keep K_215 (ninS ne_156 nin0)).keep K_219 (ninS ne_156 nin0)).keep K_223 (ninS ne_156 nin0)).keep K_227 (ninS ne_156 nin0)).keep K_231 (ninS ne_156 nin0)).keep K_235 (ninS ne_156 nin0)).keep K_239 (ninS ne_156 nin0)).keep K_243 (ninS ne_156 nin0)).keep K_247 (ninS ne_156 nin0))
    refine g_aaload C (AryR.ary f_301) rfl (by decide) (i := 7) (by decide) (v := (.ref e_BOOL)) rfl at_225 (pc' := 226) rfl ?_
    have f_302 := ((((((((((((((((((((f_127.keep K_129 (allS ge_a_2 all0)).ext E_154).keep K_179 (allS ge_a_152 all0)).keep K_183 (allS ge_a_152 all0)).keep K_187 (allS ge_a_152 all0)).keep K_191 (allS ge_a_152 all0)).keep K_195 (allS ge_a_152 all0)).keep K_199 (allS ge_a_152 all0)).keep K_203 (allS ge_a_152 all0)).keep K_207 (allS ge_a_152 all0)).keep K_211 (allS ge_a_152 all0)).keep K_215 (allS ge_a_152 all0)).keep K_219 (allS ge_a_152 all0)).keep K_223 (allS ge_a_152 all0)).keep K_227 (allS ge_a_152 all0)).keep K_231 (allS ge_a_152 all0)).keep K_235 (allS ge_a_152 all0)).keep K_239 (allS ge_a_152 all0)).keep K_243 (allS ge_a_152 all0)).keep K_247 (allS ge_a_152 all0))
    have f_303 := (Nat.le_trans (Nat.le_trans (Nat.le_trans (Nat.le_trans (Nat.le_trans (Nat.le_trans (Nat.le_trans (Nat.le_trans (Nat.le_trans (Nat.le_trans (Nat.le_trans (Nat.le_trans (Nat.le_trans (Nat.le_trans (Nat.le_trans (Nat.le_trans (Nat.le_trans (Nat.le_trans (Nat.le_trans f_175 E_154.1) K_179.1) K_183.1) K_187.1) K_191.1) K_195.1) K_199.1) K_203.1) K_207.1) K_211.1) K_215.1) K_219.1) K_223.1) K_227.1) K_231.1) K_235.1) K_239.1) K_243.1) K_247.1)
    have f_304 := (((((((((((((((((((f_133.ext E_154).keep K_179).keep K_183).keep K_187).keep K_191).keep K_195).keep K_199).keep K_203).keep K_207).keep K_211).keep K_215).keep K_219).keep K_223).keep K_227).keep K_231).keep K_235).keep K_239).keep K_243).keep K_247)
    refine g_virtual C (own_w hw 42 rfl) (own_w hw 43 rfl) (own_w hw 45 rfl) (own_w hw 44 rfl) (own_w hw 4 rfl) (own_w hw 46 rfl) (notFace_of_selects (args := #[]) (mvT C.2.2.2.2.1 (own_w hw 45 rfl))) (by decide) f_304 (rm_isMapKey_BOOL l Z a0 hw n0 e_DOUBLE e_FLOAT e_INT64 e_UINT64 e_INT32 e_FIXED64 e_FIXED32 e_BOOL e_STRING e_GROUP e_MESSAGE e_BYTES e_UINT32 e_ENUM e_SFIXED32 e_SFIXED64 e_SINT32 e_SINT64 h_246 f_303 en f_302) (st := []) [] rfl rfl own_pd_0_isMapKey rfl rfl (by decide) (W := 0) (Nat.le_of_eq rfl) (by decide) (by decide) (by decide) at_226 (pc' := 229) rfl ?_
    intro v_307 h_305 q_306
    obtain ⟨rfl, rfl⟩ := q_306
    show Go B n0 _ h_246 2 36 229 #[.val (.int p0), .val (.int (7 : Int32)), .val (.ref a_2), .val (.ref a_152)] [(.int (1 : Int32))]
    refine g_aload_n C at_229 (v := (.ref a_152)) rfl rfl (pc' := 230) rfl ?_
    refine g_iload_n C at_230 (v := (7 : Int32)) rfl (pc' := 231) rfl ?_
    refine g_baloadZ C f_249 (by decide) (i := 7) (by decide) (v := (1 : Int32)) rfl at_231 (pc' := 232) rfl ?_
    refine g_icmp_n C at_232 (Jvm.Free.XT.ii_ne_f (by decide)) (pc' := 235) rfl ?_
    refine g_iconst C at_235 (v := (1 : Int32)) rfl (pc' := 236) rfl ?_
    refine g_goto C at_236 (pc' := 240) (by decide) (by decide) ?_
    refine g_ret C (v := (.int (1 : Int32))) (ty := .boolean) rfl rfl (Or.inl ⟨rfl, Or.inr (Or.inl rfl), _, rfl⟩) at_240 (by decide) (by decide) ?_
    rfl
  · subst i_250e
    show Go B n0 _ h_246 2 36 223 #[.val (.int p0), .val (.int (8 : Int32)), .val (.ref a_2), .val (.ref a_152)] []
    refine g_aload_n C at_223 (v := (.ref a_2)) rfl rfl (pc' := 224) rfl ?_
    refine g_iload_n C at_224 (v := (8 : Int32)) rfl (pc' := 225) rfl ?_
    have f_308 := (((((((((((((((((((f_132.ext E_154).keep K_179 (ninS ne_156 nin0)).keep K_183 (ninS ne_156 nin0)).keep K_187 (ninS ne_156 nin0)).keep K_191 (ninS ne_156 nin0)).keep K_195 (ninS ne_156 nin0)).keep K_199 (ninS ne_156 nin0)).keep K_203 (ninS ne_156 nin0)).keep K_207 (ninS ne_156 nin0)).keep K_211 (ninS ne_156 nin0)).keep K_215 (ninS ne_156 nin0)).keep K_219 (ninS ne_156 nin0)).keep K_223 (ninS ne_156 nin0)).keep K_227 (ninS ne_156 nin0)).keep K_231 (ninS ne_156 nin0)).keep K_235 (ninS ne_156 nin0)).keep K_239 (ninS ne_156 nin0)).keep K_243 (ninS ne_156 nin0)).keep K_247 (ninS ne_156 nin0))
    refine g_aaload C (AryR.ary f_308) rfl (by decide) (i := 8) (by decide) (v := (.ref e_STRING)) rfl at_225 (pc' := 226) rfl ?_
    have f_309 := ((((((((((((((((((((f_127.keep K_129 (allS ge_a_2 all0)).ext E_154).keep K_179 (allS ge_a_152 all0)).keep K_183 (allS ge_a_152 all0)).keep K_187 (allS ge_a_152 all0)).keep K_191 (allS ge_a_152 all0)).keep K_195 (allS ge_a_152 all0)).keep K_199 (allS ge_a_152 all0)).keep K_203 (allS ge_a_152 all0)).keep K_207 (allS ge_a_152 all0)).keep K_211 (allS ge_a_152 all0)).keep K_215 (allS ge_a_152 all0)).keep K_219 (allS ge_a_152 all0)).keep K_223 (allS ge_a_152 all0)).keep K_227 (allS ge_a_152 all0)).keep K_231 (allS ge_a_152 all0)).keep K_235 (allS ge_a_152 all0)).keep K_239 (allS ge_a_152 all0)).keep K_243 (allS ge_a_152 all0)).keep K_247 (allS ge_a_152 all0))
    have f_310 := (Nat.le_trans (Nat.le_trans (Nat.le_trans (Nat.le_trans (Nat.le_trans (Nat.le_trans (Nat.le_trans (Nat.le_trans (Nat.le_trans (Nat.le_trans (Nat.le_trans (Nat.le_trans (Nat.le_trans (Nat.le_trans (Nat.le_trans (Nat.le_trans (Nat.le_trans (Nat.le_trans (Nat.le_trans f_175 E_154.1) K_179.1) K_183.1) K_187.1) K_191.1) K_195.1) K_199.1) K_203.1) K_207.1) K_211.1) K_215.1) K_219.1) K_223.1) K_227.1) K_231.1) K_235.1) K_239.1) K_243.1) K_247.1)
    have f_311 := (((((((((((((((((((f_148.ext E_154).keep K_179).keep K_183).keep K_187).keep K_191).keep K_195).keep K_199).keep K_203).keep K_207).keep K_211).keep K_215).keep K_219).keep K_223).keep K_227).keep K_231).keep K_235).keep K_239).keep K_243).keep K_247)
    refine g_virtual C (own_w hw 42 rfl) (own_w hw 43 rfl) (own_w hw 45 rfl) (own_w hw 44 rfl) (own_w hw 4 rfl) (own_w hw 46 rfl) (notFace_of_selects (args := #[]) (mvT C.2.2.2.2.1 (own_w hw 45 rfl))) (by decide) f_311 (rm_isMapKey_STRING l Z a0 hw n0 e_DOUBLE e_FLOAT e_INT64 e_UINT64 e_INT32 e_FIXED64 e_FIXED32 e_BOOL e_STRING e_GROUP e_MESSAGE e_BYTES e_UINT32 e_ENUM e_SFIXED32 e_SFIXED64 e_SINT32 e_SINT64 h_246 f_310 en f_309) (st := []) [] rfl rfl own_pd_0_isMapKey rfl rfl (by decide) (W := 0) (Nat.le_of_eq rfl) (by decide) (by decide) (by decide) at_226 (pc' := 229) rfl ?_
    intro v_314 h_312 q_313
    obtain ⟨rfl, rfl⟩ := q_313
    show Go B n0 _ h_246 2 36 229 #[.val (.int p0), .val (.int (8 : Int32)), .val (.ref a_2), .val (.ref a_152)] [(.int (1 : Int32))]
    refine g_aload_n C at_229 (v := (.ref a_152)) rfl rfl (pc' := 230) rfl ?_
    refine g_iload_n C at_230 (v := (8 : Int32)) rfl (pc' := 231) rfl ?_
    refine g_baloadZ C f_249 (by decide) (i := 8) (by decide) (v := (1 : Int32)) rfl at_231 (pc' := 232) rfl ?_
    refine g_icmp_n C at_232 (Jvm.Free.XT.ii_ne_f (by decide)) (pc' := 235) rfl ?_
    refine g_iconst C at_235 (v := (1 : Int32)) rfl (pc' := 236) rfl ?_
    refine g_goto C at_236 (pc' := 240) (by decide) (by decide) ?_
    refine g_ret C (v := (.int (1 : Int32))) (ty := .boolean) rfl rfl (Or.inl ⟨rfl, Or.inr (Or.inl rfl), _, rfl⟩) at_240 (by decide) (by decide) ?_
    rfl
  · subst i_250e
    show Go B n0 _ h_246 2 36 223 #[.val (.int p0), .val (.int (9 : Int32)), .val (.ref a_2), .val (.ref a_152)] []
    refine g_aload_n C at_223 (v := (.ref a_2)) rfl rfl (pc' := 224) rfl ?_
    refine g_iload_n C at_224 (v := (9 : Int32)) rfl (pc' := 225) rfl ?_
    have f_315 := (((((((((((((((((((f_132.ext E_154).keep K_179 (ninS ne_156 nin0)).keep K_183 (ninS ne_156 nin0)).keep K_187 (ninS ne_156 nin0)).keep K_191 (ninS ne_156 nin0)).keep K_195 (ninS ne_156 nin0)).keep K_199 (ninS ne_156 nin0)).keep K_203 (ninS ne_156 nin0)).keep K_207 (ninS ne_156 nin0)).keep K_211 (ninS ne_156 nin0)).keep K_215 (ninS ne_156 nin0)).keep K_219 (ninS ne_156 nin0)).keep K_223 (ninS ne_156 nin0)).keep K_227 (ninS ne_156 nin0)).keep K_231 (ninS ne_156 nin0)).keep K_235 (ninS ne_156 nin0)).keep K_239 (ninS ne_156 nin0)).keep K_243 (ninS ne_156 nin0)).keep K_247 (ninS ne_156 nin0))
    refine g_aaload C (AryR.ary f_315) rfl (by decide) (i := 9) (by decide) (v := (.ref e_GROUP)) rfl at_225 (pc' := 226) rfl ?_
    have f_316 := ((((((((((((((((((((f_127.keep K_129 (allS ge_a_2 all0)).ext E_154).keep K_179 (allS ge_a_152 all0)).keep K_183 (allS ge_a_152 all0)).keep K_187 (allS ge_a_152 all0)).keep K_191 (allS ge_a_152 all0)).keep K_195 (allS ge_a_152 all0)).keep K_199 (allS ge_a_152 all0)).keep K_203 (allS ge_a_152 all0)).keep K_207 (allS ge_a_152 all0)).keep K_211 (allS ge_a_152 all0)).keep K_215 (allS ge_a_152 all0)).keep K_219 (allS ge_a_152 all0)).keep K_223 (allS ge_a_152 all0)).keep K_227 (allS ge_a_152 all0)).keep K_231 (allS ge_a_152 all0)).keep K_235 (allS ge_a_152 all0)).keep K_239 (allS ge_a_152 all0)).keep K_243 (allS ge_a_152 all0)).keep K_247 (allS ge_a_152 all0))
    have f_317 := (Nat.le_trans (Nat.le_trans (Nat.le_trans (Nat.le_trans (Nat.le_trans (Nat.le_trans (Nat.le_trans (Nat.le_trans (Nat.le_trans (Nat.le_trans (Nat.le_trans (Nat.le_trans (Nat.le_trans (Nat.le_trans (Nat.le_trans (Nat.le_trans (Nat.le_trans (Nat.le_trans (Nat.le_trans f_175 E_154.1) K_179.1) K_183.1) K_187.1) K_191.1) K_195.1) K_199.1) K_203.1) K_207.1) K_211.1) K_215.1) K_219.1) K_223.1) K_227.1) K_231.1) K_235.1) K_239.1) K_243.1) K_247.1)
    have f_318 := (((((((((((((((((((f_140.ext E_154).keep K_179).keep K_183).keep K_187).keep K_191).keep K_195).keep K_199).keep K_203).keep K_207).keep K_211).keep K_215).keep K_219).keep K_223).keep K_227).keep K_231).keep K_235).keep K_239).keep K_243).keep K_247)
    refine g_virtual C (own_w hw 42 rfl) (own_w hw 43 rfl) (own_w hw 45 rfl) (own_w hw 44 rfl) (own_w hw 4 rfl) (own_w hw 46 rfl) (notFace_of_selects (args := #[]) (mvT C.2.2.2.2.1 (own_w hw 45 rfl))) (by decide) f_318 (rm_isMapKey_GROUP l Z a0 hw n0 e_DOUBLE e_FLOAT e_INT64 e_UINT64 e_INT32 e_FIXED64 e_FIXED32 e_BOOL e_STRING e_GROUP e_MESSAGE e_BYTES e_UINT32 e_ENUM e_SFIXED32 e_SFIXED64 e_SINT32 e_SINT64 h_246 f_317 en f_316) (st := []) [] rfl rfl own_pd_0_isMapKey rfl rfl (by decide) (W := 0) (Nat.le_of_eq rfl) (by decide) (by decide) (by decide) at_226 (pc' := 229) rfl ?_
    intro v_321 h_319 q_320
    obtain ⟨rfl, rfl⟩ := q_320
    show Go B n0 _ h_246 2 36 229 #[.val (.int p0), .val (.int (9 : Int32)), .val (.ref a_2), .val (.ref a_152)] [(.int (0 : Int32))]
    refine g_aload_n C at_229 (v := (.ref a_152)) rfl rfl (pc' := 230) rfl ?_
    refine g_iload_n C at_230 (v := (9 : Int32)) rfl (pc' := 231) rfl ?_
    refine g_baloadZ C f_249 (by decide) (i := 9) (by decide) (v := (0 : Int32)) rfl at_231 (pc' := 232) rfl ?_
    refine g_icmp_n C at_232 (Jvm.Free.XT.ii_ne_f (by decide)) (pc' := 235) rfl ?_
    refine g_iconst C at_235 (v := (1 : Int32)) rfl (pc' := 236) rfl ?_
    refine g_goto C at_236 (pc' := 240) (by decide) (by decide) ?_
    refine g_ret C (v := (.int (1 : Int32))) (ty := .boolean) rfl rfl (Or.inl ⟨rfl, Or.inr (Or.inl rfl), _, rfl⟩) at_240 (by decide) (by decide) ?_
    rfl
  · subst i_250e
    show Go B n0 _ h_246 2 36 223 #[.val (.int p0), .val (.int (10 : Int32)), .val (.ref a_2), .val (.ref a_152)] []
    refine g_aload_n C at_223 (v := (.ref a_2)) rfl rfl (pc' := 224) rfl ?_
    refine g_iload_n C at_224 (v := (10 : Int32)) rfl (pc' := 225) rfl ?_
    have f_322 := (((((((((((((((((((f_132.ext E_154).keep K_179 (ninS ne_156 nin0)).keep K_183 (ninS ne_156 nin0)).keep K_187 (ninS ne_156 nin0)).keep K_191 (ninS ne_156 nin0)).keep K_195 (ninS ne_156 nin0)).keep K_199 (ninS ne_156 nin0)).keep K_203 (ninS ne_156 nin0)).keep K_207 (ninS ne_156 nin0)).keep K_211 (ninS ne_156 nin0)).keep K_215 (ninS ne_156 nin0)).keep K_219 (ninS ne_156 nin0)).keep K_223 (ninS ne_156 nin0)).keep K_227 (ninS ne_156 nin0)).keep K_231 (ninS ne_156 nin0)).keep K_235 (ninS ne_156 nin0)).keep K_239 (ninS ne_156 nin0)).keep K_243 (ninS ne_156 nin0)).keep K_247 (ninS ne_156 nin0))
    refine g_aaload C (AryR.ary f_322) rfl (by decide) (i := 10) (by decide) (v := (.ref e_MESSAGE)) rfl at_225 (pc' := 226) rfl ?_
    have f_323 := ((((((((((((((((((((f_127.keep K_129 (allS ge_a_2 all0)).ext E_154).keep K_179 (allS ge_a_152 all0)).keep K_183 (allS ge_a_152 all0)).keep K_187 (allS ge_a_152 all0)).keep K_191 (allS ge_a_152 all0)).keep K_195 (allS ge_a_152 all0)).keep K_199 (allS ge_a_152 all0)).keep K_203 (allS ge_a_152 all0)).keep K_207 (allS ge_a_152 all0)).keep K_211 (allS ge_a_152 all0)).keep K_215 (allS ge_a_152 all0)).keep K_219 (allS ge_a_152 all0)).keep K_223 (allS ge_a_152 all0)).keep K_227 (allS ge_a_152 all0)).keep K_231 (allS ge_a_152 all0)).keep K_235 (allS ge_a_152 all0)).keep K_239 (allS ge_a_152 all0)).keep K_243 (allS ge_a_152 all0)).keep K_247 (allS ge_a_152 all0))
    have f_324 := (Nat.le_trans (Nat.le_trans (Nat.le_trans (Nat.le_trans (Nat.le_trans (Nat.le_trans (Nat.le_trans (Nat.le_trans (Nat.le_trans (Nat.le_trans (Nat.le_trans (Nat.le_trans (Nat.le_trans (Nat.le_trans (Nat.le_trans (Nat.le_trans (Nat.le_trans (Nat.le_trans (Nat.le_trans f_175 E_154.1) K_179.1) K_183.1) K_187.1) K_191.1) K_195.1) K_199.1) K_203.1) K_207.1) K_211.1) K_215.1) K_219.1) K_223.1) K_227.1) K_231.1) K_235.1) K_239.1) K_243.1) K_247.1)
    have f_325 := (((((((((((((((((((f_143.ext E_154).keep K_179).keep K_183).keep K_187).keep K_191).keep K_195).keep K_199).keep K_203).keep K_207).keep K_211).keep K_215).keep K_219).keep K_223).keep K_227).keep K_231).keep K_235).keep K_239).keep K_243).keep K_247)
    refine g_virtual C (own_w hw 42 rfl) (own_w hw 43 rfl) (own_w hw 45 rfl) (own_w hw 44 rfl) (own_w hw 4 rfl) (own_w hw 46 rfl) (notFace_of_selects (args := #[]) (mvT C.2.2.2.2.1 (own_w hw 45 rfl))) (by decide) f_325 (rm_isMapKey_MESSAGE l Z a0 hw n0 e_DOUBLE e_FLOAT e_INT64 e_UINT64 e_INT32 e_FIXED64 e_FIXED32 e_BOOL e_STRING e_GROUP e_MESSAGE e_BYTES e_UINT32 e_ENUM e_SFIXED32 e_SFIXED64 e_SINT32 e_SINT64 h_246 f_324 en f_323) (st := []) [] rfl rfl own_pd_0_isMapKey rfl rfl (by decide) (W := 0) (Nat.le_of_eq rfl) (by decide) (by decide) (by decide) at_226 (pc' := 229) rfl ?_
    intro v_328 h_326 q_327
    obtain ⟨rfl, rfl⟩ := q_327
    show Go B n0 _ h_246 2 36 229 #[.val (.int p0), .val (.int (10 : Int32)), .val (.ref a_2), .val (.ref a_152)] [(.int (0 : Int32))]
    refine g_aload_n C at_229 (v := (.ref a_152)) rfl rfl (pc' := 230) rfl ?_
    refine g_iload_n C at_230 (v := (10 : Int32)) rfl (pc' := 231) rfl ?_
    refine g_baloadZ C f_249 (by decide) (i := 10) (by decide) (v := (0 : Int32)) rfl at_231 (pc' := 232) rfl ?_
    refine g_icmp_n C at_232 (Jvm.Free.XT.ii_ne_f (by decide)) (pc' := 235) rfl ?_
    refine g_iconst C at_235 (v := (1 : Int32)) rfl (pc' := 236) rfl ?_
    refine g_goto C at_236 (pc' := 240) (by decide) (by decide) ?_
    refine g_ret C (v := (.int (1 : Int32))) (ty := .boolean) rfl rfl (Or.inl ⟨rfl, Or.inr (Or.inl rfl), _, rfl⟩) at_240 (by decide) (by decide) ?_
    rfl
  · subst i_250e
    show Go B n0 _ h_246 2 36 223 #[.val (.int p0), .val (.int (11 : Int32)), .val (.ref a_2), .val (.ref a_152)] []
    refine g_aload_n C at_223 (v := (.ref a_2)) rfl rfl (pc' := 224) rfl ?_
    refine g_iload_n C at_224 (v := (11 : Int32)) rfl (pc' := 225) rfl ?_
    have f_329 := (((((((((((((((((((f_132.ext E_154).keep K_179 (ninS ne_156 nin0)).keep K_183 (ninS ne_156 nin0)).keep K_187 (ninS ne_156 nin0)).keep K_191 (ninS ne_156 nin0)).keep K_195 (ninS ne_156 nin0)).keep K_199 (ninS ne_156 nin0)).keep K_203 (ninS ne_156 nin0)).keep K_207 (ninS ne_156 nin0)).keep K_211 (ninS ne_156 nin0)).keep K_215 (ninS ne_156 nin0)).keep K_219 (ninS ne_156 nin0)).keep K_223 (ninS ne_156 nin0)).keep K_227 (ninS ne_156 nin0)).keep K_231 (ninS ne_156 nin0)).keep K_235 (ninS ne_156 nin0)).keep K_239 (ninS ne_156 nin0)).keep K_243 (ninS ne_156 nin0)).keep K_247 (ninS ne_156 nin0))
    refine g_aaload C (AryR.ary f_329) rfl (by decide) (i := 11) (by decide) (v := (.ref e_BYTES)) rfl at_225 (pc' := 226) rfl ?_
    have f_330 := ((((((((((((((((((((f_127.keep K_129 (allS ge_a_2 all0)).ext E_154).keep K_179 (allS ge_a_152 all0)).keep K_183 (allS ge_a_152 all0)).keep K_187 (allS ge_a_152 all0)).keep K_191 (allS ge_a_152 all0)).keep K_195 (allS ge_a_152 all0)).keep K_199 (allS ge_a_152 all0)).keep K_203 (allS ge_a_152 all0)).keep K_207 (allS ge_a_152 all0)).keep K_211 (allS ge_a_152 all0)).keep K_215 (allS ge_a_152 all0)).keep K_219 (allS ge_a_152 all0)).keep K_223 (allS ge_a_152 all0)).keep K_227 (allS ge_a_152 all0)).keep K_231 (allS ge_a_152 all0)).keep K_235 (allS ge_a_152 all0)).keep K_239 (allS ge_a_152 all0)).keep K_243 (allS ge_a_152 all0)).keep K_247 (allS ge_a_152 all0))
    have f_331 := (Nat.le_trans (Nat.le_trans (Nat.le_trans (Nat.le_trans (Nat.le_trans (Nat.le_trans (Nat.le_trans (Nat.le_trans (Nat.le_trans (Nat.le_trans (Nat.le_trans (Nat.le_trans (Nat.le_trans (Nat.le_trans (Nat.le_trans (Nat.le_trans (Nat.le_trans (Nat.le_trans (Nat.le_trans f_175 E_154.1) K_179.1) K_183.1) K_187.1) K_191.1) K_195.1) K_199.1) K_203.1) K_207.1) K_211.1) K_215.1) K_219.1) K_223.1) K_227.1) K_231.1) K_235.1) K_239.1) K_243.1) K_247.1)
    have f_332 := (((((((((((((((((((f_134.ext E_154).keep K_179).keep K_183).keep K_187).keep K_191).keep K_195).keep K_199).keep K_203).keep K_207).keep K_211).keep K_215).keep K_219).keep K_223).keep K_227).keep K_231).keep K_235).keep K_239).keep K_243).keep K_247)
    refine g_virtual C (own_w hw 42 rfl) (own_w hw 43 rfl) (own_w hw 45 rfl) (own_w hw 44 rfl) (own_w hw 4 rfl) (own_w hw 46 rfl) (notFace_of_selects (args := #[]) (mvT C.2.2.2.2.1 (own_w hw 45 rfl))) (by decide) f_332 (rm_isMapKey_BYTES l Z a0 hw n0 e_DOUBLE e_FLOAT e_INT64 e_UINT64 e_INT32 e_FIXED64 e_FIXED32 e_BOOL e_STRING e_GROUP e_MESSAGE e_BYTES e_UINT32 e_ENUM e_SFIXED32 e_SFIXED64 e_SINT32 e_SINT64 h_246 f_331 en f_330) (st := []) [] rfl rfl own_pd_0_isMapKey rfl rfl (by decide) (W := 0) (Nat.le_of_eq rfl) (by decide) (by decide) (by decide) at_226 (pc' := 229) rfl ?_
    intro v_335 h_333 q_334
    obtain ⟨rfl, rfl⟩ := q_334
    show Go B n0 _ h_246 2 36 229 #[.val (.int p0), .val (.int (11 : Int32)), .val (.ref a_2), .val (.ref a_152)] [(.int (0 : Int32))]
    refine g_aload_n C at_229 (v := (.ref a_152)) rfl rfl (pc' := 230) rfl ?_
    refine g_iload_n C at_230 (v := (11 : Int32)) rfl (pc' := 231) rfl ?_
    refine g_baloadZ C f_249 (by decide) (i := 11) (by decide) (v := (0 : Int32)) rfl at_231 (pc' := 232) rfl ?_
    refine g_icmp_n C at_232 (Jvm.Free.XT.ii_ne_f (by decide)) (pc' := 235) rfl ?_
    refine g_iconst C at_235 (v := (1 : Int32)) rfl (pc' := 236) rfl ?_
    refine g_goto C at_236 (pc' := 240) (by decide) (by decide) ?_
    refine g_ret C (v := (.int (1 : Int32))) (ty := .boolean) rfl rfl (Or.inl ⟨rfl, Or.inr (Or.inl rfl), _, rfl⟩) at_240 (by decide) (by decide) ?_
    rfl
  · subst i_250e
    show Go B n0 _ h_246 2 36 223 #[.val (.int p0), .val (.int (12 : Int32)), .val (.ref a_2), .val (.ref a_152)] []
    refine g_aload_n C at_223 (v := (.ref a_2)) rfl rfl (pc' := 224) rfl ?_
    refine g_iload_n C at_224 (v := (12 : Int32)) rfl (pc' := 225) rfl ?_
    have f_336 := (((((((((((((((((((f_132.ext E_154).keep K_179 (ninS ne_156 nin0)).keep K_183 (ninS ne_156 nin0)).keep K_187 (ninS ne_156 nin0)).keep K_191 (ninS ne_156 nin0)).keep K_195 (ninS ne_156 nin0)).keep K_199 (ninS ne_156 nin0)).keep K_203 (ninS ne_156 nin0)).keep K_207 (ninS ne_156 nin0)).keep K_211 (ninS ne_156 nin0)).keep K_215 (ninS ne_156 nin0)).keep K_219 (ninS ne_156 nin0)).keep K_223 (ninS ne_156 nin0)).keep K_227 (ninS ne_156 nin0)).keep K_231 (ninS ne_156 nin0)).keep K_235 (ninS ne_156 nin0)).keep K_239 (ninS ne_156 nin0)).keep K_243 (ninS ne_156 nin0)).keep K_247 (ninS ne_156 nin0))
    refine g_aaload C (AryR.ary f_336) rfl (by decide) (i := 12) (by decide) (v := (.ref e_UINT32)) rfl at_225 (pc' := 226) rfl ?_
    have f_337 := ((((((((((((((((((((f_127.keep K_129 (allS ge_a_2 all0)).ext E_154).keep K_179 (allS ge_a_152 all0)).keep K_183 (allS ge_a_152 all0)).keep K_187 (allS ge_a_152 all0)).keep K_191 (allS ge_a_152 all0)).keep K_195 (allS ge_a_152 all0)).keep K_199 (allS ge_a_152 all0)).keep K_203 (allS ge_a_152 all0)).keep K_207 (allS ge_a_152 all0)).keep K_211 (allS ge_a_152 all0)).keep K_215 (allS ge_a_152 all0)).keep K_219 (allS ge_a_152 all0)).keep K_223 (allS ge_a_152 all0)).keep K_227 (allS ge_a_152 all0)).keep K_231 (allS ge_a_152 all0)).keep K_235 (allS ge_a_152 all0)).keep K_239 (allS ge_a_152 all0)).keep K_243 (allS ge_a_152 all0)).keep K_247 (allS ge_a_152 all0))
    have f_338 := (Nat.le_trans (Nat.le_trans (Nat.le_trans (Nat.le_trans (Nat.le_trans (Nat.le_trans (Nat.le_trans (Nat.le_trans (Nat.le_trans (Nat.le_trans (Nat.le_trans (Nat.le_trans (Nat.le_trans (Nat.le_trans (Nat.le_trans (Nat.le_trans (Nat.le_trans (Nat.le_trans (Nat.le_trans f_175 E_154.1) K_179.1) K_183.1) K_187.1) K_191.1) K_195.1) K_199.1) K_203.1) K_207.1) K_211.1) K_215.1) K_219.1) K_223.1) K_227.1) K_231.1) K_235.1) K_239.1) K_243.1) K_247.1)
    have f_339 := (((((((((((((((((((f_149.ext E_154).keep K_179).keep K_183).keep K_187).keep K_191).keep K_195).keep K_199).keep K_203).keep K_207).keep K_211).keep K_215).keep K_219).keep K_223).keep K_227).keep K_231).keep K_235).keep K_239).keep K_243).keep K_247)
    refine g_virtual C (own_w hw 42 rfl) (own_w hw 43 rfl) (own_w hw 45 rfl) (own_w hw 44 rfl) (own_w hw 4 rfl) (own_w hw 46 rfl) (notFace_of_selects (args := #[]) (mvT C.2.2.2.2.1 (own_w hw 45 rfl))) (by decide) f_339 (rm_isMapKey_UINT32 l Z a0 hw n0 e_DOUBLE e_FLOAT e_INT64 e_UINT64 e_INT32 e_FIXED64 e_FIXED32 e_BOOL e_STRING e_GROUP e_MESSAGE e_BYTES e_UINT32 e_ENUM e_SFIXED32 e_SFIXED64 e_SINT32 e_SINT64 h_246 f_338 en f_337) (st := []) [] rfl rfl own_pd_0_isMapKey rfl rfl (by decide) (W := 0) (Nat.le_of_eq rfl) (by decide) (by decide) (by decide) at_226 (pc' := 229) rfl ?_
    intro v_342 h_340 q_341
    obtain ⟨rfl, rfl⟩ := q_341
    show Go B n0 _ h_246 2 36 229 #[.val (.int p0), .val (.int (12 : Int32)), .val (.ref a_2), .val (.ref a_152)] [(.int (1 : Int32))]
    refine g_aload_n C at_229 (v := (.ref a_152)) rfl rfl (pc' := 230) rfl ?_
    refine g_iload_n C at_230 (v := (12 : Int32)) rfl (pc' := 231) rfl ?_
    refine g_baloadZ C f_249 (by decide) (i := 12) (by decide) (v := (1 : Int32)) rfl at_231 (pc' := 232) rfl ?_
    refine g_icmp_n C at_232 (Jvm.Free.XT.ii_ne_f (by decide)) (pc' := 235) rfl ?_
    refine g_iconst C at_235 (v := (1 : Int32)) rfl (pc' := 236) rfl ?_
    refine g_goto C at_236 (pc' := 240) (by decide) (by decide) ?_
    refine g_ret C (v := (.int (1 : Int32))) (ty := .boolean) rfl rfl (Or.inl ⟨rfl, Or.inr (Or.inl rfl), _, rfl⟩) at_240 (by decide) (by decide) ?_
    rfl
  · subst i_250e
    show Go B n0 _ h_246 2 36 223 #[.val (.int p0), .val (.int (13 : Int32)), .val (.ref a_2), .val (.ref a_152)] []
    refine g_aload_n C at_223 (v := (.ref a_2)) rfl rfl (pc' := 224) rfl ?_
    refine g_iload_n C at_224 (v := (13 : Int32)) rfl (pc' := 225) rfl ?_
    have f_343 := (((((((((((((((((((f_132.ext E_154).keep K_179 (ninS ne_156 nin0)).keep K_183 (ninS ne_156 nin0)).keep K_187 (ninS ne_156 nin0)).keep K_191 (ninS ne_156 nin0)).keep K_195 (ninS ne_156 nin0)).keep K_199 (ninS ne_156 nin0)).keep K_203 (ninS ne_156 nin0)).keep K_207 (ninS ne_156 nin0)).keep K_211 (ninS ne_156 nin0)).keep K_215 (ninS ne_156 nin0)).keep K_219 (ninS ne_156 nin0)).keep K_223 (ninS ne_156 nin0)).keep K_227 (ninS ne_156 nin0)).keep K_231 (ninS ne_156 nin0)).keep K_235 (ninS ne_156 nin0)).keep K_239 (ninS ne_156 nin0)).keep K_243 (ninS ne_156 nin0)).keep K_247 (ninS ne_156 nin0))
    refine g_aaload C (AryR.ary f_343) rfl (by decide) (i := 13) (by decide) (v := (.ref e_ENUM)) rfl at_225 (pc' := 226) rfl ?_
    have f_344 := ((((((((((((((((((((f_127.keep K_129 (allS ge_a_2 all0)).ext E_154).keep K_179 (allS ge_a_152 all0)).keep K_183 (allS ge_a_152 all0)).keep K_187 (allS ge_a_152 all0)).keep K_191 (allS ge_a_152 all0)).keep K_195 (allS ge_a_152 all0)).keep K_199 (allS ge_a_152 all0)).keep K_203 (allS ge_a_152 all0)).keep K_207 (allS ge_a_152 all0)).keep K_211 (allS ge_a_152 all0)).keep K_215 (allS ge_a_152 all0)).keep K_219 (allS ge_a_152 all0)).keep K_223 (allS ge_a_152 all0)).keep K_227 (allS ge_a_152 all0)).keep K_231 (allS ge_a_152 all0)).keep K_235 (allS ge_a_152 all0)).keep K_239 (allS ge_a_152 all0)).keep K_243 (allS ge_a_152 all0)).keep K_247 (allS ge_a_152 all0))
    have f_345 := (Nat.le_trans (Nat.le_trans (Nat.le_trans (Nat.le_trans (Nat.le_trans (Nat.le_trans (Nat.le_trans (Nat.le_trans (Nat.le_trans (Nat.le_trans (Nat.le_trans (Nat.le_trans (Nat.le_trans (Nat.le_trans (Nat.le_trans (Nat.le_trans (Nat.le_trans (Nat.le_trans (Nat.le_trans f_175 E_154.1) K_179.1) K_183.1) K_187.1) K_191.1) K_195.1) K_199.1) K_203.1) K_207.1) K_211.1) K_215.1) K_219.1) K_223.1) K_227.1) K_231.1) K_235.1) K_239.1) K_243.1) K_247.1)
    have f_346 := (((((((((((((((((((f_136.ext E_154).keep K_179).keep K_183).keep K_187).keep K_191).keep K_195).keep K_199).keep K_203).keep K_207).keep K_211).keep K_215).keep K_219).keep K_223).keep K_227).keep K_231).keep K_235).keep K_239).keep K_243).keep K_247)
    refine g_virtual C (own_w hw 42 rfl) (own_w hw 43 rfl) (own_w hw 45 rfl) (own_w hw 44 rfl) (own_w hw 4 rfl) (own_w hw 46 rfl) (notFace_of_selects (args := #[]) (mvT C.2.2.2.2.1 (own_w hw 45 rfl))) (by decide) f_346 (rm_isMapKey_ENUM l Z a0 hw n0 e_DOUBLE e_FLOAT e_INT64 e_UINT64 e_INT32 e_FIXED64 e_FIXED32 e_BOOL e_STRING e_GROUP e_MESSAGE e_BYTES e_UINT32 e_ENUM e_SFIXED32 e_SFIXED64 e_SINT32 e_SINT64 h_246 f_345 en f_344) (st := []) [] rfl rfl own_pd_0_isMapKey rfl rfl (by decide) (W := 0) (Nat.le_of_eq rfl) (by decide) (by decide) (by decide) at_226 (pc' := 229) rfl ?_
    intro v_349 h_347 q_348
    obtain ⟨rfl, rfl⟩ := q_348
    show Go B n0 _ h_246 2 36 229 #[.val (.int p0), .val (.int (13 : Int32)), .val (.ref a_2), .val (.ref a_152)] [(.int (0 : Int32))]
    refine g_aload_n C at_229 (v := (.ref a_152)) rfl rfl (pc' := 230) rfl ?_
    refine g_iload_n C at_230 (v := (13 : Int32)) rfl (pc' := 231) rfl ?_
    refine g_baloadZ C f_249 (by decide) (i := 13) (by decide) (v := (0 : Int32)) rfl at_231 (pc' := 232) rfl ?_
    refine g_icmp_n C at_232 (Jvm.Free.XT.ii_ne_f (by decide)) (pc' := 235) rfl ?_
    refine g_iconst C at_235 (v := (1 : Int32)) rfl (pc' := 236) rfl ?_
    refine g_goto C at_236 (pc' := 240) (by decide) (by decide) ?_
    refine g_ret C (v := (.int (1 : Int32))) (ty := .boolean) rfl rfl (Or.inl ⟨rfl, Or.inr (Or.inl rfl), _, rfl⟩) at_240 (by decide) (by decide) ?_
    rfl
  · subst i_250e
    show Go B n0 _ h_246 2 36 223 #[.val (.int p0), .val (.int (14 : Int32)), .val (.ref a_2), .val (.ref a_152)] []
    refine g_aload_n C at_223 (v := (.ref a_2)) rfl rfl (pc' := 224) rfl ?_
    refine g_iload_n C at_224 (v := (14 : Int32)) rfl (pc' := 225) rfl ?_
    have f_350 := (((((((((((((((((((f_132.ext E_154).keep K_179 (ninS ne_156 nin0)).keep K_183 (ninS ne_156 nin0)).keep K_187 (ninS ne_156 nin0)).keep K_191 (ninS ne_156 nin0)).keep K_195 (ninS ne_156 nin0)).keep K_199 (ninS ne_156 nin0)).keep K_203 (ninS ne_156 nin0)).keep K_207 (ninS ne_156 nin0)).keep K_211 (ninS ne_156 nin0)).keep K_215 (ninS ne_156 nin0)).keep K_219 (ninS ne_156 nin0)).keep K_223 (ninS ne_156 nin0)).keep K_227 (ninS ne_156 nin0)).keep K_231 (ninS ne_156 nin0)).keep K_235 (ninS ne_156 nin0)).keep K_239 (ninS ne_156 nin0)).keep K_243 (ninS ne_156 nin0)).keep K_247 (ninS ne_156 nin0))
    refine g_aaload C (AryR.ary f_350) rfl (by decide) (i := 14) (by decide) (v := (.ref e_SFIXED32)) rfl at_225 (pc' := 226) rfl ?_
    have f_351 := ((((((((((((((((((((f_127.keep K_129 (allS ge_a_2 all0)).ext E_154).keep K_179 (allS ge_a_152 all0)).keep K_183 (allS ge_a_152 all0)).keep K_187 (allS ge_a_152 all0)).keep K_191 (allS ge_a_152 all0)).keep K_195 (allS ge_a_152 all0)).keep K_199 (allS ge_a_152 all0)).keep K_203 (allS ge_a_152 all0)).keep K_207 (allS ge_a_152 all0)).keep K_211 (allS ge_a_152 all0)).keep K_215 (allS ge_a_152 all0)).keep K_219 (allS ge_a_152 all0)).keep K_223 (allS ge_a_152 all0)).keep K_227 (allS ge_a_152 all0)).keep K_231 (allS ge_a_152 all0)).keep K_235 (allS ge_a_152 all0)).keep K_239 (allS ge_a_152 all0)).keep K_243 (allS ge_a_152 all0)).keep K_247 (allS ge_a_152 all0))
    have f_352 := (Nat.le_trans (Nat.le_trans (Nat.le_trans (Nat.le_trans (Nat.le_trans (Nat.le_trans (Nat.le_trans (Nat.le_trans (Nat.le_trans (Nat.le_trans (Nat.le_trans (Nat.le_trans (Nat.le_trans (Nat.le_trans (Nat.le_trans (Nat.le_trans (Nat.le_trans (Nat.le_trans (Nat.le_trans f_175 E_154.1) K_179.1) K_183.1) K_187.1) K_191.1) K_195.1) K_199.1) K_203.1) K_207.1) K_211.1) K_215.1) K_219.1) K_223.1) K_227.1) K_231.1) K_235.1) K_239.1) K_243.1) K_247.1)
    have f_353 := (((((((((((((((((((f_144.ext E_154).keep K_179).keep K_183).keep K_187).keep K_191).keep K_195).keep K_199).keep K_203).keep K_207).keep K_211).keep K_215).keep K_219).keep K_223).keep K_227).keep K_231).keep K_235).keep K_239).keep K_243).keep K_247)
    refine g_virtual C (own_w hw 42 rfl) (own_w hw 43 rfl) (own_w hw 45 rfl) (own_w hw 44 rfl) (own_w hw 4 rfl) (own_w hw 46 rfl) (notFace_of_selects (args := #[]) (mvT C.2.2.2.2.1 (own_w hw 45 rfl))) (by decide) f_353 (rm_isMapKey_SFIXED32 l Z a0 hw n0 e_DOUBLE e_FLOAT e_INT64 e_UINT64 e_INT32 e_FIXED64 e_FIXED32 e_BOOL e_STRING e_GROUP e_MESSAGE e_BYTES e_UINT32 e_ENUM e_SFIXED32 e_SFIXED64 e_SINT32 e_SINT64 h_246 f_352 en f_351) (st := []) [] rfl rfl own_pd_0_isMapKey rfl rfl (by decide) (W := 0) (Nat.le_of_eq rfl) (by decide) (by decide) (by decide) at_226 (pc' := 229) rfl ?_
    intro v_356 h_354 q_355
    obtain ⟨rfl, rfl⟩ := q_355
    show Go B n0 _ h_246 2 36 229 #[.val (.int p0), .val (.int (14 : Int32)), .val (.ref a_2), .val (.ref a_152)] [(.int (1 : Int32))]
    refine g_aload_n C at_229 (v := (.ref a_152)) rfl rfl (pc' := 230) rfl ?_
    refine g_iload_n C at_230 (v := (14 : Int32)) rfl (pc' := 231) rfl ?_
    refine g_baloadZ C f_249 (by decide) (i := 14) (by decide) (v := (1 : Int32)) rfl at_231 (pc' := 232) rfl ?_
    refine g_icmp_n C at_232 (Jvm.Free.XT.ii_ne_f (by decide)) (pc' := 235) rfl ?_
    refine g_iconst C at_235 (v := (1 : Int32)) rfl (pc' := 236) rfl ?_
    refine g_goto C at_236 (pc' := 240) (by decide) (by decide) ?_
    refine g_ret C (v := (.int (1 : Int32))) (ty := .boolean) rfl rfl (Or.inl ⟨rfl, Or.inr (Or.inl rfl), _, rfl⟩) at_240 (by decide) (by decide) ?_
    rfl
  · subst i_250e
    show Go B n0 _ h_246 2 36 223 #[.val (.int p0), .val (.int (15 : Int32)), .val (.ref a_2), .val (.ref a_152)] []
    refine g_aload_n C at_223 (v := (.ref a_2)) rfl rfl (pc' := 224) rfl ?_
    refine g_iload_n C at_224 (v := (15 : Int32)) rfl (pc' := 225) rfl ?_
    have f_357 := (((((((((((((((((((f_132.ext E_154).keep K_179 (ninS ne_156 nin0)).keep K_183 (ninS ne_156 nin0)).keep K_187 (ninS ne_156 nin0)).keep K_191 (ninS ne_156 nin0)).keep K_195 (ninS ne_156 nin0)).keep K_199 (ninS ne_156 nin0)).keep K_203 (ninS ne_156 nin0)).keep K_207 (ninS ne_156 nin0)).keep K_211 (ninS ne_156 nin0)).keep K_215 (ninS ne_156 nin0)).keep K_219 (ninS ne_156 nin0)).keep K_223 (ninS ne_156 nin0)).keep K_227 (ninS ne_156 nin0)).keep K_231 (ninS ne_156 nin0)).keep K_235 (ninS ne_156 nin0)).keep K_239 (ninS ne_156 nin0)).keep K_243 (ninS ne_156 nin0)).keep K_247 (ninS ne_156 nin0))
    refine g_aaload C (AryR.ary f_357) rfl (by decide) (i := 15) (by decide) (v := (.ref e_SFIXED64)) rfl at_225 (pc' := 226) rfl ?_
    have f_358 := ((((((((((((((((((((f_127.keep K_129 (allS ge_a_2 all0)).ext E_154).keep K_179 (allS ge_a_152 all0)).keep K_183 (allS ge_a_152 all0)).keep K_187 (allS ge_a_152 all0)).keep K_191 (allS ge_a_152 all0)).keep K_195 (allS ge_a_152 all0)).keep K_199 (allS ge_a_152 all0)).keep K_203 (allS ge_a_152 all0)).keep K_207 (allS ge_a_152 all0)).keep K_211 (allS ge_a_152 all0)).keep K_215 (allS ge_a_152 all0)).keep K_219 (allS ge_a_152 all0)).keep K_223 (allS ge_a_152 all0)).keep K_227 (allS ge_a_152 all0)).keep K_231 (allS ge_a_152 all0)).keep K_235 (allS ge_a_152 all0)).keep K_239 (allS ge_a_152 all0)).keep K_243 (allS ge_a_152 all0)).keep K_247 (allS ge_a_152 all0))
    have f_359 := (Nat.le_trans (Nat.le_trans (Nat.le_trans (Nat.le_trans (Nat.le_trans (Nat.le_trans (Nat.le_trans (Nat.le_trans (Nat.le_trans (Nat.le_trans (Nat.le_trans (Nat.le_trans (Nat.le_trans (Nat.le_trans (Nat.le_trans (Nat.le_trans (Nat.le_trans (Nat.le_trans (Nat.le_trans f_175 E_154.1) K_179.1) K_183.1) K_187.1) K_191.1) K_195.1) K_199.1) K_203.1) K_207.1) K_211.1) K_215.1) K_219.1) K_223.1) K_227.1) K_231.1) K_235.1) K_239.1) K_243.1) K_247.1)
    have f_360 := (((((((((((((((((((f_145.ext E_154).keep K_179).keep K_183).keep K_187).keep K_191).keep K_195).keep K_199).keep K_203).keep K_207).keep K_211).keep K_215).keep K_219).keep K_223).keep K_227).keep K_231).keep K_235).keep K_239).keep K_243).keep K_247)
    refine g_virtual C (own_w hw 42 rfl) (own_w hw 43 rfl) (own_w hw 45 rfl) (own_w hw 44 rfl) (own_w hw 4 rfl) (own_w hw 46 rfl) (notFace_of_selects (args := #[]) (mvT C.2.2.2.2.1 (own_w hw 45 rfl))) (by decide) f_360 (rm_isMapKey_SFIXED64 l Z a0 hw n0 e_DOUBLE e_FLOAT e_INT64 e_UINT64 e_INT32 e_FIXED64 e_FIXED32 e_BOOL e_STRING e_GROUP e_MESSAGE e_BYTES e_UINT32 e_ENUM e_SFIXED32 e_SFIXED64 e_SINT32 e_SINT64 h_246 f_359 en f_358) (st := []) [] rfl rfl own_pd_0_isMapKey rfl rfl (by decide) (W := 0) (Nat.le_of_eq rfl) (by decide) (by decide) (by decide) at_226 (pc' := 229) rfl ?_
    intro v_363 h_361 q_362
    obtain ⟨rfl, rfl⟩ := q_362
    show Go B n0 _ h_246 2 36 229 #[.val (.int p0), .val (.int (15 : Int32)), .val (.ref a_2), .val (.ref a_152)] [(.int (1 : Int32))]
    refine g_aload_n C at_229 (v := (.ref a_152)) rfl rfl (pc' := 230) rfl ?_
    refine g_iload_n C at_230 (v := (15 : Int32)) rfl (pc' := 231) rfl ?_
    refine g_baloadZ C f_249 (by decide) (i := 15) (by decide) (v := (1 : Int32)) rfl at_231 (pc' := 232) rfl ?_
    refine g_icmp_n C at_232 (Jvm.Free.XT.ii_ne_f (by decide)) (pc' := 235) rfl ?_
    refine g_iconst C at_235 (v := (1 : Int32)) rfl (pc' := 236) rfl ?_
    refine g_goto C at_236 (pc' := 240) (by decide) (by decide) ?_
    refine g_ret C (v := (.int (1 : Int32))) (ty := .boolean) rfl rfl (Or.inl ⟨rfl, Or.inr (Or.inl rfl), _, rfl⟩) at_240 (by decide) (by decide) ?_
    rfl
  · subst i_250e
    show Go B n0 _ h_246 2 36 223 #[.val (.int p0), .val (.int (16 : Int32)), .val (.ref a_2), .val (.ref a_152)] []
    refine g_aload_n C at_223 (v := (.ref a_2)) rfl rfl (pc' := 224) rfl ?_
    refine g_iload_n C at_224 (v := (16 : Int32)) rfl (pc' := 225) rfl ?_
    have f_364 := (((((((((((((((((((f_132.ext E_154).keep K_179 (ninS ne_156 nin0)).keep K_183 (ninS ne_156 nin0)).keep K_187 (ninS ne_156 nin0)).keep K_191 (ninS ne_156 nin0)).keep K_195 (ninS ne_156 nin0)).keep K_199 (ninS ne_156 nin0)).keep K_203 (ninS ne_156 nin0)).keep K_207 (ninS ne_156 nin0)).keep K_211 (ninS ne_156 nin0)).keep K_215 (ninS ne_156 nin0)).keep K_219 (ninS ne_156 nin0)).keep K_223 (ninS ne_156 nin0)).keep K_227 (ninS ne_156 nin0)).keep K_231 (ninS ne_156 nin0)).keep K_235 (ninS ne_156 nin0)).keep K_239 (ninS ne_156 nin0)).keep K_243 (ninS ne_156 nin0)).keep K_247 (ninS ne_156 nin0))
    refine g_aaload C (AryR.ary f_364) rfl (by decide) (i := 16) (by decide) (v := (.ref e_SINT32)) rfl at_225 (pc' := 226) rfl ?_
    have f_365 := ((((((((((((((((((((f_127.keep K_129 (allS ge_a_2 all0)).ext E_154).keep K_179 (allS ge_a_152 all0)).keep K_183 (allS ge_a_152 all0)).keep K_187 (allS ge_a_152 all0)).keep K_191 (allS ge_a_152 all0)).keep K_195 (allS ge_a_152 all0)).keep K_199 (allS ge_a_152 all0)).keep K_203 (allS ge_a_152 all0)).keep K_207 (allS ge_a_152 all0)).keep K_211 (allS ge_a_152 all0)).keep K_215 (allS ge_a_152 all0)).keep K_219 (allS ge_a_152 all0)).keep K_223 (allS ge_a_152 all0)).keep K_227 (allS ge_a_152 all0)).keep K_231 (allS ge_a_152 all0)).keep K_235 (allS ge_a_152 all0)).keep K_239 (allS ge_a_152 all0)).keep K_243 (allS ge_a_152 all0)).keep K_247 (allS ge_a_152 all0))
    have f_366 := (Nat.le_trans (Nat.le_trans (Nat.le_trans (Nat.le_trans (Nat.le_trans (Nat.le_trans (Nat.le_trans (Nat.le_trans (Nat.le_trans (Nat.le_trans (Nat.le_trans (Nat.le_trans (Nat.le_trans (Nat.le_trans (Nat.le_trans (Nat.le_trans (Nat.le_trans (Nat.le_trans (Nat.le_trans f_175 E_154.1) K_179.1) K_183.1) K_187.1) K_191.1) K_195.1) K_199.1) K_203.1) K_207.1) K_211.1) K_215.1) K_219.1) K_223.1) K_227.1) K_231.1) K_235.1) K_239.1) K_243.1) K_247.1)
    have f_367 := (((((((((((((((((((f_146.ext E_154).keep K_179).keep K_183).keep K_187).keep K_191).keep K_195).keep K_199).keep K_203).keep K_207).keep K_211).keep K_215).keep K_219).keep K_223).keep K_227).keep K_231).keep K_235).keep K_239).keep K_243).keep K_247)
    refine g_virtual C (own_w hw 42 rfl) (own_w hw 43 rfl) (own_w hw 45 rfl) (own_w hw 44 rfl) (own_w hw 4 rfl) (own_w hw 46 rfl) (notFace_of_selects (args := #[]) (mvT C.2.2.2.2.1 (own_w hw 45 rfl))) (by decide) f_367 (rm_isMapKey_SINT32 l Z a0 hw n0 e_DOUBLE e_FLOAT e_INT64 e_UINT64 e_INT32 e_FIXED64 e_FIXED32 e_BOOL e_STRING e_GROUP e_MESSAGE e_BYTES e_UINT32 e_ENUM e_SFIXED32 e_SFIXED64 e_SINT32 e_SINT64 h_246 f_366 en f_365) (st := []) [] rfl rfl own_pd_0_isMapKey rfl rfl (by decide) (W := 0) (Nat.le_of_eq rfl) (by decide) (by decide) (by decide) at_226 (pc' := 229) rfl ?_
    intro v_370 h_368 q_369
    obtain ⟨rfl, rfl⟩ := q_369
    show Go B n0 _ h_246 2 36 229 #[.val (.int p0), .val (.int (16 : Int32)), .val (.ref a_2), .val (.ref a_152)] [(.int (1 : Int32))]
    refine g_aload_n C at_229 (v := (.ref a_152)) rfl rfl (pc' := 230) rfl ?_
    refine g_iload_n C at_230 (v := (16 : Int32)) rfl (pc' := 231) rfl ?_
    refine g_baloadZ C f_249 (by decide) (i := 16) (by decide) (v := (1 : Int32)) rfl at_231 (pc' := 232) rfl ?_
    refine g_icmp_n C at_232 (Jvm.Free.XT.ii_ne_f (by decide)) (pc' := 235) rfl ?_
    refine g_iconst C at_235 (v := (1 : Int32)) rfl (pc' := 236) rfl ?_
    refine g_goto C at_236 (pc' := 240) (by decide) (by decide) ?_
    refine g_ret C (v := (.int (1 : Int32))) (ty := .boolean) rfl rfl (Or.inl ⟨rfl, Or.inr (Or.inl rfl), _, rfl⟩) at_240 (by decide) (by decide) ?_
    rfl
  · subst i_250e
    show Go B n0 _ h_246 2 36 223 #[.val (.int p0), .val (.int (17 : Int32)), .val (.ref a_2), .val (.ref a_152)] []
    refine g_aload_n C at_223 (v := (.ref a_2)) rfl rfl (pc' := 224) rfl ?_
    refine g_iload_n C at_224 (v := (17 : Int32)) rfl (pc' := 225) rfl ?_
    have f_371 := (((((((((((((((((((f_132.ext E_154).keep K_179 (ninS ne_156 nin0)).keep K_183 (ninS ne_156 nin0)).keep K_187 (ninS ne_156 nin0)).keep K_191 (ninS ne_156 nin0)).keep K_195 (ninS ne_156 nin0)).keep K_199 (ninS ne_156 nin0)).keep K_203 (ninS ne_156 nin0)).keep K_207 (ninS ne_156 nin0)).keep K_211 (ninS ne_156 nin0)).keep K_215 (ninS ne_156 nin0)).keep K_219 (ninS ne_156 nin0)).keep K_223 (ninS ne_156 nin0)).keep K_227 (ninS ne_156 nin0)).keep K_231 (ninS ne_156 nin0)).keep K_235 (ninS ne_156 nin0)).keep K_239 (ninS ne_156 nin0)).keep K_243 (ninS ne_156 nin0)).keep K_247 (ninS ne_156 nin0))
    refine g_aaload C (AryR.ary f_371) rfl (by decide) (i := 17) (by decide) (v := (.ref e_SINT64)) rfl at_225 (pc' := 226) rfl ?_
    have f_372 := ((((((((((((((((((((f_127.keep K_129 (allS ge_a_2 all0)).ext E_154).keep K_179 (allS ge_a_152 all0)).keep K_183 (allS ge_a_152 all0)).keep K_187 (allS ge_a_152 all0)).keep K_191 (allS ge_a_152 all0)).keep K_195 (allS ge_a_152 all0)).keep K_199 (allS ge_a_152 all0)).keep K_203 (allS ge_a_152 all0)).keep K_207 (allS ge_a_152 all0)).keep K_211 (allS ge_a_152 all0)).keep K_215 (allS ge_a_152 all0)).keep K_219 (allS ge_a_152 all0)).keep K_223 (allS ge_a_152 all0)).keep K_227 (allS ge_a_152 all0)).keep K_231 (allS ge_a_152 all0)).keep K_235 (allS ge_a_152 all0)).keep K_239 (allS ge_a_152 all0)).keep K_243 (allS ge_a_152 all0)).keep K_247 (allS ge_a_152 all0))
    have f_373 := (Nat.le_trans (Nat.le_trans (Nat.le_trans (Nat.le_trans (Nat.le_trans (Nat.le_trans (Nat.le_trans (Nat.le_trans (Nat.le_trans (Nat.le_trans (Nat.le_trans (Nat.le_trans (Nat.le_trans (Nat.le_trans (Nat.le_trans (Nat.le_trans (Nat.le_trans (Nat.le_trans (Nat.le_trans f_175 E_154.1) K_179.1) K_183.1) K_187.1) K_191.1) K_195.1) K_199.1) K_203.1) K_207.1) K_211.1) K_215.1) K_219.1) K_223.1) K_227.1) K_231.1) K_235.1) K_239.1) K_243.1) K_247.1)
    have f_374 := (((((((((((((((((((f_147.ext E_154).keep K_179).keep K_183).keep K_187).keep K_191).keep K_195).keep K_199).keep K_203).keep K_207).keep K_211).keep K_215).keep K_219).keep K_223).keep K_227).keep K_231).keep K_235).keep K_239).keep K_243).keep K_247)
    refine g_virtual C (own_w hw 42 rfl) (own_w hw 43 rfl) (own_w hw 45 rfl) (own_w hw 44 rfl) (own_w hw 4 rfl) (own_w hw 46 rfl) (notFace_of_selects (args := #[]) (mvT C.2.2.2.2.1 (own_w hw 45 rfl))) (by decide) f_374 (rm_isMapKey_SINT64 l Z a0 hw n0 e_DOUBLE e_FLOAT e_INT64 e_UINT64 e_INT32 e_FIXED64 e_FIXED32 e_BOOL e_STRING e_GROUP e_MESSAGE e_BYTES e_UINT32 e_ENUM e_SFIXED32 e_SFIXED64 e_SINT32 e_SINT64 h_246 f_373 en f_372) (st := []) [] rfl rfl own_pd_0_isMapKey rfl rfl (by decide) (W := 0) (Nat.le_of_eq rfl) (by decide) (by decide) (by decide) at_226 (pc' := 229) rfl ?_
    intro v_377 h_375 q_376
    obtain ⟨rfl, rfl⟩ := q_376
    show Go B n0 _ h_246 2 36 229 #[.val (.int p0), .val (.int (17 : Int32)), .val (.ref a_2), .val (.ref a_152)] [(.int (1 : Int32))]
    refine g_aload_n C at_229 (v := (.ref a_152)) rfl rfl (pc' := 230) rfl ?_
    refine g_iload_n C at_230 (v := (17 : Int32)) rfl (pc' := 231) rfl ?_
    refine g_baloadZ C f_249 (by decide) (i := 17) (by decide) (v := (1 : Int32)) rfl at_231 (pc' := 232) rfl ?_
    refine g_icmp_n C at_232 (Jvm.Free.XT.ii_ne_f (by decide)) (pc' := 235) rfl ?_
    refine g_iconst C at_235 (v := (1 : Int32)) rfl (pc' := 236) rfl ?_
    refine g_goto C at_236 (pc' := 240) (by decide) (by decide) ?_
    refine g_ret C (v := (.int (1 : Int32))) (ty := .boolean) rfl rfl (Or.inl ⟨rfl, Or.inr (Or.inl rfl), _, rfl⟩) at_240 (by decide) (by decide) ?_
    rfl
set_option maxRecDepth 65536 in
set_option maxHeartbeats 40000000 in
theorem comes_1 {Post : Tables → Env → Array Value → State → Outcome → State → Prop} (hpost : ∀ tb e args s v u, (limb_1_1.after args s (.returned v) u = true ∧ limb_1_2.after args s (.returned v) u = true ∧ True) → FrameEnd s (.returned v) u (Jvm.fieldLocs frame_1_writes args s ++ Jvm.arrayLocs frame_1_arrays args s ++ Jvm.staticLocs frame_1_statics s) 16 192 → Post tb e args s (.returned v) u) :
    ArmFor flags0 classFile x code maxLocals ret World_1 tables_1 room_1 Calls_1 rest_1 Pre_1 Post := by
  intro l hfl _ _ p e ha hc hk s m args below hf hA hF happ hP
  obtain ⟨hcalls, hrest, hpre⟩ := hP
  obtain ⟨-, -, -, hnamed, -, -, -, hat⟩ := (Spec.applies_iff hf).mp happ
  obtain ⟨hg, hn⟩ := and_e (Cond.before_iff.mp (show (Jvm.Cond.and given_1 narrow_1).before args s = true from hpre))
  obtain ⟨gc, gr0⟩ := and_e hg
  obtain ⟨w0, rfl⟩ : ∃ w0 : Value, args = #[w0] := by
    have hs : args.size = 1 := by simpa [Cond.value, given_1] using gc
    obtain ⟨L⟩ := args
    match L, hs with
    | [w0], _ => exact ⟨w0, rfl⟩
  have hw := fun d (hd : d ∈ tables_1) => atoms_spec (ws := Jvm.Cond.code x code maxLocals ret :: tables_1) hat d (List.mem_cons_of_mem _ hd)
  have hfit : Fit s := fun {y c} hc i hi => by
    obtain ⟨ha, rfl⟩ := Array.getElem?_eq_some_iff.mp hc
    have q := List.all_eq_true.mp ((Array.all_eq_true_iff_forall_mem.mp hF) _ (Array.getElem_mem ha)) i (List.mem_range.mpr hi)
    simpa [Array.getElem?_eq_getElem hi] using q
  obtain ⟨i0, ei0⟩ := is_v gr0
  obtain rfl : w0 = (.int i0) := Option.some.inj ei0
  obtain ⟨nq0, nr0⟩ := and_e hn
  obtain ⟨nq1, nr1⟩ := and_e nr0
  obtain ⟨nq2, nr2⟩ := and_e nr1
  obtain ⟨nq3, nr3⟩ := and_e nr2
  obtain ⟨nq4, nr4⟩ := and_e nr3
  obtain ⟨nq5, nr5⟩ := and_e nr4
  obtain ⟨nq6, nr6⟩ := and_e nr5
  obtain ⟨nq7, nr7⟩ := and_e nr6
  obtain ⟨nq8, nr8⟩ := and_e nr7
  obtain ⟨nq9, nr9⟩ := and_e nr8
  obtain ⟨nq10, nr10⟩ := and_e nr9
  obtain ⟨nq11, nr11⟩ := and_e nr10
  obtain ⟨nq12, nr12⟩ := and_e nr11
  obtain ⟨nq13, nr13⟩ := and_e nr12
  obtain ⟨nq14, nr14⟩ := and_e nr13
  obtain ⟨nq15, nr15⟩ := and_e nr14
  obtain ⟨nq16, nr16⟩ := and_e nr15
  obtain ⟨nq17, nr17⟩ := and_e nr16
  obtain ⟨nq18, nr18⟩ := and_e nr17
  obtain ⟨nq19, nr19⟩ := and_e nr18
  obtain ⟨nq20, nr20⟩ := and_e nr19
  obtain ⟨nq21, nr21⟩ := and_e nr20
  obtain ⟨nq22, nr22⟩ := and_e nr21
  obtain ⟨nq23, nr23⟩ := and_e nr22
  obtain ⟨nq24, nr24⟩ := and_e nr23
  obtain ⟨nq25, nr25⟩ := and_e nr24
  obtain ⟨nq26, nr26⟩ := and_e nr25
  obtain ⟨nq27, nr27⟩ := and_e nr26
  obtain ⟨nq28, nr28⟩ := and_e nr27
  obtain ⟨nq29, nr29⟩ := and_e nr28
  obtain ⟨nq30, nr30⟩ := and_e nr29
  obtain ⟨nq31, nr31⟩ := and_e nr30
  obtain ⟨nq32, nr32⟩ := and_e nr31
  obtain ⟨nq33, nr33⟩ := and_e nr32
  obtain ⟨nq34, nr34⟩ := and_e nr33
  obtain ⟨nq35, nr35⟩ := and_e nr34
  obtain ⟨nq36, nr36⟩ := and_e nr35
  obtain ⟨nq37, nr37⟩ := and_e nr36
  obtain ⟨nq38, nr38⟩ := and_e nr37
  obtain ⟨nq39, nr39⟩ := and_e nr38
  obtain ⟨nq40, nr40⟩ := and_e nr39
  obtain ⟨nq41, nr41⟩ := and_e nr40
  obtain ⟨nq42, nr42⟩ := and_e nr41
  obtain ⟨nq43, nr43⟩ := and_e nr42
  obtain ⟨nq44, nr44⟩ := and_e nr43
  obtain ⟨nq45, nr45⟩ := and_e nr44
  obtain ⟨nq46, nr46⟩ := and_e nr45
  obtain ⟨nq47, nr47⟩ := and_e nr46
  obtain ⟨nq48, nr48⟩ := and_e nr47
  obtain ⟨nq49, nr49⟩ := and_e nr48
  obtain ⟨e_DOUBLE, S_DOUBLE, X_DOUBLE, v_DOUBLE⟩ := own_const nq0 (own_w hw 4 rfl) (own_w hw 5 rfl)
  obtain ⟨e_FLOAT, S_FLOAT, X_FLOAT, v_FLOAT⟩ := own_const nq1 (own_w hw 4 rfl) (own_w hw 8 rfl)
  obtain ⟨e_INT64, S_INT64, X_INT64, v_INT64⟩ := own_const nq2 (own_w hw 4 rfl) (own_w hw 10 rfl)
  obtain ⟨e_UINT64, S_UINT64, X_UINT64, v_UINT64⟩ := own_const nq3 (own_w hw 4 rfl) (own_w hw 12 rfl)
  obtain ⟨e_INT32, S_INT32, X_INT32, v_INT32⟩ := own_const nq4 (own_w hw 4 rfl) (own_w hw 14 rfl)
  obtain ⟨e_FIXED64, S_FIXED64, X_FIXED64, v_FIXED64⟩ := own_const nq5 (own_w hw 4 rfl) (own_w hw 16 rfl)
  obtain ⟨e_FIXED32, S_FIXED32, X_FIXED32, v_FIXED32⟩ := own_const nq6 (own_w hw 4 rfl) (own_w hw 18 rfl)
  obtain ⟨e_BOOL, S_BOOL, X_BOOL, v_BOOL⟩ := own_const nq7 (own_w hw 4 rfl) (own_w hw 20 rfl)
  obtain ⟨e_STRING, S_STRING, X_STRING, v_STRING⟩ := own_const nq8 (own_w hw 4 rfl) (own_w hw 22 rfl)
  obtain ⟨e_GROUP, S_GROUP, X_GROUP, v_GROUP⟩ := own_const nq9 (own_w hw 4 rfl) (own_w hw 24 rfl)
  obtain ⟨e_MESSAGE, S_MESSAGE, X_MESSAGE, v_MESSAGE⟩ := own_const nq10 (own_w hw 4 rfl) (own_w hw 26 rfl)
  obtain ⟨e_BYTES, S_BYTES, X_BYTES, v_BYTES⟩ := own_const nq11 (own_w hw 4 rfl) (own_w hw 28 rfl)
  obtain ⟨e_UINT32, S_UINT32, X_UINT32, v_UINT32⟩ := own_const nq12 (own_w hw 4 rfl) (own_w hw 30 rfl)
  obtain ⟨e_ENUM, S_ENUM, X_ENUM, v_ENUM⟩ := own_const nq13 (own_w hw 4 rfl) (own_w hw 32 rfl)
  obtain ⟨e_SFIXED32, S_SFIXED32, X_SFIXED32, v_SFIXED32⟩ := own_const nq14 (own_w hw 4 rfl) (own_w hw 34 rfl)
  obtain ⟨e_SFIXED64, S_SFIXED64, X_SFIXED64, v_SFIXED64⟩ := own_const nq15 (own_w hw 4 rfl) (own_w hw 36 rfl)
  obtain ⟨e_SINT32, S_SINT32, X_SINT32, v_SINT32⟩ := own_const nq16 (own_w hw 4 rfl) (own_w hw 38 rfl)
  obtain ⟨e_SINT64, S_SINT64, X_SINT64, v_SINT64⟩ := own_const nq17 (own_w hw 4 rfl) (own_w hw 40 rfl)
  have en : Ens s e_DOUBLE e_FLOAT e_INT64 e_UINT64 e_INT32 e_FIXED64 e_FIXED32 e_BOOL e_STRING e_GROUP e_MESSAGE e_BYTES e_UINT32 e_ENUM e_SFIXED32 e_SFIXED64 e_SINT32 e_SINT64 := ⟨⟨S_DOUBLE, X_DOUBLE, own_fint v_DOUBLE nq21, own_fref v_DOUBLE nq18⟩, ⟨S_FLOAT, X_FLOAT, own_fint v_FLOAT nq22, own_fref v_FLOAT nq26⟩, ⟨S_INT64, X_INT64, own_fint v_INT64 nq25, own_fref v_INT64 nq24⟩, ⟨S_UINT64, X_UINT64, own_fint v_UINT64 nq20, own_fref v_UINT64 nq19⟩, ⟨S_INT32, X_INT32, own_fint v_INT32 nq31, own_fref v_INT32 nq30⟩, ⟨S_FIXED64, X_FIXED64, own_fint v_FIXED64 nq49, own_fref v_FIXED64 nq48⟩, ⟨S_FIXED32, X_FIXED32, own_fint v_FIXED32 nq43, own_fref v_FIXED32 nq42⟩, ⟨S_BOOL, X_BOOL, own_fint v_BOOL nq28, own_fref v_BOOL nq27⟩, ⟨S_STRING, X_STRING, own_fint v_STRING nq33, own_fref v_STRING nq32⟩, ⟨S_GROUP, X_GROUP, own_fnull v_GROUP nr49⟩, ⟨S_MESSAGE, X_MESSAGE, own_fnull v_MESSAGE nq40⟩, ⟨S_BYTES, X_BYTES, own_fint v_BYTES nq23, own_fref v_BYTES nq29⟩, ⟨S_UINT32, X_UINT32, own_fint v_UINT32 nq35, own_fref v_UINT32 nq34⟩, ⟨S_ENUM, X_ENUM, own_fnull v_ENUM nq41⟩, ⟨S_SFIXED32, X_SFIXED32, own_fint v_SFIXED32 nq47, own_fref v_SFIXED32 nq46⟩, ⟨S_SFIXED64, X_SFIXED64, own_fint v_SFIXED64 nq39, own_fref v_SFIXED64 nq38⟩, ⟨S_SINT32, X_SINT32, own_fint v_SINT32 nq37, own_fref v_SINT32 nq36⟩, ⟨S_SINT64, X_SINT64, own_fint v_SINT64 nq45, own_fref v_SINT64 nq44⟩⟩
  obtain ⟨n, o, h1, h2, h3, _, L, rfl, ⟨N, rfl⟩, hq⟩ := rm_law l s _ hw s.heap.size i0 e_DOUBLE e_FLOAT e_INT64 e_UINT64 e_INT32 e_FIXED64 e_FIXED32 e_BOOL e_STRING e_GROUP e_MESSAGE e_BYTES e_UINT32 e_ENUM e_SFIXED32 e_SFIXED64 e_SINT32 e_SINT64 s.heap (Nat.le_refl _) en (Old.start s) tables_1 p e ha hc hk s m _ below hf ((Spec.applies_iff_loose hf).mp happ).1 ⟨rfl, State.Warmed39.refl s, rfl⟩ trivial
  refine ⟨n, _, h1, h2, h3, hpost _ _ _ _ _ _ ⟨Cond.after_iff.mpr rfl, Cond.after_iff.mpr (eq_i res_at (Term.int_eval (1)) rfl), trivial⟩ ⟨hq.1, hq.2.1, (hq.2.2.sift fun y hy => Or.inr (N y hy)).mono (by decide) (by decide)⟩⟩
theorem main_1_1 : Claimed_1_1 := comes_1 fun _ _ _ _ _ _ h hF => ⟨h.1, hF⟩
theorem main_1_2 : Claimed_1_2 := comes_1 fun _ _ _ _ _ _ h hF => ⟨h.2.1, hF⟩
end Jvm.Pilot.@@N@@
namespace Jvm.Pilot.@@N@@
open Jvm Jvm.ClassFile Sem Op Lib Jvm.Free Jvm.Stand Jvm.Pilot.@@N@@.Jvm.D
/-! MADE BY PROGRAM (witnessworld.py) out of the Statement's table words and the real class files: 18 classes; the members and pool entries that the words name. The judged class is class 1, her method 1. -/
namespace start1
open Jvm.ClassFile
def u (s : String) : CpInfo := .utf8 (stringToUtf16 s)
/-- a pool by its gaps: so many unusable entries, then the entry; so many at the end -/
def gap : Nat → List CpInfo → List CpInfo
  | 0, r => r
  | n + 1, r => .unusable :: gap n r
def poolList (es : List (Nat × CpInfo)) (last : Nat) : List CpInfo := es.foldr (fun e r => gap e.1 (e.2 :: r)) (gap last [])
def pool (es : List (Nat × CpInfo)) (last : Nat) : Array CpInfo := ⟨poolList es last⟩
def fileOf (pool : Array CpInfo) (this : Nat) (attrs : Array Attribute := #[]) (ms : Array MethodInfo := #[]) (fl : Nat := 33) (sup : Nat := 0) (ifs : Array Nat := #[]) (fds : Array FieldInfo := #[]) : ClassFile where
  minorVersion := 0
  majorVersion := 65
  constantPool := pool
  accessFlags := fl
  thisClass := this
  superClass := sup
  interfaces := ifs
  fields := fds
  methods := ms
  attributes := attrs
def plain (name : String) (sup : Option ClassId) : Class where
  name := name
  kind := .ordinary
  loader := none
  accessFlags := 33
  super := sup
  interfaces := #[]
  cf := none
  fields := #[]
  methods := #[]
  instanceTypes := #[]
  staticTypes := #[]
  resolved := #[]
  callSites := []
  init := .initialized
  statics := none
  mirror := none

def pool0 : Array CpInfo := pool [(5, u "<init>"), (0, u "()V"), (1, .class_ 10), (1, u "java/lang/Object")] 113

def k0m0 : Method := { name := "<init>", desc := "()V", sig := { parameters := [], returnType := none }, accessFlags := 1, code := none }
/-- java/lang/Object -/
def k0 : Class := { plain "java/lang/Object" none with
  accessFlags := 33
  interfaces := #[]
  cf := some (fileOf pool0 8 #[] #[{ accessFlags := 1, nameIndex := 5, descriptorIndex := 6, attributes := #[] }] 33 0 #[] #[])
  fields := #[]
  methods := #[k0m0]
  instanceTypes := #[]
  staticTypes := #[]
  resolved := Array.replicate 124 none
  statics := none }

def pool1 : Array CpInfo := pool [(2, .class_ 4), (1, u "java/lang/Object"), (0, u "<init>"), (0, u "()V"), (0, .integer 2147483647), (0, .class_ 9), (0, u "com/example/wirefield/wirefield/FieldType"), (0, .fieldref 8 11), (0, .nameAndType 12 13), (0, u "DOUBLE"), (0, u "Lcom/example/wirefield/wirefield/FieldType;"), (0, .fieldref 8 15), (0, .nameAndType 16 13), (0, u "FLOAT"), (0, .fieldref 8 18), (0, .nameAndType 19 13), (0, u "INT64"), (0, .fieldref 8 21), (0, .nameAndType 22 13), (0, u "UINT64"), (0, .fieldref 8 24), (0, .nameAndType 25 13), (0, u "INT32"), (0, .fieldref 8 27), (0, .nameAndType 28 13), (0, u "FIXED64"), (0, .fieldref 8 30), (0, .nameAndType 31 13), (0, u "FIXED32"), (0, .fieldref 8 33), (0, .nameAndType 34 13), (0, u "BOOL"), (0, .fieldref 8 36), (0, .nameAndType 37 13), (0, u "STRING"), (0, .fieldref 8 39), (0, .nameAndType 40 13), (0, u "GROUP"), (0, .fieldref 8 42), (0, .nameAndType 43 13), (0, u "MESSAGE"), (0, .fieldref 8 45), (0, .nameAndType 46 13), (0, u "BYTES"), (0, .fieldref 8 48), (0, .nameAndType 49 13), (0, u "UINT32"), (0, .fieldref 8 51), (0, .nameAndType 52 13), (0, u "ENUM"), (0, .fieldref 8 54), (0, .nameAndType 55 13), (0, u "SFIXED32"), (0, .fieldref 8 57), (0, .nameAndType 58 13), (0, u "SFIXED64"), (0, .fieldref 8 60), (0, .nameAndType 61 13), (0, u "SINT32"), (0, .fieldref 8 63), (0, .nameAndType 64 13), (0, u "SINT64"), (0, .methodref 8 66), (0, .nameAndType 67 68), (0, u "isMapKey"), (0, u "()Z"), (0, .class_ 70), (0, u "com/example/wirefield/wirefield/FieldTypeIsMapKeyPinLaw"), (2, u "law"), (0, u "(I)Z")] 7

def k1m0 : Method := { name := "<init>", desc := "()V", sig := { parameters := [], returnType := none }, accessFlags := 2, code := none }
def k1c1 : Code := { maxStack := 4, maxLocals := 4, code := code, exceptionTable := #[], attributes := #[] }
def k1m1 : Method := { name := "law", desc := "(I)Z", sig := { parameters := [.int], returnType := some .boolean }, accessFlags := 9, code := some k1c1 }
/-- com/example/wirefield/wirefield/FieldTypeIsMapKeyPinLaw -/
def k1 : Class := { plain "com/example/wirefield/wirefield/FieldTypeIsMapKeyPinLaw" (some 0) with
  accessFlags := 49
  interfaces := #[]
  cf := some (fileOf pool1 69 #[] #[{ accessFlags := 2, nameIndex := 5, descriptorIndex := 6, attributes := #[] }, { accessFlags := 9, nameIndex := 73, descriptorIndex := 74, attributes := #[] }] 49 2 #[] #[])
  fields := #[]
  methods := #[k1m0, k1m1]
  instanceTypes := #[]
  staticTypes := #[]
  resolved := Array.replicate 82 none
  statics := none }

def pool2 : Array CpInfo := pool [(1, .class_ 2), (0, u "java/lang/constant/Constable"), (0, .class_ 4), (0, u "java/lang/Object")] 6

/-- java/lang/constant/Constable -/
def k2 : Class := { plain "java/lang/constant/Constable" (some 0) with
  accessFlags := 1537
  interfaces := #[]
  cf := some (fileOf pool2 1 #[] #[] 1537 3 #[] #[])
  fields := #[]
  methods := #[]
  instanceTypes := #[]
  staticTypes := #[]
  resolved := Array.replicate 11 none
  statics := none }

def pool3 : Array CpInfo := pool [(1, .class_ 2), (0, u "java/lang/Comparable"), (0, .class_ 4), (0, u "java/lang/Object")] 7

/-- java/lang/Comparable -/
def k3 : Class := { plain "java/lang/Comparable" (some 0) with
  accessFlags := 1537
  interfaces := #[]
  cf := some (fileOf pool3 1 #[] #[] 1537 3 #[] #[])
  fields := #[]
  methods := #[]
  instanceTypes := #[]
  staticTypes := #[]
  resolved := Array.replicate 12 none
  statics := none }

def pool4 : Array CpInfo := pool [(1, .class_ 2), (0, u "java/io/Serializable"), (0, .class_ 4), (0, u "java/lang/Object")] 2

/-- java/io/Serializable -/
def k4 : Class := { plain "java/io/Serializable" (some 0) with
  accessFlags := 1537
  interfaces := #[]
  cf := some (fileOf pool4 1 #[] #[] 1537 3 #[] #[])
  fields := #[]
  methods := #[]
  instanceTypes := #[]
  staticTypes := #[]
  resolved := Array.replicate 7 none
  statics := none }

def pool5 : Array CpInfo := pool [(2, .class_ 4), (1, u "java/lang/Enum"), (0, u "name"), (0, u "Ljava/lang/String;"), (2, u "ordinal"), (0, u "I"), (1, .class_ 14), (1, u "java/lang/Object"), (4, u "hash"), (86, .class_ 108), (1, u "java/lang/Enum$EnumDesc"), (2, .class_ 112), (0, u "java/lang/constant/Constable"), (0, .class_ 114), (0, u "java/lang/Comparable"), (0, .class_ 116), (0, u "java/io/Serializable")] 87

/-- java/lang/Enum -/
def k5 : Class := { plain "java/lang/Enum" (some 0) with
  accessFlags := 1057
  interfaces := #[2, 3, 4]
  cf := some (fileOf pool5 2 #[.nestMembers #[106]] #[] 1057 12 #[111, 113, 115] #[{ accessFlags := 18, nameIndex := 5, descriptorIndex := 6, attributes := #[] }, { accessFlags := 18, nameIndex := 9, descriptorIndex := 10, attributes := #[] }, { accessFlags := 2, nameIndex := 19, descriptorIndex := 10, attributes := #[] }])
  fields := #[{ name := "name", type := (.object "java/lang/String"), accessFlags := 18, slot := 0, constantValue := 0 }, { name := "ordinal", type := .int, accessFlags := 18, slot := 1, constantValue := 0 }, { name := "hash", type := .int, accessFlags := 2, slot := 2, constantValue := 0 }]
  methods := #[]
  instanceTypes := #[(.object "java/lang/String"), .int, .int]
  staticTypes := #[]
  resolved := Array.replicate 204 none
  statics := none }

def pool6 : Array CpInfo := pool [(1, .class_ 2), (0, u "com/example/wirefield/wirefield/FieldType"), (0, .fieldref 1 4), (0, .nameAndType 5 6), (0, u "DOUBLE"), (0, u "Lcom/example/wirefield/wirefield/FieldType;"), (0, .fieldref 1 8), (0, .nameAndType 9 6), (0, u "FLOAT"), (2, u "INT64"), (2, u "UINT64"), (2, u "INT32"), (2, u "FIXED64"), (2, u "FIXED32"), (2, u "BOOL"), (2, u "STRING"), (2, u "GROUP"), (2, u "MESSAGE"), (0, .fieldref 1 38), (0, .nameAndType 39 6), (0, u "BYTES"), (2, u "UINT32"), (2, u "ENUM"), (2, u "SFIXED32"), (2, u "SFIXED64"), (2, u "SINT32"), (2, u "SINT64"), (2, u "$VALUES"), (0, u "[Lcom/example/wirefield/wirefield/FieldType;"), (6, .class_ 70), (1, u "java/lang/Enum"), (8, u "number"), (0, u "I"), (0, .fieldref 1 82), (0, .nameAndType 83 84), (0, u "keyword"), (0, u "Ljava/lang/String;"), (2, u "wireType"), (22, u "Ljava/math/BigInteger;"), (10, u "UINT32_MAX"), (2, u "UINT64_MAX"), (16, u "SCALARS_BY_KEYWORD"), (0, u "Ljava/util/Map;"), (119, u "()Z"), (5, u "isMapKey")] 43

def k6c0 : Code := { maxStack := 2, maxLocals := 1, code := prog_13_method_12_code, exceptionTable := #[], attributes := #[] }
def k6m0 : Method := { name := "isMapKey", desc := "()Z", sig := { parameters := [], returnType := some .boolean }, accessFlags := 0, code := some k6c0 }
/-- com/example/wirefield/wirefield/FieldType -/
def k6 : Class := { plain "com/example/wirefield/wirefield/FieldType" (some 5) with
  accessFlags := 16432
  interfaces := #[]
  cf := some (fileOf pool6 1 #[] #[{ accessFlags := 0, nameIndex := 268, descriptorIndex := 262, attributes := #[] }] 16432 68 #[] #[{ accessFlags := 16409, nameIndex := 5, descriptorIndex := 6, attributes := #[] }, { accessFlags := 16409, nameIndex := 9, descriptorIndex := 6, attributes := #[] }, { accessFlags := 16409, nameIndex := 12, descriptorIndex := 6, attributes := #[] }, { accessFlags := 16409, nameIndex := 15, descriptorIndex := 6, attributes := #[] }, { accessFlags := 16409, nameIndex := 18, descriptorIndex := 6, attributes := #[] }, { accessFlags := 16409, nameIndex := 21, descriptorIndex := 6, attributes := #[] }, { accessFlags := 16409, nameIndex := 24, descriptorIndex := 6, attributes := #[] }, { accessFlags := 16409, nameIndex := 27, descriptorIndex := 6, attributes := #[] }, { accessFlags := 16409, nameIndex := 30, descriptorIndex := 6, attributes := #[] }, { accessFlags := 16409, nameIndex := 33, descriptorIndex := 6, attributes := #[] }, { accessFlags := 16409, nameIndex := 36, descriptorIndex := 6, attributes := #[] }, { accessFlags := 16409, nameIndex := 39, descriptorIndex := 6, attributes := #[] }, { accessFlags := 16409, nameIndex := 42, descriptorIndex := 6, attributes := #[] }, { accessFlags := 16409, nameIndex := 45, descriptorIndex := 6, attributes := #[] }, { accessFlags := 16409, nameIndex := 48, descriptorIndex := 6, attributes := #[] }, { accessFlags := 16409, nameIndex := 51, descriptorIndex := 6, attributes := #[] }, { accessFlags := 16409, nameIndex := 54, descriptorIndex := 6, attributes := #[] }, { accessFlags := 16409, nameIndex := 57, descriptorIndex := 6, attributes := #[] }, { accessFlags := 26, nameIndex := 121, descriptorIndex := 110, attributes := #[] }, { accessFlags := 26, nameIndex := 124, descriptorIndex := 110, attributes := #[] }, { accessFlags := 26, nameIndex := 141, descriptorIndex := 142, attributes := #[] }, { accessFlags := 18, nameIndex := 79, descriptorIndex := 80, attributes := #[] }, { accessFlags := 18, nameIndex := 83, descriptorIndex := 84, attributes := #[] }, { accessFlags := 18, nameIndex := 87, descriptorIndex := 80, attributes := #[] }, { accessFlags := 4122, nameIndex := 60, descriptorIndex := 61, attributes := #[] }])
  fields := #[{ name := "DOUBLE", type := (.object "com/example/wirefield/wirefield/FieldType"), accessFlags := 16409, slot := 0, constantValue := 0 }, { name := "FLOAT", type := (.object "com/example/wirefield/wirefield/FieldType"), accessFlags := 16409, slot := 1, constantValue := 0 }, { name := "INT64", type := (.object "com/example/wirefield/wirefield/FieldType"), accessFlags := 16409, slot := 2, constantValue := 0 }, { name := "UINT64", type := (.object "com/example/wirefield/wirefield/FieldType"), accessFlags := 16409, slot := 3, constantValue := 0 }, { name := "INT32", type := (.object "com/example/wirefield/wirefield/FieldType"), accessFlags := 16409, slot := 4, constantValue := 0 }, { name := "FIXED64", type := (.object "com/example/wirefield/wirefield/FieldType"), accessFlags := 16409, slot := 5, constantValue := 0 }, { name := "FIXED32", type := (.object "com/example/wirefield/wirefield/FieldType"), accessFlags := 16409, slot := 6, constantValue := 0 }, { name := "BOOL", type := (.object "com/example/wirefield/wirefield/FieldType"), accessFlags := 16409, slot := 7, constantValue := 0 }, { name := "STRING", type := (.object "com/example/wirefield/wirefield/FieldType"), accessFlags := 16409, slot := 8, constantValue := 0 }, { name := "GROUP", type := (.object "com/example/wirefield/wirefield/FieldType"), accessFlags := 16409, slot := 9, constantValue := 0 }, { name := "MESSAGE", type := (.object "com/example/wirefield/wirefield/FieldType"), accessFlags := 16409, slot := 10, constantValue := 0 }, { name := "BYTES", type := (.object "com/example/wirefield/wirefield/FieldType"), accessFlags := 16409, slot := 11, constantValue := 0 }, { name := "UINT32", type := (.object "com/example/wirefield/wirefield/FieldType"), accessFlags := 16409, slot := 12, constantValue := 0 }, { name := "ENUM", type := (.object "com/example/wirefield/wirefield/FieldType"), accessFlags := 16409, slot := 13, constantValue := 0 }, { name := "SFIXED32", type := (.object "com/example/wirefield/wirefield/FieldType"), accessFlags := 16409, slot := 14, constantValue := 0 }, { name := "SFIXED64", type := (.object "com/example/wirefield/wirefield/FieldType"), accessFlags := 16409, slot := 15, constantValue := 0 }, { name := "SINT32", type := (.object "com/example/wirefield/wirefield/FieldType"), accessFlags := 16409, slot := 16, constantValue := 0 }, { name := "SINT64", type := (.object "com/example/wirefield/wirefield/FieldType"), accessFlags := 16409, slot := 17, constantValue := 0 }, { name := "UINT32_MAX", type := (.object "java/math/BigInteger"), accessFlags := 26, slot := 18, constantValue := 0 }, { name := "UINT64_MAX", type := (.object "java/math/BigInteger"), accessFlags := 26, slot := 19, constantValue := 0 }, { name := "SCALARS_BY_KEYWORD", type := (.object "java/util/Map"), accessFlags := 26, slot := 20, constantValue := 0 }, { name := "number", type := .int, accessFlags := 18, slot := 3, constantValue := 0 }, { name := "keyword", type := (.object "java/lang/String"), accessFlags := 18, slot := 4, constantValue := 0 }, { name := "wireType", type := .int, accessFlags := 18, slot := 5, constantValue := 0 }, { name := "$VALUES", type := (.array (.object "com/example/wirefield/wirefield/FieldType")), accessFlags := 4122, slot := 21, constantValue := 0 }]
  methods := #[k6m0]
  instanceTypes := #[(.object "java/lang/String"), .int, .int, .int, (.object "java/lang/String"), .int]
  staticTypes := #[(.object "com/example/wirefield/wirefield/FieldType"), (.object "com/example/wirefield/wirefield/FieldType"), (.object "com/example/wirefield/wirefield/FieldType"), (.object "com/example/wirefield/wirefield/FieldType"), (.object "com/example/wirefield/wirefield/FieldType"), (.object "com/example/wirefield/wirefield/FieldType"), (.object "com/example/wirefield/wirefield/FieldType"), (.object "com/example/wirefield/wirefield/FieldType"), (.object "com/example/wirefield/wirefield/FieldType"), (.object "com/example/wirefield/wirefield/FieldType"), (.object "com/example/wirefield/wirefield/FieldType"), (.object "com/example/wirefield/wirefield/FieldType"), (.object "com/example/wirefield/wirefield/FieldType"), (.object "com/example/wirefield/wirefield/FieldType"), (.object "com/example/wirefield/wirefield/FieldType"), (.object "com/example/wirefield/wirefield/FieldType"), (.object "com/example/wirefield/wirefield/FieldType"), (.object "com/example/wirefield/wirefield/FieldType"), (.object "java/math/BigInteger"), (.object "java/math/BigInteger"), (.object "java/util/Map"), (.array (.object "com/example/wirefield/wirefield/FieldType"))]
  resolved := Array.replicate 312 none
  statics := some 0 }

def pool7 : Array CpInfo := pool [(2, .class_ 4), (1, u "java/lang/CharSequence"), (42, .class_ 48), (0, u "java/lang/CharSequence$1CodePointIterator"), (10, .class_ 60), (0, u "java/lang/CharSequence$1CharIterator"), (5, .class_ 67), (0, u "java/lang/Object")] 63

/-- java/lang/CharSequence -/
def k7 : Class := { plain "java/lang/CharSequence" (some 0) with
  accessFlags := 1537
  interfaces := #[]
  cf := some (fileOf pool7 2 #[.nestMembers #[47, 59]] #[] 1537 66 #[] #[])
  fields := #[]
  methods := #[]
  instanceTypes := #[]
  staticTypes := #[]
  resolved := Array.replicate 131 none
  statics := none }

def pool8 : Array CpInfo := pool [(1, .class_ 2), (0, u "java/lang/constant/ConstantDesc"), (0, .class_ 4), (0, u "java/lang/Object")] 32

/-- java/lang/constant/ConstantDesc -/
def k8 : Class := { plain "java/lang/constant/ConstantDesc" (some 0) with
  accessFlags := 1537
  interfaces := #[]
  cf := some (fileOf pool8 1 #[] #[] 1537 3 #[] #[])
  fields := #[]
  methods := #[]
  instanceTypes := #[]
  staticTypes := #[]
  resolved := Array.replicate 37 none
  statics := none }

def pool9 : Array CpInfo := pool [(2, .class_ 4), (1, u "java/lang/Object"), (0, u "<init>"), (0, u "()V"), (3, .class_ 12), (1, u "java/lang/String"), (0, u "value"), (0, u "[B"), (2, u "coder"), (0, u "B"), (2, u "hash"), (0, u "I"), (2, u "hashIsZero"), (0, u "Z"), (13, u "COMPACT_STRINGS"), (534, .class_ 576), (0, u "java/lang/CharSequence"), (22, u "CASE_INSENSITIVE_ORDER"), (0, u "Ljava/util/Comparator;"), (500, u "serialPersistentFields"), (0, u "[Ljava/io/ObjectStreamField;"), (0, .class_ 1104), (0, u "java/lang/String$CaseInsensitiveComparator"), (1, .class_ 1107), (0, u "java/io/Serializable"), (0, .class_ 1109), (0, u "java/lang/Comparable"), (0, .class_ 1111), (0, u "java/lang/constant/Constable"), (0, .class_ 1113), (0, u "java/lang/constant/ConstantDesc"), (2, u "serialVersionUID"), (0, u "J"), (3, u "REPL"), (0, u "C"), (2, u "LATIN1"), (1, u "UTF16")] 323

def k9m0 : Method := { name := "<init>", desc := "()V", sig := { parameters := [], returnType := none }, accessFlags := 1, code := none }
/-- java/lang/String -/
def k9 : Class := { plain "java/lang/String" (some 0) with
  accessFlags := 49
  interfaces := #[4, 3, 7, 2, 8]
  cf := some (fileOf pool9 10 #[.nestMembers #[1103]] #[{ accessFlags := 1, nameIndex := 5, descriptorIndex := 6, attributes := #[] }] 49 2 #[1106, 1108, 575, 1110, 1112] #[{ accessFlags := 18, nameIndex := 13, descriptorIndex := 14, attributes := #[] }, { accessFlags := 18, nameIndex := 17, descriptorIndex := 18, attributes := #[] }, { accessFlags := 2, nameIndex := 21, descriptorIndex := 22, attributes := #[] }, { accessFlags := 2, nameIndex := 25, descriptorIndex := 26, attributes := #[] }, { accessFlags := 26, nameIndex := 1116, descriptorIndex := 1117, attributes := #[] }, { accessFlags := 24, nameIndex := 40, descriptorIndex := 26, attributes := #[] }, { accessFlags := 26, nameIndex := 1101, descriptorIndex := 1102, attributes := #[] }, { accessFlags := 26, nameIndex := 1121, descriptorIndex := 1122, attributes := #[] }, { accessFlags := 25, nameIndex := 599, descriptorIndex := 600, attributes := #[] }, { accessFlags := 24, nameIndex := 1125, descriptorIndex := 18, attributes := #[] }, { accessFlags := 24, nameIndex := 1127, descriptorIndex := 18, attributes := #[] }])
  fields := #[{ name := "value", type := (.array .byte), accessFlags := 18, slot := 0, constantValue := 0 }, { name := "coder", type := .byte, accessFlags := 18, slot := 1, constantValue := 0 }, { name := "hash", type := .int, accessFlags := 2, slot := 2, constantValue := 0 }, { name := "hashIsZero", type := .boolean, accessFlags := 2, slot := 3, constantValue := 0 }, { name := "serialVersionUID", type := .long, accessFlags := 26, slot := 0, constantValue := 0 }, { name := "COMPACT_STRINGS", type := .boolean, accessFlags := 24, slot := 1, constantValue := 0 }, { name := "serialPersistentFields", type := (.array (.object "java/io/ObjectStreamField")), accessFlags := 26, slot := 2, constantValue := 0 }, { name := "REPL", type := .char, accessFlags := 26, slot := 3, constantValue := 0 }, { name := "CASE_INSENSITIVE_ORDER", type := (.object "java/util/Comparator"), accessFlags := 25, slot := 4, constantValue := 0 }, { name := "LATIN1", type := .byte, accessFlags := 24, slot := 5, constantValue := 0 }, { name := "UTF16", type := .byte, accessFlags := 24, slot := 6, constantValue := 0 }]
  methods := #[k9m0]
  instanceTypes := #[(.array .byte), .byte, .int, .boolean]
  staticTypes := #[.long, .boolean, (.array (.object "java/io/ObjectStreamField")), .char, (.object "java/util/Comparator"), .byte, .byte]
  resolved := Array.replicate 1451 none
  statics := none }

def pool10 : Array CpInfo := pool [(1, u "java/lang/Cloneable"), (0, .class_ 1), (0, u "java/lang/Object"), (0, .class_ 3)] 3

/-- java/lang/Cloneable -/
def k10 : Class := { plain "java/lang/Cloneable" (some 0) with
  accessFlags := 1537
  interfaces := #[]
  cf := some (fileOf pool10 2 #[] #[] 1537 4 #[] #[])
  fields := #[]
  methods := #[]
  instanceTypes := #[]
  staticTypes := #[]
  resolved := Array.replicate 8 none
  statics := none }

/-- the primitive boolean -/
def k11 : Class := { plain "boolean" none with kind := .primitive 'Z', accessFlags := 0x411 }
/-- [Z -/
def k12 : Class := { plain "[Z" (some 0) with kind := .array 11 .boolean, interfaces := #[10, 4], accessFlags := 1041 }

/-- the primitive byte -/
def k13 : Class := { plain "byte" none with kind := .primitive 'B', accessFlags := 0x411 }
/-- [B -/
def k14 : Class := { plain "[B" (some 0) with kind := .array 13 .byte, interfaces := #[10, 4], accessFlags := 1041 }

/-- the primitive int -/
def k15 : Class := { plain "int" none with kind := .primitive 'I', accessFlags := 0x411 }
/-- [I -/
def k16 : Class := { plain "[I" (some 0) with kind := .array 15 .int, interfaces := #[10, 4], accessFlags := 1041 }

/-- [Lcom/example/wirefield/wirefield/FieldType; -/
def k17 : Class := { plain "[Lcom/example/wirefield/wirefield/FieldType;" (some 0) with kind := .array 6 (.object "com/example/wirefield/wirefield/FieldType"), interfaces := #[10, 4], accessFlags := 1041 }

def heap : Heap := #[{ cls := 6, slots := #[.ref 2, .ref 3, .ref 4, .ref 5, .ref 6, .ref 7, .ref 8, .ref 9, .ref 10, .ref 11, .ref 12, .ref 13, .ref 14, .ref 15, .ref 16, .ref 17, .ref 18, .ref 19, .null, .null, .null, .null], vm := .statics 6 },
  { cls := 9, slots := #[.null, .int 0, .int 0, .int 0], vm := .none },
  { cls := 6, slots := #[.null, .int 0, .int 0, .int 0, .ref 1, .int 0], vm := .none },
  { cls := 6, slots := #[.null, .int 1, .int 0, .int 0, .ref 1, .int 0], vm := .none },
  { cls := 6, slots := #[.null, .int 2, .int 0, .int 0, .ref 1, .int 0], vm := .none },
  { cls := 6, slots := #[.null, .int 3, .int 0, .int 0, .ref 1, .int 0], vm := .none },
  { cls := 6, slots := #[.null, .int 4, .int 0, .int 0, .ref 1, .int 0], vm := .none },
  { cls := 6, slots := #[.null, .int 5, .int 0, .int 0, .ref 1, .int 0], vm := .none },
  { cls := 6, slots := #[.null, .int 6, .int 0, .int 0, .ref 1, .int 0], vm := .none },
  { cls := 6, slots := #[.null, .int 7, .int 0, .int 0, .ref 1, .int 0], vm := .none },
  { cls := 6, slots := #[.null, .int 8, .int 0, .int 0, .ref 1, .int 0], vm := .none },
  { cls := 6, slots := #[.null, .int 99, .int 0, .int 0, .null, .int 0], vm := .none },
  { cls := 6, slots := #[.null, .int 100, .int 0, .int 0, .null, .int 0], vm := .none },
  { cls := 6, slots := #[.null, .int 11, .int 0, .int 0, .ref 1, .int 0], vm := .none },
  { cls := 6, slots := #[.null, .int 12, .int 0, .int 0, .ref 1, .int 0], vm := .none },
  { cls := 6, slots := #[.null, .int 103, .int 0, .int 0, .null, .int 0], vm := .none },
  { cls := 6, slots := #[.null, .int 14, .int 0, .int 0, .ref 1, .int 0], vm := .none },
  { cls := 6, slots := #[.null, .int 15, .int 0, .int 0, .ref 1, .int 0], vm := .none },
  { cls := 6, slots := #[.null, .int 16, .int 0, .int 0, .ref 1, .int 0], vm := .none },
  { cls := 6, slots := #[.null, .int 17, .int 0, .int 0, .ref 1, .int 0], vm := .none }]
def classes : Array Class := #[k0, k1, k2, k3, k4, k5, k6, k7, k8, k9, k10, k11, k12, k13, k14, k15, k16, k17]
def interned : List (Array UInt16 × Addr) := []
def slotsUsed : Nat := 134
def theMethod : MethodId := ⟨1, 1⟩
def args0 : Array Value := #[.int 5]
def aboutOver (below : List Frame) : State where
  vm := { classes := classes, interned := interned.toArray }
  heap := heap
  slotsUsed := slotsUsed
  threads := #[{ frames := .invoking theMethod args0 :: below }]
def below0 : List Frame := [.native { method := ⟨0, 0⟩, args := #[] }]
def about1 : State := aboutOver below0
def p0 : Program := .bare "" "" ""
def e0 : Env := launch0.env 0 0 0
theorem w_frames : about1.frames = Frame.invoking theMethod args0 :: below0 := rfl
set_option maxRecDepth 65536 in
theorem w_args : argsFit about1.vm theMethod args0 = true := by decide +kernel
set_option maxRecDepth 65536 in
theorem w_heap : heapFits about1 = true := by decide +kernel
set_option maxRecDepth 65536 in
theorem w_runnable : about1.curStatus? = some .runnable := by decide +kernel
set_option maxRecDepth 65536 in
theorem w_alone : about1.alone = true := by decide +kernel
set_option maxRecDepth 65536 in
theorem w_named : about1.methodNamed? x = some theMethod := by decide +kernel
set_option maxRecDepth 65536 in
theorem w_hears : about1.hears theMethod below0 = true := by decide +kernel
set_option maxRecDepth 65536 in
theorem w_ripe : about1.ripe theMethod args0 below0 = true := by decide +kernel
theorem w_running : about1.status = .running := rfl
set_option maxRecDepth 65536 in
theorem w_room : about1.hasRoom e0.platform room_1 = true :=
  launch0.hasRoom_least _ room_1 (by decide +kernel) (by decide +kernel) (by decide +kernel) (by decide +kernel) (by decide +kernel) (by decide +kernel)
theorem allAtoms_all (ts : List Jvm.Cond) (a : Array Jvm.Value) (st : Jvm.State) : (allAtoms ts).before a st = ts.all (fun c => c.before a st) := by
  induction ts with
  | nil => rfl
  | cons c t ih =>
    show (Jvm.Cond.and c (allAtoms t)).before a st = _
    rw [Jvm.Cond.before_and, ih, List.all_cons]
def words1 : List Jvm.Cond := Jvm.Cond.code x code maxLocals ret :: tables_1
/-- a 'code' word, met by the world's own term for the bytes: nothing is compared byte by byte -/
theorem code_word {y : MethodName} {bytes : ByteArray} {mx : Nat} {rt : Option FieldType} {a : Array Value} {s : State} {m : MethodId} {meth : Method} {c : Code} (h1 : s.methodNamed? y = some m) (h2 : s.vm.method? m = some meth) (h3 : meth.code = some c) (h4 : c.code = bytes)
    (h5 : (c.maxLocals == mx && c.exceptionTable.isEmpty && decide (c.maxStack ≤ mostOperands) && decide (meth.sig.returnType = rt) && !meth.locks && decide (parseMethodDescriptor y.desc = some meth.sig)) = true) : (Jvm.Cond.code y bytes mx rt).before a s = true := by
  simp only [Bool.and_eq_true, beq_iff_eq, Bool.not_eq_true', decide_eq_true_eq] at h5
  obtain ⟨⟨⟨⟨⟨g1, g2⟩, g3⟩, g4⟩, g5⟩, g6⟩ := h5
  simp [Cond.before, Cond.holds, Cond.value, h1, h2, h3, h4, g1, g2, g3, g4, g5, g6]
def isCode : Jvm.Cond → Bool
  | .code _ _ _ _ => true
  | _ => false
theorem all_split {L : List Jvm.Cond} {P : Jvm.Cond → Bool} (h1 : L.all (fun c => isCode c || P c) = true) (h2 : ∀ c ∈ L.filter isCode, P c = true) : L.all P = true := by
  refine List.all_eq_true.mpr fun c hc => ?_
  have h := List.all_eq_true.mp h1 c hc
  rcases Bool.eq_false_or_eq_true (isCode c) with hi | hi
  · exact h2 c (List.mem_filter.mpr ⟨hc, hi⟩)
  · simpa [hi] using h
set_option maxRecDepth 65536 in
theorem w_c0 : (Jvm.Cond.code x code maxLocals ret).before args0 about1 = true := code_word (m := ⟨1, 1⟩) (meth := k1m1) (c := k1c1) (by decide +kernel) rfl rfl rfl (by decide +kernel)
set_option maxRecDepth 65536 in
theorem w_c1 : (Jvm.Cond.code ({ cls := "com/example/wirefield/wirefield/FieldType", name := "isMapKey", desc := "()Z" } : Jvm.MethodName) prog_13_method_12_code (1 : Nat) (Option.some Jvm.ClassFile.FieldType.boolean)).before args0 about1 = true := code_word (m := ⟨6, 0⟩) (meth := k6m0) (c := k6c0) (by decide +kernel) rfl rfl rfl (by decide +kernel)
def codes1 : List Jvm.Cond := [Jvm.Cond.code x code maxLocals ret, Jvm.Cond.code ({ cls := "com/example/wirefield/wirefield/FieldType", name := "isMapKey", desc := "()Z" } : Jvm.MethodName) prog_13_method_12_code (1 : Nat) (Option.some Jvm.ClassFile.FieldType.boolean)]
set_option maxRecDepth 65536 in
theorem codes_eq : words1.filter isCode = codes1 := rfl
theorem w_codes : ∀ c ∈ words1.filter isCode, c.before args0 about1 = true := by
  rw [codes_eq]
  intro c hc
  simp only [codes1, List.mem_cons, List.not_mem_nil, or_false] at hc
  rcases hc with rfl | rfl
  · exact w_c0
  · exact w_c1
set_option maxRecDepth 65536 in
theorem w_t1 : (words1.take 24).all (fun c => isCode c || c.before args0 about1) = true := by decide +kernel
set_option maxRecDepth 65536 in
theorem w_t2 : ((words1.drop 24).take 24).all (fun c => isCode c || c.before args0 about1) = true := by decide +kernel
set_option maxRecDepth 65536 in
theorem w_t3 : ((words1.drop 24).drop 24).all (fun c => isCode c || c.before args0 about1) = true := by decide +kernel
theorem w_tables : (allAtoms (Jvm.Cond.code x code maxLocals ret :: tables_1)).before args0 about1 = true := by
  rw [allAtoms_all]
  show words1.all (fun c => c.before args0 about1) = true
  refine all_split ?_ w_codes
  rw [← List.take_append_drop 24 words1, List.all_append, w_t1, ← List.take_append_drop 24 (words1.drop 24), List.all_append, w_t2, w_t3]
  rfl
set_option maxRecDepth 65536 in
theorem w_case : (Jvm.Cond.and given_1 narrow_1).before args0 about1 = true := by decide +kernel
theorem w_applies : (headSpec (Jvm.Cond.code x code maxLocals ret :: tables_1) room_1).applies x e0.platform about1 = true :=
  (Spec.applies_iff w_frames).mpr ⟨w_running, w_runnable, w_alone, w_named, w_hears, w_ripe, w_room, w_tables⟩
theorem atStart : AtStart classFile x code maxLocals ret World_1 tables_1 room_1 Calls_1 rest_1 Pre_1 launch0 p0 e0 about1 theMethod args0 below0 :=
  ⟨lists_1, trivial, launch0.admits_env _ _ _, launch0.least_env, fairChoices_fair.cas, fairChoices_fair.clock, w_frames, w_args, w_heap, w_applies, trivial, trivial, w_case⟩
end start1
theorem witness_1 : WitnessClaimed_1 := ⟨start1.p0, start1.e0, start1.about1, start1.theMethod, start1.args0, start1.below0, start1.atStart⟩
end Jvm.Pilot.@@N@@
