import JvmDerived
import JvmDerived.Pilot.@@N@@Statement
import JvmDerived.Pilot.@@N@@Code
set_option linter.unusedVariables false
set_option linter.unusedSimpArgs false
namespace Jvm.OwnKit
open Jvm Jvm.ClassFile Sem Op Lib Jvm.Stand Jvm.Free Jvm.LawKit Jvm.RoadKit
/-! A small calculus of my own over the library's laws: Go says 'from here the body comes to its end, and what it leaves satisfies Q'. -/
abbrev Bod : Type := Program × Launch × Env × Room × State × MethodId × Array Value × List Frame × Method × Code
abbrev Bod.p (B : Bod) : Program := B.1
abbrev Bod.l (B : Bod) : Launch := B.2.1
abbrev Bod.e (B : Bod) : Env := B.2.2.1
abbrev Bod.R (B : Bod) : Room := B.2.2.2.1
abbrev Bod.s (B : Bod) : State := B.2.2.2.2.1
abbrev Bod.m (B : Bod) : MethodId := B.2.2.2.2.2.1
abbrev Bod.args (B : Bod) : Array Value := B.2.2.2.2.2.2.1
abbrev Bod.below (B : Bod) : List Frame := B.2.2.2.2.2.2.2.1
abbrev Bod.meth (B : Bod) : Method := B.2.2.2.2.2.2.2.2.1
abbrev Bod.c (B : Bod) : Code := B.2.2.2.2.2.2.2.2.2
abbrev St (B : Bod) (T : State) (locs : List Loc) (k n : Nat) : Prop := Stand B.p B.l B.e B.R B.s B.m B.args B.below B.meth B.c T locs k n
def Fin0 (B : Bod) (n0 : Nat) (Q : Option Value → Heap → Prop) (g : JFrame) (T : State) : Prop :=
  ∃ t o, Steps B.p.tables B.e B.below (T.setTop g) t ∧ t.status = .running ∧ Ended t B.below o ∧ ∃ v L, o = .returned v ∧ (Fr n0 L ∧ Q v t.heap) ∧ FrameEnd B.s o t L B.R.cells B.R.slots
def Go (B : Bod) (n0 : Nat) (Q : Option Value → Heap → Prop) (h : Heap) (k n pc : Nat) (L : Array Slot) (st : List Value) : Prop :=
  ∀ T locs, St B T locs k n → Fr n0 locs → T.heap = h → Fin0 B n0 Q (mkF B.m pc L st) T
def Ctx (B : Bod) (l : Launch) (rm : Room) (bytes : ByteArray) (own nm : String) (maxL : Nat) (ret : Option FieldType) (Z : State) : Prop :=
  B.l = l ∧ B.R = rm ∧ B.p.tables.exec = Jvm.exec ∧ B.c.code = bytes ∧ Z.Warmed39 B.s.vm ∧ B.s.vm.findClass own = some B.m.cls ∧ B.meth.name = nm ∧ B.c.maxLocals = maxL ∧ B.meth.sig.returnType = ret ∧ B.meth.locks = false
/-- a method's contract: called with these arguments over this heap it returns, and Q holds of what it returns and of the heap it leaves -/
def Met1 (l : Launch) (Z : State) (y : MethodName) (bytes : ByteArray) (maxL : Nat) (ret : Option FieldType) (rm : Room) (n0 : Nat) (as' : Array Value) (h0 : Heap) (Q : Option Value → Heap → Prop) : Prop :=
  ∀ ws : List Jvm.Cond, MetFree l y (head1 (Jvm.Cond.code y bytes maxL ret :: ws) rm) (fun a U => a = as' ∧ Z.Warmed39 U.vm ∧ U.heap = h0) (fun _ _ _ _ _ => True) (fun _ U o U' => ∃ v L, o = .returned v ∧ (Fr n0 L ∧ Q v U'.heap) ∧ FrameEnd U o U' L rm.cells rm.slots)
section Base
variable {B : Bod} {l : Launch} {rm : Room} {bytes : ByteArray} {own nm : String} {maxL : Nat} {ret : Option FieldType} {Z : State} {n0 : Nat} {Q : Option Value → Heap → Prop} {h : Heap} {k n pc pc' : Nat} {L L' : Array Slot} {st st' : List Value} {a0 : Array Value}
theorem met_of {y : MethodName} {as' : Array Value} (hp : plainFor y = true) {L0 : Array Slot} (hL : argsToLocals as' maxL = L0) (go : ∀ B : Bod, Ctx B l rm bytes y.cls y.name maxL ret Z → Go B n0 Q h 0 0 0 L0 []) : Met1 l Z y bytes maxL ret rm n0 as' h Q := by
  intro ws
  refine MetFree.of_bodySF hp hisR ?_
  intro p e s m args below meth c s₁ Bd hml0 hP hK
  obtain ⟨rfl, hZ, hh⟩ := hP
  subst hL
  obtain ⟨t, o, h1, h2, h3, v, L, h4, h5, h6⟩ := go (p, l, e, rm, s, m, args, below, meth, c) ⟨rfl, rfl, Bd.exec, Bd.bytes, hZ, findClass_of_methodNamed Bd.named, (name_of_methodNamed Bd.named Bd.method).1, hml0, Bd.returns, BodyLoose.notSynchronized Bd⟩ s₁ [] (Stand.of_body Bd) (Fr.nil n0) (by rw [← hh, Bd.state]; rfl)
  exact ⟨t, o, h1, h2, h3, v, L, h4, h5, h6⟩
/-- a step that moves the frame alone -/
theorem Go.step (f : ∀ T locs, St B T locs k n → T.heap = h → ∀ t, Steps B.p.tables B.e B.below (T.setTop (mkF B.m pc' L' st')) t → Steps B.p.tables B.e B.below (T.setTop (mkF B.m pc L st)) t) (go : Go B n0 Q h k n pc' L' st') : Go B n0 Q h k n pc L st := fun T locs X N eT => by
  obtain ⟨t, o, a, r⟩ := go T locs X N eT
  exact ⟨t, o, f T locs X eT t a, r⟩
/-- a step that moves the tables too -/
theorem Go.move (f : ∀ T locs, St B T locs k n → T.heap = h → ∃ T', St B T' locs k n ∧ T'.heap = h ∧ ∀ t, Steps B.p.tables B.e B.below (T'.setTop (mkF B.m pc' L' st')) t → Steps B.p.tables B.e B.below (T.setTop (mkF B.m pc L st)) t) (go : Go B n0 Q h k n pc' L' st') : Go B n0 Q h k n pc L st := fun T locs X N eT => by
  obtain ⟨T', X', e', f'⟩ := f T locs X eT
  obtain ⟨t, o, a, r⟩ := go T' locs X' N e'
  exact ⟨t, o, f' t a, r⟩
theorem Go.eqs {st2 : List Value} (go : Go B n0 Q h k n pc L st2) (e : st = st2) : Go B n0 Q h k n pc L st := e ▸ go
theorem Go.eqh {h2 : Heap} (go : Go B n0 Q h2 k n pc L st) (e : h = h2) : Go B n0 Q h k n pc L st := e ▸ go
theorem g_iload_n (C : Ctx B l rm bytes own nm maxL ret Z) {i : Fin 4} {v : Int32} (hd : decode bytes pc = .ok (.iload_n i, 1)) (hl : L[i.val]? = some (.val (.int v))) (hpc : pc + 1 = pc') (go : Go B n0 Q h k n pc' L (.int v :: st)) : Go B n0 Q h k n pc L st := go.step fun T locs X eT t q => Jvm.Free.XS.iloadN X.here C.2.2.1 rfl (hb C.2.2.2.1 hd) hl (by subst hpc; exact q)
theorem g_iload (C : Ctx B l rm bytes own nm maxL ret Z) {i : Nat} {v : Int32} (hd : decode bytes pc = .ok (.iload i, 2)) (hl : L[i]? = some (.val (.int v))) (hpc : pc + 2 = pc') (go : Go B n0 Q h k n pc' L (.int v :: st)) : Go B n0 Q h k n pc L st := go.step fun T locs X eT t q => Jvm.Free.XS.iload X.here C.2.2.1 rfl (hb C.2.2.2.1 hd) hl (by subst hpc; exact q)
theorem g_lload_n (C : Ctx B l rm bytes own nm maxL ret Z) {i : Fin 4} {v : Int64} (hd : decode bytes pc = .ok (.lload_n i, 1)) (hl : L[i.val]? = some (.val (.long v))) (hpc : pc + 1 = pc') (go : Go B n0 Q h k n pc' L (.long v :: st)) : Go B n0 Q h k n pc L st := go.step fun T locs X eT t q => Jvm.Free.XT.lloadN X.here C.2.2.1 rfl (hb C.2.2.2.1 hd) hl (by subst hpc; exact q)
theorem g_lload (C : Ctx B l rm bytes own nm maxL ret Z) {i : Nat} {v : Int64} (hd : decode bytes pc = .ok (.lload i, 2)) (hl : L[i]? = some (.val (.long v))) (hpc : pc + 2 = pc') (go : Go B n0 Q h k n pc' L (.long v :: st)) : Go B n0 Q h k n pc L st := go.step fun T locs X eT t q => Jvm.Free.XT.lload X.here C.2.2.1 rfl (hb C.2.2.2.1 hd) hl (by subst hpc; exact q)
theorem g_aload_n (C : Ctx B l rm bytes own nm maxL ret Z) {i : Fin 4} {v : Value} (hd : decode bytes pc = .ok (.aload_n i, 1)) (hl : L[i.val]? = some (.val v)) (hv : v.isRef = true) (hpc : pc + 1 = pc') (go : Go B n0 Q h k n pc' L (v :: st)) : Go B n0 Q h k n pc L st := go.step fun T locs X eT t q => Jvm.Free.XS.aloadN X.here C.2.2.1 rfl (hb C.2.2.2.1 hd) hl hv (by subst hpc; exact q)
theorem g_aload (C : Ctx B l rm bytes own nm maxL ret Z) {i : Nat} {v : Value} (hd : decode bytes pc = .ok (.aload i, 2)) (hl : L[i]? = some (.val v)) (hv : v.isRef = true) (hpc : pc + 2 = pc') (go : Go B n0 Q h k n pc' L (v :: st)) : Go B n0 Q h k n pc L st := go.step fun T locs X eT t q => Jvm.Free.XS.aload X.here C.2.2.1 rfl (hb C.2.2.2.1 hd) hl hv (by subst hpc; exact q)
theorem g_istore_n (C : Ctx B l rm bytes own nm maxL ret Z) {i : Fin 4} {v : Int32} (hd : decode bytes pc = .ok (.istore_n i, 1)) (hl : storeLocals L i.val (.int v) = some L') (hpc : pc + 1 = pc') (go : Go B n0 Q h k n pc' L' st) : Go B n0 Q h k n pc L (.int v :: st) := go.step fun T locs X eT t q => Jvm.Free.XS.istoreN X.here C.2.2.1 rfl (hb C.2.2.2.1 hd) rfl hl (by subst hpc; exact q)
theorem g_istore (C : Ctx B l rm bytes own nm maxL ret Z) {i : Nat} {v : Int32} (hd : decode bytes pc = .ok (.istore i, 2)) (hl : storeLocals L i (.int v) = some L') (hpc : pc + 2 = pc') (go : Go B n0 Q h k n pc' L' st) : Go B n0 Q h k n pc L (.int v :: st) := go.step fun T locs X eT t q => Jvm.Free.XS.istore X.here C.2.2.1 rfl (hb C.2.2.2.1 hd) rfl hl (by subst hpc; exact q)
theorem g_lstore_n (C : Ctx B l rm bytes own nm maxL ret Z) {i : Fin 4} {v : Int64} (hd : decode bytes pc = .ok (.lstore_n i, 1)) (hl : storeLocals L i.val (.long v) = some L') (hpc : pc + 1 = pc') (go : Go B n0 Q h k n pc' L' st) : Go B n0 Q h k n pc L (.long v :: st) := go.step fun T locs X eT t q => Jvm.Free.XT.lstoreN X.here C.2.2.1 rfl (hb C.2.2.2.1 hd) rfl hl (by subst hpc; exact q)
theorem g_lstore (C : Ctx B l rm bytes own nm maxL ret Z) {i : Nat} {v : Int64} (hd : decode bytes pc = .ok (.lstore i, 2)) (hl : storeLocals L i (.long v) = some L') (hpc : pc + 2 = pc') (go : Go B n0 Q h k n pc' L' st) : Go B n0 Q h k n pc L (.long v :: st) := go.step fun T locs X eT t q => Jvm.Free.XT.lstore X.here C.2.2.1 rfl (hb C.2.2.2.1 hd) rfl hl (by subst hpc; exact q)
theorem g_astore_n (C : Ctx B l rm bytes own nm maxL ret Z) {i : Fin 4} {v : Value} (hd : decode bytes pc = .ok (.astore_n i, 1)) (hl : storeLocals L i.val v = some L') (hv : v.isRef = true) (hpc : pc + 1 = pc') (go : Go B n0 Q h k n pc' L' st) : Go B n0 Q h k n pc L (v :: st) := go.step fun T locs X eT t q => Jvm.Free.XS.astoreN X.here C.2.2.1 rfl (hb C.2.2.2.1 hd) rfl hv hl (by subst hpc; exact q)
theorem g_astore (C : Ctx B l rm bytes own nm maxL ret Z) {i : Nat} {v : Value} (hd : decode bytes pc = .ok (.astore i, 2)) (hl : storeLocals L i v = some L') (hv : v.isRef = true) (hpc : pc + 2 = pc') (go : Go B n0 Q h k n pc' L' st) : Go B n0 Q h k n pc L (v :: st) := go.step fun T locs X eT t q => Jvm.Free.XS.astore X.here C.2.2.1 rfl (hb C.2.2.2.1 hd) rfl hv hl (by subst hpc; exact q)
theorem g_iinc (C : Ctx B l rm bytes own nm maxL ret Z) {i : Nat} {z : Int} {v w : Int32} (hd : decode bytes pc = .ok (.iinc i z, 3)) (hl : L[i]? = some (.val (.int v))) (hw : v + Int32.ofInt z = w) (hl' : storeLocals L i (.int w) = some L') (hpc : pc + 3 = pc') (go : Go B n0 Q h k n pc' L' st) : Go B n0 Q h k n pc L st := go.step fun T locs X eT t q => Jvm.Free.XS.iinc X.here C.2.2.1 rfl (hb C.2.2.2.1 hd) hl (by rw [hw]; exact hl') (by subst hpc; exact q)
theorem g_iconst (C : Ctx B l rm bytes own nm maxL ret Z) {z : Int} {v : Int32} (hd : decode bytes pc = .ok (.iconst z, 1)) (hv : Int32.ofInt z = v) (hpc : pc + 1 = pc') (go : Go B n0 Q h k n pc' L (.int v :: st)) : Go B n0 Q h k n pc L st := go.step fun T locs X eT t q => Jvm.Free.XS.iconst X.here C.2.2.1 rfl (hb C.2.2.2.1 hd) (by subst hpc hv; exact q)
theorem g_bipush (C : Ctx B l rm bytes own nm maxL ret Z) {z : Int} {v : Int32} (hd : decode bytes pc = .ok (.bipush z, 2)) (hv : (Int8.ofInt z).toInt32 = v) (hpc : pc + 2 = pc') (go : Go B n0 Q h k n pc' L (.int v :: st)) : Go B n0 Q h k n pc L st := go.step fun T locs X eT t q => Jvm.Free.XS.bipush X.here C.2.2.1 rfl (hb C.2.2.2.1 hd) (by subst hpc hv; exact q)
theorem g_lconst (C : Ctx B l rm bytes own nm maxL ret Z) {i : Fin 2} {v : Int64} (hd : decode bytes pc = .ok (.lconst i, 1)) (hv : Int64.ofNat i = v) (hpc : pc + 1 = pc') (go : Go B n0 Q h k n pc' L (.long v :: st)) : Go B n0 Q h k n pc L st := go.step fun T locs X eT t q => Jvm.Free.XT.lconst X.here C.2.2.1 rfl (hb C.2.2.2.1 hd) (by subst hpc hv; exact q)
theorem g_aconst_null (C : Ctx B l rm bytes own nm maxL ret Z)  (hd : decode bytes pc = .ok (.aconst_null, 1))  (hpc : pc + 1 = pc') (go : Go B n0 Q h k n pc' L (.null :: st)) : Go B n0 Q h k n pc L st := go.step fun T locs X eT t q => Jvm.Free.XS.aconstNull X.here C.2.2.1 rfl (hb C.2.2.2.1 hd)  (by subst hpc; exact q)
theorem g_iadd (C : Ctx B l rm bytes own nm maxL ret Z) {x y : Int32} (hd : decode bytes pc = .ok (.iadd, 1))  (hpc : pc + 1 = pc') (go : Go B n0 Q h k n pc' L (.int (x + y) :: st)) : Go B n0 Q h k n pc L (.int y :: .int x :: st) := go.step fun T locs X eT t q => Jvm.Free.XS.iadd X.here C.2.2.1 rfl (hb C.2.2.2.1 hd) rfl (by subst hpc; exact q)
theorem g_isub (C : Ctx B l rm bytes own nm maxL ret Z) {x y : Int32} (hd : decode bytes pc = .ok (.isub, 1))  (hpc : pc + 1 = pc') (go : Go B n0 Q h k n pc' L (.int (x - y) :: st)) : Go B n0 Q h k n pc L (.int y :: .int x :: st) := go.step fun T locs X eT t q => Jvm.Free.XS.isub X.here C.2.2.1 rfl (hb C.2.2.2.1 hd) rfl (by subst hpc; exact q)
theorem g_iand (C : Ctx B l rm bytes own nm maxL ret Z) {x y : Int32} (hd : decode bytes pc = .ok (.iand, 1))  (hpc : pc + 1 = pc') (go : Go B n0 Q h k n pc' L (.int (x &&& y) :: st)) : Go B n0 Q h k n pc L (.int y :: .int x :: st) := go.step fun T locs X eT t q => Jvm.Free.XS.iand X.here C.2.2.1 rfl (hb C.2.2.2.1 hd) rfl (by subst hpc; exact q)
theorem g_imul (C : Ctx B l rm bytes own nm maxL ret Z) {x y : Int32} (hd : decode bytes pc = .ok (.imul, 1))  (hpc : pc + 1 = pc') (go : Go B n0 Q h k n pc' L (.int (x * y) :: st)) : Go B n0 Q h k n pc L (.int y :: .int x :: st) := go.step fun T locs X eT t q => Jvm.Free.XS.imul X.here C.2.2.1 rfl (hb C.2.2.2.1 hd) rfl (by subst hpc; exact q)
theorem g_ixor (C : Ctx B l rm bytes own nm maxL ret Z) {x y : Int32} (hd : decode bytes pc = .ok (.ixor, 1))  (hpc : pc + 1 = pc') (go : Go B n0 Q h k n pc' L (.int (x ^^^ y) :: st)) : Go B n0 Q h k n pc L (.int y :: .int x :: st) := go.step fun T locs X eT t q => Jvm.Free.XT.ixor X.here C.2.2.1 rfl (hb C.2.2.2.1 hd) rfl (by subst hpc; exact q)
theorem g_ior (C : Ctx B l rm bytes own nm maxL ret Z) {x y : Int32} (hd : decode bytes pc = .ok (.ior, 1))  (hpc : pc + 1 = pc') (go : Go B n0 Q h k n pc' L (.int (x ||| y) :: st)) : Go B n0 Q h k n pc L (.int y :: .int x :: st) := go.step fun T locs X eT t q => Jvm.Free.XT.ior X.here C.2.2.1 rfl (hb C.2.2.2.1 hd) rfl (by subst hpc; exact q)
theorem g_ishl (C : Ctx B l rm bytes own nm maxL ret Z) {x y : Int32} (hd : decode bytes pc = .ok (.ishl, 1))  (hpc : pc + 1 = pc') (go : Go B n0 Q h k n pc' L (.int (x <<< (y &&& 31)) :: st)) : Go B n0 Q h k n pc L (.int y :: .int x :: st) := go.step fun T locs X eT t q => Jvm.Free.XT.ishl X.here C.2.2.1 rfl (hb C.2.2.2.1 hd) rfl (by subst hpc; exact q)
theorem g_ishr (C : Ctx B l rm bytes own nm maxL ret Z) {x y : Int32} (hd : decode bytes pc = .ok (.ishr, 1))  (hpc : pc + 1 = pc') (go : Go B n0 Q h k n pc' L (.int (x >>> (y &&& 31)) :: st)) : Go B n0 Q h k n pc L (.int y :: .int x :: st) := go.step fun T locs X eT t q => Jvm.Free.XT.ishr X.here C.2.2.1 rfl (hb C.2.2.2.1 hd) rfl (by subst hpc; exact q)
theorem g_iushr (C : Ctx B l rm bytes own nm maxL ret Z) {x y : Int32} (hd : decode bytes pc = .ok (.iushr, 1))  (hpc : pc + 1 = pc') (go : Go B n0 Q h k n pc' L (.int (Jvm.Free.XT.ushr x y) :: st)) : Go B n0 Q h k n pc L (.int y :: .int x :: st) := go.step fun T locs X eT t q => Jvm.Free.XT.iushr X.here C.2.2.1 rfl (hb C.2.2.2.1 hd) rfl (by subst hpc; exact q)
theorem g_idiv (C : Ctx B l rm bytes own nm maxL ret Z) {x y : Int32} (hd : decode bytes pc = .ok (.idiv, 1)) (hy : y ≠ 0) (hpc : pc + 1 = pc') (go : Go B n0 Q h k n pc' L (.int (x / y) :: st)) : Go B n0 Q h k n pc L (.int y :: .int x :: st) := go.step fun T locs X eT t q => Jvm.Free.XS.idiv X.here C.2.2.1 rfl (hb C.2.2.2.1 hd) rfl hy (by subst hpc; exact q)
theorem g_irem (C : Ctx B l rm bytes own nm maxL ret Z) {x y : Int32} (hd : decode bytes pc = .ok (.irem, 1)) (hy : y ≠ 0) (hpc : pc + 1 = pc') (go : Go B n0 Q h k n pc' L (.int (x - (x / y) * y) :: st)) : Go B n0 Q h k n pc L (.int y :: .int x :: st) := go.step fun T locs X eT t q => Jvm.Free.XS.irem X.here C.2.2.1 rfl (hb C.2.2.2.1 hd) rfl hy (by subst hpc; exact q)
theorem g_ineg (C : Ctx B l rm bytes own nm maxL ret Z) {x : Int32} (hd : decode bytes pc = .ok (.ineg, 1))  (hpc : pc + 1 = pc') (go : Go B n0 Q h k n pc' L (.int (-x) :: st)) : Go B n0 Q h k n pc L (.int x :: st) := go.step fun T locs X eT t q => Jvm.Free.XS.ineg X.here C.2.2.1 rfl (hb C.2.2.2.1 hd) rfl (by subst hpc; exact q)
theorem g_ladd (C : Ctx B l rm bytes own nm maxL ret Z) {x y : Int64} (hd : decode bytes pc = .ok (.ladd, 1))  (hpc : pc + 1 = pc') (go : Go B n0 Q h k n pc' L (.long (x + y) :: st)) : Go B n0 Q h k n pc L (.long y :: .long x :: st) := go.step fun T locs X eT t q => Jvm.Free.XT.ladd X.here C.2.2.1 rfl (hb C.2.2.2.1 hd) rfl (by subst hpc; exact q)
theorem g_lsub (C : Ctx B l rm bytes own nm maxL ret Z) {x y : Int64} (hd : decode bytes pc = .ok (.lsub, 1))  (hpc : pc + 1 = pc') (go : Go B n0 Q h k n pc' L (.long (x - y) :: st)) : Go B n0 Q h k n pc L (.long y :: .long x :: st) := go.step fun T locs X eT t q => Jvm.Free.XT.lsub X.here C.2.2.1 rfl (hb C.2.2.2.1 hd) rfl (by subst hpc; exact q)
theorem g_lmul (C : Ctx B l rm bytes own nm maxL ret Z) {x y : Int64} (hd : decode bytes pc = .ok (.lmul, 1))  (hpc : pc + 1 = pc') (go : Go B n0 Q h k n pc' L (.long (x * y) :: st)) : Go B n0 Q h k n pc L (.long y :: .long x :: st) := go.step fun T locs X eT t q => Jvm.Free.XT.lmul X.here C.2.2.1 rfl (hb C.2.2.2.1 hd) rfl (by subst hpc; exact q)
theorem g_land (C : Ctx B l rm bytes own nm maxL ret Z) {x y : Int64} (hd : decode bytes pc = .ok (.land, 1))  (hpc : pc + 1 = pc') (go : Go B n0 Q h k n pc' L (.long (x &&& y) :: st)) : Go B n0 Q h k n pc L (.long y :: .long x :: st) := go.step fun T locs X eT t q => Jvm.Free.XT.land X.here C.2.2.1 rfl (hb C.2.2.2.1 hd) rfl (by subst hpc; exact q)
theorem g_lor (C : Ctx B l rm bytes own nm maxL ret Z) {x y : Int64} (hd : decode bytes pc = .ok (.lor, 1))  (hpc : pc + 1 = pc') (go : Go B n0 Q h k n pc' L (.long (x ||| y) :: st)) : Go B n0 Q h k n pc L (.long y :: .long x :: st) := go.step fun T locs X eT t q => Jvm.Free.XT.lor X.here C.2.2.1 rfl (hb C.2.2.2.1 hd) rfl (by subst hpc; exact q)
theorem g_lxor (C : Ctx B l rm bytes own nm maxL ret Z) {x y : Int64} (hd : decode bytes pc = .ok (.lxor, 1))  (hpc : pc + 1 = pc') (go : Go B n0 Q h k n pc' L (.long (x ^^^ y) :: st)) : Go B n0 Q h k n pc L (.long y :: .long x :: st) := go.step fun T locs X eT t q => Jvm.Free.XT.lxor X.here C.2.2.1 rfl (hb C.2.2.2.1 hd) rfl (by subst hpc; exact q)
theorem g_ldiv (C : Ctx B l rm bytes own nm maxL ret Z) {x y : Int64} (hd : decode bytes pc = .ok (.ldiv, 1)) (hy : y ≠ 0) (hpc : pc + 1 = pc') (go : Go B n0 Q h k n pc' L (.long (x / y) :: st)) : Go B n0 Q h k n pc L (.long y :: .long x :: st) := go.step fun T locs X eT t q => Jvm.Free.XT.ldiv X.here C.2.2.1 rfl (hb C.2.2.2.1 hd) rfl hy (by subst hpc; exact q)
theorem g_lrem (C : Ctx B l rm bytes own nm maxL ret Z) {x y : Int64} (hd : decode bytes pc = .ok (.lrem, 1)) (hy : y ≠ 0) (hpc : pc + 1 = pc') (go : Go B n0 Q h k n pc' L (.long (x - (x / y) * y) :: st)) : Go B n0 Q h k n pc L (.long y :: .long x :: st) := go.step fun T locs X eT t q => Jvm.Free.XT.lrem X.here C.2.2.1 rfl (hb C.2.2.2.1 hd) rfl hy (by subst hpc; exact q)
theorem g_lneg (C : Ctx B l rm bytes own nm maxL ret Z) {x : Int64} (hd : decode bytes pc = .ok (.lneg, 1))  (hpc : pc + 1 = pc') (go : Go B n0 Q h k n pc' L (.long (-x) :: st)) : Go B n0 Q h k n pc L (.long x :: st) := go.step fun T locs X eT t q => Jvm.Free.XT.lneg X.here C.2.2.1 rfl (hb C.2.2.2.1 hd) rfl (by subst hpc; exact q)
theorem g_lshl (C : Ctx B l rm bytes own nm maxL ret Z) {x : Int64} {y : Int32} (hd : decode bytes pc = .ok (.lshl, 1))  (hpc : pc + 1 = pc') (go : Go B n0 Q h k n pc' L (.long (x <<< (y.toInt64 &&& 63)) :: st)) : Go B n0 Q h k n pc L (.int y :: .long x :: st) := go.step fun T locs X eT t q => Jvm.Free.XT.lshl X.here C.2.2.1 rfl (hb C.2.2.2.1 hd) rfl (by subst hpc; exact q)
theorem g_lshr (C : Ctx B l rm bytes own nm maxL ret Z) {x : Int64} {y : Int32} (hd : decode bytes pc = .ok (.lshr, 1))  (hpc : pc + 1 = pc') (go : Go B n0 Q h k n pc' L (.long (x >>> (y.toInt64 &&& 63)) :: st)) : Go B n0 Q h k n pc L (.int y :: .long x :: st) := go.step fun T locs X eT t q => Jvm.Free.XT.lshr X.here C.2.2.1 rfl (hb C.2.2.2.1 hd) rfl (by subst hpc; exact q)
theorem g_lushr (C : Ctx B l rm bytes own nm maxL ret Z) {x : Int64} {y : Int32} (hd : decode bytes pc = .ok (.lushr, 1))  (hpc : pc + 1 = pc') (go : Go B n0 Q h k n pc' L (.long (Jvm.Free.XT.ushrL x y) :: st)) : Go B n0 Q h k n pc L (.int y :: .long x :: st) := go.step fun T locs X eT t q => Jvm.Free.XT.lushr X.here C.2.2.1 rfl (hb C.2.2.2.1 hd) rfl (by subst hpc; exact q)
theorem g_lcmp (C : Ctx B l rm bytes own nm maxL ret Z) {x y : Int64} (hd : decode bytes pc = .ok (.lcmp, 1))  (hpc : pc + 1 = pc') (go : Go B n0 Q h k n pc' L (.int (Jvm.Free.XT.cmpL x y) :: st)) : Go B n0 Q h k n pc L (.long y :: .long x :: st) := go.step fun T locs X eT t q => Jvm.Free.XT.lcmp X.here C.2.2.1 rfl (hb C.2.2.2.1 hd) rfl (by subst hpc; exact q)
theorem g_i2l (C : Ctx B l rm bytes own nm maxL ret Z) {x : Int32} (hd : decode bytes pc = .ok (.i2l, 1))  (hpc : pc + 1 = pc') (go : Go B n0 Q h k n pc' L (.long (x.toInt64) :: st)) : Go B n0 Q h k n pc L (.int x :: st) := go.step fun T locs X eT t q => Jvm.Free.XT.i2l X.here C.2.2.1 rfl (hb C.2.2.2.1 hd) rfl (by subst hpc; exact q)
theorem g_l2i (C : Ctx B l rm bytes own nm maxL ret Z) {x : Int64} (hd : decode bytes pc = .ok (.l2i, 1))  (hpc : pc + 1 = pc') (go : Go B n0 Q h k n pc' L (.int (x.toInt32) :: st)) : Go B n0 Q h k n pc L (.long x :: st) := go.step fun T locs X eT t q => Jvm.Free.XT.l2i X.here C.2.2.1 rfl (hb C.2.2.2.1 hd) rfl (by subst hpc; exact q)
theorem g_i2b (C : Ctx B l rm bytes own nm maxL ret Z) {x : Int32} (hd : decode bytes pc = .ok (.i2b, 1))  (hpc : pc + 1 = pc') (go : Go B n0 Q h k n pc' L (.int (x.toInt8.toInt32) :: st)) : Go B n0 Q h k n pc L (.int x :: st) := go.step fun T locs X eT t q => Jvm.Free.XT.i2b X.here C.2.2.1 rfl (hb C.2.2.2.1 hd) rfl (by subst hpc; exact q)
theorem g_i2c (C : Ctx B l rm bytes own nm maxL ret Z) {x : Int32} (hd : decode bytes pc = .ok (.i2c, 1))  (hpc : pc + 1 = pc') (go : Go B n0 Q h k n pc' L (.int (x.toUInt32.toUInt16.toUInt32.toInt32) :: st)) : Go B n0 Q h k n pc L (.int x :: st) := go.step fun T locs X eT t q => Jvm.Free.XT.i2c X.here C.2.2.1 rfl (hb C.2.2.2.1 hd) rfl (by subst hpc; exact q)
theorem g_i2s (C : Ctx B l rm bytes own nm maxL ret Z) {x : Int32} (hd : decode bytes pc = .ok (.i2s, 1))  (hpc : pc + 1 = pc') (go : Go B n0 Q h k n pc' L (.int (x.toInt16.toInt32) :: st)) : Go B n0 Q h k n pc L (.int x :: st) := go.step fun T locs X eT t q => Jvm.Free.XT.i2s X.here C.2.2.1 rfl (hb C.2.2.2.1 hd) rfl (by subst hpc; exact q)
theorem g_dup (C : Ctx B l rm bytes own nm maxL ret Z) {x : Value} (hd : decode bytes pc = .ok (.dup, 1)) (hc : x.category = 1) (hpc : pc + 1 = pc') (go : Go B n0 Q h k n pc' L (x :: x :: st)) : Go B n0 Q h k n pc L (x :: st) := go.step fun T locs X eT t q => Jvm.Free.XS.dup X.here C.2.2.1 rfl (hb C.2.2.2.1 hd) rfl hc (by subst hpc; exact q)
theorem g_pop (C : Ctx B l rm bytes own nm maxL ret Z) {x : Value} (hd : decode bytes pc = .ok (.pop, 1)) (hc : x.category = 1) (hpc : pc + 1 = pc') (go : Go B n0 Q h k n pc' L st) : Go B n0 Q h k n pc L (x :: st) := go.step fun T locs X eT t q => Jvm.Free.XT.pop X.here C.2.2.1 rfl (hb C.2.2.2.1 hd) rfl hc (by subst hpc; exact q)
theorem g_dup_x1 (C : Ctx B l rm bytes own nm maxL ret Z) {x y : Value} (hd : decode bytes pc = .ok (.dup_x1, 1)) (hc : x.category = 1) (hc' : y.category = 1) (hpc : pc + 1 = pc') (go : Go B n0 Q h k n pc' L (x :: y :: x :: st)) : Go B n0 Q h k n pc L (x :: y :: st) := go.step fun T locs X eT t q => Jvm.Free.XT.dupX1 X.here C.2.2.1 rfl (hb C.2.2.2.1 hd) rfl hc hc' (by subst hpc; exact q)
theorem g_dup2 (C : Ctx B l rm bytes own nm maxL ret Z) {x y : Value} (hd : decode bytes pc = .ok (.dup2, 1)) (hc : x.category = 1) (hc' : y.category = 1) (hpc : pc + 1 = pc') (go : Go B n0 Q h k n pc' L (x :: y :: x :: y :: st)) : Go B n0 Q h k n pc L (x :: y :: st) := go.step fun T locs X eT t q => Jvm.Free.XT.dup2 X.here C.2.2.1 rfl (hb C.2.2.2.1 hd) rfl hc hc' (by subst hpc; exact q)
theorem g_dup2L (C : Ctx B l rm bytes own nm maxL ret Z) {x : Int64} (hd : decode bytes pc = .ok (.dup2, 1))  (hpc : pc + 1 = pc') (go : Go B n0 Q h k n pc' L (.long x :: .long x :: st)) : Go B n0 Q h k n pc L (.long x :: st) := go.step fun T locs X eT t q => Jvm.Free.XT.dup2L X.here C.2.2.1 rfl (hb C.2.2.2.1 hd) rfl (by subst hpc; exact q)
theorem g_goto (C : Ctx B l rm bytes own nm maxL ret Z) {o : Int} (hd : decode bytes pc = .ok (.goto o, 3)) (ho : 0 ≤ (pc : Int) + o) (hp : ((pc : Int) + o).toNat = pc') (go : Go B n0 Q h k n pc' L st) : Go B n0 Q h k n pc L st := go.step fun T locs X eT t q => Jvm.Free.XS.goto X.here C.2.2.1 rfl rfl (hb C.2.2.2.1 hd) ho hp q
theorem g_if_y (C : Ctx B l rm bytes own nm maxL ret Z) {cd : ClassFile.Cond} {x : Int32} {o : Int} (hd : decode bytes pc = .ok (.ifCond cd o, 3)) (hc : ifCond.holds cd x = true) (ho : 0 ≤ (pc : Int) + o) (hp : ((pc : Int) + o).toNat = pc') (go : Go B n0 Q h k n pc' L st) : Go B n0 Q h k n pc L (.int x :: st) := go.step fun T locs X eT t q => Jvm.Free.XS.ifYes X.here C.2.2.1 rfl rfl (hb C.2.2.2.1 hd) rfl hc ho hp q
theorem g_if_n (C : Ctx B l rm bytes own nm maxL ret Z) {cd : ClassFile.Cond} {x : Int32} {o : Int} (hd : decode bytes pc = .ok (.ifCond cd o, 3)) (hc : ifCond.holds cd x = false) (hpc : pc + 3 = pc') (go : Go B n0 Q h k n pc' L st) : Go B n0 Q h k n pc L (.int x :: st) := go.step fun T locs X eT t q => Jvm.Free.XS.ifNo X.here C.2.2.1 rfl (hb C.2.2.2.1 hd) rfl hc (by subst hpc; exact q)
theorem g_icmp_y (C : Ctx B l rm bytes own nm maxL ret Z) {cd : ClassFile.Cond} {x y : Int32} {o : Int} (hd : decode bytes pc = .ok (.if_icmp cd o, 3)) (hc : if_icmp.holds cd x y = true) (ho : 0 ≤ (pc : Int) + o) (hp : ((pc : Int) + o).toNat = pc') (go : Go B n0 Q h k n pc' L st) : Go B n0 Q h k n pc L (.int y :: .int x :: st) := go.step fun T locs X eT t q => Jvm.Free.XS.icmpYes X.here C.2.2.1 rfl rfl (hb C.2.2.2.1 hd) rfl hc ho hp q
theorem g_icmp_n (C : Ctx B l rm bytes own nm maxL ret Z) {cd : ClassFile.Cond} {x y : Int32} {o : Int} (hd : decode bytes pc = .ok (.if_icmp cd o, 3)) (hc : if_icmp.holds cd x y = false) (hpc : pc + 3 = pc') (go : Go B n0 Q h k n pc' L st) : Go B n0 Q h k n pc L (.int y :: .int x :: st) := go.step fun T locs X eT t q => Jvm.Free.XS.icmpNo X.here C.2.2.1 rfl (hb C.2.2.2.1 hd) rfl hc (by subst hpc; exact q)
theorem g_acmp_y (C : Ctx B l rm bytes own nm maxL ret Z) {cd : ClassFile.ACond} {x y : Value} {o : Int} (hd : decode bytes pc = .ok (.if_acmp cd o, 3)) (hc1 : x.isRef = true) (hc2 : y.isRef = true) (hc : Jvm.Free.XT.acmp cd x y = true) (ho : 0 ≤ (pc : Int) + o) (hp : ((pc : Int) + o).toNat = pc') (go : Go B n0 Q h k n pc' L st) : Go B n0 Q h k n pc L (y :: x :: st) := go.step fun T locs X eT t q => Jvm.Free.XT.acmpYes X.here C.2.2.1 rfl rfl (hb C.2.2.2.1 hd) rfl hc1 hc2 hc ho hp q
theorem g_acmp_n (C : Ctx B l rm bytes own nm maxL ret Z) {cd : ClassFile.ACond} {x y : Value} {o : Int} (hd : decode bytes pc = .ok (.if_acmp cd o, 3)) (hc1 : x.isRef = true) (hc2 : y.isRef = true) (hc : Jvm.Free.XT.acmp cd x y = false) (hpc : pc + 3 = pc') (go : Go B n0 Q h k n pc' L st) : Go B n0 Q h k n pc L (y :: x :: st) := go.step fun T locs X eT t q => Jvm.Free.XT.acmpNo X.here C.2.2.1 rfl (hb C.2.2.2.1 hd) rfl hc1 hc2 hc (by subst hpc; exact q)
theorem g_ifnull_y (C : Ctx B l rm bytes own nm maxL ret Z) {o : Int} (hd : decode bytes pc = .ok (.ifnull o, 3)) (ho : 0 ≤ (pc : Int) + o) (hp : ((pc : Int) + o).toNat = pc') (go : Go B n0 Q h k n pc' L st) : Go B n0 Q h k n pc L (.null :: st) := go.step fun T locs X eT t q => Jvm.Free.XS.ifnullYes X.here C.2.2.1 rfl rfl (hb C.2.2.2.1 hd) rfl ho hp q
theorem g_ifnull_n (C : Ctx B l rm bytes own nm maxL ret Z) {o : Int} {b : Addr} (hd : decode bytes pc = .ok (.ifnull o, 3)) (hpc : pc + 3 = pc') (go : Go B n0 Q h k n pc' L st) : Go B n0 Q h k n pc L (.ref b :: st) := go.step fun T locs X eT t q => Jvm.Free.XS.ifnullNo X.here C.2.2.1 rfl (hb C.2.2.2.1 hd) rfl (by subst hpc; exact q)
theorem g_ifnonnull_y (C : Ctx B l rm bytes own nm maxL ret Z) {o : Int} {b : Addr} (hd : decode bytes pc = .ok (.ifnonnull o, 3)) (ho : 0 ≤ (pc : Int) + o) (hp : ((pc : Int) + o).toNat = pc') (go : Go B n0 Q h k n pc' L st) : Go B n0 Q h k n pc L (.ref b :: st) := go.step fun T locs X eT t q => Jvm.Free.XT.ifnonnullYes X.here C.2.2.1 rfl rfl (hb C.2.2.2.1 hd) rfl ho hp q
theorem g_ifnonnull_n (C : Ctx B l rm bytes own nm maxL ret Z) {o : Int} (hd : decode bytes pc = .ok (.ifnonnull o, 3)) (hpc : pc + 3 = pc') (go : Go B n0 Q h k n pc' L st) : Go B n0 Q h k n pc L (.null :: st) := go.step fun T locs X eT t q => Jvm.Free.XT.ifnonnullNo X.here C.2.2.1 rfl (hb C.2.2.2.1 hd) rfl (by subst hpc; exact q)
theorem g_ldc (C : Ctx B l rm bytes own nm maxL ret Z) {i : Nat} {v : Int32} (w : (Jvm.Cond.constant own i v).before a0 Z = true) (hd : decode bytes pc = .ok (.ldc i, 2)) (hpc : pc + 2 = pc') (go : Go B n0 Q h k n pc' L (.int v :: st)) : Go B n0 Q h k n pc L st := go.step fun T locs X eT t q => X.ldcInt C.2.2.1 C.2.2.2.2.2.1 (mvT C.2.2.2.2.1 w) (g := mkF B.m pc L st) rfl (hb C.2.2.2.1 hd) t (by subst hpc; exact q)
theorem g_ldc_w (C : Ctx B l rm bytes own nm maxL ret Z) {i : Nat} {v : Int32} (w : (Jvm.Cond.constant own i v).before a0 Z = true) (hd : decode bytes pc = .ok (.ldc_w i, 3)) (hpc : pc + 3 = pc') (go : Go B n0 Q h k n pc' L (.int v :: st)) : Go B n0 Q h k n pc L st := go.step fun T locs X eT t q => X.ldcwInt C.2.2.1 C.2.2.2.2.2.1 (mvT C.2.2.2.2.1 w) (g := mkF B.m pc L st) rfl (hb C.2.2.2.1 hd) t (by subst hpc; exact q)
theorem g_ldc2_w (C : Ctx B l rm bytes own nm maxL ret Z) {i : Nat} {v : Int64} (w : (Jvm.Cond.constantLong own i v).before a0 Z = true) (hd : decode bytes pc = .ok (.ldc2_w i, 3)) (hpc : pc + 3 = pc') (go : Go B n0 Q h k n pc' L (.long v :: st)) : Go B n0 Q h k n pc L st := go.step fun T locs X eT t q => X.ldc2Long C.2.2.1 C.2.2.2.2.2.1 (mvT C.2.2.2.2.1 w) (g := mkF B.m pc L st) rfl (hb C.2.2.2.1 hd) t (by subst hpc; exact q)
theorem g_getfield (C : Ctx B l rm bytes own nm maxL ret Z) {i : Nat} {R0 O fn d host : String} {a : Addr} {v : Value} (w : (Jvm.Cond.fieldLink own i R0 fn d).before a0 Z = true ∨ (Jvm.Cond.fieldLinkNest own i R0 fn d host).before a0 Z = true) (via : Via Z R0 O fn d) (F : Fld Z h a O fn d v) (hd : decode bytes pc = .ok (.getfield i, 3)) (hpc : pc + 3 = pc') (go : Go B n0 Q h k n pc' L (v :: st)) : Go B n0 Q h k n pc L (.ref a :: st) := go.move fun T locs X eT => by
  obtain ⟨T', X', e', f⟩ := getF X C.2.2.1 C.2.2.2.2.1 C.2.2.2.2.2.1 w via eT F (g := mkF B.m pc L (.ref a :: st)) rfl rfl (hb C.2.2.2.1 hd)
  subst hpc; exact ⟨T', X', e', f⟩
theorem g_getstatic (C : Ctx B l rm bytes own nm maxL ret Z) {i : Nat} {R0 O fn d host : String} {v : Value} (w : (Jvm.Cond.fieldLink own i R0 fn d).before a0 Z = true ∨ (Jvm.Cond.fieldLinkNest own i R0 fn d host).before a0 Z = true) (via : Via Z R0 O fn d) (F : Sta Z h O fn d v) (hd : decode bytes pc = .ok (.getstatic i, 3)) (hpc : pc + 3 = pc') (go : Go B n0 Q h k n pc' L (v :: st)) : Go B n0 Q h k n pc L st := go.move fun T locs X eT => by
  obtain ⟨T', X', e', f⟩ := getS2 X C.2.2.1 C.2.2.2.2.1 C.2.2.2.2.2.1 w via eT F (g := mkF B.m pc L st) rfl (hb C.2.2.2.1 hd)
  subst hpc; exact ⟨T', X', e', f⟩
theorem g_checkcast (C : Ctx B l rm bytes own nm maxL ret Z) {i : Nat} {K : String} {a : Addr} (w : (Jvm.Cond.classLink own i K).before a0 Z = true) (F : Ins Z h a K true) (hd : decode bytes pc = .ok (.checkcast i, 3)) (hpc : pc + 3 = pc') (go : Go B n0 Q h k n pc' L (.ref a :: st)) : Go B n0 Q h k n pc L (.ref a :: st) := go.move fun T locs X eT => by
  obtain ⟨T', X', e', f⟩ := castY X C.2.2.1 C.2.2.2.2.1 C.2.2.2.2.2.1 w eT F (g := mkF B.m pc L (.ref a :: st)) rfl rfl (hb C.2.2.2.1 hd)
  subst hpc; exact ⟨T', X', e', f⟩
theorem g_instanceof_y (C : Ctx B l rm bytes own nm maxL ret Z) {i : Nat} {K : String} {a : Addr} (w : (Jvm.Cond.classLink own i K).before a0 Z = true) (F : Ins Z h a K true) (hd : decode bytes pc = .ok (.instanceof i, 3)) (hpc : pc + 3 = pc') (go : Go B n0 Q h k n pc' L (.int 1 :: st)) : Go B n0 Q h k n pc L (.ref a :: st) := go.move fun T locs X eT => by
  obtain ⟨T', X', e', f⟩ := instY X C.2.2.1 C.2.2.2.2.1 C.2.2.2.2.2.1 w eT F (g := mkF B.m pc L (.ref a :: st)) rfl rfl (hb C.2.2.2.1 hd)
  subst hpc; exact ⟨T', X', e', f⟩
theorem g_instanceof_n (C : Ctx B l rm bytes own nm maxL ret Z) {i : Nat} {K K' : String} {a : Addr} (w : (Jvm.Cond.classLink own i K).before a0 Z = true) (E : Exa Z h a K') (F : ∃ c t, Z.vm.findClass K' = some c ∧ Z.vm.findClass K = some t ∧ Z.vm.assignable c t = false) (hd : decode bytes pc = .ok (.instanceof i, 3)) (hpc : pc + 3 = pc') (go : Go B n0 Q h k n pc' L (.int 0 :: st)) : Go B n0 Q h k n pc L (.ref a :: st) := go.move fun T locs X eT => by
  obtain ⟨T', X', e', f⟩ := instNo X C.2.2.1 C.2.2.2.2.1 C.2.2.2.2.2.1 w eT E F (g := mkF B.m pc L (.ref a :: st)) rfl rfl (hb C.2.2.2.1 hd)
  subst hpc; exact ⟨T', X', e', f⟩
theorem g_putfield (C : Ctx B l rm bytes own nm maxL ret Z) {i kk : Nat} {R0 O fn d host K : String} {ty : FieldType} {a : Addr} {v old : Value} (w : (Jvm.Cond.fieldLink own i R0 fn d).before a0 Z = true ∨ (Jvm.Cond.fieldLinkNest own i R0 fn d host).before a0 Z = true) (via : Via Z R0 O fn d) (F : Fld Z h a O fn d old) (E : Exa Z h a K) (Ly : (Jvm.Cond.lays K O fn d).before a0 Z = true ∨ ((Jvm.Cond.laysFinal K O fn d).before a0 Z = true ∧ own = O ∧ nm = "<init>")) (wi : (Jvm.Cond.instantiable K kk).before a0 Z = true) (hty : parseFieldDescriptor d = some ty) (hn : narrow ty v = v) (hf : fits ty v = true) (ge : n0 ≤ a) (hd : decode bytes pc = .ok (.putfield i, 3)) (hpc : pc + 3 = pc') (go : ∀ h', Wr h h' a (Jvm.RoadKit.slotOf Z O fn d) v → Go B n0 Q h' k n pc' L st) : Go B n0 Q h k n pc L (v :: .ref a :: st) := fun T locs X N eT => by
  obtain ⟨T', h', X', e', W, f⟩ := putF X C.2.2.1 C.2.2.2.2.1 C.2.2.2.2.2.1 w via eT F E (Ly.imp id fun q => ⟨q.1, q.2.1, by rw [C.2.2.2.2.2.2.1]; exact q.2.2⟩) wi hty hn hf (g := mkF B.m pc L (v :: .ref a :: st)) rfl rfl (hb C.2.2.2.1 hd)
  obtain ⟨t, o, q, r⟩ := go h' W T' _ X' (Fr.snoc X' N ge) e'
  subst hpc
  exact ⟨t, o, f t q, r⟩
theorem g_new (C : Ctx B l rm bytes own nm maxL ret Z) {i nn : Nat} {K : String} (w : (Jvm.Cond.classLink own i K).before a0 Z = true) (wi : (Jvm.Cond.instantiable K nn).before a0 Z = true) (wz : (Jvm.Cond.initialized K).before a0 Z = true) (hc : k + 1 ≤ rm.cells) (hl : n + nn ≤ rm.slots) (hd : decode bytes pc = .ok (.new i, 3)) (hpc : pc + 3 = pc') (go : ∀ h' a, a = h.size → Ext h h' → Exa Z h' a K → (∀ {O fn d : String} {ty : FieldType}, Laid Z a0 K O fn d → parseFieldDescriptor d = some ty → Fld Z h' a O fn d (defaultValue ty)) → Go B n0 Q h' (k + 1) (n + nn) pc' L (.ref a :: st)) : Go B n0 Q h k n pc L st := fun T locs X N eT => by
  obtain ⟨T', h', X', e', E, A, D, -, f⟩ := newO X C.2.2.1 C.2.2.2.2.1 C.2.2.2.2.2.1 w wi wz eT (g := mkF B.m pc L st) rfl (hb C.2.2.2.1 hd) (by rw [C.2.1]; exact hc) (by rw [C.2.1]; exact hl)
  obtain ⟨t, o, q, r⟩ := go h' _ rfl E A D T' _ X' N e'
  subst hpc
  exact ⟨t, o, f t q, r⟩
theorem g_initObj (C : Ctx B l rm bytes own nm maxL ret Z) {i : Nat} {a : Addr} (w1 : (Jvm.Cond.methodLink own i Lib.objectInit).before a0 Z = true) (w2 : (Jvm.Cond.instanceMethod Lib.objectInit).before a0 Z = true) (w3 : (Jvm.Cond.code Lib.objectInit ⟨#[0xb1]⟩ 1 none).before a0 Z = true) (hsz : L.size = maxL) (hf : 1 ≤ rm.frames) {W : Nat} (hW : (st.map fun v => v.category).sum ≤ W) (hl : W + 12 ≤ rm.locals) (hd : decode bytes pc = .ok (.invokespecial i, 3)) (hpc : pc + 3 = pc') (go : Go B n0 Q h k n pc' L st) : Go B n0 Q h k n pc L (.ref a :: st) := fun T locs X N eT => by
  obtain ⟨T', X', e', f⟩ := initO X C.2.2.1 C.2.2.2.2.1 C.2.2.2.2.2.1 w1 w2 w3 eT (g := mkF B.m pc L (.ref a :: st)) rfl (by rw [C.2.2.2.2.2.2.2.1]; exact hsz) rfl (hb C.2.2.2.1 hd) (by rw [C.2.1]; exact hf) (W := W) (by show 2 * 0 + _ ≤ _; omega) (by rw [C.2.1]; exact hl)
  obtain ⟨t, o, q, r⟩ := go T' _ X' N e'
  subst hpc
  exact ⟨t, o, f t q, r⟩
theorem g_static (C : Ctx B l rm bytes own nm maxL ret Z) {i : Nat} {y : MethodName} {b' : ByteArray} {mx : Nat} {rt : Option FieldType} {rm' : Room} {as' : Array Value} {Q' : Option Value → Heap → Prop} (w1 : (Jvm.Cond.methodLink own i y).before a0 Z = true) (w2 : (Jvm.Cond.static y).before a0 Z = true) (wz : (Jvm.Cond.initialized y.cls).before a0 Z = true) (wc : (Jvm.Cond.code y b' mx rt).before a0 Z = true) (hy : y.cls ≠ "java/lang/invoke/MethodHandle" ∧ y.cls ≠ "java/lang/invoke/VarHandle") (K : Met1 l Z y b' mx rt rm' n0 as' h Q') (argsL : List Value) {stk : List Value} (hst : stk = argsL.reverse ++ st) (has : as' = argsL.toArray) {ps : List FieldType} {r' : Option FieldType} (pd : parseMethodDescriptor y.desc = some ⟨ps, r'⟩) (hlen : argsL.length = ps.length) (hsz : L.size = maxL) (hf : rm'.frames + 1 ≤ rm.frames) {W : Nat} (hW : (st.map fun v => v.category).sum ≤ W) (hlo : W + (mx + 11) + rm'.locals ≤ rm.locals) (hc : k + rm'.cells ≤ rm.cells) (hs : n + rm'.slots ≤ rm.slots) (hd : decode bytes pc = .ok (.invokestatic i, 3)) (hpc : pc + 3 = pc') (go : ∀ v h', Q' v h' → Go B n0 Q h' (k + rm'.cells) (n + rm'.slots) pc' L (v.toList ++ st)) : Go B n0 Q h k n pc L stk := fun T locs X N eT => by
  subst hst has
  obtain ⟨v, _, ⟨T', L1, k1, n1⟩, -, X', ⟨L2, ⟨N', hq⟩, l1, l2, l3⟩, f⟩ := Jvm.LawKit.callS X C.2.2.1 (y := y) C.2.2.2.2.2.1 (mvT C.2.2.2.2.1 w1) (mvT C.2.2.2.2.1 w2) (mvT C.2.2.2.2.1 wz) (mvT C.2.2.2.2.1 wc) hy (backOf (W := W) (Q := fun v h L => Fr n0 L ∧ Q' v h) (C.1 ▸ K []) C.2.2.2.2.1 wc wz (by rw [C.2.1]; exact hf) (by rw [C.2.1]; exact hlo)) (g := mkF B.m pc L (argsL.reverse ++ st)) rfl (by rw [C.2.2.2.2.2.2.2.1]; exact hsz) (argsL := argsL) (rest := st) (lenOf pd hlen) rfl (by show 2 * 0 + _ ≤ _; omega) (hb C.2.2.2.1 hd) (fun _ _ => ⟨rfl, eT, by rw [C.2.1]; exact hc, by rw [C.2.1]; exact hs⟩)
  dsimp only [Pt.U, Pt.locs, Pt.cells, Pt.slots] at X' l1 l2 l3 f hq
  subst l1 l2 l3
  obtain ⟨t, o, q, r⟩ := go v _ hq T' _ X' (Fr.app N N') rfl
  subst hpc
  exact ⟨t, o, f t q, r⟩
theorem g_special (C : Ctx B l rm bytes own nm maxL ret Z) {i : Nat} {y : MethodName} {b' : ByteArray} {mx : Nat} {rm' : Room} {as' : Array Value} {Q' : Option Value → Heap → Prop} {a : Addr} (hy1 : y.name = "<init>") (w1 : (Jvm.Cond.methodLink own i y).before a0 Z = true) (w2 : (Jvm.Cond.instanceMethod y).before a0 Z = true) (wz : (Jvm.Cond.initialized y.cls).before a0 Z = true) (wc : (Jvm.Cond.code y b' mx none).before a0 Z = true) (hy : y.cls ≠ "java/lang/invoke/MethodHandle" ∧ y.cls ≠ "java/lang/invoke/VarHandle") (K : Met1 l Z y b' mx none rm' n0 as' h Q') (argsL : List Value) {stk : List Value} (hst : stk = argsL.reverse ++ .ref a :: st) (has : as' = (Value.ref a :: argsL).toArray) {ps : List FieldType} {r' : Option FieldType} (pd : parseMethodDescriptor y.desc = some ⟨ps, r'⟩) (hlen : argsL.length = ps.length) (hsz : L.size = maxL) (hf : rm'.frames + 1 ≤ rm.frames) {W : Nat} (hW : (st.map fun v => v.category).sum ≤ W) (hlo : W + (mx + 11) + rm'.locals ≤ rm.locals) (hc : k + rm'.cells ≤ rm.cells) (hs : n + rm'.slots ≤ rm.slots) (hd : decode bytes pc = .ok (.invokespecial i, 3)) (hpc : pc + 3 = pc') (go : ∀ v h', Q' v h' → Go B n0 Q h' (k + rm'.cells) (n + rm'.slots) pc' L (v.toList ++ st)) : Go B n0 Q h k n pc L stk := fun T locs X N eT => by
  subst hst has
  obtain ⟨v, _, ⟨T', L1, k1, n1⟩, -, X', ⟨L2, ⟨N', hq⟩, l1, l2, l3⟩, f⟩ := X.specialBack C.2.2.1 (y := y) hy1 C.2.2.2.2.2.1 (mvT C.2.2.2.2.1 w1) (mvT C.2.2.2.2.1 w2) (mvT C.2.2.2.2.1 wc) hy (backOf (W := W) (Q := fun v h L => Fr n0 L ∧ Q' v h) (C.1 ▸ K []) C.2.2.2.2.1 wc wz (by rw [C.2.1]; exact hf) (by rw [C.2.1]; exact hlo)) (g := mkF B.m pc L (argsL.reverse ++ .ref a :: st)) rfl (by rw [C.2.2.2.2.2.2.2.1]; exact hsz) (Steps.refl _) (a := a) (argsL := argsL) (rest := st) (lenOf pd hlen) rfl (by show 2 * 0 + _ ≤ _; omega) (hb C.2.2.2.1 hd) (fun _ _ => ⟨rfl, eT, by rw [C.2.1]; exact hc, by rw [C.2.1]; exact hs⟩)
  dsimp only [Pt.U, Pt.locs, Pt.cells, Pt.slots] at X' l1 l2 l3 f hq
  subst l1 l2 l3
  obtain ⟨t, o, q, r⟩ := go v _ hq T' _ X' (Fr.app N N') rfl
  subst hpc
  exact ⟨t, o, f.trans q, r⟩
theorem g_virtual (C : Ctx B l rm bytes own nm maxL ret Z) {i : Nat} {y : MethodName} {b' : ByteArray} {mx : Nat} {rt : Option FieldType} {rm' : Room} {as' : Array Value} {Q' : Option Value → Heap → Prop} {a : Addr} {K' : String} {y0 : MethodName} (w1 : (Jvm.Cond.methodLink own i y0).before a0 Z = true) (w2 : (Jvm.Cond.declares y0).before a0 Z = true) (w3 : (Jvm.Cond.selects K' y0 y).before a0 Z = true) (w4 : (Jvm.Cond.instanceMethod y).before a0 Z = true) (wz : (Jvm.Cond.initialized y.cls).before a0 Z = true) (wc : (Jvm.Cond.code y b' mx rt).before a0 Z = true) (nf : NotFace B.s y0) (hy : y0.cls ≠ "java/lang/invoke/MethodHandle" ∧ y0.cls ≠ "java/lang/invoke/VarHandle") (E : Exa Z h a K') (K : Met1 l Z y b' mx rt rm' n0 as' h Q') (argsL : List Value) {stk : List Value} (hst : stk = argsL.reverse ++ .ref a :: st) (has : as' = (Value.ref a :: argsL).toArray) {ps : List FieldType} {r' : Option FieldType} (pd : parseMethodDescriptor y0.desc = some ⟨ps, r'⟩) (hlen : argsL.length = ps.length) (hsz : L.size = maxL) (hf : rm'.frames + 1 ≤ rm.frames) {W : Nat} (hW : (st.map fun v => v.category).sum ≤ W) (hlo : W + (mx + 11) + rm'.locals ≤ rm.locals) (hc : k + rm'.cells ≤ rm.cells) (hs : n + rm'.slots ≤ rm.slots) (hd : decode bytes pc = .ok (.invokevirtual i, 3)) (hpc : pc + 3 = pc') (go : ∀ v h', Q' v h' → Go B n0 Q h' (k + rm'.cells) (n + rm'.slots) pc' L (v.toList ++ st)) : Go B n0 Q h k n pc L stk := fun T locs X N eT => by
  subst hst has
  obtain ⟨cq, kq, qa, qb, qc⟩ := isOf C.2.2.2.2.1 eT E
  obtain ⟨v, _, ⟨T', L1, k1, n1⟩, -, X', ⟨L2, ⟨N', hq⟩, l1, l2, l3⟩, f⟩ := X.virtualBack C.2.2.1 (y := y0) (z := y) C.2.2.2.2.2.1 (mvT C.2.2.2.2.1 w1) (mvT C.2.2.2.2.1 w2) nf (mvT C.2.2.2.2.1 w3) (mvT C.2.2.2.2.1 w4) hy (backOf (W := W) (Q := fun v h L => Fr n0 L ∧ Q' v h) (C.1 ▸ K []) C.2.2.2.2.1 wc wz (by rw [C.2.1]; exact hf) (by rw [C.2.1]; exact hlo)) qa qc (g := mkF B.m pc L (argsL.reverse ++ .ref a :: st)) rfl (by rw [C.2.2.2.2.2.2.2.1]; exact hsz) (Steps.refl _) (argsL := argsL) (rest := st) (lenOf pd hlen) rfl (by show 2 * 0 + _ ≤ _; omega) (hb C.2.2.2.1 hd) (fun _ _ => ⟨rfl, eT, by rw [C.2.1]; exact hc, by rw [C.2.1]; exact hs⟩)
  dsimp only [Pt.U, Pt.locs, Pt.cells, Pt.slots] at X' l1 l2 l3 f hq
  subst l1 l2 l3
  obtain ⟨t, o, q, r⟩ := go v _ hq T' _ X' (Fr.app N N') rfl
  subst hpc
  exact ⟨t, o, f.trans q, r⟩
theorem g_ret (C : Ctx B l rm bytes own nm maxL ret Z) {v : Value} {ty : FieldType} {i : Instr} (hret : ret = some ty) (hn : narrow ty v = v)
    (hi : (i = .ireturn ∧ (ty = .int ∨ ty = .boolean ∨ ty = .byte ∨ ty = .char ∨ ty = .short) ∧ ∃ z, v = .int z) ∨ (i = .lreturn ∧ ty = .long ∧ ∃ z, v = .long z) ∨ (i = .dreturn ∧ ty = .double ∧ ∃ z, v = .double z) ∨ (i = .freturn ∧ ty = .float ∧ ∃ z, v = .float z) ∨ (i = .areturn ∧ ty.isReference = true ∧ v.isRef = true))
    (hd : decode bytes pc = .ok (i, 1)) (hk : k ≤ rm.cells) (hs : n ≤ rm.slots) (go : Q (some v) h) : Go B n0 Q h k n pc L (v :: st) := fun T locs X N eT => by
  have hr0 : B.meth.sig.returnType = some ty := C.2.2.2.2.2.2.2.2.1.trans hret
  obtain ⟨fs, hr, hrun, hended, hW, hsame⟩ := X.leave (v := some v) (fun q => by rw [hr0] at q; cases q) C.2.2.2.2.2.2.2.2.2
  exact ⟨_, _, retOut X C.2.2.1 hr0 hn hi (hb C.2.2.2.1 hd) hr, hrun, hended, _, _, rfl, ⟨N, by show Q _ T.heap; rw [eT]; exact go⟩, ⟨_, rfl⟩, hW, hsame.mono (by rw [C.2.1]; exact hk) (by rw [C.2.1]; exact hs)⟩
theorem g_return (C : Ctx B l rm bytes own nm maxL ret Z) (hret : ret = none) (hd : decode bytes pc = .ok (.return_, 1)) (hk : k ≤ rm.cells) (hs : n ≤ rm.slots) (go : Q none h) : Go B n0 Q h k n pc L [] := fun T locs X N eT => by
  have hr0 : B.meth.sig.returnType = none := C.2.2.2.2.2.2.2.2.1.trans hret
  obtain ⟨fs, hr, hrun, hended, hW, hsame⟩ := X.leave (v := none) (fun _ => rfl) C.2.2.2.2.2.2.2.2.2
  exact ⟨_, _, X.returnOut C.2.2.1 hr0 (hb C.2.2.2.1 hd) hr, hrun, hended, _, _, rfl, ⟨N, by show Q _ T.heap; rw [eT]; exact go⟩, ⟨_, rfl⟩, hW, hsame.mono (by rw [C.2.1]; exact hk) (by rw [C.2.1]; exact hs)⟩
end Base
/-! arrays made on the road -/
section Arrays
variable {Z : State} {h h' : Heap} {a b : Addr} {ty : FieldType} {vs : List Value} {ws : List Addr} {sl : Nat} {v : Value} {K : String}
def Ary (Z : State) (h : Heap) (a : Addr) (ty : FieldType) (vs : List Value) : Prop := ∃ c : Cell, Arr Z h a c ty ∧ c.slots.toList = vs ∧ vs.length < 2 ^ 31
def AryR (Z : State) (h : Heap) (a : Addr) (K : String) (vs : List Value) : Prop := ∃ c : Cell, Arr Z h a c (.object K) ∧ Ovr Z c.cls K ∧ c.slots.toList = vs ∧ vs.length < 2 ^ 31
theorem AryR.ary (F : AryR Z h a K vs) : Ary Z h a (.object K) vs := by obtain ⟨c, A, -, r⟩ := F; exact ⟨c, A, r⟩
theorem Ary.lt (F : Ary Z h a ty vs) : a < h.size := by obtain ⟨c, A, -⟩ := F; exact A.lt
theorem AryR.lt (F : AryR Z h a K vs) : a < h.size := F.ary.lt
theorem Ary.ext (F : Ary Z h a ty vs) (E : Ext h h') : Ary Z h' a ty vs := by obtain ⟨c, A, r⟩ := F; exact ⟨c, A.ext E, r⟩
theorem AryR.ext (F : AryR Z h a K vs) (E : Ext h h') : AryR Z h' a K vs := by obtain ⟨c, A, r⟩ := F; exact ⟨c, A.ext E, r⟩
theorem Ary.keep (F : Ary Z h a ty vs) (K : Keep h h' ws) (q : a ∉ ws) : Ary Z h' a ty vs := by obtain ⟨c, A, r⟩ := F; exact ⟨c, ⟨K.2.1 a c A.1 q, A.2⟩, r⟩
theorem AryR.keep (F : AryR Z h a K vs) (Kp : Keep h h' ws) (q : a ∉ ws) : AryR Z h' a K vs := by obtain ⟨c, A, r⟩ := F; exact ⟨c, ⟨Kp.2.1 a c A.1 q, A.2⟩, r⟩
theorem set_list (c : Cell) (i : Nat) (v : Value) : (c.setSlot i v).slots.toList = c.slots.toList.set i v := by simp [Cell.setSlot]
theorem keep_ext (E : Ext h h') : Keep h h' [] := (Keep.refl h []).ext E
theorem ne_new {c : Nat} (q : a < c) (e : b = c) : a ≠ b := fun z => absurd q (by rw [z, e]; exact Nat.lt_irrefl _)
theorem ne_newL {c : Nat} (q : a < c) (e : b = c) : b ≠ a := fun z => absurd q (by rw [← z, e]; exact Nat.lt_irrefl _)
theorem ne_ge {c : Nat} (q : a < c) (e : c ≤ b) : a ≠ b := fun z => absurd q (Nat.not_lt.mpr (z ▸ e))
theorem nin1 (q : a ≠ b) : a ∉ [b] := ninS q nin0
theorem in_b {j : Int32} {c : Cell} {i : Nat} (h0 : ¬ j < 0) (hj : j.toNatClampNeg = i) (hi : i < c.slots.size) : ¬ (j < 0 ∨ c.slots.size ≤ j.toNatClampNeg) := fun q => q.elim h0 fun q => by omega
end Arrays
section ArraySteps
variable {B : Bod} {l : Launch} {rm : Room} {bytes : ByteArray} {own nm : String} {maxL : Nat} {ret : Option FieldType} {Z : State} {n0 : Nat} {Q : Option Value → Heap → Prop} {h : Heap} {k n pc pc' : Nat} {L L' : Array Slot} {st st' : List Value} {a0 : Array Value}
theorem g_iaload (C : Ctx B l rm bytes own nm maxL ret Z) {a : Addr} {vs : List Value} {j : Int32} {i : Nat} {v : Int32} (F : Ary Z h a .int vs) (h0 : ¬ j < 0) (hj : j.toNatClampNeg = i) (hv : vs[i]? = some (.int v)) (hd : decode bytes pc = .ok (.iaload, 1)) (hpc : pc + 1 = pc') (go : Go B n0 Q h k n pc' L (.int v :: st)) : Go B n0 Q h k n pc L (.int j :: .ref a :: st) := go.step fun T locs X eT t q => by
  obtain ⟨c, A, rfl, hl⟩ := F
  have hi := (List.getElem?_eq_some_iff.mp hv).1
  rw [Array.length_toList] at hi
  rw [Array.getElem?_toList, ← hj] at hv
  exact X.iaload C.2.2.1 (by rw [eT]; exact A.1) (State.isArrayOf_alike C.2.2.2.2.1.alike A.2.1)  A.2.2 (in_b h0 hj hi) hv (g := mkF B.m pc L (.int j :: .ref a :: st)) rfl rfl (hb C.2.2.2.1 hd) t (by subst hpc; exact q)
theorem g_laload (C : Ctx B l rm bytes own nm maxL ret Z) {a : Addr} {vs : List Value} {j : Int32} {i : Nat} {v : Int64} (F : Ary Z h a .long vs) (h0 : ¬ j < 0) (hj : j.toNatClampNeg = i) (hv : vs[i]? = some (.long v)) (hd : decode bytes pc = .ok (.laload, 1)) (hpc : pc + 1 = pc') (go : Go B n0 Q h k n pc' L (.long v :: st)) : Go B n0 Q h k n pc L (.int j :: .ref a :: st) := go.step fun T locs X eT t q => by
  obtain ⟨c, A, rfl, hl⟩ := F
  have hi := (List.getElem?_eq_some_iff.mp hv).1
  rw [Array.length_toList] at hi
  rw [Array.getElem?_toList, ← hj] at hv
  exact X.laload C.2.2.1 (by rw [eT]; exact A.1) (State.isArrayOf_alike C.2.2.2.2.1.alike A.2.1)  A.2.2 (in_b h0 hj hi) hv (g := mkF B.m pc L (.int j :: .ref a :: st)) rfl rfl (hb C.2.2.2.1 hd) t (by subst hpc; exact q)
theorem g_caload (C : Ctx B l rm bytes own nm maxL ret Z) {a : Addr} {vs : List Value} {j : Int32} {i : Nat} {v : Int32} (F : Ary Z h a .char vs) (h0 : ¬ j < 0) (hj : j.toNatClampNeg = i) (hv : vs[i]? = some (.int v)) (hd : decode bytes pc = .ok (.caload, 1)) (hpc : pc + 1 = pc') (go : Go B n0 Q h k n pc' L (.int v :: st)) : Go B n0 Q h k n pc L (.int j :: .ref a :: st) := go.step fun T locs X eT t q => by
  obtain ⟨c, A, rfl, hl⟩ := F
  have hi := (List.getElem?_eq_some_iff.mp hv).1
  rw [Array.length_toList] at hi
  rw [Array.getElem?_toList, ← hj] at hv
  exact X.caload C.2.2.1 (by rw [eT]; exact A.1) (State.isArrayOf_alike C.2.2.2.2.1.alike A.2.1)  A.2.2 (in_b h0 hj hi) hv (g := mkF B.m pc L (.int j :: .ref a :: st)) rfl rfl (hb C.2.2.2.1 hd) t (by subst hpc; exact q)
theorem g_baloadB (C : Ctx B l rm bytes own nm maxL ret Z) {a : Addr} {vs : List Value} {j : Int32} {i : Nat} {v : Int32} (F : Ary Z h a .byte vs) (h0 : ¬ j < 0) (hj : j.toNatClampNeg = i) (hv : vs[i]? = some (.int v)) (hd : decode bytes pc = .ok (.baload, 1)) (hpc : pc + 1 = pc') (go : Go B n0 Q h k n pc' L (.int v :: st)) : Go B n0 Q h k n pc L (.int j :: .ref a :: st) := go.step fun T locs X eT t q => by
  obtain ⟨c, A, rfl, hl⟩ := F
  have hi := (List.getElem?_eq_some_iff.mp hv).1
  rw [Array.length_toList] at hi
  rw [Array.getElem?_toList, ← hj] at hv
  exact X.baloadBytes C.2.2.1 (by rw [eT]; exact A.1) (State.isArrayOf_alike C.2.2.2.2.1.alike A.2.1)  A.2.2 (in_b h0 hj hi) hv (g := mkF B.m pc L (.int j :: .ref a :: st)) rfl rfl (hb C.2.2.2.1 hd) t (by subst hpc; exact q)
theorem g_baloadZ (C : Ctx B l rm bytes own nm maxL ret Z) {a : Addr} {vs : List Value} {j : Int32} {i : Nat} {v : Int32} (F : Ary Z h a .boolean vs) (h0 : ¬ j < 0) (hj : j.toNatClampNeg = i) (hv : vs[i]? = some (.int v)) (hd : decode bytes pc = .ok (.baload, 1)) (hpc : pc + 1 = pc') (go : Go B n0 Q h k n pc' L (.int v :: st)) : Go B n0 Q h k n pc L (.int j :: .ref a :: st) := go.step fun T locs X eT t q => by
  obtain ⟨c, A, rfl, hl⟩ := F
  have hi := (List.getElem?_eq_some_iff.mp hv).1
  rw [Array.length_toList] at hi
  rw [Array.getElem?_toList, ← hj] at hv
  exact X.baloadBooleans C.2.2.1 (by rw [eT]; exact A.1) (State.isArrayOf_alike C.2.2.2.2.1.alike A.2.1)  A.2.2 (in_b h0 hj hi) hv (g := mkF B.m pc L (.int j :: .ref a :: st)) rfl rfl (hb C.2.2.2.1 hd) t (by subst hpc; exact q)
theorem g_aaload (C : Ctx B l rm bytes own nm maxL ret Z) {a : Addr} {vs : List Value} {j : Int32} {i : Nat} {v : Value} {ty : FieldType} (F : Ary Z h a ty vs) (hty : ty.isReference = true) (h0 : ¬ j < 0) (hj : j.toNatClampNeg = i) (hv : vs[i]? = some v) (hd : decode bytes pc = .ok (.aaload, 1)) (hpc : pc + 1 = pc') (go : Go B n0 Q h k n pc' L (v :: st)) : Go B n0 Q h k n pc L (.int j :: .ref a :: st) := go.step fun T locs X eT t q => by
  obtain ⟨c, A, rfl, hl⟩ := F
  have hi := (List.getElem?_eq_some_iff.mp hv).1
  rw [Array.length_toList] at hi
  rw [Array.getElem?_toList, ← hj] at hv
  exact X.aaload C.2.2.1 (by rw [eT]; exact A.1) (State.isArrayOf_alike C.2.2.2.2.1.alike A.2.1) hty A.2.2 (in_b h0 hj hi) hv (g := mkF B.m pc L (.int j :: .ref a :: st)) rfl rfl (hb C.2.2.2.1 hd) t (by subst hpc; exact q)
theorem g_arraylength (C : Ctx B l rm bytes own nm maxL ret Z) {a : Addr} {vs : List Value} {ty : FieldType} {z : Int32} (F : Ary Z h a ty vs) (hz : vs.length.toInt32 = z) (hd : decode bytes pc = .ok (.arraylength, 1)) (hpc : pc + 1 = pc') (go : Go B n0 Q h k n pc' L (.int z :: st)) : Go B n0 Q h k n pc L (.ref a :: st) := go.step fun T locs X eT t q => by
  obtain ⟨c, A, rfl, hl⟩ := F
  rw [Array.length_toList] at hz
  exact X.arraylength C.2.2.1 (by rw [eT]; exact A.1) (State.isArrayOf_alike C.2.2.2.2.1.alike A.2.1) (g := mkF B.m pc L (.ref a :: st)) rfl rfl (hb C.2.2.2.1 hd) t (by subst hpc hz; exact q)
theorem g_iastore (C : Ctx B l rm bytes own nm maxL ret Z) {a : Addr} {vs : List Value} {j : Int32} {i : Nat} {v : Int32} {w : Value} (F : Ary Z h a .int vs) (h0 : ¬ j < 0) (hj : j.toNatClampNeg = i) (hi : i < vs.length) (hw : Value.int v = w) (ge : n0 ≤ a) (hd : decode bytes pc = .ok (.iastore, 1)) (hpc : pc + 1 = pc') (go : ∀ h', Keep h h' [a] → Ary Z h' a .int (vs.set i w) → Go B n0 Q h' k n pc' L st) : Go B n0 Q h k n pc L (.int v :: .int j :: .ref a :: st) := fun T locs X N eT => by
  obtain ⟨c, A, rfl, hl⟩ := F
  have hi' := hi
  rw [Array.length_toList] at hi'
  obtain ⟨T', h', X', e', W, f⟩ := stI X C.2.2.1 C.2.2.2.2.1 eT A (in_b h0 hj hi') (g := mkF B.m pc L (.int v :: .int j :: .ref a :: st)) rfl rfl (hb C.2.2.2.1 hd)
  rw [hj, hw] at W
  obtain ⟨t, o, q, r⟩ := go h' (Keep.of_wr W) ⟨_, A.same W, set_list c i w, by rw [List.length_set]; exact hl⟩ T' _ X' (Fr.snoc X' N ge) e'
  subst hpc
  exact ⟨t, o, f t q, r⟩
theorem g_lastore (C : Ctx B l rm bytes own nm maxL ret Z) {a : Addr} {vs : List Value} {j : Int32} {i : Nat} {v : Int64} {w : Value} (F : Ary Z h a .long vs) (h0 : ¬ j < 0) (hj : j.toNatClampNeg = i) (hi : i < vs.length) (hw : Value.long v = w) (ge : n0 ≤ a) (hd : decode bytes pc = .ok (.lastore, 1)) (hpc : pc + 1 = pc') (go : ∀ h', Keep h h' [a] → Ary Z h' a .long (vs.set i w) → Go B n0 Q h' k n pc' L st) : Go B n0 Q h k n pc L (.long v :: .int j :: .ref a :: st) := fun T locs X N eT => by
  obtain ⟨c, A, rfl, hl⟩ := F
  have hi' := hi
  rw [Array.length_toList] at hi'
  obtain ⟨T', h', X', e', W, f⟩ := stJ X C.2.2.1 C.2.2.2.2.1 eT A (in_b h0 hj hi') (g := mkF B.m pc L (.long v :: .int j :: .ref a :: st)) rfl rfl (hb C.2.2.2.1 hd)
  rw [hj, hw] at W
  obtain ⟨t, o, q, r⟩ := go h' (Keep.of_wr W) ⟨_, A.same W, set_list c i w, by rw [List.length_set]; exact hl⟩ T' _ X' (Fr.snoc X' N ge) e'
  subst hpc
  exact ⟨t, o, f t q, r⟩
theorem g_castore (C : Ctx B l rm bytes own nm maxL ret Z) {a : Addr} {vs : List Value} {j : Int32} {i : Nat} {v : Int32} {w : Value} (F : Ary Z h a .char vs) (h0 : ¬ j < 0) (hj : j.toNatClampNeg = i) (hi : i < vs.length) (hw : Value.int (nar .char v) = w) (ge : n0 ≤ a) (hd : decode bytes pc = .ok (.castore, 1)) (hpc : pc + 1 = pc') (go : ∀ h', Keep h h' [a] → Ary Z h' a .char (vs.set i w) → Go B n0 Q h' k n pc' L st) : Go B n0 Q h k n pc L (.int v :: .int j :: .ref a :: st) := fun T locs X N eT => by
  obtain ⟨c, A, rfl, hl⟩ := F
  have hi' := hi
  rw [Array.length_toList] at hi'
  obtain ⟨T', h', X', e', W, f⟩ := stC X C.2.2.1 C.2.2.2.2.1 eT A (in_b h0 hj hi') (g := mkF B.m pc L (.int v :: .int j :: .ref a :: st)) rfl rfl (hb C.2.2.2.1 hd)
  rw [hj, hw] at W
  obtain ⟨t, o, q, r⟩ := go h' (Keep.of_wr W) ⟨_, A.same W, set_list c i w, by rw [List.length_set]; exact hl⟩ T' _ X' (Fr.snoc X' N ge) e'
  subst hpc
  exact ⟨t, o, f t q, r⟩
theorem g_bastoreB (C : Ctx B l rm bytes own nm maxL ret Z) {a : Addr} {vs : List Value} {j : Int32} {i : Nat} {v : Int32} {w : Value} (F : Ary Z h a .byte vs) (h0 : ¬ j < 0) (hj : j.toNatClampNeg = i) (hi : i < vs.length) (hw : Value.int (nar .byte v) = w) (ge : n0 ≤ a) (hd : decode bytes pc = .ok (.bastore, 1)) (hpc : pc + 1 = pc') (go : ∀ h', Keep h h' [a] → Ary Z h' a .byte (vs.set i w) → Go B n0 Q h' k n pc' L st) : Go B n0 Q h k n pc L (.int v :: .int j :: .ref a :: st) := fun T locs X N eT => by
  obtain ⟨c, A, rfl, hl⟩ := F
  have hi' := hi
  rw [Array.length_toList] at hi'
  obtain ⟨T', h', X', e', W, f⟩ := stB X C.2.2.1 C.2.2.2.2.1 eT A (in_b h0 hj hi') (g := mkF B.m pc L (.int v :: .int j :: .ref a :: st)) rfl rfl (hb C.2.2.2.1 hd)
  rw [hj, hw] at W
  obtain ⟨t, o, q, r⟩ := go h' (Keep.of_wr W) ⟨_, A.same W, set_list c i w, by rw [List.length_set]; exact hl⟩ T' _ X' (Fr.snoc X' N ge) e'
  subst hpc
  exact ⟨t, o, f t q, r⟩
theorem g_bastoreZ (C : Ctx B l rm bytes own nm maxL ret Z) {a : Addr} {vs : List Value} {j : Int32} {i : Nat} {v : Int32} {w : Value} (F : Ary Z h a .boolean vs) (h0 : ¬ j < 0) (hj : j.toNatClampNeg = i) (hi : i < vs.length) (hw : Value.int (nar .boolean v) = w) (ge : n0 ≤ a) (hd : decode bytes pc = .ok (.bastore, 1)) (hpc : pc + 1 = pc') (go : ∀ h', Keep h h' [a] → Ary Z h' a .boolean (vs.set i w) → Go B n0 Q h' k n pc' L st) : Go B n0 Q h k n pc L (.int v :: .int j :: .ref a :: st) := fun T locs X N eT => by
  obtain ⟨c, A, rfl, hl⟩ := F
  have hi' := hi
  rw [Array.length_toList] at hi'
  obtain ⟨T', h', X', e', W, f⟩ := stZ X C.2.2.1 C.2.2.2.2.1 eT A (in_b h0 hj hi') (g := mkF B.m pc L (.int v :: .int j :: .ref a :: st)) rfl rfl (hb C.2.2.2.1 hd)
  rw [hj, hw] at W
  obtain ⟨t, o, q, r⟩ := go h' (Keep.of_wr W) ⟨_, A.same W, set_list c i w, by rw [List.length_set]; exact hl⟩ T' _ X' (Fr.snoc X' N ge) e'
  subst hpc
  exact ⟨t, o, f t q, r⟩
theorem g_aastore (C : Ctx B l rm bytes own nm maxL ret Z) {a y : Addr} {K : String} {vs : List Value} {j : Int32} {i : Nat} (F : AryR Z h a K vs) (I : Ins Z h y K true) (h0 : ¬ j < 0) (hj : j.toNatClampNeg = i) (hi : i < vs.length) (ge : n0 ≤ a) (hd : decode bytes pc = .ok (.aastore, 1)) (hpc : pc + 1 = pc') (go : ∀ h', Keep h h' [a] → AryR Z h' a K (vs.set i (.ref y)) → Go B n0 Q h' k n pc' L st) : Go B n0 Q h k n pc L (.ref y :: .int j :: .ref a :: st) := fun T locs X N eT => by
  obtain ⟨c, A, O, rfl, hl⟩ := F
  have hi' := hi
  rw [Array.length_toList] at hi'
  obtain ⟨T', h', X', e', W, f⟩ := stR X C.2.2.1 C.2.2.2.2.1 eT A (in_b h0 hj hi') rfl (Sto.of A O I) (g := mkF B.m pc L (.ref y :: .int j :: .ref a :: st)) rfl rfl (hb C.2.2.2.1 hd)
  rw [hj] at W
  obtain ⟨t, o, q, r⟩ := go h' (Keep.of_wr W) ⟨_, A.same W, O, set_list c i _, by rw [List.length_set]; exact hl⟩ T' _ X' (Fr.snoc X' N ge) e'
  subst hpc
  exact ⟨t, o, f t q, r⟩
theorem g_newarray (C : Ctx B l rm bytes own nm maxL ret Z) {aty : ArrayType} {z : Int32} {cap : Nat} {ty : FieldType} (w : (Jvm.Cond.arrayClass (newarray.typeOf aty)).before a0 Z = true) (hty : newarray.typeOf aty = ty) (hz : ¬ z < 0) (hcap : z.toNatClampNeg = cap) (hcb : cap * 8 ≤ 536870912) (hc : k + 1 ≤ rm.cells) (hl : n + cap ≤ rm.slots) (hd : decode bytes pc = .ok (.newarray aty, 2)) (hpc : pc + 2 = pc') (go : ∀ h' a, a = h.size → Ext h h' → Ary Z h' a ty (List.replicate cap (defaultValue ty)) → Go B n0 Q h' (k + 1) (n + cap) pc' L (.ref a :: st)) : Go B n0 Q h k n pc L (.int z :: st) := fun T locs X N eT => by
  subst hty
  obtain ⟨T', h', cA, X', e', E, A, f⟩ := newP X C.2.2.1 C.2.2.2.2.1 w eT (g := mkF B.m pc L (.int z :: st)) rfl (hb C.2.2.2.1 hd) rfl hz (cap := cap) (Nat.le_of_eq hcap) hcb (by rw [C.2.1]; exact hc) (by rw [C.2.1]; exact hl)
  obtain ⟨t, o, q, r⟩ := go h' _ rfl E ⟨_, A, by rw [← hcap]; simp [newA], by rw [List.length_replicate]; omega⟩ T' _ X' N e'
  subst hpc
  exact ⟨t, o, f t q, r⟩
theorem g_newarrayUpTo (C : Ctx B l rm bytes own nm maxL ret Z) {aty : ArrayType} {z : Int32} {len cap : Nat} {ty : FieldType} (w : (Jvm.Cond.arrayClass (newarray.typeOf aty)).before a0 Z = true) (hty : newarray.typeOf aty = ty) (hz : ¬ z < 0) (hlen : z.toNatClampNeg = len) (hcap : len ≤ cap) (hcb : cap * 8 ≤ 536870912) (hc : k + 1 ≤ rm.cells) (hl : n + cap ≤ rm.slots) (hd : decode bytes pc = .ok (.newarray aty, 2)) (hpc : pc + 2 = pc') (go : ∀ h' a, a = h.size → Ext h h' → Ary Z h' a ty (List.replicate len (defaultValue ty)) → Go B n0 Q h' (k + 1) (n + cap) pc' L (.ref a :: st)) : Go B n0 Q h k n pc L (.int z :: st) := fun T locs X N eT => by
  subst hty
  obtain ⟨T', h', cA, X', e', E, A, f⟩ := newP X C.2.2.1 C.2.2.2.2.1 w eT (g := mkF B.m pc L (.int z :: st)) rfl (hb C.2.2.2.1 hd) rfl hz (cap := cap) (by rw [hlen]; exact hcap) hcb (by rw [C.2.1]; exact hc) (by rw [C.2.1]; exact hl)
  obtain ⟨t, o, q, r⟩ := go h' _ rfl E ⟨_, A, by rw [← hlen]; simp [newA], by rw [List.length_replicate]; omega⟩ T' _ X' N e'
  subst hpc
  exact ⟨t, o, f t q, r⟩
theorem g_anewarray (C : Ctx B l rm bytes own nm maxL ret Z) {i : Nat} {K : String} {z : Int32} {cap : Nat} (w : (Jvm.Cond.classLink own i K).before a0 Z = true) (w2 : (Jvm.Cond.arrayOver (.object K)).before a0 Z = true) (hz : ¬ z < 0) (hcap : z.toNatClampNeg = cap) (hcb : cap * 8 ≤ 536870912) (hc : k + 1 ≤ rm.cells) (hl : n + cap ≤ rm.slots) (hd : decode bytes pc = .ok (.anewarray i, 3)) (hpc : pc + 3 = pc') (go : ∀ h' a, a = h.size → Ext h h' → AryR Z h' a K (List.replicate cap .null) → Go B n0 Q h' (k + 1) (n + cap) pc' L (.ref a :: st)) : Go B n0 Q h k n pc L (.int z :: st) := fun T locs X N eT => by
  obtain ⟨T', h', cA, X', e', E, A, O, f⟩ := newR X C.2.2.1 C.2.2.2.2.1 C.2.2.2.2.2.1 w w2 eT (g := mkF B.m pc L (.int z :: st)) rfl (hb C.2.2.2.1 hd) rfl hz (cap := cap) (Nat.le_of_eq hcap) hcb (by rw [C.2.1]; exact hc) (by rw [C.2.1]; exact hl)
  obtain ⟨t, o, q, r⟩ := go h' _ rfl E ⟨_, A, O, by rw [← hcap]; simp [newA, defaultValue], by rw [List.length_replicate]; omega⟩ T' _ X' N e'
  subst hpc
  exact ⟨t, o, f t q, r⟩
end ArraySteps
end Jvm.OwnKit
namespace Jvm.OwnKit
open Jvm Jvm.ClassFile Sem Op Lib Jvm.Stand Jvm.Free Jvm.LawKit Jvm.RoadKit
section More
variable {B : Bod} {l : Launch} {rm : Room} {bytes : ByteArray} {own nm : String} {maxL : Nat} {ret : Option FieldType} {Z : State} {n0 : Nat} {Q : Option Value → Heap → Prop} {h h' : Heap} {k n pc pc' : Nat} {L L' : Array Slot} {st st' : List Value} {a0 : Array Value} {a b : Addr} {ty : FieldType} {vs vd : List Value}
theorem g_sipush (C : Ctx B l rm bytes own nm maxL ret Z) {z : Int} {v : Int32} (hd : decode bytes pc = .ok (.sipush z, 3)) (hv : (Int16.ofInt z).toInt32 = v) (hpc : pc + 3 = pc') (go : Go B n0 Q h k n pc' L (.int v :: st)) : Go B n0 Q h k n pc L st := go.step fun T locs X eT t q => Jvm.Free.XS.sipush X.here C.2.2.1 rfl (hb C.2.2.2.1 hd) (by subst hpc hv; exact q)
theorem g_instanceof_null (C : Ctx B l rm bytes own nm maxL ret Z) {i : Nat} (hd : decode bytes pc = .ok (.instanceof i, 3)) (hpc : pc + 3 = pc') (go : Go B n0 Q h k n pc' L (.int 0 :: st)) : Go B n0 Q h k n pc L (.null :: st) := go.step fun T locs X eT t q => X.instanceofNull C.2.2.1 (g := mkF B.m pc L (.null :: st)) rfl rfl (hb C.2.2.2.1 hd) t (by subst hpc; exact q)
theorem g_checkcast_null (C : Ctx B l rm bytes own nm maxL ret Z) {i : Nat} (hd : decode bytes pc = .ok (.checkcast i, 3)) (hpc : pc + 3 = pc') (go : Go B n0 Q h k n pc' L (.null :: st)) : Go B n0 Q h k n pc L (.null :: st) := go.step fun T locs X eT t q => X.checkcastNull C.2.2.1 (g := mkF B.m pc L (.null :: st)) rfl rfl (hb C.2.2.2.1 hd) t (by subst hpc; exact q)
theorem g_private (C : Ctx B l rm bytes own nm maxL ret Z) {i nn : Nat} {y : MethodName} {b' : ByteArray} {mx : Nat} {rt : Option FieldType} {rm' : Room} {as' : Array Value} {Q' : Option Value → Heap → Prop} {K' : String} (w1 : (Jvm.Cond.methodLink own i y).before a0 Z = true) (w4 : (Jvm.Cond.instanceMethod y).before a0 Z = true) (wp : (Jvm.Cond.privateMethod y).before a0 Z = true) (wi : (Jvm.Cond.instantiable y.cls nn).before a0 Z = true) (wz : (Jvm.Cond.initialized y.cls).before a0 Z = true) (wc : (Jvm.Cond.code y b' mx rt).before a0 Z = true) (hy : y.cls ≠ "java/lang/invoke/MethodHandle" ∧ y.cls ≠ "java/lang/invoke/VarHandle") (E : Exa Z h a K') (K : Met1 l Z y b' mx rt rm' n0 as' h Q') (argsL : List Value) {stk : List Value} (hst : stk = argsL.reverse ++ .ref a :: st) (has : as' = (Value.ref a :: argsL).toArray) {ps : List FieldType} {r' : Option FieldType} (pd : parseMethodDescriptor y.desc = some ⟨ps, r'⟩) (hlen : argsL.length = ps.length) (hsz : L.size = maxL) (hf : rm'.frames + 1 ≤ rm.frames) {W : Nat} (hW : (st.map fun v => v.category).sum ≤ W) (hlo : W + (mx + 11) + rm'.locals ≤ rm.locals) (hc : k + rm'.cells ≤ rm.cells) (hs : n + rm'.slots ≤ rm.slots) (hd : decode bytes pc = .ok (.invokevirtual i, 3)) (hpc : pc + 3 = pc') (go : ∀ v h', Q' v h' → Go B n0 Q h' (k + rm'.cells) (n + rm'.slots) pc' L (v.toList ++ st)) : Go B n0 Q h k n pc L stk := fun T locs X N eT => by
  subst hst has
  obtain ⟨cq, kq, qa, qb, cellq, qc, qd, qe⟩ := isOf C.2.2.2.2.1 eT E
  obtain ⟨c9, k9, u1, u2, u3, u4, -⟩ := Cond.instantiable_spec (mvT (args := B.args) C.2.2.2.2.1 wi)
  have hni : k9.isInterface = false := by simp only [Bool.or_eq_false_iff] at u4; exact u4.1
  have hpr := Cond.privateMethod_at (mvP C.2.2.2.2.1 wp (args := B.args))
  have hsel := selects_self_of_private (args := B.args) u1 u2 hni hpr (mvT C.2.2.2.2.1 w4) hy
  obtain ⟨v, _, ⟨T', L1, k1, n1⟩, -, X', ⟨L2, ⟨N', hq⟩, l1, l2, l3⟩, f⟩ := X.privateBack C.2.2.1 (y := y) C.2.2.2.2.2.1 (mvT C.2.2.2.2.1 w1) (mvT C.2.2.2.2.1 w4) hsel hpr (mvT C.2.2.2.2.1 wc) hy (backOf (W := W) (Q := fun v h L => Fr n0 L ∧ Q' v h) (C.1 ▸ K []) C.2.2.2.2.1 wc wz (by rw [C.2.1]; exact hf) (by rw [C.2.1]; exact hlo)) (g := mkF B.m pc L (argsL.reverse ++ .ref a :: st)) rfl (by rw [C.2.2.2.2.2.2.2.1]; exact hsz) (Steps.refl _) (a := a) qc (fun z e => by rw [e] at qe; cases qe) (argsL := argsL) (rest := st) (lenOf pd hlen) rfl (by show 2 * 0 + _ ≤ _; omega) (hb C.2.2.2.1 hd) (fun _ _ => ⟨rfl, eT, by rw [C.2.1]; exact hc, by rw [C.2.1]; exact hs⟩)
  dsimp only [Pt.U, Pt.locs, Pt.cells, Pt.slots] at X' l1 l2 l3 f hq
  subst l1 l2 l3
  obtain ⟨t, o, q, r⟩ := go v _ hq T' _ X' (Fr.app N N') rfl
  subst hpc
  exact ⟨t, o, f.trans q, r⟩
theorem nat32 {m : Nat} (q : m < 2 ^ 31) : m.toInt32.toNatClampNeg = m := Int32.toNatClampNeg_ofNat_of_lt q
theorem nneg32 {m : Nat} (q : m < 2 ^ 31) : ¬ m.toInt32 < 0 := by
  have e := len_toInt q
  rw [Int32.lt_iff_toInt_lt, e]
  show ¬ (m : Int) < 0
  omega
theorem Ary.arv (F : Ary Z h a ty vs) (hf : ∀ v ∈ vs, fits ty v = true) (dv : Value) : ∃ kk, Arv Z h a kk ty vs.length.toInt32 vs dv := by
  obtain ⟨c, A, rfl, hl⟩ := F
  have hs : c.slots.toList.length = c.slots.size := Array.length_toList
  refine ⟨c.cls, c, A, rfl, ?_, nneg32 hl, fun i hi => ?_, fun i hi => ?_⟩
  · rw [nat32 hl, hs]
  · rw [List.getD_eq_getElem?_getD, Array.getElem?_toList, Array.getElem?_eq_getElem hi]; rfl
  · apply hf
    rw [List.getD_eq_getElem?_getD, Array.getElem?_toList, Array.getElem?_eq_getElem hi]
    exact Array.mem_toList_iff.mpr (Array.getElem_mem hi)
theorem Arv.ary {kk : ClassId} {z : Int32} {dv : Value} (F : Arv Z h a kk ty z vs dv) (hz : z.toNatClampNeg = vs.length) (hl : vs.length < 2 ^ 31) : Ary Z h a ty vs := by
  obtain ⟨c, A, -, S, -, H, -⟩ := F
  refine ⟨c, A, ?_, hl⟩
  apply List.ext_getElem?
  intro i
  by_cases hi : i < c.slots.size
  · rw [Array.getElem?_toList, H i hi, List.getD_eq_getElem?_getD, List.getElem?_eq_getElem (by omega)]; rfl
  · rw [List.getElem?_eq_none (by rw [Array.length_toList]; omega), List.getElem?_eq_none (by omega)]
theorem g_arraycopy (C : Ctx B l rm bytes own nm maxL ret Z) {i : Nat} {sp dp nn : Int32} {spN dpN nnN : Nat} (w1 : (Jvm.Cond.methodLink own i Jvm.Stand.acN).before a0 Z = true) (w2 : (Jvm.Cond.native Jvm.Stand.acN).before a0 Z = true) (w3 : (Jvm.Cond.static Jvm.Stand.acN).before a0 Z = true) (w4 : (Jvm.Cond.initialized "java/lang/System").before a0 Z = true) (F : Ary Z h a ty vs) (G : Ary Z h b ty vd) (hp : refKind ty = false) (hfa : ∀ v ∈ vs, fits ty v = true) (hfb : ∀ v ∈ vd, fits ty v = true) (h1 : ¬ sp < 0) (h2 : ¬ dp < 0) (h3 : ¬ nn < 0) (e1 : sp.toNatClampNeg = spN) (e2 : dp.toNatClampNeg = dpN) (e3 : nn.toNatClampNeg = nnN) (h4 : spN + nnN ≤ vs.length) (h5 : dpN + nnN ≤ vd.length) {out : List Value} (ho : vd.take dpN ++ (List.range nnN).map (fun j => vs.getD (spN + j) .null) ++ vd.drop (dpN + nnN) = out) (ge : n0 ≤ b) (hsz : L.size = maxL) (hf : 1 ≤ rm.frames) {W : Nat} (hW : (st.map fun v => v.category).sum ≤ W) (hlo : W + (nativeFrameWords "java/lang/System" "arraycopy" 5 + 11) ≤ rm.locals) (hd : decode bytes pc = .ok (.invokestatic i, 3)) (hpc : pc + 3 = pc') (go : ∀ h', Keep h h' [b] → Ary Z h' b ty out → Go B n0 Q h' k n pc' L st) : Go B n0 Q h k n pc L (.int nn :: .int dp :: .ref b :: .int sp :: .ref a :: st) := fun T locs X N eT => by
  obtain ⟨ka, A⟩ := F.arv hfa .null
  obtain ⟨kb, A'⟩ := G.arv hfb .null
  obtain ⟨-, -, -, hla⟩ := F
  have hlb : vd.length < 2 ^ 31 := by obtain ⟨-, -, -, q⟩ := G; exact q
  subst e1 e2 e3
  obtain ⟨T', h', L', X', e', N', Kp, R', f⟩ := cpA X C.2.2.1 C.2.2.2.2.1 C.2.2.2.2.2.1 w1 w2 w3 w4 eT A A' (us := (List.range nn.toNatClampNeg).map fun j => vs.getD (sp.toNatClampNeg + j) .null) (Or.inl ⟨rfl, hp⟩) h1 h2 h3 (by rw [nat32 hla]; exact h4) (by rw [nat32 hlb]; exact h5) rfl h5 N ge (g := mkF B.m pc L (.int nn :: .int dp :: .ref b :: .int sp :: .ref a :: st)) rfl (by rw [C.2.2.2.2.2.2.2.1]; exact hsz) rfl (hb C.2.2.2.1 hd) (by rw [C.2.1]; exact hf) (W := W) (by show 2 * 0 + _ ≤ _; omega) (by rw [C.2.1]; exact hlo)
  have ol : (vd.take dp.toNatClampNeg ++ (List.range nn.toNatClampNeg).map (fun j => vs.getD (sp.toNatClampNeg + j) .null) ++ vd.drop (dp.toNatClampNeg + nn.toNatClampNeg)).length = vd.length := by simp; omega
  obtain ⟨t, o, q, r⟩ := go h' Kp (ho ▸ Arv.ary R' (by rw [nat32 hlb, ol]) (by rw [ol]; exact hlb)) T' _ X' N' e'
  subst hpc
  exact ⟨t, o, f t q, r⟩
theorem g_newarrayE (C : Ctx B l rm bytes own nm maxL ret Z) {aty : ArrayType} {z : Int32} {cap : Nat} {ty : FieldType} {ad : String} (w : (Jvm.Cond.arrayClass (newarray.typeOf aty)).before a0 Z = true) (hty : newarray.typeOf aty = ty) (had : "[" ++ (newarray.typeOf aty).toString = ad) (hz : ¬ z < 0) (hcap : z.toNatClampNeg = cap) (hcb : cap * 8 ≤ 536870912) (hc : k + 1 ≤ rm.cells) (hl : n + cap ≤ rm.slots) (hd : decode bytes pc = .ok (.newarray aty, 2)) (hpc : pc + 2 = pc') (go : ∀ h' a, a = h.size → Ext h h' → Ary Z h' a ty (List.replicate cap (defaultValue ty)) → Exa Z h' a ad → Go B n0 Q h' (k + 1) (n + cap) pc' L (.ref a :: st)) : Go B n0 Q h k n pc L (.int z :: st) := fun T locs X N eT => by
  subst hty
  obtain ⟨T', h', cA, X', e', E, A, Ex, f⟩ := newPE X C.2.2.1 C.2.2.2.2.1 w eT (g := mkF B.m pc L (.int z :: st)) rfl (hb C.2.2.2.1 hd) rfl hz (cap := cap) (Nat.le_of_eq hcap) hcb (by rw [C.2.1]; exact hc) (by rw [C.2.1]; exact hl) had
  obtain ⟨t, o, q, r⟩ := go h' _ rfl E ⟨_, A, by rw [← hcap]; simp [newA], by rw [List.length_replicate]; omega⟩ Ex T' _ X' N e'
  subst hpc
  exact ⟨t, o, f t q, r⟩
theorem g_clone (C : Ctx B l rm bytes own nm maxL ret Z) {i cap : Nat} {ad : String} (w1 : (Jvm.Cond.methodLink own i ⟨ad, "clone", "()Ljava/lang/Object;"⟩).before a0 Z = true) (w2 : (Jvm.Cond.sameMethod ad "java/lang/Object" "clone" "()Ljava/lang/Object;").before a0 Z = true) (w3 : (Jvm.Cond.native ⟨"java/lang/Object", "clone", "()Ljava/lang/Object;"⟩).before a0 Z = true)
    (w4 : (Jvm.Cond.instanceMethod ⟨"java/lang/Object", "clone", "()Ljava/lang/Object;"⟩).before a0 Z = true) (w5 : (Jvm.Cond.selects ad ⟨ad, "clone", "()Ljava/lang/Object;"⟩ ⟨"java/lang/Object", "clone", "()Ljava/lang/Object;"⟩).before a0 Z = true) (w6 : (Jvm.Cond.castable ad "java/lang/Cloneable").before a0 Z = true)
    (F : Ary Z h a ty vs) (E : Exa Z h a ad) (hfa : ∀ v ∈ vs, fits ty v = true) (hsz : L.size = maxL) (hf : 1 ≤ rm.frames) {W : Nat} (hW : (st.map fun v => v.category).sum ≤ W) (hlo : W + 14 ≤ rm.locals) (hcap : vs.length ≤ cap) (hc : k + 1 ≤ rm.cells) (hl : n + cap ≤ rm.slots) (hd : decode bytes pc = .ok (.invokevirtual i, 3)) (hpc : pc + 3 = pc') (go : ∀ h' b, b = h.size → Ext h h' → Ary Z h' b ty vs → Exa Z h' b ad → Go B n0 Q h' (k + 1) (n + cap) pc' L (.ref b :: st)) : Go B n0 Q h k n pc L (.ref a :: st) := fun T locs X N eT => by
  obtain ⟨c, A, rfl, hlv⟩ := F
  have FC : FitC Z c := fitC_of A fun j hj v hv => hfa v (by rw [Array.mem_toList_iff]; exact Array.mem_of_getElem? hv)
  obtain ⟨T', h', X', e', Ex, A', E', f⟩ := cloneA X C.2.2.1 C.2.2.2.2.1 C.2.2.2.2.2.1 w1 w2 w3 w4 w5 w6 eT A E FC (g := mkF B.m pc L (.ref a :: st)) rfl (by rw [C.2.2.2.2.2.2.2.1]; exact hsz) rfl (hb C.2.2.2.1 hd) (by rw [C.2.1]; exact hf) (W := W) (cap := cap) (by show 2 * 0 + _ ≤ _; omega) (by rw [C.2.1]; exact hlo) (by rw [← Array.length_toList]; exact hcap) (by rw [C.2.1]; exact hc) (by rw [C.2.1]; exact hl)
  obtain ⟨t, o, q, r⟩ := go h' _ rfl Ex ⟨_, A', rfl, hlv⟩ E' T' _ X' N e'
  subst hpc
  exact ⟨t, o, f t q, r⟩
end More
end Jvm.OwnKit
namespace Jvm.Pilot.@@N@@
open Jvm Jvm.ClassFile Sem Op Lib Jvm.Free Jvm.Stand Jvm.LawKit Jvm.RoadKit Jvm.OwnKit Bundle Jvm.Pilot.@@N@@.Jvm.D
theorem own_w {a0 : Array Value} {Z : State} (hw : ∀ d ∈ tables_1, d.before a0 Z = true) (k : Nat) {d : Jvm.Cond} (e : tables_1[k]? = some d) : d.before a0 Z = true := hw _ (List.mem_of_getElem? e)
theorem own_narb (x : Int32) : nar .byte (Int8.toInt32 (Int32.toInt8 x)) = (Int8.toInt32 (Int32.toInt8 x)) := by
  show (Int8.toInt32 (Int32.toInt8 (Int8.toInt32 (Int32.toInt8 x)))) = _
  rw [Int8.toInt8_toInt32]
/-- a char that one byte holds -/
def Ch (c : Int32) : Prop := nar .char c = c ∧ ¬ (255 : Int32) < c ∧ ¬ c < (0 : Int32)
theorem own_nch {c : Int32} (h : nar .char c = c) : narrow .char (.int c) = .int c := congrArg Value.int h
theorem own_chM (x : Int32) : Ch (x &&& (255 : Int32)) := by
  refine ⟨i2c_mask x, ?_, ?_⟩
  · have h := c_mask x (255 : Int32) 8 (by decide) (by decide)
    have e : (255 : Int32).toInt = 255 := rfl
    rw [Int32.lt_iff_toInt_lt]; omega
  · have h := c_mask x (255 : Int32) 8 (by decide) (by decide)
    have e : (0 : Int32).toInt = 0 := rfl
    rw [Int32.lt_iff_toInt_lt]; omega
/-- compact Strings are on -/
def Cmp (Z : State) : Prop := ∃ z : Int32, Sta Z Z.heap "java/lang/String" "COMPACT_STRINGS" "Z" (.int z) ∧ ¬ z = (0 : Int32)
theorem own_cmp {args : Array Value} {s : State} (w0 : (Jvm.Cond.initializedFor "java/lang/String" "COMPACT_STRINGS" "Z").before args s = true) (w1 : (Jvm.Cond.isInt (.static "java/lang/String" "COMPACT_STRINGS" "Z")).before args s = true) (w2 : (Jvm.Cond.not (.eq (.static "java/lang/String" "COMPACT_STRINGS" "Z") (.int 0))).before args s = true) : Cmp s := by
  obtain ⟨z, e⟩ := is_v (Cond.before_iff.mp w1)
  refine ⟨z, Sta.start e (Or.inl w0), fun q => ?_⟩
  have h := not_v (Cond.before_iff.mp w2)
  subst q
  simp only [Jvm.Cond.value, e, Jvm.Term.int_eval] at h
  simp at h
theorem own_nn (x : Int32) : 0 ≤ (x &&& (2147483647 : Int32)).toInt := by
  have h := c_mask x (2147483647 : Int32) 31 (by decide) (by decide)
  rw [h]; exact Int.emod_nonneg _ (by decide)
theorem own_rem6 {x : Int32} (hx : 0 ≤ x.toInt) : 0 ≤ (x - (x / (6 : Int32)) * (6 : Int32)).toInt ∧ (x - (x / (6 : Int32)) * (6 : Int32)).toInt < 6 := by
  have e : (6 : Int32).toInt = 6 := rfl
  have h1 := (c_idiv x (6 : Int32) 6 rfl (by decide)).1 hx
  have h2 := c_imul (x / (6 : Int32)) (6 : Int32)
  have h3 := c_isub x (x / (6 : Int32) * (6 : Int32))
  have r1 := rng32 x
  have r2 := rng32 (x - x / (6 : Int32) * (6 : Int32))
  rw [h1, e] at h2
  omega
theorem d13_0 : decode jdk_52_method_21_code 0 = .ok (.iconst 0, 1) := by decide +kernel
theorem d13_1 : decode jdk_52_method_21_code 1 = .ok (.istore 5, 2) := by decide +kernel
theorem d13_3 : decode jdk_52_method_21_code 3 = .ok (.iload 5, 2) := by decide +kernel
theorem d13_5 : decode jdk_52_method_21_code 5 = .ok (.iload 4, 2) := by decide +kernel
theorem d13_7 : decode jdk_52_method_21_code 7 = .ok (.if_icmp .ge 37, 3) := by decide +kernel
theorem d13_10 : decode jdk_52_method_21_code 10 = .ok (.aload_n 0, 1) := by decide +kernel
theorem d13_11 : decode jdk_52_method_21_code 11 = .ok (.iload_n 1, 1) := by decide +kernel
theorem d13_12 : decode jdk_52_method_21_code 12 = .ok (.caload, 1) := by decide +kernel
theorem d13_13 : decode jdk_52_method_21_code 13 = .ok (.istore 6, 2) := by decide +kernel
theorem d13_15 : decode jdk_52_method_21_code 15 = .ok (.iload 6, 2) := by decide +kernel
theorem d13_17 : decode jdk_52_method_21_code 17 = .ok (.sipush 255, 3) := by decide +kernel
theorem d13_20 : decode jdk_52_method_21_code 20 = .ok (.if_icmp .le 6, 3) := by decide +kernel
theorem d13_26 : decode jdk_52_method_21_code 26 = .ok (.aload_n 2, 1) := by decide +kernel
theorem d13_27 : decode jdk_52_method_21_code 27 = .ok (.iload_n 3, 1) := by decide +kernel
theorem d13_28 : decode jdk_52_method_21_code 28 = .ok (.iload 6, 2) := by decide +kernel
theorem d13_30 : decode jdk_52_method_21_code 30 = .ok (.i2b, 1) := by decide +kernel
theorem d13_31 : decode jdk_52_method_21_code 31 = .ok (.bastore, 1) := by decide +kernel
theorem d13_32 : decode jdk_52_method_21_code 32 = .ok (.iinc 1 1, 3) := by decide +kernel
theorem d13_35 : decode jdk_52_method_21_code 35 = .ok (.iinc 3 1, 3) := by decide +kernel
theorem d13_38 : decode jdk_52_method_21_code 38 = .ok (.iinc 5 1, 3) := by decide +kernel
theorem d13_41 : decode jdk_52_method_21_code 41 = .ok (.goto (-38), 3) := by decide +kernel
theorem d13_44 : decode jdk_52_method_21_code 44 = .ok (.iload 4, 2) := by decide +kernel
theorem d13_46 : decode jdk_52_method_21_code 46 = .ok (.ireturn, 1) := by decide +kernel
theorem own_pn_java_lang_StringUTF16 : plainName "java/lang/StringUTF16" = true := by first | (simp [plainName, overriddenIn]; done) | decide +kernel
set_option maxRecDepth 65536 in
set_option maxHeartbeats 40000000 in
theorem rm_comp1_2 (l : Launch) (Z : State) (a0 : Array Value) (hw : ∀ d ∈ tables_1, d.before a0 Z = true) (n0 : Nat) (a1 a2 : Addr) (c0 c1 : Int32) (h0 : Heap) (Z0 : n0 ≤ h0.size) (A1 : Ary Z h0 a1 .char [.int c0, .int c1]) (A2 : Ary Z h0 a2 .byte [.int (0 : Int32), .int (0 : Int32)]) (g2 : n0 ≤ a2) (n12 : a1 ≠ a2) (k0 : Ch c0) (k1 : Ch c1) :
    Met1 l Z (⟨"java/lang/StringUTF16", "compress", "([CI[BII)I"⟩ : MethodName) jdk_52_method_21_code 7 (some .int) ({ frames := 0, cells := 0, slots := 0, locals := 0 } : Room) n0 #[(.ref a1), (.int (0 : Int32)), (.ref a2), (.int (0 : Int32)), (.int (2 : Int32))] h0 (fun v h => v = some (.int (2 : Int32)) ∧ Keep h0 h [a2] ∧ Ary Z h a2 .byte [.int (Int8.toInt32 (Int32.toInt8 c0)), .int (Int8.toInt32 (Int32.toInt8 c1))]) := by
  refine met_of (plainFor_of_name own_pn_java_lang_StringUTF16) (L0 := #[.val (.ref a1), .val (.int (0 : Int32)), .val (.ref a2), .val (.int (0 : Int32)), .val (.int (2 : Int32)), .unset, .unset]) (by first | (simp [argsToLocals, Value.category]; done) | rfl) ?_
  intro B C
  change Ctx B l _ _ "java/lang/StringUTF16" "compress" _ _ Z at C
  refine g_iconst C d13_0 (v := (0 : Int32)) rfl (pc' := 1) rfl ?_
  refine g_istore C d13_1 (v := (0 : Int32)) (L' := #[.val (.ref a1), .val (.int (0 : Int32)), .val (.ref a2), .val (.int (0 : Int32)), .val (.int (2 : Int32)), .val (.int (0 : Int32)), .unset]) rfl (pc' := 3) rfl ?_
  refine g_iload C d13_3 (v := (0 : Int32)) rfl (pc' := 5) rfl ?_
  refine g_iload C d13_5 (v := (2 : Int32)) rfl (pc' := 7) rfl ?_
  refine g_icmp_n C d13_7 (Jvm.Free.XT.ii_ge_f (by decide)) (pc' := 10) rfl ?_
  refine g_aload_n C d13_10 (v := (.ref a1)) rfl rfl (pc' := 11) rfl ?_
  refine g_iload_n C d13_11 (v := (0 : Int32)) rfl (pc' := 12) rfl ?_
  refine g_caload C A1 (by decide) (i := 0) (by decide) (v := c0) rfl d13_12 (pc' := 13) rfl ?_
  refine g_istore C d13_13 (v := c0) (L' := #[.val (.ref a1), .val (.int (0 : Int32)), .val (.ref a2), .val (.int (0 : Int32)), .val (.int (2 : Int32)), .val (.int (0 : Int32)), .val (.int c0)]) rfl (pc' := 15) rfl ?_
  refine g_iload C d13_15 (v := c0) rfl (pc' := 17) rfl ?_
  refine g_sipush C d13_17 (v := (255 : Int32)) rfl (pc' := 20) rfl ?_
  refine g_icmp_y C d13_20 (Jvm.Free.XT.ii_le_t k0.2.1) (pc' := 26) (by decide) (by decide) ?_
  refine g_aload_n C d13_26 (v := (.ref a2)) rfl rfl (pc' := 27) rfl ?_
  refine g_iload_n C d13_27 (v := (0 : Int32)) rfl (pc' := 28) rfl ?_
  refine g_iload C d13_28 (v := c0) rfl (pc' := 30) rfl ?_
  refine g_i2b C (x := c0) d13_30 (pc' := 31) rfl ?_
  refine g_bastoreB C A2 (by decide) (i := 0) (by decide) (show 0 < 2 by decide) (w := (.int (Int8.toInt32 (Int32.toInt8 c0)))) (congrArg Value.int (own_narb _)) g2 d13_31 (pc' := 32) rfl ?_
  intro h_1 K_2 A_3
  have f_4 : Ary Z h_1 a2 .byte [(.int (Int8.toInt32 (Int32.toInt8 c0))), (.int (0 : Int32))] := A_3
  refine g_iinc C d13_32 (v := (0 : Int32)) (w := (1 : Int32)) rfl rfl (L' := #[.val (.ref a1), .val (.int (1 : Int32)), .val (.ref a2), .val (.int (0 : Int32)), .val (.int (2 : Int32)), .val (.int (0 : Int32)), .val (.int c0)]) rfl (pc' := 35) rfl ?_
  refine g_iinc C d13_35 (v := (0 : Int32)) (w := (1 : Int32)) rfl rfl (L' := #[.val (.ref a1), .val (.int (1 : Int32)), .val (.ref a2), .val (.int (1 : Int32)), .val (.int (2 : Int32)), .val (.int (0 : Int32)), .val (.int c0)]) rfl (pc' := 38) rfl ?_
  refine g_iinc C d13_38 (v := (0 : Int32)) (w := (1 : Int32)) rfl rfl (L' := #[.val (.ref a1), .val (.int (1 : Int32)), .val (.ref a2), .val (.int (1 : Int32)), .val (.int (2 : Int32)), .val (.int (1 : Int32)), .val (.int c0)]) rfl (pc' := 41) rfl ?_
  refine g_goto C d13_41 (pc' := 3) (by decide) (by decide) ?_
  refine g_iload C d13_3 (v := (1 : Int32)) rfl (pc' := 5) rfl ?_
  refine g_iload C d13_5 (v := (2 : Int32)) rfl (pc' := 7) rfl ?_
  refine g_icmp_n C d13_7 (Jvm.Free.XT.ii_ge_f (by decide)) (pc' := 10) rfl ?_
  refine g_aload_n C d13_10 (v := (.ref a1)) rfl rfl (pc' := 11) rfl ?_
  refine g_iload_n C d13_11 (v := (1 : Int32)) rfl (pc' := 12) rfl ?_
  have f_5 := (A1.keep K_2 (ninS n12 nin0))
  refine g_caload C f_5 (by decide) (i := 1) (by decide) (v := c1) rfl d13_12 (pc' := 13) rfl ?_
  refine g_istore C d13_13 (v := c1) (L' := #[.val (.ref a1), .val (.int (1 : Int32)), .val (.ref a2), .val (.int (1 : Int32)), .val (.int (2 : Int32)), .val (.int (1 : Int32)), .val (.int c1)]) rfl (pc' := 15) rfl ?_
  refine g_iload C d13_15 (v := c1) rfl (pc' := 17) rfl ?_
  refine g_sipush C d13_17 (v := (255 : Int32)) rfl (pc' := 20) rfl ?_
  refine g_icmp_y C d13_20 (Jvm.Free.XT.ii_le_t k1.2.1) (pc' := 26) (by decide) (by decide) ?_
  refine g_aload_n C d13_26 (v := (.ref a2)) rfl rfl (pc' := 27) rfl ?_
  refine g_iload_n C d13_27 (v := (1 : Int32)) rfl (pc' := 28) rfl ?_
  refine g_iload C d13_28 (v := c1) rfl (pc' := 30) rfl ?_
  refine g_i2b C (x := c1) d13_30 (pc' := 31) rfl ?_
  refine g_bastoreB C f_4 (by decide) (i := 1) (by decide) (show 1 < 2 by decide) (w := (.int (Int8.toInt32 (Int32.toInt8 c1)))) (congrArg Value.int (own_narb _)) g2 d13_31 (pc' := 32) rfl ?_
  intro h_6 K_7 A_8
  have f_9 : Ary Z h_6 a2 .byte [(.int (Int8.toInt32 (Int32.toInt8 c0))), (.int (Int8.toInt32 (Int32.toInt8 c1)))] := A_8
  refine g_iinc C d13_32 (v := (1 : Int32)) (w := (2 : Int32)) rfl rfl (L' := #[.val (.ref a1), .val (.int (2 : Int32)), .val (.ref a2), .val (.int (1 : Int32)), .val (.int (2 : Int32)), .val (.int (1 : Int32)), .val (.int c1)]) rfl (pc' := 35) rfl ?_
  refine g_iinc C d13_35 (v := (1 : Int32)) (w := (2 : Int32)) rfl rfl (L' := #[.val (.ref a1), .val (.int (2 : Int32)), .val (.ref a2), .val (.int (2 : Int32)), .val (.int (2 : Int32)), .val (.int (1 : Int32)), .val (.int c1)]) rfl (pc' := 38) rfl ?_
  refine g_iinc C d13_38 (v := (1 : Int32)) (w := (2 : Int32)) rfl rfl (L' := #[.val (.ref a1), .val (.int (2 : Int32)), .val (.ref a2), .val (.int (2 : Int32)), .val (.int (2 : Int32)), .val (.int (2 : Int32)), .val (.int c1)]) rfl (pc' := 41) rfl ?_
  refine g_goto C d13_41 (pc' := 3) (by decide) (by decide) ?_
  refine g_iload C d13_3 (v := (2 : Int32)) rfl (pc' := 5) rfl ?_
  refine g_iload C d13_5 (v := (2 : Int32)) rfl (pc' := 7) rfl ?_
  refine g_icmp_y C d13_7 (Jvm.Free.XT.ii_ge_t (by decide)) (pc' := 44) (by decide) (by decide) ?_
  refine g_iload C d13_44 (v := (2 : Int32)) rfl (pc' := 46) rfl ?_
  refine g_ret C (v := (.int (2 : Int32))) (ty := .int) rfl rfl (Or.inl ⟨rfl, Or.inl rfl, _, rfl⟩) d13_46 (by decide) (by decide) ?_
  exact ⟨rfl, (((Keep.refl h0 [a2]).trans K_2 (allS (Or.inl (List.mem_of_getElem? (i := 0) rfl)) all0)).trans K_7 (allS (Or.inl (List.mem_of_getElem? (i := 0) rfl)) all0)), f_9⟩
theorem own_pd_14_compress : parseMethodDescriptor "([CI[BII)I" = some ⟨[(.array .char), .int, (.array .byte), .int, .int], (some .int)⟩ := by decide +kernel
theorem d12_0 : decode jdk_52_method_16_code 0 = .ok (.iload_n 2, 1) := by decide +kernel
theorem d12_1 : decode jdk_52_method_16_code 1 = .ok (.newarray .byte, 2) := by decide +kernel
theorem d12_3 : decode jdk_52_method_16_code 3 = .ok (.astore_n 3, 1) := by decide +kernel
theorem d12_4 : decode jdk_52_method_16_code 4 = .ok (.aload_n 0, 1) := by decide +kernel
theorem d12_5 : decode jdk_52_method_16_code 5 = .ok (.iload_n 1, 1) := by decide +kernel
theorem d12_6 : decode jdk_52_method_16_code 6 = .ok (.aload_n 3, 1) := by decide +kernel
theorem d12_7 : decode jdk_52_method_16_code 7 = .ok (.iconst 0, 1) := by decide +kernel
theorem d12_8 : decode jdk_52_method_16_code 8 = .ok (.iload_n 2, 1) := by decide +kernel
theorem d12_9 : decode jdk_52_method_16_code 9 = .ok (.invokestatic 115, 3) := by decide +kernel
theorem d12_12 : decode jdk_52_method_16_code 12 = .ok (.istore 4, 2) := by decide +kernel
theorem d12_14 : decode jdk_52_method_16_code 14 = .ok (.iload 4, 2) := by decide +kernel
theorem d12_16 : decode jdk_52_method_16_code 16 = .ok (.iload_n 2, 1) := by decide +kernel
theorem d12_17 : decode jdk_52_method_16_code 17 = .ok (.if_icmp .eq 40, 3) := by decide +kernel
theorem d12_57 : decode jdk_52_method_16_code 57 = .ok (.aload_n 3, 1) := by decide +kernel
theorem d12_58 : decode jdk_52_method_16_code 58 = .ok (.areturn, 1) := by decide +kernel
set_option maxRecDepth 65536 in
set_option maxHeartbeats 40000000 in
theorem rm_comp2_2 (l : Launch) (Z : State) (a0 : Array Value) (hw : ∀ d ∈ tables_1, d.before a0 Z = true) (n0 : Nat) (a1 : Addr) (c0 c1 : Int32) (h0 : Heap) (Z0 : n0 ≤ h0.size) (A1 : Ary Z h0 a1 .char [.int c0, .int c1]) (k0 : Ch c0) (k1 : Ch c1) :
    Met1 l Z (⟨"java/lang/StringUTF16", "compress", "([CII)[B"⟩ : MethodName) jdk_52_method_16_code 6 (some (.array .byte)) ({ frames := 1, cells := 1, slots := 2, locals := 18 } : Room) n0 #[(.ref a1), (.int (0 : Int32)), (.int (2 : Int32))] h0 (fun v h => ∃ b : Addr, v = some (.ref b) ∧ h0.size ≤ b ∧ Keep h0 h [] ∧ Ary Z h b .byte [.int (Int8.toInt32 (Int32.toInt8 c0)), .int (Int8.toInt32 (Int32.toInt8 c1))]) := by
  refine met_of (plainFor_of_name own_pn_java_lang_StringUTF16) (L0 := #[.val (.ref a1), .val (.int (0 : Int32)), .val (.int (2 : Int32)), .unset, .unset, .unset]) (by first | (simp [argsToLocals, Value.category]; done) | rfl) ?_
  intro B C
  change Ctx B l _ _ "java/lang/StringUTF16" "compress" _ _ Z at C
  refine g_iload_n C d12_0 (v := (2 : Int32)) rfl (pc' := 1) rfl ?_
  refine g_newarray C (own_w hw 19 rfl) (ty := .byte) rfl (by decide) (cap := 2) (by decide) (by decide) (by decide) (by decide) d12_1 (pc' := 3) rfl ?_
  intro h_1 a_2 g_3 E_4 A_5
  have ne_6 : a1 ≠ a_2 := ne_new A1.lt g_3
  have ge_a_2 : n0 ≤ a_2 := Nat.le_trans Z0 (Nat.le_of_eq g_3.symm)
  have gs_a_2 : h0.size ≤ a_2 := Nat.le_trans (Nat.le_refl h0.size) (Nat.le_of_eq g_3.symm)
  have f_7 : Ary Z h_1 a_2 .byte [(.int (0 : Int32)), (.int (0 : Int32))] := A_5
  show Go B n0 _ h_1 1 2 3 #[.val (.ref a1), .val (.int (0 : Int32)), .val (.int (2 : Int32)), .unset, .unset, .unset] [(.ref a_2)]
  refine g_astore_n C d12_3 (v := (.ref a_2)) (L' := #[.val (.ref a1), .val (.int (0 : Int32)), .val (.int (2 : Int32)), .val (.ref a_2), .unset, .unset]) rfl rfl (pc' := 4) rfl ?_
  refine g_aload_n C d12_4 (v := (.ref a1)) rfl rfl (pc' := 5) rfl ?_
  refine g_iload_n C d12_5 (v := (0 : Int32)) rfl (pc' := 6) rfl ?_
  refine g_aload_n C d12_6 (v := (.ref a_2)) rfl rfl (pc' := 7) rfl ?_
  refine g_iconst C d12_7 (v := (0 : Int32)) rfl (pc' := 8) rfl ?_
  refine g_iload_n C d12_8 (v := (2 : Int32)) rfl (pc' := 9) rfl ?_
  have f_8 := (A1.ext E_4)
  have f_9 := (Nat.le_trans Z0 E_4.1)
  refine g_static C (own_w hw 57 rfl) (own_w hw 58 rfl) (own_w hw 55 rfl) (own_w hw 59 rfl) (by decide) (rm_comp1_2 l Z a0 hw n0 a1 a_2 c0 c1 h_1 f_9 f_8 f_7 ge_a_2 ne_6 k0 k1) (st := []) [(.ref a1), (.int (0 : Int32)), (.ref a_2), (.int (0 : Int32)), (.int (2 : Int32))] rfl rfl own_pd_14_compress rfl rfl (by decide) (W := 0) (Nat.le_of_eq rfl) (by decide) (by decide) (by decide) d12_9 (pc' := 12) rfl ?_
  intro v_12 h_10 q_11
  obtain ⟨rfl, K_13, f_14⟩ := q_11
  show Go B n0 _ h_10 1 2 12 #[.val (.ref a1), .val (.int (0 : Int32)), .val (.int (2 : Int32)), .val (.ref a_2), .unset, .unset] [(.int (2 : Int32))]
  refine g_istore C d12_12 (v := (2 : Int32)) (L' := #[.val (.ref a1), .val (.int (0 : Int32)), .val (.int (2 : Int32)), .val (.ref a_2), .val (.int (2 : Int32)), .unset]) rfl (pc' := 14) rfl ?_
  refine g_iload C d12_14 (v := (2 : Int32)) rfl (pc' := 16) rfl ?_
  refine g_iload_n C d12_16 (v := (2 : Int32)) rfl (pc' := 17) rfl ?_
  refine g_icmp_y C d12_17 (Jvm.Free.XT.ii_eq_t (by decide)) (pc' := 57) (by decide) (by decide) ?_
  refine g_aload_n C d12_57 (v := (.ref a_2)) rfl rfl (pc' := 58) rfl ?_
  refine g_ret C (v := (.ref a_2)) (ty := (.array .byte)) rfl rfl (Or.inr (Or.inr (Or.inr (Or.inr ⟨rfl, rfl, rfl⟩)))) d12_58 (by decide) (by decide) ?_
  exact ⟨a_2, rfl, gs_a_2, (((Keep.refl h0 []).ext E_4).trans K_13 (allS (Or.inr gs_a_2) all0)), f_14⟩
theorem d14_0 : decode jdk_52_method_15_code 0 = .ok (.iload_n 1, 1) := by decide +kernel
theorem d14_1 : decode jdk_52_method_15_code 1 = .ok (.aload_n 0, 1) := by decide +kernel
theorem d14_2 : decode jdk_52_method_15_code 2 = .ok (.arraylength, 1) := by decide +kernel
theorem d14_3 : decode jdk_52_method_15_code 3 = .ok (.isub, 1) := by decide +kernel
theorem d14_4 : decode jdk_52_method_15_code 4 = .ok (.bipush 31, 2) := by decide +kernel
theorem d14_6 : decode jdk_52_method_15_code 6 = .ok (.iushr, 1) := by decide +kernel
theorem d14_7 : decode jdk_52_method_15_code 7 = .ok (.i2b, 1) := by decide +kernel
theorem d14_8 : decode jdk_52_method_15_code 8 = .ok (.ireturn, 1) := by decide +kernel
set_option maxRecDepth 65536 in
set_option maxHeartbeats 40000000 in
theorem rm_coderF_2 (l : Launch) (Z : State) (a0 : Array Value) (hw : ∀ d ∈ tables_1, d.before a0 Z = true) (n0 : Nat) (a1 : Addr) (x0 x1 : Int32) (h0 : Heap) (Z0 : n0 ≤ h0.size) (A1 : Ary Z h0 a1 .byte [.int x0, .int x1]) :
    Met1 l Z (⟨"java/lang/StringUTF16", "coderFromArrayLen", "([BI)B"⟩ : MethodName) jdk_52_method_15_code 2 (some .byte) ({ frames := 0, cells := 0, slots := 0, locals := 0 } : Room) n0 #[(.ref a1), (.int (2 : Int32))] h0 (fun v h => v = some (.int (0 : Int32)) ∧ h0 = h) := by
  refine met_of (plainFor_of_name own_pn_java_lang_StringUTF16) (L0 := #[.val (.ref a1), .val (.int (2 : Int32))]) (by first | (simp [argsToLocals, Value.category]; done) | rfl) ?_
  intro B C
  change Ctx B l _ _ "java/lang/StringUTF16" "coderFromArrayLen" _ _ Z at C
  refine g_iload_n C d14_0 (v := (2 : Int32)) rfl (pc' := 1) rfl ?_
  refine g_aload_n C d14_1 (v := (.ref a1)) rfl rfl (pc' := 2) rfl ?_
  refine g_arraylength C A1 (z := (2 : Int32)) rfl d14_2 (pc' := 3) rfl ?_
  refine g_isub C (x := (2 : Int32)) (y := (2 : Int32)) d14_3  (pc' := 4) rfl ?_
  refine Go.eqs (st2 := [(.int (0 : Int32))]) ?_ (by rfl)
  refine g_bipush C d14_4 (v := (31 : Int32)) rfl (pc' := 6) rfl ?_
  refine g_iushr C (x := (0 : Int32)) (y := (31 : Int32)) d14_6  (pc' := 7) rfl ?_
  refine Go.eqs (st2 := [(.int (0 : Int32))]) ?_ (by rfl)
  refine g_i2b C (x := (0 : Int32)) d14_7 (pc' := 8) rfl ?_
  refine Go.eqs (st2 := [(.int (0 : Int32))]) ?_ (by rfl)
  refine g_ret C (v := (.int (0 : Int32))) (ty := .byte) rfl rfl (Or.inl ⟨rfl, Or.inr (Or.inr (Or.inl rfl)), _, rfl⟩) d14_8 (by decide) (by decide) ?_
  exact ⟨rfl, rfl⟩
theorem own_pd_12_compress : parseMethodDescriptor "([CII)[B" = some ⟨[(.array .char), .int, .int], (some (.array .byte))⟩ := by decide +kernel
theorem own_pd_10_coderFromArrayLen : parseMethodDescriptor "([BI)B" = some ⟨[(.array .byte), .int], (some .byte)⟩ := by decide +kernel
theorem d11_0 : decode jdk_42_method_149_code 0 = .ok (.aload_n 0, 1) := by decide +kernel
theorem d11_1 : decode jdk_42_method_149_code 1 = .ok (.invokespecial 1, 3) := by decide +kernel
theorem d11_4 : decode jdk_42_method_149_code 4 = .ok (.iload_n 3, 1) := by decide +kernel
theorem d11_5 : decode jdk_42_method_149_code 5 = .ok (.ifCond .ne 22, 3) := by decide +kernel
theorem d11_27 : decode jdk_42_method_149_code 27 = .ok (.getstatic 38, 3) := by decide +kernel
theorem d11_30 : decode jdk_42_method_149_code 30 = .ok (.ifCond .eq 28, 3) := by decide +kernel
theorem d11_33 : decode jdk_42_method_149_code 33 = .ok (.aload_n 1, 1) := by decide +kernel
theorem d11_34 : decode jdk_42_method_149_code 34 = .ok (.iload_n 2, 1) := by decide +kernel
theorem d11_35 : decode jdk_42_method_149_code 35 = .ok (.iload_n 3, 1) := by decide +kernel
theorem d11_36 : decode jdk_42_method_149_code 36 = .ok (.invokestatic 177, 3) := by decide +kernel
theorem d11_39 : decode jdk_42_method_149_code 39 = .ok (.astore 5, 2) := by decide +kernel
theorem d11_41 : decode jdk_42_method_149_code 41 = .ok (.aload_n 0, 1) := by decide +kernel
theorem d11_42 : decode jdk_42_method_149_code 42 = .ok (.aload 5, 2) := by decide +kernel
theorem d11_44 : decode jdk_42_method_149_code 44 = .ok (.iload_n 3, 1) := by decide +kernel
theorem d11_45 : decode jdk_42_method_149_code 45 = .ok (.invokestatic 47, 3) := by decide +kernel
theorem d11_48 : decode jdk_42_method_149_code 48 = .ok (.putfield 15, 3) := by decide +kernel
theorem d11_51 : decode jdk_42_method_149_code 51 = .ok (.aload_n 0, 1) := by decide +kernel
theorem d11_52 : decode jdk_42_method_149_code 52 = .ok (.aload 5, 2) := by decide +kernel
theorem d11_54 : decode jdk_42_method_149_code 54 = .ok (.putfield 9, 3) := by decide +kernel
theorem d11_57 : decode jdk_42_method_149_code 57 = .ok (.return_, 1) := by decide +kernel
theorem own_pn_java_lang_String : plainName "java/lang/String" = true := by first | (simp [plainName, overriddenIn]; done) | decide +kernel
set_option maxRecDepth 65536 in
set_option maxHeartbeats 40000000 in
theorem rm_init4_2 (l : Launch) (Z : State) (a0 : Array Value) (hw : ∀ d ∈ tables_1, d.before a0 Z = true) (n0 : Nat) (a1 a2 : Addr) (c0 c1 : Int32) (h0 : Heap) (Z0 : n0 ≤ h0.size) (cm : Cmp Z) (O : Old Z n0 h0) (E0 : Exa Z h0 a1 "java/lang/String") (F0 : Fld Z h0 a1 "java/lang/String" "value" "[B" .null) (F1 : Fld Z h0 a1 "java/lang/String" "coder" "B" (.int (0 : Int32))) (g1 : n0 ≤ a1) (A2 : Ary Z h0 a2 .char [.int c0, .int c1]) (n12 : a1 ≠ a2) (k0 : Ch c0) (k1 : Ch c1) :
    Met1 l Z (⟨"java/lang/String", "<init>", "([CIILjava/lang/Void;)V"⟩ : MethodName) jdk_42_method_149_code 6 none ({ frames := 2, cells := 1, slots := 2, locals := 35 } : Room) n0 #[(.ref a1), (.ref a2), (.int (0 : Int32)), (.int (2 : Int32)), .null] h0 (fun v h => v = none ∧ Keep h0 h [a1] ∧ ∃ b : Addr, h0.size ≤ b ∧ Fld Z h a1 "java/lang/String" "value" "[B" (.ref b) ∧ Fld Z h a1 "java/lang/String" "coder" "B" (.int (0 : Int32)) ∧ Ary Z h b .byte [.int (Int8.toInt32 (Int32.toInt8 c0)), .int (Int8.toInt32 (Int32.toInt8 c1))]) := by
  refine met_of (plainFor_of_name own_pn_java_lang_String) (L0 := #[.val (.ref a1), .val (.ref a2), .val (.int (0 : Int32)), .val (.int (2 : Int32)), .val .null, .unset]) (by first | (simp [argsToLocals, Value.category]; done) | rfl) ?_
  intro B C
  change Ctx B l _ _ "java/lang/String" "<init>" _ _ Z at C
  have cm' := cm
  obtain ⟨cz, Scz, hcz⟩ := cm'
  refine g_aload_n C d11_0 (v := (.ref a1)) rfl rfl (pc' := 1) rfl ?_
  refine g_initObj C (own_w hw 24 rfl) (own_w hw 25 rfl) (own_w hw 26 rfl) rfl (by decide) (W := 0) (Nat.le_of_eq rfl) (by decide) d11_1 (pc' := 4) rfl ?_
  refine g_iload_n C d11_4 (v := (2 : Int32)) rfl (pc' := 5) rfl ?_
  refine g_if_y C d11_5 (Jvm.Free.XT.i0_ne_t (by decide)) (pc' := 27) (by decide) (by decide) ?_
  refine g_getstatic C (host := "") (v := (.int cz)) (Or.inl (own_w hw 9 rfl)) Via.refl (Scz.ext O.2) d11_27 (pc' := 30) rfl ?_
  refine g_if_n C d11_30 (Jvm.Free.XT.i0_eq_f hcz) (pc' := 33) rfl ?_
  refine g_aload_n C d11_33 (v := (.ref a2)) rfl rfl (pc' := 34) rfl ?_
  refine g_iload_n C d11_34 (v := (0 : Int32)) rfl (pc' := 35) rfl ?_
  refine g_iload_n C d11_35 (v := (2 : Int32)) rfl (pc' := 36) rfl ?_
  refine g_static C (own_w hw 53 rfl) (own_w hw 54 rfl) (own_w hw 55 rfl) (own_w hw 56 rfl) (by decide) (rm_comp2_2 l Z a0 hw n0 a2 c0 c1 h0 Z0 A2 k0 k1) (st := []) [(.ref a2), (.int (0 : Int32)), (.int (2 : Int32))] rfl rfl own_pd_12_compress rfl rfl (by decide) (W := 0) (Nat.le_of_eq rfl) (by decide) (by decide) (by decide) d11_36 (pc' := 39) rfl ?_
  intro v_3 h_1 q_2
  obtain ⟨b_4, rfl, le_5, K_6, f_7⟩ := q_2
  have ne_8 : a1 ≠ b_4 := ne_ge E0.lt le_5
  have ne_9 : a2 ≠ b_4 := ne_ge A2.lt le_5
  have ge_b_4 : n0 ≤ b_4 := Nat.le_trans Z0 le_5
  have gs_b_4 : h0.size ≤ b_4 := Nat.le_trans (Nat.le_refl h0.size) le_5
  show Go B n0 _ h_1 1 2 39 #[.val (.ref a1), .val (.ref a2), .val (.int (0 : Int32)), .val (.int (2 : Int32)), .val .null, .unset] [(.ref b_4)]
  refine g_astore C d11_39 (v := (.ref b_4)) (L' := #[.val (.ref a1), .val (.ref a2), .val (.int (0 : Int32)), .val (.int (2 : Int32)), .val .null, .val (.ref b_4)]) rfl rfl (pc' := 41) rfl ?_
  refine g_aload_n C d11_41 (v := (.ref a1)) rfl rfl (pc' := 42) rfl ?_
  refine g_aload C d11_42 (v := (.ref b_4)) rfl rfl (pc' := 44) rfl ?_
  refine g_iload_n C d11_44 (v := (2 : Int32)) rfl (pc' := 45) rfl ?_
  have f_10 := (Nat.le_trans Z0 K_6.1)
  refine g_static C (own_w hw 60 rfl) (own_w hw 61 rfl) (own_w hw 55 rfl) (own_w hw 62 rfl) (by decide) (rm_coderF_2 l Z a0 hw n0 b_4 (Int8.toInt32 (Int32.toInt8 c0)) (Int8.toInt32 (Int32.toInt8 c1)) h_1 f_10 f_7) (st := [(.ref a1)]) [(.ref b_4), (.int (2 : Int32))] rfl rfl own_pd_10_coderFromArrayLen rfl rfl (by decide) (W := 1) (Nat.le_of_eq rfl) (by decide) (by decide) (by decide) d11_45 (pc' := 48) rfl ?_
  intro v_13 h_11 q_12
  obtain ⟨rfl, rfl⟩ := q_12
  show Go B n0 _ h_1 1 2 48 #[.val (.ref a1), .val (.ref a2), .val (.int (0 : Int32)), .val (.int (2 : Int32)), .val .null, .val (.ref b_4)] [(.int (0 : Int32)), (.ref a1)]
  have f_14 := (F1.keep K_6 nin0)
  have f_15 := (E0.keep K_6)
  refine g_putfield C (host := "") (v := (.int (0 : Int32))) (Or.inl (own_w hw 29 rfl)) Via.refl f_14 f_15 (Or.inr ⟨(own_w hw 30 rfl), rfl, rfl⟩) (own_w hw 15 rfl) (ty := .byte) (by decide) rfl rfl g1 d11_48 (pc' := 51) rfl ?_
  intro h_16 W_17
  have f_18 := f_14.same W_17
  refine g_aload_n C d11_51 (v := (.ref a1)) rfl rfl (pc' := 52) rfl ?_
  refine g_aload C d11_52 (v := (.ref b_4)) rfl rfl (pc' := 54) rfl ?_
  have f_19 := ((F0.keep K_6 nin0).other W_17 (Or.inr (slot_ne (Or.inr (own_w hw 28 rfl)) (Or.inr (own_w hw 30 rfl)) (by decide) (t := (.array .byte)) (t' := .byte) (by decide) (by decide))))
  have f_20 := (f_15.wr W_17)
  refine g_putfield C (host := "") (v := (.ref b_4)) (Or.inl (own_w hw 27 rfl)) Via.refl f_19 f_20 (Or.inr ⟨(own_w hw 28 rfl), rfl, rfl⟩) (own_w hw 15 rfl) (ty := (.array .byte)) (by decide) rfl rfl g1 d11_54 (pc' := 57) rfl ?_
  intro h_21 W_22
  have f_23 := f_19.same W_22
  refine g_return C rfl d11_57 (by decide) (by decide) ?_
  have f_24 := (f_18.other W_22 (Or.inr (slot_ne (Or.inr (own_w hw 30 rfl)) (Or.inr (own_w hw 28 rfl)) (by decide) (t := .byte) (t' := (.array .byte)) (by decide) (by decide))))
  have f_25 := ((f_7.keep (Keep.of_wr W_17) (nin1 (Ne.symm ne_8))).keep (Keep.of_wr W_22) (nin1 (Ne.symm ne_8)))
  exact ⟨rfl, ((((Keep.refl h0 [a1]).trans K_6 all0).wr W_17 (Or.inl (List.mem_of_getElem? (i := 0) rfl))).wr W_22 (Or.inl (List.mem_of_getElem? (i := 0) rfl))), b_4, gs_b_4, f_23, f_24, f_25⟩
theorem own_pd_13_init : parseMethodDescriptor "([CIILjava/lang/Void;)V" = some ⟨[(.array .char), .int, .int, (.object "java/lang/Void")], none⟩ := by decide +kernel
theorem d10_0 : decode jdk_42_method_3_code 0 = .ok (.aload_n 0, 1) := by decide +kernel
theorem d10_1 : decode jdk_42_method_3_code 1 = .ok (.aload_n 1, 1) := by decide +kernel
theorem d10_2 : decode jdk_42_method_3_code 2 = .ok (.iconst 0, 1) := by decide +kernel
theorem d10_3 : decode jdk_42_method_3_code 3 = .ok (.aload_n 1, 1) := by decide +kernel
theorem d10_4 : decode jdk_42_method_3_code 4 = .ok (.arraylength, 1) := by decide +kernel
theorem d10_5 : decode jdk_42_method_3_code 5 = .ok (.aconst_null, 1) := by decide +kernel
theorem d10_6 : decode jdk_42_method_3_code 6 = .ok (.invokespecial 27, 3) := by decide +kernel
theorem d10_9 : decode jdk_42_method_3_code 9 = .ok (.return_, 1) := by decide +kernel
set_option maxRecDepth 65536 in
set_option maxHeartbeats 40000000 in
theorem rm_init1_2 (l : Launch) (Z : State) (a0 : Array Value) (hw : ∀ d ∈ tables_1, d.before a0 Z = true) (n0 : Nat) (a1 a2 : Addr) (c0 c1 : Int32) (h0 : Heap) (Z0 : n0 ≤ h0.size) (cm : Cmp Z) (O : Old Z n0 h0) (E0 : Exa Z h0 a1 "java/lang/String") (F0 : Fld Z h0 a1 "java/lang/String" "value" "[B" .null) (F1 : Fld Z h0 a1 "java/lang/String" "coder" "B" (.int (0 : Int32))) (g1 : n0 ≤ a1) (A2 : Ary Z h0 a2 .char [.int c0, .int c1]) (n12 : a1 ≠ a2) (k0 : Ch c0) (k1 : Ch c1) :
    Met1 l Z (⟨"java/lang/String", "<init>", "([C)V"⟩ : MethodName) jdk_42_method_3_code 2 none ({ frames := 3, cells := 1, slots := 2, locals := 52 } : Room) n0 #[(.ref a1), (.ref a2)] h0 (fun v h => v = none ∧ Keep h0 h [a1] ∧ ∃ b : Addr, h0.size ≤ b ∧ Fld Z h a1 "java/lang/String" "value" "[B" (.ref b) ∧ Fld Z h a1 "java/lang/String" "coder" "B" (.int (0 : Int32)) ∧ Ary Z h b .byte [.int (Int8.toInt32 (Int32.toInt8 c0)), .int (Int8.toInt32 (Int32.toInt8 c1))]) := by
  refine met_of (plainFor_of_name own_pn_java_lang_String) (L0 := #[.val (.ref a1), .val (.ref a2)]) (by first | (simp [argsToLocals, Value.category]; done) | rfl) ?_
  intro B C
  change Ctx B l _ _ "java/lang/String" "<init>" _ _ Z at C
  have cm' := cm
  obtain ⟨cz, Scz, hcz⟩ := cm'
  refine g_aload_n C d10_0 (v := (.ref a1)) rfl rfl (pc' := 1) rfl ?_
  refine g_aload_n C d10_1 (v := (.ref a2)) rfl rfl (pc' := 2) rfl ?_
  refine g_iconst C d10_2 (v := (0 : Int32)) rfl (pc' := 3) rfl ?_
  refine g_aload_n C d10_3 (v := (.ref a2)) rfl rfl (pc' := 4) rfl ?_
  refine g_arraylength C A2 (z := (2 : Int32)) rfl d10_4 (pc' := 5) rfl ?_
  refine g_aconst_null C d10_5 (pc' := 6) rfl ?_
  refine g_special C (a := a1) rfl (own_w hw 50 rfl) (own_w hw 51 rfl) (own_w hw 7 rfl) (own_w hw 52 rfl) (by decide) (rm_init4_2 l Z a0 hw n0 a1 a2 c0 c1 h0 Z0 cm O E0 F0 F1 g1 A2 n12 k0 k1) (st := []) [(.ref a2), (.int (0 : Int32)), (.int (2 : Int32)), .null] rfl rfl own_pd_13_init rfl rfl (by decide) (W := 0) (Nat.le_of_eq rfl) (by decide) (by decide) (by decide) d10_6 (pc' := 9) rfl ?_
  intro v_3 h_1 q_2
  obtain ⟨rfl, K_4, b_5, le_6, f_7, f_8, f_9⟩ := q_2
  have ne_10 : a1 ≠ b_5 := ne_ge E0.lt le_6
  have ne_11 : a2 ≠ b_5 := ne_ge A2.lt le_6
  have ge_b_5 : n0 ≤ b_5 := Nat.le_trans Z0 le_6
  have gs_b_5 : h0.size ≤ b_5 := Nat.le_trans (Nat.le_refl h0.size) le_6
  show Go B n0 _ h_1 1 2 9 #[.val (.ref a1), .val (.ref a2)] []
  refine g_return C rfl d10_9 (by decide) (by decide) ?_
  exact ⟨rfl, ((Keep.refl h0 [a1]).trans K_4 (allS (Or.inl (List.mem_of_getElem? (i := 0) rfl)) all0)), b_5, gs_b_5, f_7, f_8, f_9⟩
set_option maxRecDepth 65536 in
set_option maxHeartbeats 40000000 in
theorem rm_comp1_3 (l : Launch) (Z : State) (a0 : Array Value) (hw : ∀ d ∈ tables_1, d.before a0 Z = true) (n0 : Nat) (a1 a2 : Addr) (c0 c1 c2 : Int32) (h0 : Heap) (Z0 : n0 ≤ h0.size) (A1 : Ary Z h0 a1 .char [.int c0, .int c1, .int c2]) (A2 : Ary Z h0 a2 .byte [.int (0 : Int32), .int (0 : Int32), .int (0 : Int32)]) (g2 : n0 ≤ a2) (n12 : a1 ≠ a2) (k0 : Ch c0) (k1 : Ch c1) (k2 : Ch c2) :
    Met1 l Z (⟨"java/lang/StringUTF16", "compress", "([CI[BII)I"⟩ : MethodName) jdk_52_method_21_code 7 (some .int) ({ frames := 0, cells := 0, slots := 0, locals := 0 } : Room) n0 #[(.ref a1), (.int (0 : Int32)), (.ref a2), (.int (0 : Int32)), (.int (3 : Int32))] h0 (fun v h => v = some (.int (3 : Int32)) ∧ Keep h0 h [a2] ∧ Ary Z h a2 .byte [.int (Int8.toInt32 (Int32.toInt8 c0)), .int (Int8.toInt32 (Int32.toInt8 c1)), .int (Int8.toInt32 (Int32.toInt8 c2))]) := by
  refine met_of (plainFor_of_name own_pn_java_lang_StringUTF16) (L0 := #[.val (.ref a1), .val (.int (0 : Int32)), .val (.ref a2), .val (.int (0 : Int32)), .val (.int (3 : Int32)), .unset, .unset]) (by first | (simp [argsToLocals, Value.category]; done) | rfl) ?_
  intro B C
  change Ctx B l _ _ "java/lang/StringUTF16" "compress" _ _ Z at C
  refine g_iconst C d13_0 (v := (0 : Int32)) rfl (pc' := 1) rfl ?_
  refine g_istore C d13_1 (v := (0 : Int32)) (L' := #[.val (.ref a1), .val (.int (0 : Int32)), .val (.ref a2), .val (.int (0 : Int32)), .val (.int (3 : Int32)), .val (.int (0 : Int32)), .unset]) rfl (pc' := 3) rfl ?_
  refine g_iload C d13_3 (v := (0 : Int32)) rfl (pc' := 5) rfl ?_
  refine g_iload C d13_5 (v := (3 : Int32)) rfl (pc' := 7) rfl ?_
  refine g_icmp_n C d13_7 (Jvm.Free.XT.ii_ge_f (by decide)) (pc' := 10) rfl ?_
  refine g_aload_n C d13_10 (v := (.ref a1)) rfl rfl (pc' := 11) rfl ?_
  refine g_iload_n C d13_11 (v := (0 : Int32)) rfl (pc' := 12) rfl ?_
  refine g_caload C A1 (by decide) (i := 0) (by decide) (v := c0) rfl d13_12 (pc' := 13) rfl ?_
  refine g_istore C d13_13 (v := c0) (L' := #[.val (.ref a1), .val (.int (0 : Int32)), .val (.ref a2), .val (.int (0 : Int32)), .val (.int (3 : Int32)), .val (.int (0 : Int32)), .val (.int c0)]) rfl (pc' := 15) rfl ?_
  refine g_iload C d13_15 (v := c0) rfl (pc' := 17) rfl ?_
  refine g_sipush C d13_17 (v := (255 : Int32)) rfl (pc' := 20) rfl ?_
  refine g_icmp_y C d13_20 (Jvm.Free.XT.ii_le_t k0.2.1) (pc' := 26) (by decide) (by decide) ?_
  refine g_aload_n C d13_26 (v := (.ref a2)) rfl rfl (pc' := 27) rfl ?_
  refine g_iload_n C d13_27 (v := (0 : Int32)) rfl (pc' := 28) rfl ?_
  refine g_iload C d13_28 (v := c0) rfl (pc' := 30) rfl ?_
  refine g_i2b C (x := c0) d13_30 (pc' := 31) rfl ?_
  refine g_bastoreB C A2 (by decide) (i := 0) (by decide) (show 0 < 3 by decide) (w := (.int (Int8.toInt32 (Int32.toInt8 c0)))) (congrArg Value.int (own_narb _)) g2 d13_31 (pc' := 32) rfl ?_
  intro h_1 K_2 A_3
  have f_4 : Ary Z h_1 a2 .byte [(.int (Int8.toInt32 (Int32.toInt8 c0))), (.int (0 : Int32)), (.int (0 : Int32))] := A_3
  refine g_iinc C d13_32 (v := (0 : Int32)) (w := (1 : Int32)) rfl rfl (L' := #[.val (.ref a1), .val (.int (1 : Int32)), .val (.ref a2), .val (.int (0 : Int32)), .val (.int (3 : Int32)), .val (.int (0 : Int32)), .val (.int c0)]) rfl (pc' := 35) rfl ?_
  refine g_iinc C d13_35 (v := (0 : Int32)) (w := (1 : Int32)) rfl rfl (L' := #[.val (.ref a1), .val (.int (1 : Int32)), .val (.ref a2), .val (.int (1 : Int32)), .val (.int (3 : Int32)), .val (.int (0 : Int32)), .val (.int c0)]) rfl (pc' := 38) rfl ?_
  refine g_iinc C d13_38 (v := (0 : Int32)) (w := (1 : Int32)) rfl rfl (L' := #[.val (.ref a1), .val (.int (1 : Int32)), .val (.ref a2), .val (.int (1 : Int32)), .val (.int (3 : Int32)), .val (.int (1 : Int32)), .val (.int c0)]) rfl (pc' := 41) rfl ?_
  refine g_goto C d13_41 (pc' := 3) (by decide) (by decide) ?_
  refine g_iload C d13_3 (v := (1 : Int32)) rfl (pc' := 5) rfl ?_
  refine g_iload C d13_5 (v := (3 : Int32)) rfl (pc' := 7) rfl ?_
  refine g_icmp_n C d13_7 (Jvm.Free.XT.ii_ge_f (by decide)) (pc' := 10) rfl ?_
  refine g_aload_n C d13_10 (v := (.ref a1)) rfl rfl (pc' := 11) rfl ?_
  refine g_iload_n C d13_11 (v := (1 : Int32)) rfl (pc' := 12) rfl ?_
  have f_5 := (A1.keep K_2 (ninS n12 nin0))
  refine g_caload C f_5 (by decide) (i := 1) (by decide) (v := c1) rfl d13_12 (pc' := 13) rfl ?_
  refine g_istore C d13_13 (v := c1) (L' := #[.val (.ref a1), .val (.int (1 : Int32)), .val (.ref a2), .val (.int (1 : Int32)), .val (.int (3 : Int32)), .val (.int (1 : Int32)), .val (.int c1)]) rfl (pc' := 15) rfl ?_
  refine g_iload C d13_15 (v := c1) rfl (pc' := 17) rfl ?_
  refine g_sipush C d13_17 (v := (255 : Int32)) rfl (pc' := 20) rfl ?_
  refine g_icmp_y C d13_20 (Jvm.Free.XT.ii_le_t k1.2.1) (pc' := 26) (by decide) (by decide) ?_
  refine g_aload_n C d13_26 (v := (.ref a2)) rfl rfl (pc' := 27) rfl ?_
  refine g_iload_n C d13_27 (v := (1 : Int32)) rfl (pc' := 28) rfl ?_
  refine g_iload C d13_28 (v := c1) rfl (pc' := 30) rfl ?_
  refine g_i2b C (x := c1) d13_30 (pc' := 31) rfl ?_
  refine g_bastoreB C f_4 (by decide) (i := 1) (by decide) (show 1 < 3 by decide) (w := (.int (Int8.toInt32 (Int32.toInt8 c1)))) (congrArg Value.int (own_narb _)) g2 d13_31 (pc' := 32) rfl ?_
  intro h_6 K_7 A_8
  have f_9 : Ary Z h_6 a2 .byte [(.int (Int8.toInt32 (Int32.toInt8 c0))), (.int (Int8.toInt32 (Int32.toInt8 c1))), (.int (0 : Int32))] := A_8
  refine g_iinc C d13_32 (v := (1 : Int32)) (w := (2 : Int32)) rfl rfl (L' := #[.val (.ref a1), .val (.int (2 : Int32)), .val (.ref a2), .val (.int (1 : Int32)), .val (.int (3 : Int32)), .val (.int (1 : Int32)), .val (.int c1)]) rfl (pc' := 35) rfl ?_
  refine g_iinc C d13_35 (v := (1 : Int32)) (w := (2 : Int32)) rfl rfl (L' := #[.val (.ref a1), .val (.int (2 : Int32)), .val (.ref a2), .val (.int (2 : Int32)), .val (.int (3 : Int32)), .val (.int (1 : Int32)), .val (.int c1)]) rfl (pc' := 38) rfl ?_
  refine g_iinc C d13_38 (v := (1 : Int32)) (w := (2 : Int32)) rfl rfl (L' := #[.val (.ref a1), .val (.int (2 : Int32)), .val (.ref a2), .val (.int (2 : Int32)), .val (.int (3 : Int32)), .val (.int (2 : Int32)), .val (.int c1)]) rfl (pc' := 41) rfl ?_
  refine g_goto C d13_41 (pc' := 3) (by decide) (by decide) ?_
  refine g_iload C d13_3 (v := (2 : Int32)) rfl (pc' := 5) rfl ?_
  refine g_iload C d13_5 (v := (3 : Int32)) rfl (pc' := 7) rfl ?_
  refine g_icmp_n C d13_7 (Jvm.Free.XT.ii_ge_f (by decide)) (pc' := 10) rfl ?_
  refine g_aload_n C d13_10 (v := (.ref a1)) rfl rfl (pc' := 11) rfl ?_
  refine g_iload_n C d13_11 (v := (2 : Int32)) rfl (pc' := 12) rfl ?_
  have f_10 := (f_5.keep K_7 (ninS n12 nin0))
  refine g_caload C f_10 (by decide) (i := 2) (by decide) (v := c2) rfl d13_12 (pc' := 13) rfl ?_
  refine g_istore C d13_13 (v := c2) (L' := #[.val (.ref a1), .val (.int (2 : Int32)), .val (.ref a2), .val (.int (2 : Int32)), .val (.int (3 : Int32)), .val (.int (2 : Int32)), .val (.int c2)]) rfl (pc' := 15) rfl ?_
  refine g_iload C d13_15 (v := c2) rfl (pc' := 17) rfl ?_
  refine g_sipush C d13_17 (v := (255 : Int32)) rfl (pc' := 20) rfl ?_
  refine g_icmp_y C d13_20 (Jvm.Free.XT.ii_le_t k2.2.1) (pc' := 26) (by decide) (by decide) ?_
  refine g_aload_n C d13_26 (v := (.ref a2)) rfl rfl (pc' := 27) rfl ?_
  refine g_iload_n C d13_27 (v := (2 : Int32)) rfl (pc' := 28) rfl ?_
  refine g_iload C d13_28 (v := c2) rfl (pc' := 30) rfl ?_
  refine g_i2b C (x := c2) d13_30 (pc' := 31) rfl ?_
  refine g_bastoreB C f_9 (by decide) (i := 2) (by decide) (show 2 < 3 by decide) (w := (.int (Int8.toInt32 (Int32.toInt8 c2)))) (congrArg Value.int (own_narb _)) g2 d13_31 (pc' := 32) rfl ?_
  intro h_11 K_12 A_13
  have f_14 : Ary Z h_11 a2 .byte [(.int (Int8.toInt32 (Int32.toInt8 c0))), (.int (Int8.toInt32 (Int32.toInt8 c1))), (.int (Int8.toInt32 (Int32.toInt8 c2)))] := A_13
  refine g_iinc C d13_32 (v := (2 : Int32)) (w := (3 : Int32)) rfl rfl (L' := #[.val (.ref a1), .val (.int (3 : Int32)), .val (.ref a2), .val (.int (2 : Int32)), .val (.int (3 : Int32)), .val (.int (2 : Int32)), .val (.int c2)]) rfl (pc' := 35) rfl ?_
  refine g_iinc C d13_35 (v := (2 : Int32)) (w := (3 : Int32)) rfl rfl (L' := #[.val (.ref a1), .val (.int (3 : Int32)), .val (.ref a2), .val (.int (3 : Int32)), .val (.int (3 : Int32)), .val (.int (2 : Int32)), .val (.int c2)]) rfl (pc' := 38) rfl ?_
  refine g_iinc C d13_38 (v := (2 : Int32)) (w := (3 : Int32)) rfl rfl (L' := #[.val (.ref a1), .val (.int (3 : Int32)), .val (.ref a2), .val (.int (3 : Int32)), .val (.int (3 : Int32)), .val (.int (3 : Int32)), .val (.int c2)]) rfl (pc' := 41) rfl ?_
  refine g_goto C d13_41 (pc' := 3) (by decide) (by decide) ?_
  refine g_iload C d13_3 (v := (3 : Int32)) rfl (pc' := 5) rfl ?_
  refine g_iload C d13_5 (v := (3 : Int32)) rfl (pc' := 7) rfl ?_
  refine g_icmp_y C d13_7 (Jvm.Free.XT.ii_ge_t (by decide)) (pc' := 44) (by decide) (by decide) ?_
  refine g_iload C d13_44 (v := (3 : Int32)) rfl (pc' := 46) rfl ?_
  refine g_ret C (v := (.int (3 : Int32))) (ty := .int) rfl rfl (Or.inl ⟨rfl, Or.inl rfl, _, rfl⟩) d13_46 (by decide) (by decide) ?_
  exact ⟨rfl, ((((Keep.refl h0 [a2]).trans K_2 (allS (Or.inl (List.mem_of_getElem? (i := 0) rfl)) all0)).trans K_7 (allS (Or.inl (List.mem_of_getElem? (i := 0) rfl)) all0)).trans K_12 (allS (Or.inl (List.mem_of_getElem? (i := 0) rfl)) all0)), f_14⟩
set_option maxRecDepth 65536 in
set_option maxHeartbeats 40000000 in
theorem rm_comp2_3 (l : Launch) (Z : State) (a0 : Array Value) (hw : ∀ d ∈ tables_1, d.before a0 Z = true) (n0 : Nat) (a1 : Addr) (c0 c1 c2 : Int32) (h0 : Heap) (Z0 : n0 ≤ h0.size) (A1 : Ary Z h0 a1 .char [.int c0, .int c1, .int c2]) (k0 : Ch c0) (k1 : Ch c1) (k2 : Ch c2) :
    Met1 l Z (⟨"java/lang/StringUTF16", "compress", "([CII)[B"⟩ : MethodName) jdk_52_method_16_code 6 (some (.array .byte)) ({ frames := 1, cells := 1, slots := 3, locals := 18 } : Room) n0 #[(.ref a1), (.int (0 : Int32)), (.int (3 : Int32))] h0 (fun v h => ∃ b : Addr, v = some (.ref b) ∧ h0.size ≤ b ∧ Keep h0 h [] ∧ Ary Z h b .byte [.int (Int8.toInt32 (Int32.toInt8 c0)), .int (Int8.toInt32 (Int32.toInt8 c1)), .int (Int8.toInt32 (Int32.toInt8 c2))]) := by
  refine met_of (plainFor_of_name own_pn_java_lang_StringUTF16) (L0 := #[.val (.ref a1), .val (.int (0 : Int32)), .val (.int (3 : Int32)), .unset, .unset, .unset]) (by first | (simp [argsToLocals, Value.category]; done) | rfl) ?_
  intro B C
  change Ctx B l _ _ "java/lang/StringUTF16" "compress" _ _ Z at C
  refine g_iload_n C d12_0 (v := (3 : Int32)) rfl (pc' := 1) rfl ?_
  refine g_newarray C (own_w hw 19 rfl) (ty := .byte) rfl (by decide) (cap := 3) (by decide) (by decide) (by decide) (by decide) d12_1 (pc' := 3) rfl ?_
  intro h_1 a_2 g_3 E_4 A_5
  have ne_6 : a1 ≠ a_2 := ne_new A1.lt g_3
  have ge_a_2 : n0 ≤ a_2 := Nat.le_trans Z0 (Nat.le_of_eq g_3.symm)
  have gs_a_2 : h0.size ≤ a_2 := Nat.le_trans (Nat.le_refl h0.size) (Nat.le_of_eq g_3.symm)
  have f_7 : Ary Z h_1 a_2 .byte [(.int (0 : Int32)), (.int (0 : Int32)), (.int (0 : Int32))] := A_5
  show Go B n0 _ h_1 1 3 3 #[.val (.ref a1), .val (.int (0 : Int32)), .val (.int (3 : Int32)), .unset, .unset, .unset] [(.ref a_2)]
  refine g_astore_n C d12_3 (v := (.ref a_2)) (L' := #[.val (.ref a1), .val (.int (0 : Int32)), .val (.int (3 : Int32)), .val (.ref a_2), .unset, .unset]) rfl rfl (pc' := 4) rfl ?_
  refine g_aload_n C d12_4 (v := (.ref a1)) rfl rfl (pc' := 5) rfl ?_
  refine g_iload_n C d12_5 (v := (0 : Int32)) rfl (pc' := 6) rfl ?_
  refine g_aload_n C d12_6 (v := (.ref a_2)) rfl rfl (pc' := 7) rfl ?_
  refine g_iconst C d12_7 (v := (0 : Int32)) rfl (pc' := 8) rfl ?_
  refine g_iload_n C d12_8 (v := (3 : Int32)) rfl (pc' := 9) rfl ?_
  have f_8 := (A1.ext E_4)
  have f_9 := (Nat.le_trans Z0 E_4.1)
  refine g_static C (own_w hw 57 rfl) (own_w hw 58 rfl) (own_w hw 55 rfl) (own_w hw 59 rfl) (by decide) (rm_comp1_3 l Z a0 hw n0 a1 a_2 c0 c1 c2 h_1 f_9 f_8 f_7 ge_a_2 ne_6 k0 k1 k2) (st := []) [(.ref a1), (.int (0 : Int32)), (.ref a_2), (.int (0 : Int32)), (.int (3 : Int32))] rfl rfl own_pd_14_compress rfl rfl (by decide) (W := 0) (Nat.le_of_eq rfl) (by decide) (by decide) (by decide) d12_9 (pc' := 12) rfl ?_
  intro v_12 h_10 q_11
  obtain ⟨rfl, K_13, f_14⟩ := q_11
  show Go B n0 _ h_10 1 3 12 #[.val (.ref a1), .val (.int (0 : Int32)), .val (.int (3 : Int32)), .val (.ref a_2), .unset, .unset] [(.int (3 : Int32))]
  refine g_istore C d12_12 (v := (3 : Int32)) (L' := #[.val (.ref a1), .val (.int (0 : Int32)), .val (.int (3 : Int32)), .val (.ref a_2), .val (.int (3 : Int32)), .unset]) rfl (pc' := 14) rfl ?_
  refine g_iload C d12_14 (v := (3 : Int32)) rfl (pc' := 16) rfl ?_
  refine g_iload_n C d12_16 (v := (3 : Int32)) rfl (pc' := 17) rfl ?_
  refine g_icmp_y C d12_17 (Jvm.Free.XT.ii_eq_t (by decide)) (pc' := 57) (by decide) (by decide) ?_
  refine g_aload_n C d12_57 (v := (.ref a_2)) rfl rfl (pc' := 58) rfl ?_
  refine g_ret C (v := (.ref a_2)) (ty := (.array .byte)) rfl rfl (Or.inr (Or.inr (Or.inr (Or.inr ⟨rfl, rfl, rfl⟩)))) d12_58 (by decide) (by decide) ?_
  exact ⟨a_2, rfl, gs_a_2, (((Keep.refl h0 []).ext E_4).trans K_13 (allS (Or.inr gs_a_2) all0)), f_14⟩
set_option maxRecDepth 65536 in
set_option maxHeartbeats 40000000 in
theorem rm_coderF_3 (l : Launch) (Z : State) (a0 : Array Value) (hw : ∀ d ∈ tables_1, d.before a0 Z = true) (n0 : Nat) (a1 : Addr) (x0 x1 x2 : Int32) (h0 : Heap) (Z0 : n0 ≤ h0.size) (A1 : Ary Z h0 a1 .byte [.int x0, .int x1, .int x2]) :
    Met1 l Z (⟨"java/lang/StringUTF16", "coderFromArrayLen", "([BI)B"⟩ : MethodName) jdk_52_method_15_code 2 (some .byte) ({ frames := 0, cells := 0, slots := 0, locals := 0 } : Room) n0 #[(.ref a1), (.int (3 : Int32))] h0 (fun v h => v = some (.int (0 : Int32)) ∧ h0 = h) := by
  refine met_of (plainFor_of_name own_pn_java_lang_StringUTF16) (L0 := #[.val (.ref a1), .val (.int (3 : Int32))]) (by first | (simp [argsToLocals, Value.category]; done) | rfl) ?_
  intro B C
  change Ctx B l _ _ "java/lang/StringUTF16" "coderFromArrayLen" _ _ Z at C
  refine g_iload_n C d14_0 (v := (3 : Int32)) rfl (pc' := 1) rfl ?_
  refine g_aload_n C d14_1 (v := (.ref a1)) rfl rfl (pc' := 2) rfl ?_
  refine g_arraylength C A1 (z := (3 : Int32)) rfl d14_2 (pc' := 3) rfl ?_
  refine g_isub C (x := (3 : Int32)) (y := (3 : Int32)) d14_3  (pc' := 4) rfl ?_
  refine Go.eqs (st2 := [(.int (0 : Int32))]) ?_ (by rfl)
  refine g_bipush C d14_4 (v := (31 : Int32)) rfl (pc' := 6) rfl ?_
  refine g_iushr C (x := (0 : Int32)) (y := (31 : Int32)) d14_6  (pc' := 7) rfl ?_
  refine Go.eqs (st2 := [(.int (0 : Int32))]) ?_ (by rfl)
  refine g_i2b C (x := (0 : Int32)) d14_7 (pc' := 8) rfl ?_
  refine Go.eqs (st2 := [(.int (0 : Int32))]) ?_ (by rfl)
  refine g_ret C (v := (.int (0 : Int32))) (ty := .byte) rfl rfl (Or.inl ⟨rfl, Or.inr (Or.inr (Or.inl rfl)), _, rfl⟩) d14_8 (by decide) (by decide) ?_
  exact ⟨rfl, rfl⟩
set_option maxRecDepth 65536 in
set_option maxHeartbeats 40000000 in
theorem rm_init4_3 (l : Launch) (Z : State) (a0 : Array Value) (hw : ∀ d ∈ tables_1, d.before a0 Z = true) (n0 : Nat) (a1 a2 : Addr) (c0 c1 c2 : Int32) (h0 : Heap) (Z0 : n0 ≤ h0.size) (cm : Cmp Z) (O : Old Z n0 h0) (E0 : Exa Z h0 a1 "java/lang/String") (F0 : Fld Z h0 a1 "java/lang/String" "value" "[B" .null) (F1 : Fld Z h0 a1 "java/lang/String" "coder" "B" (.int (0 : Int32))) (g1 : n0 ≤ a1) (A2 : Ary Z h0 a2 .char [.int c0, .int c1, .int c2]) (n12 : a1 ≠ a2) (k0 : Ch c0) (k1 : Ch c1) (k2 : Ch c2) :
    Met1 l Z (⟨"java/lang/String", "<init>", "([CIILjava/lang/Void;)V"⟩ : MethodName) jdk_42_method_149_code 6 none ({ frames := 2, cells := 1, slots := 3, locals := 35 } : Room) n0 #[(.ref a1), (.ref a2), (.int (0 : Int32)), (.int (3 : Int32)), .null] h0 (fun v h => v = none ∧ Keep h0 h [a1] ∧ ∃ b : Addr, h0.size ≤ b ∧ Fld Z h a1 "java/lang/String" "value" "[B" (.ref b) ∧ Fld Z h a1 "java/lang/String" "coder" "B" (.int (0 : Int32)) ∧ Ary Z h b .byte [.int (Int8.toInt32 (Int32.toInt8 c0)), .int (Int8.toInt32 (Int32.toInt8 c1)), .int (Int8.toInt32 (Int32.toInt8 c2))]) := by
  refine met_of (plainFor_of_name own_pn_java_lang_String) (L0 := #[.val (.ref a1), .val (.ref a2), .val (.int (0 : Int32)), .val (.int (3 : Int32)), .val .null, .unset]) (by first | (simp [argsToLocals, Value.category]; done) | rfl) ?_
  intro B C
  change Ctx B l _ _ "java/lang/String" "<init>" _ _ Z at C
  have cm' := cm
  obtain ⟨cz, Scz, hcz⟩ := cm'
  refine g_aload_n C d11_0 (v := (.ref a1)) rfl rfl (pc' := 1) rfl ?_
  refine g_initObj C (own_w hw 24 rfl) (own_w hw 25 rfl) (own_w hw 26 rfl) rfl (by decide) (W := 0) (Nat.le_of_eq rfl) (by decide) d11_1 (pc' := 4) rfl ?_
  refine g_iload_n C d11_4 (v := (3 : Int32)) rfl (pc' := 5) rfl ?_
  refine g_if_y C d11_5 (Jvm.Free.XT.i0_ne_t (by decide)) (pc' := 27) (by decide) (by decide) ?_
  refine g_getstatic C (host := "") (v := (.int cz)) (Or.inl (own_w hw 9 rfl)) Via.refl (Scz.ext O.2) d11_27 (pc' := 30) rfl ?_
  refine g_if_n C d11_30 (Jvm.Free.XT.i0_eq_f hcz) (pc' := 33) rfl ?_
  refine g_aload_n C d11_33 (v := (.ref a2)) rfl rfl (pc' := 34) rfl ?_
  refine g_iload_n C d11_34 (v := (0 : Int32)) rfl (pc' := 35) rfl ?_
  refine g_iload_n C d11_35 (v := (3 : Int32)) rfl (pc' := 36) rfl ?_
  refine g_static C (own_w hw 53 rfl) (own_w hw 54 rfl) (own_w hw 55 rfl) (own_w hw 56 rfl) (by decide) (rm_comp2_3 l Z a0 hw n0 a2 c0 c1 c2 h0 Z0 A2 k0 k1 k2) (st := []) [(.ref a2), (.int (0 : Int32)), (.int (3 : Int32))] rfl rfl own_pd_12_compress rfl rfl (by decide) (W := 0) (Nat.le_of_eq rfl) (by decide) (by decide) (by decide) d11_36 (pc' := 39) rfl ?_
  intro v_3 h_1 q_2
  obtain ⟨b_4, rfl, le_5, K_6, f_7⟩ := q_2
  have ne_8 : a1 ≠ b_4 := ne_ge E0.lt le_5
  have ne_9 : a2 ≠ b_4 := ne_ge A2.lt le_5
  have ge_b_4 : n0 ≤ b_4 := Nat.le_trans Z0 le_5
  have gs_b_4 : h0.size ≤ b_4 := Nat.le_trans (Nat.le_refl h0.size) le_5
  show Go B n0 _ h_1 1 3 39 #[.val (.ref a1), .val (.ref a2), .val (.int (0 : Int32)), .val (.int (3 : Int32)), .val .null, .unset] [(.ref b_4)]
  refine g_astore C d11_39 (v := (.ref b_4)) (L' := #[.val (.ref a1), .val (.ref a2), .val (.int (0 : Int32)), .val (.int (3 : Int32)), .val .null, .val (.ref b_4)]) rfl rfl (pc' := 41) rfl ?_
  refine g_aload_n C d11_41 (v := (.ref a1)) rfl rfl (pc' := 42) rfl ?_
  refine g_aload C d11_42 (v := (.ref b_4)) rfl rfl (pc' := 44) rfl ?_
  refine g_iload_n C d11_44 (v := (3 : Int32)) rfl (pc' := 45) rfl ?_
  have f_10 := (Nat.le_trans Z0 K_6.1)
  refine g_static C (own_w hw 60 rfl) (own_w hw 61 rfl) (own_w hw 55 rfl) (own_w hw 62 rfl) (by decide) (rm_coderF_3 l Z a0 hw n0 b_4 (Int8.toInt32 (Int32.toInt8 c0)) (Int8.toInt32 (Int32.toInt8 c1)) (Int8.toInt32 (Int32.toInt8 c2)) h_1 f_10 f_7) (st := [(.ref a1)]) [(.ref b_4), (.int (3 : Int32))] rfl rfl own_pd_10_coderFromArrayLen rfl rfl (by decide) (W := 1) (Nat.le_of_eq rfl) (by decide) (by decide) (by decide) d11_45 (pc' := 48) rfl ?_
  intro v_13 h_11 q_12
  obtain ⟨rfl, rfl⟩ := q_12
  show Go B n0 _ h_1 1 3 48 #[.val (.ref a1), .val (.ref a2), .val (.int (0 : Int32)), .val (.int (3 : Int32)), .val .null, .val (.ref b_4)] [(.int (0 : Int32)), (.ref a1)]
  have f_14 := (F1.keep K_6 nin0)
  have f_15 := (E0.keep K_6)
  refine g_putfield C (host := "") (v := (.int (0 : Int32))) (Or.inl (own_w hw 29 rfl)) Via.refl f_14 f_15 (Or.inr ⟨(own_w hw 30 rfl), rfl, rfl⟩) (own_w hw 15 rfl) (ty := .byte) (by decide) rfl rfl g1 d11_48 (pc' := 51) rfl ?_
  intro h_16 W_17
  have f_18 := f_14.same W_17
  refine g_aload_n C d11_51 (v := (.ref a1)) rfl rfl (pc' := 52) rfl ?_
  refine g_aload C d11_52 (v := (.ref b_4)) rfl rfl (pc' := 54) rfl ?_
  have f_19 := ((F0.keep K_6 nin0).other W_17 (Or.inr (slot_ne (Or.inr (own_w hw 28 rfl)) (Or.inr (own_w hw 30 rfl)) (by decide) (t := (.array .byte)) (t' := .byte) (by decide) (by decide))))
  have f_20 := (f_15.wr W_17)
  refine g_putfield C (host := "") (v := (.ref b_4)) (Or.inl (own_w hw 27 rfl)) Via.refl f_19 f_20 (Or.inr ⟨(own_w hw 28 rfl), rfl, rfl⟩) (own_w hw 15 rfl) (ty := (.array .byte)) (by decide) rfl rfl g1 d11_54 (pc' := 57) rfl ?_
  intro h_21 W_22
  have f_23 := f_19.same W_22
  refine g_return C rfl d11_57 (by decide) (by decide) ?_
  have f_24 := (f_18.other W_22 (Or.inr (slot_ne (Or.inr (own_w hw 30 rfl)) (Or.inr (own_w hw 28 rfl)) (by decide) (t := .byte) (t' := (.array .byte)) (by decide) (by decide))))
  have f_25 := ((f_7.keep (Keep.of_wr W_17) (nin1 (Ne.symm ne_8))).keep (Keep.of_wr W_22) (nin1 (Ne.symm ne_8)))
  exact ⟨rfl, ((((Keep.refl h0 [a1]).trans K_6 all0).wr W_17 (Or.inl (List.mem_of_getElem? (i := 0) rfl))).wr W_22 (Or.inl (List.mem_of_getElem? (i := 0) rfl))), b_4, gs_b_4, f_23, f_24, f_25⟩
set_option maxRecDepth 65536 in
set_option maxHeartbeats 40000000 in
theorem rm_init1_3 (l : Launch) (Z : State) (a0 : Array Value) (hw : ∀ d ∈ tables_1, d.before a0 Z = true) (n0 : Nat) (a1 a2 : Addr) (c0 c1 c2 : Int32) (h0 : Heap) (Z0 : n0 ≤ h0.size) (cm : Cmp Z) (O : Old Z n0 h0) (E0 : Exa Z h0 a1 "java/lang/String") (F0 : Fld Z h0 a1 "java/lang/String" "value" "[B" .null) (F1 : Fld Z h0 a1 "java/lang/String" "coder" "B" (.int (0 : Int32))) (g1 : n0 ≤ a1) (A2 : Ary Z h0 a2 .char [.int c0, .int c1, .int c2]) (n12 : a1 ≠ a2) (k0 : Ch c0) (k1 : Ch c1) (k2 : Ch c2) :
    Met1 l Z (⟨"java/lang/String", "<init>", "([C)V"⟩ : MethodName) jdk_42_method_3_code 2 none ({ frames := 3, cells := 1, slots := 3, locals := 52 } : Room) n0 #[(.ref a1), (.ref a2)] h0 (fun v h => v = none ∧ Keep h0 h [a1] ∧ ∃ b : Addr, h0.size ≤ b ∧ Fld Z h a1 "java/lang/String" "value" "[B" (.ref b) ∧ Fld Z h a1 "java/lang/String" "coder" "B" (.int (0 : Int32)) ∧ Ary Z h b .byte [.int (Int8.toInt32 (Int32.toInt8 c0)), .int (Int8.toInt32 (Int32.toInt8 c1)), .int (Int8.toInt32 (Int32.toInt8 c2))]) := by
  refine met_of (plainFor_of_name own_pn_java_lang_String) (L0 := #[.val (.ref a1), .val (.ref a2)]) (by first | (simp [argsToLocals, Value.category]; done) | rfl) ?_
  intro B C
  change Ctx B l _ _ "java/lang/String" "<init>" _ _ Z at C
  have cm' := cm
  obtain ⟨cz, Scz, hcz⟩ := cm'
  refine g_aload_n C d10_0 (v := (.ref a1)) rfl rfl (pc' := 1) rfl ?_
  refine g_aload_n C d10_1 (v := (.ref a2)) rfl rfl (pc' := 2) rfl ?_
  refine g_iconst C d10_2 (v := (0 : Int32)) rfl (pc' := 3) rfl ?_
  refine g_aload_n C d10_3 (v := (.ref a2)) rfl rfl (pc' := 4) rfl ?_
  refine g_arraylength C A2 (z := (3 : Int32)) rfl d10_4 (pc' := 5) rfl ?_
  refine g_aconst_null C d10_5 (pc' := 6) rfl ?_
  refine g_special C (a := a1) rfl (own_w hw 50 rfl) (own_w hw 51 rfl) (own_w hw 7 rfl) (own_w hw 52 rfl) (by decide) (rm_init4_3 l Z a0 hw n0 a1 a2 c0 c1 c2 h0 Z0 cm O E0 F0 F1 g1 A2 n12 k0 k1 k2) (st := []) [(.ref a2), (.int (0 : Int32)), (.int (3 : Int32)), .null] rfl rfl own_pd_13_init rfl rfl (by decide) (W := 0) (Nat.le_of_eq rfl) (by decide) (by decide) (by decide) d10_6 (pc' := 9) rfl ?_
  intro v_3 h_1 q_2
  obtain ⟨rfl, K_4, b_5, le_6, f_7, f_8, f_9⟩ := q_2
  have ne_10 : a1 ≠ b_5 := ne_ge E0.lt le_6
  have ne_11 : a2 ≠ b_5 := ne_ge A2.lt le_6
  have ge_b_5 : n0 ≤ b_5 := Nat.le_trans Z0 le_6
  have gs_b_5 : h0.size ≤ b_5 := Nat.le_trans (Nat.le_refl h0.size) le_6
  show Go B n0 _ h_1 1 3 9 #[.val (.ref a1), .val (.ref a2)] []
  refine g_return C rfl d10_9 (by decide) (by decide) ?_
  exact ⟨rfl, ((Keep.refl h0 [a1]).trans K_4 (allS (Or.inl (List.mem_of_getElem? (i := 0) rfl)) all0)), b_5, gs_b_5, f_7, f_8, f_9⟩
set_option maxRecDepth 65536 in
set_option maxHeartbeats 40000000 in
theorem rm_comp1_4 (l : Launch) (Z : State) (a0 : Array Value) (hw : ∀ d ∈ tables_1, d.before a0 Z = true) (n0 : Nat) (a1 a2 : Addr) (c0 c1 c2 c3 : Int32) (h0 : Heap) (Z0 : n0 ≤ h0.size) (A1 : Ary Z h0 a1 .char [.int c0, .int c1, .int c2, .int c3]) (A2 : Ary Z h0 a2 .byte [.int (0 : Int32), .int (0 : Int32), .int (0 : Int32), .int (0 : Int32)]) (g2 : n0 ≤ a2) (n12 : a1 ≠ a2) (k0 : Ch c0) (k1 : Ch c1) (k2 : Ch c2) (k3 : Ch c3) :
    Met1 l Z (⟨"java/lang/StringUTF16", "compress", "([CI[BII)I"⟩ : MethodName) jdk_52_method_21_code 7 (some .int) ({ frames := 0, cells := 0, slots := 0, locals := 0 } : Room) n0 #[(.ref a1), (.int (0 : Int32)), (.ref a2), (.int (0 : Int32)), (.int (4 : Int32))] h0 (fun v h => v = some (.int (4 : Int32)) ∧ Keep h0 h [a2] ∧ Ary Z h a2 .byte [.int (Int8.toInt32 (Int32.toInt8 c0)), .int (Int8.toInt32 (Int32.toInt8 c1)), .int (Int8.toInt32 (Int32.toInt8 c2)), .int (Int8.toInt32 (Int32.toInt8 c3))]) := by
  refine met_of (plainFor_of_name own_pn_java_lang_StringUTF16) (L0 := #[.val (.ref a1), .val (.int (0 : Int32)), .val (.ref a2), .val (.int (0 : Int32)), .val (.int (4 : Int32)), .unset, .unset]) (by first | (simp [argsToLocals, Value.category]; done) | rfl) ?_
  intro B C
  change Ctx B l _ _ "java/lang/StringUTF16" "compress" _ _ Z at C
  refine g_iconst C d13_0 (v := (0 : Int32)) rfl (pc' := 1) rfl ?_
  refine g_istore C d13_1 (v := (0 : Int32)) (L' := #[.val (.ref a1), .val (.int (0 : Int32)), .val (.ref a2), .val (.int (0 : Int32)), .val (.int (4 : Int32)), .val (.int (0 : Int32)), .unset]) rfl (pc' := 3) rfl ?_
  refine g_iload C d13_3 (v := (0 : Int32)) rfl (pc' := 5) rfl ?_
  refine g_iload C d13_5 (v := (4 : Int32)) rfl (pc' := 7) rfl ?_
  refine g_icmp_n C d13_7 (Jvm.Free.XT.ii_ge_f (by decide)) (pc' := 10) rfl ?_
  refine g_aload_n C d13_10 (v := (.ref a1)) rfl rfl (pc' := 11) rfl ?_
  refine g_iload_n C d13_11 (v := (0 : Int32)) rfl (pc' := 12) rfl ?_
  refine g_caload C A1 (by decide) (i := 0) (by decide) (v := c0) rfl d13_12 (pc' := 13) rfl ?_
  refine g_istore C d13_13 (v := c0) (L' := #[.val (.ref a1), .val (.int (0 : Int32)), .val (.ref a2), .val (.int (0 : Int32)), .val (.int (4 : Int32)), .val (.int (0 : Int32)), .val (.int c0)]) rfl (pc' := 15) rfl ?_
  refine g_iload C d13_15 (v := c0) rfl (pc' := 17) rfl ?_
  refine g_sipush C d13_17 (v := (255 : Int32)) rfl (pc' := 20) rfl ?_
  refine g_icmp_y C d13_20 (Jvm.Free.XT.ii_le_t k0.2.1) (pc' := 26) (by decide) (by decide) ?_
  refine g_aload_n C d13_26 (v := (.ref a2)) rfl rfl (pc' := 27) rfl ?_
  refine g_iload_n C d13_27 (v := (0 : Int32)) rfl (pc' := 28) rfl ?_
  refine g_iload C d13_28 (v := c0) rfl (pc' := 30) rfl ?_
  refine g_i2b C (x := c0) d13_30 (pc' := 31) rfl ?_
  refine g_bastoreB C A2 (by decide) (i := 0) (by decide) (show 0 < 4 by decide) (w := (.int (Int8.toInt32 (Int32.toInt8 c0)))) (congrArg Value.int (own_narb _)) g2 d13_31 (pc' := 32) rfl ?_
  intro h_1 K_2 A_3
  have f_4 : Ary Z h_1 a2 .byte [(.int (Int8.toInt32 (Int32.toInt8 c0))), (.int (0 : Int32)), (.int (0 : Int32)), (.int (0 : Int32))] := A_3
  refine g_iinc C d13_32 (v := (0 : Int32)) (w := (1 : Int32)) rfl rfl (L' := #[.val (.ref a1), .val (.int (1 : Int32)), .val (.ref a2), .val (.int (0 : Int32)), .val (.int (4 : Int32)), .val (.int (0 : Int32)), .val (.int c0)]) rfl (pc' := 35) rfl ?_
  refine g_iinc C d13_35 (v := (0 : Int32)) (w := (1 : Int32)) rfl rfl (L' := #[.val (.ref a1), .val (.int (1 : Int32)), .val (.ref a2), .val (.int (1 : Int32)), .val (.int (4 : Int32)), .val (.int (0 : Int32)), .val (.int c0)]) rfl (pc' := 38) rfl ?_
  refine g_iinc C d13_38 (v := (0 : Int32)) (w := (1 : Int32)) rfl rfl (L' := #[.val (.ref a1), .val (.int (1 : Int32)), .val (.ref a2), .val (.int (1 : Int32)), .val (.int (4 : Int32)), .val (.int (1 : Int32)), .val (.int c0)]) rfl (pc' := 41) rfl ?_
  refine g_goto C d13_41 (pc' := 3) (by decide) (by decide) ?_
  refine g_iload C d13_3 (v := (1 : Int32)) rfl (pc' := 5) rfl ?_
  refine g_iload C d13_5 (v := (4 : Int32)) rfl (pc' := 7) rfl ?_
  refine g_icmp_n C d13_7 (Jvm.Free.XT.ii_ge_f (by decide)) (pc' := 10) rfl ?_
  refine g_aload_n C d13_10 (v := (.ref a1)) rfl rfl (pc' := 11) rfl ?_
  refine g_iload_n C d13_11 (v := (1 : Int32)) rfl (pc' := 12) rfl ?_
  have f_5 := (A1.keep K_2 (ninS n12 nin0))
  refine g_caload C f_5 (by decide) (i := 1) (by decide) (v := c1) rfl d13_12 (pc' := 13) rfl ?_
  refine g_istore C d13_13 (v := c1) (L' := #[.val (.ref a1), .val (.int (1 : Int32)), .val (.ref a2), .val (.int (1 : Int32)), .val (.int (4 : Int32)), .val (.int (1 : Int32)), .val (.int c1)]) rfl (pc' := 15) rfl ?_
  refine g_iload C d13_15 (v := c1) rfl (pc' := 17) rfl ?_
  refine g_sipush C d13_17 (v := (255 : Int32)) rfl (pc' := 20) rfl ?_
  refine g_icmp_y C d13_20 (Jvm.Free.XT.ii_le_t k1.2.1) (pc' := 26) (by decide) (by decide) ?_
  refine g_aload_n C d13_26 (v := (.ref a2)) rfl rfl (pc' := 27) rfl ?_
  refine g_iload_n C d13_27 (v := (1 : Int32)) rfl (pc' := 28) rfl ?_
  refine g_iload C d13_28 (v := c1) rfl (pc' := 30) rfl ?_
  refine g_i2b C (x := c1) d13_30 (pc' := 31) rfl ?_
  refine g_bastoreB C f_4 (by decide) (i := 1) (by decide) (show 1 < 4 by decide) (w := (.int (Int8.toInt32 (Int32.toInt8 c1)))) (congrArg Value.int (own_narb _)) g2 d13_31 (pc' := 32) rfl ?_
  intro h_6 K_7 A_8
  have f_9 : Ary Z h_6 a2 .byte [(.int (Int8.toInt32 (Int32.toInt8 c0))), (.int (Int8.toInt32 (Int32.toInt8 c1))), (.int (0 : Int32)), (.int (0 : Int32))] := A_8
  refine g_iinc C d13_32 (v := (1 : Int32)) (w := (2 : Int32)) rfl rfl (L' := #[.val (.ref a1), .val (.int (2 : Int32)), .val (.ref a2), .val (.int (1 : Int32)), .val (.int (4 : Int32)), .val (.int (1 : Int32)), .val (.int c1)]) rfl (pc' := 35) rfl ?_
  refine g_iinc C d13_35 (v := (1 : Int32)) (w := (2 : Int32)) rfl rfl (L' := #[.val (.ref a1), .val (.int (2 : Int32)), .val (.ref a2), .val (.int (2 : Int32)), .val (.int (4 : Int32)), .val (.int (1 : Int32)), .val (.int c1)]) rfl (pc' := 38) rfl ?_
  refine g_iinc C d13_38 (v := (1 : Int32)) (w := (2 : Int32)) rfl rfl (L' := #[.val (.ref a1), .val (.int (2 : Int32)), .val (.ref a2), .val (.int (2 : Int32)), .val (.int (4 : Int32)), .val (.int (2 : Int32)), .val (.int c1)]) rfl (pc' := 41) rfl ?_
  refine g_goto C d13_41 (pc' := 3) (by decide) (by decide) ?_
  refine g_iload C d13_3 (v := (2 : Int32)) rfl (pc' := 5) rfl ?_
  refine g_iload C d13_5 (v := (4 : Int32)) rfl (pc' := 7) rfl ?_
  refine g_icmp_n C d13_7 (Jvm.Free.XT.ii_ge_f (by decide)) (pc' := 10) rfl ?_
  refine g_aload_n C d13_10 (v := (.ref a1)) rfl rfl (pc' := 11) rfl ?_
  refine g_iload_n C d13_11 (v := (2 : Int32)) rfl (pc' := 12) rfl ?_
  have f_10 := (f_5.keep K_7 (ninS n12 nin0))
  refine g_caload C f_10 (by decide) (i := 2) (by decide) (v := c2) rfl d13_12 (pc' := 13) rfl ?_
  refine g_istore C d13_13 (v := c2) (L' := #[.val (.ref a1), .val (.int (2 : Int32)), .val (.ref a2), .val (.int (2 : Int32)), .val (.int (4 : Int32)), .val (.int (2 : Int32)), .val (.int c2)]) rfl (pc' := 15) rfl ?_
  refine g_iload C d13_15 (v := c2) rfl (pc' := 17) rfl ?_
  refine g_sipush C d13_17 (v := (255 : Int32)) rfl (pc' := 20) rfl ?_
  refine g_icmp_y C d13_20 (Jvm.Free.XT.ii_le_t k2.2.1) (pc' := 26) (by decide) (by decide) ?_
  refine g_aload_n C d13_26 (v := (.ref a2)) rfl rfl (pc' := 27) rfl ?_
  refine g_iload_n C d13_27 (v := (2 : Int32)) rfl (pc' := 28) rfl ?_
  refine g_iload C d13_28 (v := c2) rfl (pc' := 30) rfl ?_
  refine g_i2b C (x := c2) d13_30 (pc' := 31) rfl ?_
  refine g_bastoreB C f_9 (by decide) (i := 2) (by decide) (show 2 < 4 by decide) (w := (.int (Int8.toInt32 (Int32.toInt8 c2)))) (congrArg Value.int (own_narb _)) g2 d13_31 (pc' := 32) rfl ?_
  intro h_11 K_12 A_13
  have f_14 : Ary Z h_11 a2 .byte [(.int (Int8.toInt32 (Int32.toInt8 c0))), (.int (Int8.toInt32 (Int32.toInt8 c1))), (.int (Int8.toInt32 (Int32.toInt8 c2))), (.int (0 : Int32))] := A_13
  refine g_iinc C d13_32 (v := (2 : Int32)) (w := (3 : Int32)) rfl rfl (L' := #[.val (.ref a1), .val (.int (3 : Int32)), .val (.ref a2), .val (.int (2 : Int32)), .val (.int (4 : Int32)), .val (.int (2 : Int32)), .val (.int c2)]) rfl (pc' := 35) rfl ?_
  refine g_iinc C d13_35 (v := (2 : Int32)) (w := (3 : Int32)) rfl rfl (L' := #[.val (.ref a1), .val (.int (3 : Int32)), .val (.ref a2), .val (.int (3 : Int32)), .val (.int (4 : Int32)), .val (.int (2 : Int32)), .val (.int c2)]) rfl (pc' := 38) rfl ?_
  refine g_iinc C d13_38 (v := (2 : Int32)) (w := (3 : Int32)) rfl rfl (L' := #[.val (.ref a1), .val (.int (3 : Int32)), .val (.ref a2), .val (.int (3 : Int32)), .val (.int (4 : Int32)), .val (.int (3 : Int32)), .val (.int c2)]) rfl (pc' := 41) rfl ?_
  refine g_goto C d13_41 (pc' := 3) (by decide) (by decide) ?_
  refine g_iload C d13_3 (v := (3 : Int32)) rfl (pc' := 5) rfl ?_
  refine g_iload C d13_5 (v := (4 : Int32)) rfl (pc' := 7) rfl ?_
  refine g_icmp_n C d13_7 (Jvm.Free.XT.ii_ge_f (by decide)) (pc' := 10) rfl ?_
  refine g_aload_n C d13_10 (v := (.ref a1)) rfl rfl (pc' := 11) rfl ?_
  refine g_iload_n C d13_11 (v := (3 : Int32)) rfl (pc' := 12) rfl ?_
  have f_15 := (f_10.keep K_12 (ninS n12 nin0))
  refine g_caload C f_15 (by decide) (i := 3) (by decide) (v := c3) rfl d13_12 (pc' := 13) rfl ?_
  refine g_istore C d13_13 (v := c3) (L' := #[.val (.ref a1), .val (.int (3 : Int32)), .val (.ref a2), .val (.int (3 : Int32)), .val (.int (4 : Int32)), .val (.int (3 : Int32)), .val (.int c3)]) rfl (pc' := 15) rfl ?_
  refine g_iload C d13_15 (v := c3) rfl (pc' := 17) rfl ?_
  refine g_sipush C d13_17 (v := (255 : Int32)) rfl (pc' := 20) rfl ?_
  refine g_icmp_y C d13_20 (Jvm.Free.XT.ii_le_t k3.2.1) (pc' := 26) (by decide) (by decide) ?_
  refine g_aload_n C d13_26 (v := (.ref a2)) rfl rfl (pc' := 27) rfl ?_
  refine g_iload_n C d13_27 (v := (3 : Int32)) rfl (pc' := 28) rfl ?_
  refine g_iload C d13_28 (v := c3) rfl (pc' := 30) rfl ?_
  refine g_i2b C (x := c3) d13_30 (pc' := 31) rfl ?_
  refine g_bastoreB C f_14 (by decide) (i := 3) (by decide) (show 3 < 4 by decide) (w := (.int (Int8.toInt32 (Int32.toInt8 c3)))) (congrArg Value.int (own_narb _)) g2 d13_31 (pc' := 32) rfl ?_
  intro h_16 K_17 A_18
  have f_19 : Ary Z h_16 a2 .byte [(.int (Int8.toInt32 (Int32.toInt8 c0))), (.int (Int8.toInt32 (Int32.toInt8 c1))), (.int (Int8.toInt32 (Int32.toInt8 c2))), (.int (Int8.toInt32 (Int32.toInt8 c3)))] := A_18
  refine g_iinc C d13_32 (v := (3 : Int32)) (w := (4 : Int32)) rfl rfl (L' := #[.val (.ref a1), .val (.int (4 : Int32)), .val (.ref a2), .val (.int (3 : Int32)), .val (.int (4 : Int32)), .val (.int (3 : Int32)), .val (.int c3)]) rfl (pc' := 35) rfl ?_
  refine g_iinc C d13_35 (v := (3 : Int32)) (w := (4 : Int32)) rfl rfl (L' := #[.val (.ref a1), .val (.int (4 : Int32)), .val (.ref a2), .val (.int (4 : Int32)), .val (.int (4 : Int32)), .val (.int (3 : Int32)), .val (.int c3)]) rfl (pc' := 38) rfl ?_
  refine g_iinc C d13_38 (v := (3 : Int32)) (w := (4 : Int32)) rfl rfl (L' := #[.val (.ref a1), .val (.int (4 : Int32)), .val (.ref a2), .val (.int (4 : Int32)), .val (.int (4 : Int32)), .val (.int (4 : Int32)), .val (.int c3)]) rfl (pc' := 41) rfl ?_
  refine g_goto C d13_41 (pc' := 3) (by decide) (by decide) ?_
  refine g_iload C d13_3 (v := (4 : Int32)) rfl (pc' := 5) rfl ?_
  refine g_iload C d13_5 (v := (4 : Int32)) rfl (pc' := 7) rfl ?_
  refine g_icmp_y C d13_7 (Jvm.Free.XT.ii_ge_t (by decide)) (pc' := 44) (by decide) (by decide) ?_
  refine g_iload C d13_44 (v := (4 : Int32)) rfl (pc' := 46) rfl ?_
  refine g_ret C (v := (.int (4 : Int32))) (ty := .int) rfl rfl (Or.inl ⟨rfl, Or.inl rfl, _, rfl⟩) d13_46 (by decide) (by decide) ?_
  exact ⟨rfl, (((((Keep.refl h0 [a2]).trans K_2 (allS (Or.inl (List.mem_of_getElem? (i := 0) rfl)) all0)).trans K_7 (allS (Or.inl (List.mem_of_getElem? (i := 0) rfl)) all0)).trans K_12 (allS (Or.inl (List.mem_of_getElem? (i := 0) rfl)) all0)).trans K_17 (allS (Or.inl (List.mem_of_getElem? (i := 0) rfl)) all0)), f_19⟩
set_option maxRecDepth 65536 in
set_option maxHeartbeats 40000000 in
theorem rm_comp2_4 (l : Launch) (Z : State) (a0 : Array Value) (hw : ∀ d ∈ tables_1, d.before a0 Z = true) (n0 : Nat) (a1 : Addr) (c0 c1 c2 c3 : Int32) (h0 : Heap) (Z0 : n0 ≤ h0.size) (A1 : Ary Z h0 a1 .char [.int c0, .int c1, .int c2, .int c3]) (k0 : Ch c0) (k1 : Ch c1) (k2 : Ch c2) (k3 : Ch c3) :
    Met1 l Z (⟨"java/lang/StringUTF16", "compress", "([CII)[B"⟩ : MethodName) jdk_52_method_16_code 6 (some (.array .byte)) ({ frames := 1, cells := 1, slots := 4, locals := 18 } : Room) n0 #[(.ref a1), (.int (0 : Int32)), (.int (4 : Int32))] h0 (fun v h => ∃ b : Addr, v = some (.ref b) ∧ h0.size ≤ b ∧ Keep h0 h [] ∧ Ary Z h b .byte [.int (Int8.toInt32 (Int32.toInt8 c0)), .int (Int8.toInt32 (Int32.toInt8 c1)), .int (Int8.toInt32 (Int32.toInt8 c2)), .int (Int8.toInt32 (Int32.toInt8 c3))]) := by
  refine met_of (plainFor_of_name own_pn_java_lang_StringUTF16) (L0 := #[.val (.ref a1), .val (.int (0 : Int32)), .val (.int (4 : Int32)), .unset, .unset, .unset]) (by first | (simp [argsToLocals, Value.category]; done) | rfl) ?_
  intro B C
  change Ctx B l _ _ "java/lang/StringUTF16" "compress" _ _ Z at C
  refine g_iload_n C d12_0 (v := (4 : Int32)) rfl (pc' := 1) rfl ?_
  refine g_newarray C (own_w hw 19 rfl) (ty := .byte) rfl (by decide) (cap := 4) (by decide) (by decide) (by decide) (by decide) d12_1 (pc' := 3) rfl ?_
  intro h_1 a_2 g_3 E_4 A_5
  have ne_6 : a1 ≠ a_2 := ne_new A1.lt g_3
  have ge_a_2 : n0 ≤ a_2 := Nat.le_trans Z0 (Nat.le_of_eq g_3.symm)
  have gs_a_2 : h0.size ≤ a_2 := Nat.le_trans (Nat.le_refl h0.size) (Nat.le_of_eq g_3.symm)
  have f_7 : Ary Z h_1 a_2 .byte [(.int (0 : Int32)), (.int (0 : Int32)), (.int (0 : Int32)), (.int (0 : Int32))] := A_5
  show Go B n0 _ h_1 1 4 3 #[.val (.ref a1), .val (.int (0 : Int32)), .val (.int (4 : Int32)), .unset, .unset, .unset] [(.ref a_2)]
  refine g_astore_n C d12_3 (v := (.ref a_2)) (L' := #[.val (.ref a1), .val (.int (0 : Int32)), .val (.int (4 : Int32)), .val (.ref a_2), .unset, .unset]) rfl rfl (pc' := 4) rfl ?_
  refine g_aload_n C d12_4 (v := (.ref a1)) rfl rfl (pc' := 5) rfl ?_
  refine g_iload_n C d12_5 (v := (0 : Int32)) rfl (pc' := 6) rfl ?_
  refine g_aload_n C d12_6 (v := (.ref a_2)) rfl rfl (pc' := 7) rfl ?_
  refine g_iconst C d12_7 (v := (0 : Int32)) rfl (pc' := 8) rfl ?_
  refine g_iload_n C d12_8 (v := (4 : Int32)) rfl (pc' := 9) rfl ?_
  have f_8 := (A1.ext E_4)
  have f_9 := (Nat.le_trans Z0 E_4.1)
  refine g_static C (own_w hw 57 rfl) (own_w hw 58 rfl) (own_w hw 55 rfl) (own_w hw 59 rfl) (by decide) (rm_comp1_4 l Z a0 hw n0 a1 a_2 c0 c1 c2 c3 h_1 f_9 f_8 f_7 ge_a_2 ne_6 k0 k1 k2 k3) (st := []) [(.ref a1), (.int (0 : Int32)), (.ref a_2), (.int (0 : Int32)), (.int (4 : Int32))] rfl rfl own_pd_14_compress rfl rfl (by decide) (W := 0) (Nat.le_of_eq rfl) (by decide) (by decide) (by decide) d12_9 (pc' := 12) rfl ?_
  intro v_12 h_10 q_11
  obtain ⟨rfl, K_13, f_14⟩ := q_11
  show Go B n0 _ h_10 1 4 12 #[.val (.ref a1), .val (.int (0 : Int32)), .val (.int (4 : Int32)), .val (.ref a_2), .unset, .unset] [(.int (4 : Int32))]
  refine g_istore C d12_12 (v := (4 : Int32)) (L' := #[.val (.ref a1), .val (.int (0 : Int32)), .val (.int (4 : Int32)), .val (.ref a_2), .val (.int (4 : Int32)), .unset]) rfl (pc' := 14) rfl ?_
  refine g_iload C d12_14 (v := (4 : Int32)) rfl (pc' := 16) rfl ?_
  refine g_iload_n C d12_16 (v := (4 : Int32)) rfl (pc' := 17) rfl ?_
  refine g_icmp_y C d12_17 (Jvm.Free.XT.ii_eq_t (by decide)) (pc' := 57) (by decide) (by decide) ?_
  refine g_aload_n C d12_57 (v := (.ref a_2)) rfl rfl (pc' := 58) rfl ?_
  refine g_ret C (v := (.ref a_2)) (ty := (.array .byte)) rfl rfl (Or.inr (Or.inr (Or.inr (Or.inr ⟨rfl, rfl, rfl⟩)))) d12_58 (by decide) (by decide) ?_
  exact ⟨a_2, rfl, gs_a_2, (((Keep.refl h0 []).ext E_4).trans K_13 (allS (Or.inr gs_a_2) all0)), f_14⟩
set_option maxRecDepth 65536 in
set_option maxHeartbeats 40000000 in
theorem rm_coderF_4 (l : Launch) (Z : State) (a0 : Array Value) (hw : ∀ d ∈ tables_1, d.before a0 Z = true) (n0 : Nat) (a1 : Addr) (x0 x1 x2 x3 : Int32) (h0 : Heap) (Z0 : n0 ≤ h0.size) (A1 : Ary Z h0 a1 .byte [.int x0, .int x1, .int x2, .int x3]) :
    Met1 l Z (⟨"java/lang/StringUTF16", "coderFromArrayLen", "([BI)B"⟩ : MethodName) jdk_52_method_15_code 2 (some .byte) ({ frames := 0, cells := 0, slots := 0, locals := 0 } : Room) n0 #[(.ref a1), (.int (4 : Int32))] h0 (fun v h => v = some (.int (0 : Int32)) ∧ h0 = h) := by
  refine met_of (plainFor_of_name own_pn_java_lang_StringUTF16) (L0 := #[.val (.ref a1), .val (.int (4 : Int32))]) (by first | (simp [argsToLocals, Value.category]; done) | rfl) ?_
  intro B C
  change Ctx B l _ _ "java/lang/StringUTF16" "coderFromArrayLen" _ _ Z at C
  refine g_iload_n C d14_0 (v := (4 : Int32)) rfl (pc' := 1) rfl ?_
  refine g_aload_n C d14_1 (v := (.ref a1)) rfl rfl (pc' := 2) rfl ?_
  refine g_arraylength C A1 (z := (4 : Int32)) rfl d14_2 (pc' := 3) rfl ?_
  refine g_isub C (x := (4 : Int32)) (y := (4 : Int32)) d14_3  (pc' := 4) rfl ?_
  refine Go.eqs (st2 := [(.int (0 : Int32))]) ?_ (by rfl)
  refine g_bipush C d14_4 (v := (31 : Int32)) rfl (pc' := 6) rfl ?_
  refine g_iushr C (x := (0 : Int32)) (y := (31 : Int32)) d14_6  (pc' := 7) rfl ?_
  refine Go.eqs (st2 := [(.int (0 : Int32))]) ?_ (by rfl)
  refine g_i2b C (x := (0 : Int32)) d14_7 (pc' := 8) rfl ?_
  refine Go.eqs (st2 := [(.int (0 : Int32))]) ?_ (by rfl)
  refine g_ret C (v := (.int (0 : Int32))) (ty := .byte) rfl rfl (Or.inl ⟨rfl, Or.inr (Or.inr (Or.inl rfl)), _, rfl⟩) d14_8 (by decide) (by decide) ?_
  exact ⟨rfl, rfl⟩
set_option maxRecDepth 65536 in
set_option maxHeartbeats 40000000 in
theorem rm_init4_4 (l : Launch) (Z : State) (a0 : Array Value) (hw : ∀ d ∈ tables_1, d.before a0 Z = true) (n0 : Nat) (a1 a2 : Addr) (c0 c1 c2 c3 : Int32) (h0 : Heap) (Z0 : n0 ≤ h0.size) (cm : Cmp Z) (O : Old Z n0 h0) (E0 : Exa Z h0 a1 "java/lang/String") (F0 : Fld Z h0 a1 "java/lang/String" "value" "[B" .null) (F1 : Fld Z h0 a1 "java/lang/String" "coder" "B" (.int (0 : Int32))) (g1 : n0 ≤ a1) (A2 : Ary Z h0 a2 .char [.int c0, .int c1, .int c2, .int c3]) (n12 : a1 ≠ a2) (k0 : Ch c0) (k1 : Ch c1) (k2 : Ch c2) (k3 : Ch c3) :
    Met1 l Z (⟨"java/lang/String", "<init>", "([CIILjava/lang/Void;)V"⟩ : MethodName) jdk_42_method_149_code 6 none ({ frames := 2, cells := 1, slots := 4, locals := 35 } : Room) n0 #[(.ref a1), (.ref a2), (.int (0 : Int32)), (.int (4 : Int32)), .null] h0 (fun v h => v = none ∧ Keep h0 h [a1] ∧ ∃ b : Addr, h0.size ≤ b ∧ Fld Z h a1 "java/lang/String" "value" "[B" (.ref b) ∧ Fld Z h a1 "java/lang/String" "coder" "B" (.int (0 : Int32)) ∧ Ary Z h b .byte [.int (Int8.toInt32 (Int32.toInt8 c0)), .int (Int8.toInt32 (Int32.toInt8 c1)), .int (Int8.toInt32 (Int32.toInt8 c2)), .int (Int8.toInt32 (Int32.toInt8 c3))]) := by
  refine met_of (plainFor_of_name own_pn_java_lang_String) (L0 := #[.val (.ref a1), .val (.ref a2), .val (.int (0 : Int32)), .val (.int (4 : Int32)), .val .null, .unset]) (by first | (simp [argsToLocals, Value.category]; done) | rfl) ?_
  intro B C
  change Ctx B l _ _ "java/lang/String" "<init>" _ _ Z at C
  have cm' := cm
  obtain ⟨cz, Scz, hcz⟩ := cm'
  refine g_aload_n C d11_0 (v := (.ref a1)) rfl rfl (pc' := 1) rfl ?_
  refine g_initObj C (own_w hw 24 rfl) (own_w hw 25 rfl) (own_w hw 26 rfl) rfl (by decide) (W := 0) (Nat.le_of_eq rfl) (by decide) d11_1 (pc' := 4) rfl ?_
  refine g_iload_n C d11_4 (v := (4 : Int32)) rfl (pc' := 5) rfl ?_
  refine g_if_y C d11_5 (Jvm.Free.XT.i0_ne_t (by decide)) (pc' := 27) (by decide) (by decide) ?_
  refine g_getstatic C (host := "") (v := (.int cz)) (Or.inl (own_w hw 9 rfl)) Via.refl (Scz.ext O.2) d11_27 (pc' := 30) rfl ?_
  refine g_if_n C d11_30 (Jvm.Free.XT.i0_eq_f hcz) (pc' := 33) rfl ?_
  refine g_aload_n C d11_33 (v := (.ref a2)) rfl rfl (pc' := 34) rfl ?_
  refine g_iload_n C d11_34 (v := (0 : Int32)) rfl (pc' := 35) rfl ?_
  refine g_iload_n C d11_35 (v := (4 : Int32)) rfl (pc' := 36) rfl ?_
  refine g_static C (own_w hw 53 rfl) (own_w hw 54 rfl) (own_w hw 55 rfl) (own_w hw 56 rfl) (by decide) (rm_comp2_4 l Z a0 hw n0 a2 c0 c1 c2 c3 h0 Z0 A2 k0 k1 k2 k3) (st := []) [(.ref a2), (.int (0 : Int32)), (.int (4 : Int32))] rfl rfl own_pd_12_compress rfl rfl (by decide) (W := 0) (Nat.le_of_eq rfl) (by decide) (by decide) (by decide) d11_36 (pc' := 39) rfl ?_
  intro v_3 h_1 q_2
  obtain ⟨b_4, rfl, le_5, K_6, f_7⟩ := q_2
  have ne_8 : a1 ≠ b_4 := ne_ge E0.lt le_5
  have ne_9 : a2 ≠ b_4 := ne_ge A2.lt le_5
  have ge_b_4 : n0 ≤ b_4 := Nat.le_trans Z0 le_5
  have gs_b_4 : h0.size ≤ b_4 := Nat.le_trans (Nat.le_refl h0.size) le_5
  show Go B n0 _ h_1 1 4 39 #[.val (.ref a1), .val (.ref a2), .val (.int (0 : Int32)), .val (.int (4 : Int32)), .val .null, .unset] [(.ref b_4)]
  refine g_astore C d11_39 (v := (.ref b_4)) (L' := #[.val (.ref a1), .val (.ref a2), .val (.int (0 : Int32)), .val (.int (4 : Int32)), .val .null, .val (.ref b_4)]) rfl rfl (pc' := 41) rfl ?_
  refine g_aload_n C d11_41 (v := (.ref a1)) rfl rfl (pc' := 42) rfl ?_
  refine g_aload C d11_42 (v := (.ref b_4)) rfl rfl (pc' := 44) rfl ?_
  refine g_iload_n C d11_44 (v := (4 : Int32)) rfl (pc' := 45) rfl ?_
  have f_10 := (Nat.le_trans Z0 K_6.1)
  refine g_static C (own_w hw 60 rfl) (own_w hw 61 rfl) (own_w hw 55 rfl) (own_w hw 62 rfl) (by decide) (rm_coderF_4 l Z a0 hw n0 b_4 (Int8.toInt32 (Int32.toInt8 c0)) (Int8.toInt32 (Int32.toInt8 c1)) (Int8.toInt32 (Int32.toInt8 c2)) (Int8.toInt32 (Int32.toInt8 c3)) h_1 f_10 f_7) (st := [(.ref a1)]) [(.ref b_4), (.int (4 : Int32))] rfl rfl own_pd_10_coderFromArrayLen rfl rfl (by decide) (W := 1) (Nat.le_of_eq rfl) (by decide) (by decide) (by decide) d11_45 (pc' := 48) rfl ?_
  intro v_13 h_11 q_12
  obtain ⟨rfl, rfl⟩ := q_12
  show Go B n0 _ h_1 1 4 48 #[.val (.ref a1), .val (.ref a2), .val (.int (0 : Int32)), .val (.int (4 : Int32)), .val .null, .val (.ref b_4)] [(.int (0 : Int32)), (.ref a1)]
  have f_14 := (F1.keep K_6 nin0)
  have f_15 := (E0.keep K_6)
  refine g_putfield C (host := "") (v := (.int (0 : Int32))) (Or.inl (own_w hw 29 rfl)) Via.refl f_14 f_15 (Or.inr ⟨(own_w hw 30 rfl), rfl, rfl⟩) (own_w hw 15 rfl) (ty := .byte) (by decide) rfl rfl g1 d11_48 (pc' := 51) rfl ?_
  intro h_16 W_17
  have f_18 := f_14.same W_17
  refine g_aload_n C d11_51 (v := (.ref a1)) rfl rfl (pc' := 52) rfl ?_
  refine g_aload C d11_52 (v := (.ref b_4)) rfl rfl (pc' := 54) rfl ?_
  have f_19 := ((F0.keep K_6 nin0).other W_17 (Or.inr (slot_ne (Or.inr (own_w hw 28 rfl)) (Or.inr (own_w hw 30 rfl)) (by decide) (t := (.array .byte)) (t' := .byte) (by decide) (by decide))))
  have f_20 := (f_15.wr W_17)
  refine g_putfield C (host := "") (v := (.ref b_4)) (Or.inl (own_w hw 27 rfl)) Via.refl f_19 f_20 (Or.inr ⟨(own_w hw 28 rfl), rfl, rfl⟩) (own_w hw 15 rfl) (ty := (.array .byte)) (by decide) rfl rfl g1 d11_54 (pc' := 57) rfl ?_
  intro h_21 W_22
  have f_23 := f_19.same W_22
  refine g_return C rfl d11_57 (by decide) (by decide) ?_
  have f_24 := (f_18.other W_22 (Or.inr (slot_ne (Or.inr (own_w hw 30 rfl)) (Or.inr (own_w hw 28 rfl)) (by decide) (t := .byte) (t' := (.array .byte)) (by decide) (by decide))))
  have f_25 := ((f_7.keep (Keep.of_wr W_17) (nin1 (Ne.symm ne_8))).keep (Keep.of_wr W_22) (nin1 (Ne.symm ne_8)))
  exact ⟨rfl, ((((Keep.refl h0 [a1]).trans K_6 all0).wr W_17 (Or.inl (List.mem_of_getElem? (i := 0) rfl))).wr W_22 (Or.inl (List.mem_of_getElem? (i := 0) rfl))), b_4, gs_b_4, f_23, f_24, f_25⟩
set_option maxRecDepth 65536 in
set_option maxHeartbeats 40000000 in
theorem rm_init1_4 (l : Launch) (Z : State) (a0 : Array Value) (hw : ∀ d ∈ tables_1, d.before a0 Z = true) (n0 : Nat) (a1 a2 : Addr) (c0 c1 c2 c3 : Int32) (h0 : Heap) (Z0 : n0 ≤ h0.size) (cm : Cmp Z) (O : Old Z n0 h0) (E0 : Exa Z h0 a1 "java/lang/String") (F0 : Fld Z h0 a1 "java/lang/String" "value" "[B" .null) (F1 : Fld Z h0 a1 "java/lang/String" "coder" "B" (.int (0 : Int32))) (g1 : n0 ≤ a1) (A2 : Ary Z h0 a2 .char [.int c0, .int c1, .int c2, .int c3]) (n12 : a1 ≠ a2) (k0 : Ch c0) (k1 : Ch c1) (k2 : Ch c2) (k3 : Ch c3) :
    Met1 l Z (⟨"java/lang/String", "<init>", "([C)V"⟩ : MethodName) jdk_42_method_3_code 2 none ({ frames := 3, cells := 1, slots := 4, locals := 52 } : Room) n0 #[(.ref a1), (.ref a2)] h0 (fun v h => v = none ∧ Keep h0 h [a1] ∧ ∃ b : Addr, h0.size ≤ b ∧ Fld Z h a1 "java/lang/String" "value" "[B" (.ref b) ∧ Fld Z h a1 "java/lang/String" "coder" "B" (.int (0 : Int32)) ∧ Ary Z h b .byte [.int (Int8.toInt32 (Int32.toInt8 c0)), .int (Int8.toInt32 (Int32.toInt8 c1)), .int (Int8.toInt32 (Int32.toInt8 c2)), .int (Int8.toInt32 (Int32.toInt8 c3))]) := by
  refine met_of (plainFor_of_name own_pn_java_lang_String) (L0 := #[.val (.ref a1), .val (.ref a2)]) (by first | (simp [argsToLocals, Value.category]; done) | rfl) ?_
  intro B C
  change Ctx B l _ _ "java/lang/String" "<init>" _ _ Z at C
  have cm' := cm
  obtain ⟨cz, Scz, hcz⟩ := cm'
  refine g_aload_n C d10_0 (v := (.ref a1)) rfl rfl (pc' := 1) rfl ?_
  refine g_aload_n C d10_1 (v := (.ref a2)) rfl rfl (pc' := 2) rfl ?_
  refine g_iconst C d10_2 (v := (0 : Int32)) rfl (pc' := 3) rfl ?_
  refine g_aload_n C d10_3 (v := (.ref a2)) rfl rfl (pc' := 4) rfl ?_
  refine g_arraylength C A2 (z := (4 : Int32)) rfl d10_4 (pc' := 5) rfl ?_
  refine g_aconst_null C d10_5 (pc' := 6) rfl ?_
  refine g_special C (a := a1) rfl (own_w hw 50 rfl) (own_w hw 51 rfl) (own_w hw 7 rfl) (own_w hw 52 rfl) (by decide) (rm_init4_4 l Z a0 hw n0 a1 a2 c0 c1 c2 c3 h0 Z0 cm O E0 F0 F1 g1 A2 n12 k0 k1 k2 k3) (st := []) [(.ref a2), (.int (0 : Int32)), (.int (4 : Int32)), .null] rfl rfl own_pd_13_init rfl rfl (by decide) (W := 0) (Nat.le_of_eq rfl) (by decide) (by decide) (by decide) d10_6 (pc' := 9) rfl ?_
  intro v_3 h_1 q_2
  obtain ⟨rfl, K_4, b_5, le_6, f_7, f_8, f_9⟩ := q_2
  have ne_10 : a1 ≠ b_5 := ne_ge E0.lt le_6
  have ne_11 : a2 ≠ b_5 := ne_ge A2.lt le_6
  have ge_b_5 : n0 ≤ b_5 := Nat.le_trans Z0 le_6
  have gs_b_5 : h0.size ≤ b_5 := Nat.le_trans (Nat.le_refl h0.size) le_6
  show Go B n0 _ h_1 1 4 9 #[.val (.ref a1), .val (.ref a2)] []
  refine g_return C rfl d10_9 (by decide) (by decide) ?_
  exact ⟨rfl, ((Keep.refl h0 [a1]).trans K_4 (allS (Or.inl (List.mem_of_getElem? (i := 0) rfl)) all0)), b_5, gs_b_5, f_7, f_8, f_9⟩
theorem d9_0 : decode jdk_42_method_152_code 0 = .ok (.getstatic 38, 3) := by decide +kernel
theorem d9_3 : decode jdk_42_method_152_code 3 = .ok (.ifCond .eq 10, 3) := by decide +kernel
theorem d9_6 : decode jdk_42_method_152_code 6 = .ok (.aload_n 0, 1) := by decide +kernel
theorem d9_7 : decode jdk_42_method_152_code 7 = .ok (.getfield 15, 3) := by decide +kernel
theorem d9_10 : decode jdk_42_method_152_code 10 = .ok (.goto 4, 3) := by decide +kernel
theorem d9_14 : decode jdk_42_method_152_code 14 = .ok (.ireturn, 1) := by decide +kernel
set_option maxRecDepth 65536 in
set_option maxHeartbeats 40000000 in
theorem rm_coder (l : Launch) (Z : State) (a0 : Array Value) (hw : ∀ d ∈ tables_1, d.before a0 Z = true) (n0 : Nat) (a1 : Addr) (h0 : Heap) (Z0 : n0 ≤ h0.size) (cm : Cmp Z) (O : Old Z n0 h0) (F1 : Fld Z h0 a1 "java/lang/String" "coder" "B" (.int (0 : Int32))) :
    Met1 l Z (⟨"java/lang/String", "coder", "()B"⟩ : MethodName) jdk_42_method_152_code 1 (some .byte) ({ frames := 0, cells := 0, slots := 0, locals := 0 } : Room) n0 #[(.ref a1)] h0 (fun v h => v = some (.int (0 : Int32)) ∧ h0 = h) := by
  refine met_of (plainFor_of_name own_pn_java_lang_String) (L0 := #[.val (.ref a1)]) (by first | (simp [argsToLocals, Value.category]; done) | rfl) ?_
  intro B C
  change Ctx B l _ _ "java/lang/String" "coder" _ _ Z at C
  have cm' := cm
  obtain ⟨cz, Scz, hcz⟩ := cm'
  refine g_getstatic C (host := "") (v := (.int cz)) (Or.inl (own_w hw 9 rfl)) Via.refl (Scz.ext O.2) d9_0 (pc' := 3) rfl ?_
  refine g_if_n C d9_3 (Jvm.Free.XT.i0_eq_f hcz) (pc' := 6) rfl ?_
  refine g_aload_n C d9_6 (v := (.ref a1)) rfl rfl (pc' := 7) rfl ?_
  refine g_getfield C (host := "") (v := (.int (0 : Int32))) (Or.inl (own_w hw 29 rfl)) Via.refl F1 d9_7 (pc' := 10) rfl ?_
  refine g_goto C d9_10 (pc' := 14) (by decide) (by decide) ?_
  refine g_ret C (v := (.int (0 : Int32))) (ty := .byte) rfl rfl (Or.inl ⟨rfl, Or.inr (Or.inr (Or.inl rfl)), _, rfl⟩) d9_14 (by decide) (by decide) ?_
  exact ⟨rfl, rfl⟩
theorem own_pd_0_coder : parseMethodDescriptor "()B" = some ⟨[], (some .byte)⟩ := by decide +kernel
theorem d8_0 : decode jdk_42_method_54_code 0 = .ok (.aload_n 0, 1) := by decide +kernel
theorem d8_1 : decode jdk_42_method_54_code 1 = .ok (.getfield 9, 3) := by decide +kernel
theorem d8_4 : decode jdk_42_method_54_code 4 = .ok (.arraylength, 1) := by decide +kernel
theorem d8_5 : decode jdk_42_method_54_code 5 = .ok (.aload_n 0, 1) := by decide +kernel
theorem d8_6 : decode jdk_42_method_54_code 6 = .ok (.invokevirtual 335, 3) := by decide +kernel
theorem d8_9 : decode jdk_42_method_54_code 9 = .ok (.ishr, 1) := by decide +kernel
theorem d8_10 : decode jdk_42_method_54_code 10 = .ok (.ireturn, 1) := by decide +kernel
set_option maxRecDepth 65536 in
set_option maxHeartbeats 40000000 in
theorem rm_length_1 (l : Launch) (Z : State) (a0 : Array Value) (hw : ∀ d ∈ tables_1, d.before a0 Z = true) (n0 : Nat) (a1 b1 : Addr) (x0 : Int32) (h0 : Heap) (Z0 : n0 ≤ h0.size) (cm : Cmp Z) (O : Old Z n0 h0) (E0 : Exa Z h0 a1 "java/lang/String") (F0 : Fld Z h0 a1 "java/lang/String" "value" "[B" (.ref b1)) (F1 : Fld Z h0 a1 "java/lang/String" "coder" "B" (.int (0 : Int32))) (A1 : Ary Z h0 b1 .byte [.int x0]) :
    Met1 l Z (⟨"java/lang/String", "length", "()I"⟩ : MethodName) jdk_42_method_54_code 1 (some .int) ({ frames := 1, cells := 0, slots := 0, locals := 13 } : Room) n0 #[(.ref a1)] h0 (fun v h => v = some (.int (1 : Int32)) ∧ h0 = h) := by
  refine met_of (plainFor_of_name own_pn_java_lang_String) (L0 := #[.val (.ref a1)]) (by first | (simp [argsToLocals, Value.category]; done) | rfl) ?_
  intro B C
  change Ctx B l _ _ "java/lang/String" "length" _ _ Z at C
  have cm' := cm
  obtain ⟨cz, Scz, hcz⟩ := cm'
  refine g_aload_n C d8_0 (v := (.ref a1)) rfl rfl (pc' := 1) rfl ?_
  refine g_getfield C (host := "") (v := (.ref b1)) (Or.inl (own_w hw 27 rfl)) Via.refl F0 d8_1 (pc' := 4) rfl ?_
  refine g_arraylength C A1 (z := (1 : Int32)) rfl d8_4 (pc' := 5) rfl ?_
  refine g_aload_n C d8_5 (v := (.ref a1)) rfl rfl (pc' := 6) rfl ?_
  refine g_virtual C (own_w hw 40 rfl) (own_w hw 41 rfl) (own_w hw 43 rfl) (own_w hw 42 rfl) (own_w hw 7 rfl) (own_w hw 44 rfl) (notFace_of_selects (args := #[]) (mvT C.2.2.2.2.1 (own_w hw 43 rfl))) (by decide) E0 (rm_coder l Z a0 hw n0 a1 h0 Z0 cm O F1) (st := [(.int (1 : Int32))]) [] rfl rfl own_pd_0_coder rfl rfl (by decide) (W := 1) (Nat.le_of_eq rfl) (by decide) (by decide) (by decide) d8_6 (pc' := 9) rfl ?_
  intro v_3 h_1 q_2
  obtain ⟨rfl, rfl⟩ := q_2
  show Go B n0 _ h0 0 0 9 #[.val (.ref a1)] [(.int (0 : Int32)), (.int (1 : Int32))]
  refine g_ishr C (x := (1 : Int32)) (y := (0 : Int32)) d8_9  (pc' := 10) rfl ?_
  refine Go.eqs (st2 := [(.int (1 : Int32))]) ?_ (by rfl)
  refine g_ret C (v := (.int (1 : Int32))) (ty := .int) rfl rfl (Or.inl ⟨rfl, Or.inl rfl, _, rfl⟩) d8_10 (by decide) (by decide) ?_
  exact ⟨rfl, rfl⟩
set_option maxRecDepth 65536 in
set_option maxHeartbeats 40000000 in
theorem rm_length_2 (l : Launch) (Z : State) (a0 : Array Value) (hw : ∀ d ∈ tables_1, d.before a0 Z = true) (n0 : Nat) (a1 b1 : Addr) (x0 x1 : Int32) (h0 : Heap) (Z0 : n0 ≤ h0.size) (cm : Cmp Z) (O : Old Z n0 h0) (E0 : Exa Z h0 a1 "java/lang/String") (F0 : Fld Z h0 a1 "java/lang/String" "value" "[B" (.ref b1)) (F1 : Fld Z h0 a1 "java/lang/String" "coder" "B" (.int (0 : Int32))) (A1 : Ary Z h0 b1 .byte [.int x0, .int x1]) :
    Met1 l Z (⟨"java/lang/String", "length", "()I"⟩ : MethodName) jdk_42_method_54_code 1 (some .int) ({ frames := 1, cells := 0, slots := 0, locals := 13 } : Room) n0 #[(.ref a1)] h0 (fun v h => v = some (.int (2 : Int32)) ∧ h0 = h) := by
  refine met_of (plainFor_of_name own_pn_java_lang_String) (L0 := #[.val (.ref a1)]) (by first | (simp [argsToLocals, Value.category]; done) | rfl) ?_
  intro B C
  change Ctx B l _ _ "java/lang/String" "length" _ _ Z at C
  have cm' := cm
  obtain ⟨cz, Scz, hcz⟩ := cm'
  refine g_aload_n C d8_0 (v := (.ref a1)) rfl rfl (pc' := 1) rfl ?_
  refine g_getfield C (host := "") (v := (.ref b1)) (Or.inl (own_w hw 27 rfl)) Via.refl F0 d8_1 (pc' := 4) rfl ?_
  refine g_arraylength C A1 (z := (2 : Int32)) rfl d8_4 (pc' := 5) rfl ?_
  refine g_aload_n C d8_5 (v := (.ref a1)) rfl rfl (pc' := 6) rfl ?_
  refine g_virtual C (own_w hw 40 rfl) (own_w hw 41 rfl) (own_w hw 43 rfl) (own_w hw 42 rfl) (own_w hw 7 rfl) (own_w hw 44 rfl) (notFace_of_selects (args := #[]) (mvT C.2.2.2.2.1 (own_w hw 43 rfl))) (by decide) E0 (rm_coder l Z a0 hw n0 a1 h0 Z0 cm O F1) (st := [(.int (2 : Int32))]) [] rfl rfl own_pd_0_coder rfl rfl (by decide) (W := 1) (Nat.le_of_eq rfl) (by decide) (by decide) (by decide) d8_6 (pc' := 9) rfl ?_
  intro v_3 h_1 q_2
  obtain ⟨rfl, rfl⟩ := q_2
  show Go B n0 _ h0 0 0 9 #[.val (.ref a1)] [(.int (0 : Int32)), (.int (2 : Int32))]
  refine g_ishr C (x := (2 : Int32)) (y := (0 : Int32)) d8_9  (pc' := 10) rfl ?_
  refine Go.eqs (st2 := [(.int (2 : Int32))]) ?_ (by rfl)
  refine g_ret C (v := (.int (2 : Int32))) (ty := .int) rfl rfl (Or.inl ⟨rfl, Or.inl rfl, _, rfl⟩) d8_10 (by decide) (by decide) ?_
  exact ⟨rfl, rfl⟩
set_option maxRecDepth 65536 in
set_option maxHeartbeats 40000000 in
theorem rm_length_3 (l : Launch) (Z : State) (a0 : Array Value) (hw : ∀ d ∈ tables_1, d.before a0 Z = true) (n0 : Nat) (a1 b1 : Addr) (x0 x1 x2 : Int32) (h0 : Heap) (Z0 : n0 ≤ h0.size) (cm : Cmp Z) (O : Old Z n0 h0) (E0 : Exa Z h0 a1 "java/lang/String") (F0 : Fld Z h0 a1 "java/lang/String" "value" "[B" (.ref b1)) (F1 : Fld Z h0 a1 "java/lang/String" "coder" "B" (.int (0 : Int32))) (A1 : Ary Z h0 b1 .byte [.int x0, .int x1, .int x2]) :
    Met1 l Z (⟨"java/lang/String", "length", "()I"⟩ : MethodName) jdk_42_method_54_code 1 (some .int) ({ frames := 1, cells := 0, slots := 0, locals := 13 } : Room) n0 #[(.ref a1)] h0 (fun v h => v = some (.int (3 : Int32)) ∧ h0 = h) := by
  refine met_of (plainFor_of_name own_pn_java_lang_String) (L0 := #[.val (.ref a1)]) (by first | (simp [argsToLocals, Value.category]; done) | rfl) ?_
  intro B C
  change Ctx B l _ _ "java/lang/String" "length" _ _ Z at C
  have cm' := cm
  obtain ⟨cz, Scz, hcz⟩ := cm'
  refine g_aload_n C d8_0 (v := (.ref a1)) rfl rfl (pc' := 1) rfl ?_
  refine g_getfield C (host := "") (v := (.ref b1)) (Or.inl (own_w hw 27 rfl)) Via.refl F0 d8_1 (pc' := 4) rfl ?_
  refine g_arraylength C A1 (z := (3 : Int32)) rfl d8_4 (pc' := 5) rfl ?_
  refine g_aload_n C d8_5 (v := (.ref a1)) rfl rfl (pc' := 6) rfl ?_
  refine g_virtual C (own_w hw 40 rfl) (own_w hw 41 rfl) (own_w hw 43 rfl) (own_w hw 42 rfl) (own_w hw 7 rfl) (own_w hw 44 rfl) (notFace_of_selects (args := #[]) (mvT C.2.2.2.2.1 (own_w hw 43 rfl))) (by decide) E0 (rm_coder l Z a0 hw n0 a1 h0 Z0 cm O F1) (st := [(.int (3 : Int32))]) [] rfl rfl own_pd_0_coder rfl rfl (by decide) (W := 1) (Nat.le_of_eq rfl) (by decide) (by decide) (by decide) d8_6 (pc' := 9) rfl ?_
  intro v_3 h_1 q_2
  obtain ⟨rfl, rfl⟩ := q_2
  show Go B n0 _ h0 0 0 9 #[.val (.ref a1)] [(.int (0 : Int32)), (.int (3 : Int32))]
  refine g_ishr C (x := (3 : Int32)) (y := (0 : Int32)) d8_9  (pc' := 10) rfl ?_
  refine Go.eqs (st2 := [(.int (3 : Int32))]) ?_ (by rfl)
  refine g_ret C (v := (.int (3 : Int32))) (ty := .int) rfl rfl (Or.inl ⟨rfl, Or.inl rfl, _, rfl⟩) d8_10 (by decide) (by decide) ?_
  exact ⟨rfl, rfl⟩
set_option maxRecDepth 65536 in
set_option maxHeartbeats 40000000 in
theorem rm_length_4 (l : Launch) (Z : State) (a0 : Array Value) (hw : ∀ d ∈ tables_1, d.before a0 Z = true) (n0 : Nat) (a1 b1 : Addr) (x0 x1 x2 x3 : Int32) (h0 : Heap) (Z0 : n0 ≤ h0.size) (cm : Cmp Z) (O : Old Z n0 h0) (E0 : Exa Z h0 a1 "java/lang/String") (F0 : Fld Z h0 a1 "java/lang/String" "value" "[B" (.ref b1)) (F1 : Fld Z h0 a1 "java/lang/String" "coder" "B" (.int (0 : Int32))) (A1 : Ary Z h0 b1 .byte [.int x0, .int x1, .int x2, .int x3]) :
    Met1 l Z (⟨"java/lang/String", "length", "()I"⟩ : MethodName) jdk_42_method_54_code 1 (some .int) ({ frames := 1, cells := 0, slots := 0, locals := 13 } : Room) n0 #[(.ref a1)] h0 (fun v h => v = some (.int (4 : Int32)) ∧ h0 = h) := by
  refine met_of (plainFor_of_name own_pn_java_lang_String) (L0 := #[.val (.ref a1)]) (by first | (simp [argsToLocals, Value.category]; done) | rfl) ?_
  intro B C
  change Ctx B l _ _ "java/lang/String" "length" _ _ Z at C
  have cm' := cm
  obtain ⟨cz, Scz, hcz⟩ := cm'
  refine g_aload_n C d8_0 (v := (.ref a1)) rfl rfl (pc' := 1) rfl ?_
  refine g_getfield C (host := "") (v := (.ref b1)) (Or.inl (own_w hw 27 rfl)) Via.refl F0 d8_1 (pc' := 4) rfl ?_
  refine g_arraylength C A1 (z := (4 : Int32)) rfl d8_4 (pc' := 5) rfl ?_
  refine g_aload_n C d8_5 (v := (.ref a1)) rfl rfl (pc' := 6) rfl ?_
  refine g_virtual C (own_w hw 40 rfl) (own_w hw 41 rfl) (own_w hw 43 rfl) (own_w hw 42 rfl) (own_w hw 7 rfl) (own_w hw 44 rfl) (notFace_of_selects (args := #[]) (mvT C.2.2.2.2.1 (own_w hw 43 rfl))) (by decide) E0 (rm_coder l Z a0 hw n0 a1 h0 Z0 cm O F1) (st := [(.int (4 : Int32))]) [] rfl rfl own_pd_0_coder rfl rfl (by decide) (W := 1) (Nat.le_of_eq rfl) (by decide) (by decide) (by decide) d8_6 (pc' := 9) rfl ?_
  intro v_3 h_1 q_2
  obtain ⟨rfl, rfl⟩ := q_2
  show Go B n0 _ h0 0 0 9 #[.val (.ref a1)] [(.int (0 : Int32)), (.int (4 : Int32))]
  refine g_ishr C (x := (4 : Int32)) (y := (0 : Int32)) d8_9  (pc' := 10) rfl ?_
  refine Go.eqs (st2 := [(.int (4 : Int32))]) ?_ (by rfl)
  refine g_ret C (v := (.int (4 : Int32))) (ty := .int) rfl rfl (Or.inl ⟨rfl, Or.inl rfl, _, rfl⟩) d8_10 (by decide) (by decide) ?_
  exact ⟨rfl, rfl⟩
theorem d1_0 : decode method_3_code 0 = .ok (.iload_n 0, 1) := by decide +kernel
theorem d1_1 : decode method_3_code 1 = .ok (.ifCond .ne 6, 3) := by decide +kernel
theorem d1_4 : decode method_3_code 4 = .ok (.bipush 90, 2) := by decide +kernel
theorem d1_6 : decode method_3_code 6 = .ok (.ireturn, 1) := by decide +kernel
theorem d1_7 : decode method_3_code 7 = .ok (.iload_n 0, 1) := by decide +kernel
theorem d1_8 : decode method_3_code 8 = .ok (.iconst 1, 1) := by decide +kernel
theorem d1_9 : decode method_3_code 9 = .ok (.if_icmp .ne 6, 3) := by decide +kernel
theorem d1_12 : decode method_3_code 12 = .ok (.bipush 66, 2) := by decide +kernel
theorem d1_14 : decode method_3_code 14 = .ok (.ireturn, 1) := by decide +kernel
theorem d1_15 : decode method_3_code 15 = .ok (.iload_n 0, 1) := by decide +kernel
theorem d1_16 : decode method_3_code 16 = .ok (.iconst 2, 1) := by decide +kernel
theorem d1_17 : decode method_3_code 17 = .ok (.if_icmp .ne 6, 3) := by decide +kernel
theorem d1_20 : decode method_3_code 20 = .ok (.bipush 67, 2) := by decide +kernel
theorem d1_22 : decode method_3_code 22 = .ok (.ireturn, 1) := by decide +kernel
theorem d1_23 : decode method_3_code 23 = .ok (.iload_n 0, 1) := by decide +kernel
theorem d1_24 : decode method_3_code 24 = .ok (.iconst 3, 1) := by decide +kernel
theorem d1_25 : decode method_3_code 25 = .ok (.if_icmp .ne 6, 3) := by decide +kernel
theorem d1_28 : decode method_3_code 28 = .ok (.bipush 83, 2) := by decide +kernel
theorem d1_30 : decode method_3_code 30 = .ok (.ireturn, 1) := by decide +kernel
theorem d1_31 : decode method_3_code 31 = .ok (.iload_n 0, 1) := by decide +kernel
theorem d1_32 : decode method_3_code 32 = .ok (.iconst 4, 1) := by decide +kernel
theorem d1_33 : decode method_3_code 33 = .ok (.if_icmp .ne 6, 3) := by decide +kernel
theorem d1_36 : decode method_3_code 36 = .ok (.bipush 73, 2) := by decide +kernel
theorem d1_38 : decode method_3_code 38 = .ok (.ireturn, 1) := by decide +kernel
theorem d1_39 : decode method_3_code 39 = .ok (.iload_n 0, 1) := by decide +kernel
theorem d1_40 : decode method_3_code 40 = .ok (.iconst 5, 1) := by decide +kernel
theorem d1_41 : decode method_3_code 41 = .ok (.if_icmp .ne 6, 3) := by decide +kernel
theorem d1_44 : decode method_3_code 44 = .ok (.bipush 74, 2) := by decide +kernel
theorem d1_46 : decode method_3_code 46 = .ok (.ireturn, 1) := by decide +kernel
theorem d1_47 : decode method_3_code 47 = .ok (.iload_n 0, 1) := by decide +kernel
theorem d1_48 : decode method_3_code 48 = .ok (.bipush 6, 2) := by decide +kernel
theorem d1_50 : decode method_3_code 50 = .ok (.if_icmp .ne 6, 3) := by decide +kernel
theorem d1_53 : decode method_3_code 53 = .ok (.bipush 70, 2) := by decide +kernel
theorem d1_55 : decode method_3_code 55 = .ok (.ireturn, 1) := by decide +kernel
theorem d1_56 : decode method_3_code 56 = .ok (.bipush 68, 2) := by decide +kernel
theorem d1_58 : decode method_3_code 58 = .ok (.ireturn, 1) := by decide +kernel
theorem own_pn_com_example_chiton_chiton_runtime_ObjectGraphIsPrimitivePinLaw : plainName "com/example/chiton/chiton/runtime/ObjectGraphIsPrimitivePinLaw" = true := by first | (simp [plainName, overriddenIn]; done) | decide +kernel
set_option maxRecDepth 65536 in
set_option maxHeartbeats 40000000 in
theorem rm_letter (l : Launch) (Z : State) (a0 : Array Value) (hw : ∀ d ∈ tables_1, d.before a0 Z = true) (n0 : Nat) (i : Int32) (h0 : Heap) (Z0 : n0 ≤ h0.size)  :
    Met1 l Z (⟨"com/example/chiton/chiton/runtime/ObjectGraphIsPrimitivePinLaw", "letter", "(I)C"⟩ : MethodName) method_3_code 1 (some .char) ({ frames := 0, cells := 0, slots := 0, locals := 0 } : Room) n0 #[(.int i)] h0 (fun v h => ∃ p : Int32, v = some (.int p) ∧ Ch p ∧ h0 = h) := by
  refine met_of (plainFor_of_name own_pn_com_example_chiton_chiton_runtime_ObjectGraphIsPrimitivePinLaw) (L0 := #[.val (.int i)]) (by first | (simp [argsToLocals, Value.category]; done) | rfl) ?_
  intro B C
  change Ctx B l _ _ "com/example/chiton/chiton/runtime/ObjectGraphIsPrimitivePinLaw" "letter" _ _ Z at C
  refine g_iload_n C d1_0 (v := i) rfl (pc' := 1) rfl ?_
  by_cases hb_1 : i = (0 : Int32)
  · refine g_if_n C d1_1 (Jvm.Free.XT.i0_ne_f hb_1) (pc' := 4) rfl ?_
    refine g_bipush C d1_4 (v := (90 : Int32)) rfl (pc' := 6) rfl ?_
    refine g_ret C (v := (.int (90 : Int32))) (ty := .char) rfl rfl (Or.inl ⟨rfl, Or.inr (Or.inr (Or.inr (Or.inl rfl))), _, rfl⟩) d1_6 (by decide) (by decide) ?_
    exact ⟨_, rfl, by refine ⟨?_, ?_, ?_⟩ <;> decide, rfl⟩
  · refine g_if_y C d1_1 (Jvm.Free.XT.i0_ne_t hb_1) (pc' := 7) (by decide) (by decide) ?_
    refine g_iload_n C d1_7 (v := i) rfl (pc' := 8) rfl ?_
    refine g_iconst C d1_8 (v := (1 : Int32)) rfl (pc' := 9) rfl ?_
    by_cases hb_2 : i = (1 : Int32)
    · refine g_icmp_n C d1_9 (Jvm.Free.XT.ii_ne_f hb_2) (pc' := 12) rfl ?_
      refine g_bipush C d1_12 (v := (66 : Int32)) rfl (pc' := 14) rfl ?_
      refine g_ret C (v := (.int (66 : Int32))) (ty := .char) rfl rfl (Or.inl ⟨rfl, Or.inr (Or.inr (Or.inr (Or.inl rfl))), _, rfl⟩) d1_14 (by decide) (by decide) ?_
      exact ⟨_, rfl, by refine ⟨?_, ?_, ?_⟩ <;> decide, rfl⟩
    · refine g_icmp_y C d1_9 (Jvm.Free.XT.ii_ne_t hb_2) (pc' := 15) (by decide) (by decide) ?_
      refine g_iload_n C d1_15 (v := i) rfl (pc' := 16) rfl ?_
      refine g_iconst C d1_16 (v := (2 : Int32)) rfl (pc' := 17) rfl ?_
      by_cases hb_3 : i = (2 : Int32)
      · refine g_icmp_n C d1_17 (Jvm.Free.XT.ii_ne_f hb_3) (pc' := 20) rfl ?_
        refine g_bipush C d1_20 (v := (67 : Int32)) rfl (pc' := 22) rfl ?_
        refine g_ret C (v := (.int (67 : Int32))) (ty := .char) rfl rfl (Or.inl ⟨rfl, Or.inr (Or.inr (Or.inr (Or.inl rfl))), _, rfl⟩) d1_22 (by decide) (by decide) ?_
        exact ⟨_, rfl, by refine ⟨?_, ?_, ?_⟩ <;> decide, rfl⟩
      · refine g_icmp_y C d1_17 (Jvm.Free.XT.ii_ne_t hb_3) (pc' := 23) (by decide) (by decide) ?_
        refine g_iload_n C d1_23 (v := i) rfl (pc' := 24) rfl ?_
        refine g_iconst C d1_24 (v := (3 : Int32)) rfl (pc' := 25) rfl ?_
        by_cases hb_4 : i = (3 : Int32)
        · refine g_icmp_n C d1_25 (Jvm.Free.XT.ii_ne_f hb_4) (pc' := 28) rfl ?_
          refine g_bipush C d1_28 (v := (83 : Int32)) rfl (pc' := 30) rfl ?_
          refine g_ret C (v := (.int (83 : Int32))) (ty := .char) rfl rfl (Or.inl ⟨rfl, Or.inr (Or.inr (Or.inr (Or.inl rfl))), _, rfl⟩) d1_30 (by decide) (by decide) ?_
          exact ⟨_, rfl, by refine ⟨?_, ?_, ?_⟩ <;> decide, rfl⟩
        · refine g_icmp_y C d1_25 (Jvm.Free.XT.ii_ne_t hb_4) (pc' := 31) (by decide) (by decide) ?_
          refine g_iload_n C d1_31 (v := i) rfl (pc' := 32) rfl ?_
          refine g_iconst C d1_32 (v := (4 : Int32)) rfl (pc' := 33) rfl ?_
          by_cases hb_5 : i = (4 : Int32)
          · refine g_icmp_n C d1_33 (Jvm.Free.XT.ii_ne_f hb_5) (pc' := 36) rfl ?_
            refine g_bipush C d1_36 (v := (73 : Int32)) rfl (pc' := 38) rfl ?_
            refine g_ret C (v := (.int (73 : Int32))) (ty := .char) rfl rfl (Or.inl ⟨rfl, Or.inr (Or.inr (Or.inr (Or.inl rfl))), _, rfl⟩) d1_38 (by decide) (by decide) ?_
            exact ⟨_, rfl, by refine ⟨?_, ?_, ?_⟩ <;> decide, rfl⟩
          · refine g_icmp_y C d1_33 (Jvm.Free.XT.ii_ne_t hb_5) (pc' := 39) (by decide) (by decide) ?_
            refine g_iload_n C d1_39 (v := i) rfl (pc' := 40) rfl ?_
            refine g_iconst C d1_40 (v := (5 : Int32)) rfl (pc' := 41) rfl ?_
            by_cases hb_6 : i = (5 : Int32)
            · refine g_icmp_n C d1_41 (Jvm.Free.XT.ii_ne_f hb_6) (pc' := 44) rfl ?_
              refine g_bipush C d1_44 (v := (74 : Int32)) rfl (pc' := 46) rfl ?_
              refine g_ret C (v := (.int (74 : Int32))) (ty := .char) rfl rfl (Or.inl ⟨rfl, Or.inr (Or.inr (Or.inr (Or.inl rfl))), _, rfl⟩) d1_46 (by decide) (by decide) ?_
              exact ⟨_, rfl, by refine ⟨?_, ?_, ?_⟩ <;> decide, rfl⟩
            · refine g_icmp_y C d1_41 (Jvm.Free.XT.ii_ne_t hb_6) (pc' := 47) (by decide) (by decide) ?_
              refine g_iload_n C d1_47 (v := i) rfl (pc' := 48) rfl ?_
              refine g_bipush C d1_48 (v := (6 : Int32)) rfl (pc' := 50) rfl ?_
              by_cases hb_7 : i = (6 : Int32)
              · refine g_icmp_n C d1_50 (Jvm.Free.XT.ii_ne_f hb_7) (pc' := 53) rfl ?_
                refine g_bipush C d1_53 (v := (70 : Int32)) rfl (pc' := 55) rfl ?_
                refine g_ret C (v := (.int (70 : Int32))) (ty := .char) rfl rfl (Or.inl ⟨rfl, Or.inr (Or.inr (Or.inr (Or.inl rfl))), _, rfl⟩) d1_55 (by decide) (by decide) ?_
                exact ⟨_, rfl, by refine ⟨?_, ?_, ?_⟩ <;> decide, rfl⟩
              · refine g_icmp_y C d1_50 (Jvm.Free.XT.ii_ne_t hb_7) (pc' := 56) (by decide) (by decide) ?_
                refine g_bipush C d1_56 (v := (68 : Int32)) rfl (pc' := 58) rfl ?_
                refine g_ret C (v := (.int (68 : Int32))) (ty := .char) rfl rfl (Or.inl ⟨rfl, Or.inr (Or.inr (Or.inr (Or.inl rfl))), _, rfl⟩) d1_58 (by decide) (by decide) ?_
                exact ⟨_, rfl, by refine ⟨?_, ?_, ?_⟩ <;> decide, rfl⟩
theorem d3_0 : decode jdk_43_method_3_code 0 = .ok (.iload_n 0, 1) := by decide +kernel
theorem d3_1 : decode jdk_43_method_3_code 1 = .ok (.sipush 255, 3) := by decide +kernel
theorem d3_4 : decode jdk_43_method_3_code 4 = .ok (.if_icmp .gt 7, 3) := by decide +kernel
theorem d3_7 : decode jdk_43_method_3_code 7 = .ok (.iconst 1, 1) := by decide +kernel
theorem d3_8 : decode jdk_43_method_3_code 8 = .ok (.goto 4, 3) := by decide +kernel
theorem d3_12 : decode jdk_43_method_3_code 12 = .ok (.ireturn, 1) := by decide +kernel
theorem own_pn_java_lang_StringLatin1 : plainName "java/lang/StringLatin1" = true := by first | (simp [plainName, overriddenIn]; done) | decide +kernel
set_option maxRecDepth 65536 in
set_option maxHeartbeats 40000000 in
theorem rm_can (l : Launch) (Z : State) (a0 : Array Value) (hw : ∀ d ∈ tables_1, d.before a0 Z = true) (n0 : Nat) (c0 : Int32) (h0 : Heap) (Z0 : n0 ≤ h0.size) (k0 : Ch c0) :
    Met1 l Z (⟨"java/lang/StringLatin1", "canEncode", "(C)Z"⟩ : MethodName) jdk_43_method_3_code 1 (some .boolean) ({ frames := 0, cells := 0, slots := 0, locals := 0 } : Room) n0 #[(.int c0)] h0 (fun v h => v = some (.int (1 : Int32)) ∧ h0 = h) := by
  refine met_of (plainFor_of_name own_pn_java_lang_StringLatin1) (L0 := #[.val (.int c0)]) (by first | (simp [argsToLocals, Value.category]; done) | rfl) ?_
  intro B C
  change Ctx B l _ _ "java/lang/StringLatin1" "canEncode" _ _ Z at C
  refine g_iload_n C d3_0 (v := c0) rfl (pc' := 1) rfl ?_
  refine g_sipush C d3_1 (v := (255 : Int32)) rfl (pc' := 4) rfl ?_
  refine g_icmp_n C d3_4 (Jvm.Free.XT.ii_gt_f k0.2.1) (pc' := 7) rfl ?_
  refine g_iconst C d3_7 (v := (1 : Int32)) rfl (pc' := 8) rfl ?_
  refine g_goto C d3_8 (pc' := 12) (by decide) (by decide) ?_
  refine g_ret C (v := (.int (1 : Int32))) (ty := .boolean) rfl rfl (Or.inl ⟨rfl, Or.inr (Or.inl rfl), _, rfl⟩) d3_12 (by decide) (by decide) ?_
  exact ⟨rfl, rfl⟩
theorem d4_0 : decode jdk_43_method_46_code 0 = .ok (.iconst 1, 1) := by decide +kernel
theorem d4_1 : decode jdk_43_method_46_code 1 = .ok (.newarray .byte, 2) := by decide +kernel
theorem d4_3 : decode jdk_43_method_46_code 3 = .ok (.dup, 1) := by decide +kernel
theorem d4_4 : decode jdk_43_method_46_code 4 = .ok (.iconst 0, 1) := by decide +kernel
theorem d4_5 : decode jdk_43_method_46_code 5 = .ok (.iload_n 0, 1) := by decide +kernel
theorem d4_6 : decode jdk_43_method_46_code 6 = .ok (.i2b, 1) := by decide +kernel
theorem d4_7 : decode jdk_43_method_46_code 7 = .ok (.bastore, 1) := by decide +kernel
theorem d4_8 : decode jdk_43_method_46_code 8 = .ok (.areturn, 1) := by decide +kernel
set_option maxRecDepth 65536 in
set_option maxHeartbeats 40000000 in
theorem rm_tob (l : Launch) (Z : State) (a0 : Array Value) (hw : ∀ d ∈ tables_1, d.before a0 Z = true) (n0 : Nat) (c0 : Int32) (h0 : Heap) (Z0 : n0 ≤ h0.size)  :
    Met1 l Z (⟨"java/lang/StringLatin1", "toBytes", "(C)[B"⟩ : MethodName) jdk_43_method_46_code 1 (some (.array .byte)) ({ frames := 0, cells := 1, slots := 1, locals := 0 } : Room) n0 #[(.int c0)] h0 (fun v h => ∃ b : Addr, v = some (.ref b) ∧ h0.size ≤ b ∧ Keep h0 h [] ∧ Ary Z h b .byte [.int (Int8.toInt32 (Int32.toInt8 c0))]) := by
  refine met_of (plainFor_of_name own_pn_java_lang_StringLatin1) (L0 := #[.val (.int c0)]) (by first | (simp [argsToLocals, Value.category]; done) | rfl) ?_
  intro B C
  change Ctx B l _ _ "java/lang/StringLatin1" "toBytes" _ _ Z at C
  refine g_iconst C d4_0 (v := (1 : Int32)) rfl (pc' := 1) rfl ?_
  refine g_newarray C (own_w hw 19 rfl) (ty := .byte) rfl (by decide) (cap := 1) (by decide) (by decide) (by decide) (by decide) d4_1 (pc' := 3) rfl ?_
  intro h_1 a_2 g_3 E_4 A_5
  have ge_a_2 : n0 ≤ a_2 := Nat.le_trans Z0 (Nat.le_of_eq g_3.symm)
  have gs_a_2 : h0.size ≤ a_2 := Nat.le_trans (Nat.le_refl h0.size) (Nat.le_of_eq g_3.symm)
  have f_6 : Ary Z h_1 a_2 .byte [(.int (0 : Int32))] := A_5
  show Go B n0 _ h_1 1 1 3 #[.val (.int c0)] [(.ref a_2)]
  refine g_dup C d4_3 rfl (pc' := 4) rfl ?_
  refine g_iconst C d4_4 (v := (0 : Int32)) rfl (pc' := 5) rfl ?_
  refine g_iload_n C d4_5 (v := c0) rfl (pc' := 6) rfl ?_
  refine g_i2b C (x := c0) d4_6 (pc' := 7) rfl ?_
  refine g_bastoreB C f_6 (by decide) (i := 0) (by decide) (show 0 < 1 by decide) (w := (.int (Int8.toInt32 (Int32.toInt8 c0)))) (congrArg Value.int (own_narb _)) ge_a_2 d4_7 (pc' := 8) rfl ?_
  intro h_7 K_8 A_9
  have f_10 : Ary Z h_7 a_2 .byte [(.int (Int8.toInt32 (Int32.toInt8 c0)))] := A_9
  refine g_ret C (v := (.ref a_2)) (ty := (.array .byte)) rfl rfl (Or.inr (Or.inr (Or.inr (Or.inr ⟨rfl, rfl, rfl⟩)))) d4_8 (by decide) (by decide) ?_
  exact ⟨a_2, rfl, gs_a_2, (((Keep.refl h0 []).ext E_4).trans K_8 (allS (Or.inr gs_a_2) all0)), f_10⟩
theorem d5_0 : decode jdk_42_method_151_code 0 = .ok (.aload_n 0, 1) := by decide +kernel
theorem d5_1 : decode jdk_42_method_151_code 1 = .ok (.invokespecial 1, 3) := by decide +kernel
theorem d5_4 : decode jdk_42_method_151_code 4 = .ok (.aload_n 0, 1) := by decide +kernel
theorem d5_5 : decode jdk_42_method_151_code 5 = .ok (.aload_n 1, 1) := by decide +kernel
theorem d5_6 : decode jdk_42_method_151_code 6 = .ok (.putfield 9, 3) := by decide +kernel
theorem d5_9 : decode jdk_42_method_151_code 9 = .ok (.aload_n 0, 1) := by decide +kernel
theorem d5_10 : decode jdk_42_method_151_code 10 = .ok (.iload_n 2, 1) := by decide +kernel
theorem d5_11 : decode jdk_42_method_151_code 11 = .ok (.putfield 15, 3) := by decide +kernel
theorem d5_14 : decode jdk_42_method_151_code 14 = .ok (.return_, 1) := by decide +kernel
set_option maxRecDepth 65536 in
set_option maxHeartbeats 40000000 in
theorem rm_initB (l : Launch) (Z : State) (a0 : Array Value) (hw : ∀ d ∈ tables_1, d.before a0 Z = true) (n0 : Nat) (a1 b1 : Addr) (h0 : Heap) (Z0 : n0 ≤ h0.size) (E0 : Exa Z h0 a1 "java/lang/String") (F0 : Fld Z h0 a1 "java/lang/String" "value" "[B" .null) (F1 : Fld Z h0 a1 "java/lang/String" "coder" "B" (.int (0 : Int32))) (g1 : n0 ≤ a1) :
    Met1 l Z (⟨"java/lang/String", "<init>", "([BB)V"⟩ : MethodName) jdk_42_method_151_code 3 none ({ frames := 1, cells := 0, slots := 0, locals := 12 } : Room) n0 #[(.ref a1), (.ref b1), (.int (0 : Int32))] h0 (fun v h => v = none ∧ Keep h0 h [a1] ∧ Fld Z h a1 "java/lang/String" "value" "[B" (.ref b1) ∧ Fld Z h a1 "java/lang/String" "coder" "B" (.int (0 : Int32))) := by
  refine met_of (plainFor_of_name own_pn_java_lang_String) (L0 := #[.val (.ref a1), .val (.ref b1), .val (.int (0 : Int32))]) (by first | (simp [argsToLocals, Value.category]; done) | rfl) ?_
  intro B C
  change Ctx B l _ _ "java/lang/String" "<init>" _ _ Z at C
  refine g_aload_n C d5_0 (v := (.ref a1)) rfl rfl (pc' := 1) rfl ?_
  refine g_initObj C (own_w hw 24 rfl) (own_w hw 25 rfl) (own_w hw 26 rfl) rfl (by decide) (W := 0) (Nat.le_of_eq rfl) (by decide) d5_1 (pc' := 4) rfl ?_
  refine g_aload_n C d5_4 (v := (.ref a1)) rfl rfl (pc' := 5) rfl ?_
  refine g_aload_n C d5_5 (v := (.ref b1)) rfl rfl (pc' := 6) rfl ?_
  refine g_putfield C (host := "") (v := (.ref b1)) (Or.inl (own_w hw 27 rfl)) Via.refl F0 E0 (Or.inr ⟨(own_w hw 28 rfl), rfl, rfl⟩) (own_w hw 15 rfl) (ty := (.array .byte)) (by decide) rfl rfl g1 d5_6 (pc' := 9) rfl ?_
  intro h_1 W_2
  have f_3 := F0.same W_2
  refine g_aload_n C d5_9 (v := (.ref a1)) rfl rfl (pc' := 10) rfl ?_
  refine g_iload_n C d5_10 (v := (0 : Int32)) rfl (pc' := 11) rfl ?_
  have f_4 := (F1.other W_2 (Or.inr (slot_ne (Or.inr (own_w hw 30 rfl)) (Or.inr (own_w hw 28 rfl)) (by decide) (t := .byte) (t' := (.array .byte)) (by decide) (by decide))))
  have f_5 := (E0.wr W_2)
  refine g_putfield C (host := "") (v := (.int (0 : Int32))) (Or.inl (own_w hw 29 rfl)) Via.refl f_4 f_5 (Or.inr ⟨(own_w hw 30 rfl), rfl, rfl⟩) (own_w hw 15 rfl) (ty := .byte) (by decide) rfl rfl g1 d5_11 (pc' := 14) rfl ?_
  intro h_6 W_7
  have f_8 := f_4.same W_7
  refine g_return C rfl d5_14 (by decide) (by decide) ?_
  have f_9 := (f_3.other W_7 (Or.inr (slot_ne (Or.inr (own_w hw 28 rfl)) (Or.inr (own_w hw 30 rfl)) (by decide) (t := (.array .byte)) (t' := .byte) (by decide) (by decide))))
  exact ⟨rfl, (((Keep.refl h0 [a1]).wr W_2 (Or.inl (List.mem_of_getElem? (i := 0) rfl))).wr W_7 (Or.inl (List.mem_of_getElem? (i := 0) rfl))), f_9, f_8⟩
theorem own_pd_4_canEncode : parseMethodDescriptor "(C)Z" = some ⟨[.char], (some .boolean)⟩ := by decide +kernel
theorem own_pd_5_toBytes : parseMethodDescriptor "(C)[B" = some ⟨[.char], (some (.array .byte))⟩ := by decide +kernel
theorem own_pd_9_init : parseMethodDescriptor "([BB)V" = some ⟨[(.array .byte), .byte], none⟩ := by decide +kernel
theorem d2_0 : decode jdk_42_method_139_code 0 = .ok (.getstatic 38, 3) := by decide +kernel
theorem d2_3 : decode jdk_42_method_139_code 3 = .ok (.ifCond .eq 23, 3) := by decide +kernel
theorem d2_6 : decode jdk_42_method_139_code 6 = .ok (.iload_n 0, 1) := by decide +kernel
theorem d2_7 : decode jdk_42_method_139_code 7 = .ok (.invokestatic 1015, 3) := by decide +kernel
theorem d2_10 : decode jdk_42_method_139_code 10 = .ok (.ifCond .eq 16, 3) := by decide +kernel
theorem d2_13 : decode jdk_42_method_139_code 13 = .ok (.new 10, 3) := by decide +kernel
theorem d2_16 : decode jdk_42_method_139_code 16 = .ok (.dup, 1) := by decide +kernel
theorem d2_17 : decode jdk_42_method_139_code 17 = .ok (.iload_n 0, 1) := by decide +kernel
theorem d2_18 : decode jdk_42_method_139_code 18 = .ok (.invokestatic 1018, 3) := by decide +kernel
theorem d2_21 : decode jdk_42_method_139_code 21 = .ok (.iconst 0, 1) := by decide +kernel
theorem d2_22 : decode jdk_42_method_139_code 22 = .ok (.invokespecial 209, 3) := by decide +kernel
theorem d2_25 : decode jdk_42_method_139_code 25 = .ok (.areturn, 1) := by decide +kernel
set_option maxRecDepth 65536 in
set_option maxHeartbeats 40000000 in
theorem rm_valueOf (l : Launch) (Z : State) (a0 : Array Value) (hw : ∀ d ∈ tables_1, d.before a0 Z = true) (n0 : Nat) (c0 : Int32) (h0 : Heap) (Z0 : n0 ≤ h0.size) (cm : Cmp Z) (O : Old Z n0 h0) (k0 : Ch c0) :
    Met1 l Z (⟨"java/lang/String", "valueOf", "(C)Ljava/lang/String;"⟩ : MethodName) jdk_42_method_139_code 1 (some (.object "java/lang/String")) ({ frames := 2, cells := 2, slots := 5, locals := 27 } : Room) n0 #[(.int c0)] h0 (fun v h => ∃ a : Addr, v = some (.ref a) ∧ h0.size ≤ a ∧ Keep h0 h [] ∧ Exa Z h a "java/lang/String" ∧ ∃ b : Addr, Fld Z h a "java/lang/String" "value" "[B" (.ref b) ∧ Fld Z h a "java/lang/String" "coder" "B" (.int (0 : Int32)) ∧ Ary Z h b .byte [.int (Int8.toInt32 (Int32.toInt8 c0))]) := by
  refine met_of (plainFor_of_name own_pn_java_lang_String) (L0 := #[.val (.int c0)]) (by first | (simp [argsToLocals, Value.category]; done) | rfl) ?_
  intro B C
  change Ctx B l _ _ "java/lang/String" "valueOf" _ _ Z at C
  have cm' := cm
  obtain ⟨cz, Scz, hcz⟩ := cm'
  refine g_getstatic C (host := "") (v := (.int cz)) (Or.inl (own_w hw 9 rfl)) Via.refl (Scz.ext O.2) d2_0 (pc' := 3) rfl ?_
  refine g_if_n C d2_3 (Jvm.Free.XT.i0_eq_f hcz) (pc' := 6) rfl ?_
  refine g_iload_n C d2_6 (v := c0) rfl (pc' := 7) rfl ?_
  refine g_static C (own_w hw 10 rfl) (own_w hw 11 rfl) (own_w hw 12 rfl) (own_w hw 13 rfl) (by decide) (rm_can l Z a0 hw n0 c0 h0 Z0 k0) (st := []) [(.int c0)] rfl rfl own_pd_4_canEncode rfl rfl (by decide) (W := 0) (Nat.le_of_eq rfl) (by decide) (by decide) (by decide) d2_7 (pc' := 10) rfl ?_
  intro v_3 h_1 q_2
  obtain ⟨rfl, rfl⟩ := q_2
  show Go B n0 _ h0 0 0 10 #[.val (.int c0)] [(.int (1 : Int32))]
  refine g_if_n C d2_10 (Jvm.Free.XT.i0_eq_f (by decide)) (pc' := 13) rfl ?_
  refine g_new C (own_w hw 14 rfl) (own_w hw 15 rfl) (own_w hw 7 rfl) (by decide) (by decide) d2_13 (pc' := 16) rfl ?_
  intro h_4 a_5 g_6 E_7 A_8 D_9
  have ge_a_5 : n0 ≤ a_5 := Nat.le_trans Z0 (Nat.le_of_eq g_6.symm)
  have gs_a_5 : h0.size ≤ a_5 := Nat.le_trans (Nat.le_refl h0.size) (Nat.le_of_eq g_6.symm)
  have f_10 : Fld Z h_4 a_5 "java/lang/String" "value" "[B" .null := D_9 (Or.inr (own_w hw 28 rfl)) (ty := (.array .byte)) (by decide)
  have f_11 : Fld Z h_4 a_5 "java/lang/String" "coder" "B" (.int (0 : Int32)) := D_9 (Or.inr (own_w hw 30 rfl)) (ty := .byte) (by decide)
  show Go B n0 _ h_4 1 4 16 #[.val (.int c0)] [(.ref a_5)]
  refine g_dup C d2_16 rfl (pc' := 17) rfl ?_
  refine g_iload_n C d2_17 (v := c0) rfl (pc' := 18) rfl ?_
  have f_12 := (Nat.le_trans Z0 E_7.1)
  have f_13 := (Nat.le_trans (Nat.le_refl h0.size) E_7.1)
  refine g_static C (own_w hw 16 rfl) (own_w hw 17 rfl) (own_w hw 12 rfl) (own_w hw 18 rfl) (by decide) (rm_tob l Z a0 hw n0 c0 h_4 f_12 ) (st := [(.ref a_5), (.ref a_5)]) [(.int c0)] rfl rfl own_pd_5_toBytes rfl rfl (by decide) (W := 2) (Nat.le_of_eq rfl) (by decide) (by decide) (by decide) d2_18 (pc' := 21) rfl ?_
  intro v_16 h_14 q_15
  obtain ⟨b_17, rfl, le_18, K_19, f_20⟩ := q_15
  have ne_21 : a_5 ≠ b_17 := ne_ge A_8.lt le_18
  have ge_b_17 : n0 ≤ b_17 := Nat.le_trans f_12 le_18
  have gs_b_17 : h0.size ≤ b_17 := Nat.le_trans f_13 le_18
  show Go B n0 _ h_14 2 5 21 #[.val (.int c0)] [(.ref b_17), (.ref a_5), (.ref a_5)]
  refine g_iconst C d2_21 (v := (0 : Int32)) rfl (pc' := 22) rfl ?_
  have f_22 := (A_8.keep K_19)
  have f_23 := (f_10.keep K_19 nin0)
  have f_24 := (f_11.keep K_19 nin0)
  have f_25 := (Nat.le_trans f_12 K_19.1)
  refine g_special C (a := a_5) rfl (own_w hw 20 rfl) (own_w hw 21 rfl) (own_w hw 7 rfl) (own_w hw 23 rfl) (by decide) (rm_initB l Z a0 hw n0 a_5 b_17 h_14 f_25 f_22 f_23 f_24 ge_a_5) (st := [(.ref a_5)]) [(.ref b_17), (.int (0 : Int32))] rfl rfl own_pd_9_init rfl rfl (by decide) (W := 1) (Nat.le_of_eq rfl) (by decide) (by decide) (by decide) d2_22 (pc' := 25) rfl ?_
  intro v_28 h_26 q_27
  obtain ⟨rfl, K_29, f_30, f_31⟩ := q_27
  show Go B n0 _ h_26 2 5 25 #[.val (.int c0)] [(.ref a_5)]
  refine g_ret C (v := (.ref a_5)) (ty := (.object "java/lang/String")) rfl rfl (Or.inr (Or.inr (Or.inr (Or.inr ⟨rfl, rfl, rfl⟩)))) d2_25 (by decide) (by decide) ?_
  have f_32 := (f_22.keep K_29)
  have f_33 := (f_20.keep K_29 (ninS (Ne.symm ne_21) nin0))
  exact ⟨a_5, rfl, gs_a_5, ((((Keep.refl h0 []).ext E_7).trans K_19 all0).trans K_29 (allS (Or.inr gs_a_5) all0)), f_32, b_17, f_30, f_31, f_33⟩
theorem own_pd_1_length : parseMethodDescriptor "()I" = some ⟨[], (some .int)⟩ := by decide +kernel
theorem d7_0 : decode prog_45_method_8_code 0 = .ok (.aload_n 0, 1) := by decide +kernel
theorem d7_1 : decode prog_45_method_8_code 1 = .ok (.invokevirtual 251, 3) := by decide +kernel
theorem d7_4 : decode prog_45_method_8_code 4 = .ok (.iconst 1, 1) := by decide +kernel
theorem d7_5 : decode prog_45_method_8_code 5 = .ok (.if_icmp .ne 7, 3) := by decide +kernel
theorem d7_8 : decode prog_45_method_8_code 8 = .ok (.iconst 1, 1) := by decide +kernel
theorem d7_9 : decode prog_45_method_8_code 9 = .ok (.goto 4, 3) := by decide +kernel
theorem d7_13 : decode prog_45_method_8_code 13 = .ok (.ireturn, 1) := by decide +kernel
theorem own_pn_com_example_chiton_chiton_runtime_ObjectGraph : plainName "com/example/chiton/chiton/runtime/ObjectGraph" = true := by first | (simp [plainName, overriddenIn]; done) | decide +kernel
set_option maxRecDepth 65536 in
set_option maxHeartbeats 40000000 in
theorem rm_isPrim_1 (l : Launch) (Z : State) (a0 : Array Value) (hw : ∀ d ∈ tables_1, d.before a0 Z = true) (n0 : Nat) (a1 b1 : Addr) (x0 : Int32) (h0 : Heap) (Z0 : n0 ≤ h0.size) (cm : Cmp Z) (O : Old Z n0 h0) (E0 : Exa Z h0 a1 "java/lang/String") (F0 : Fld Z h0 a1 "java/lang/String" "value" "[B" (.ref b1)) (F1 : Fld Z h0 a1 "java/lang/String" "coder" "B" (.int (0 : Int32))) (A1 : Ary Z h0 b1 .byte [.int x0]) :
    Met1 l Z (⟨"com/example/chiton/chiton/runtime/ObjectGraph", "isPrimitive", "(Ljava/lang/String;)Z"⟩ : MethodName) prog_45_method_8_code 1 (some .boolean) ({ frames := 2, cells := 0, slots := 0, locals := 25 } : Room) n0 #[(.ref a1)] h0 (fun v h => v = some (.int (1 : Int32)) ∧ h0 = h) := by
  refine met_of (plainFor_of_name own_pn_com_example_chiton_chiton_runtime_ObjectGraph) (L0 := #[.val (.ref a1)]) (by first | (simp [argsToLocals, Value.category]; done) | rfl) ?_
  intro B C
  change Ctx B l _ _ "com/example/chiton/chiton/runtime/ObjectGraph" "isPrimitive" _ _ Z at C
  have cm' := cm
  obtain ⟨cz, Scz, hcz⟩ := cm'
  refine g_aload_n C d7_0 (v := (.ref a1)) rfl rfl (pc' := 1) rfl ?_
  refine g_virtual C (own_w hw 35 rfl) (own_w hw 36 rfl) (own_w hw 38 rfl) (own_w hw 37 rfl) (own_w hw 7 rfl) (own_w hw 39 rfl) (notFace_of_selects (args := #[]) (mvT C.2.2.2.2.1 (own_w hw 38 rfl))) (by decide) E0 (rm_length_1 l Z a0 hw n0 a1 b1 x0 h0 Z0 cm O E0 F0 F1 A1) (st := []) [] rfl rfl own_pd_1_length rfl rfl (by decide) (W := 0) (Nat.le_of_eq rfl) (by decide) (by decide) (by decide) d7_1 (pc' := 4) rfl ?_
  intro v_3 h_1 q_2
  obtain ⟨rfl, rfl⟩ := q_2
  show Go B n0 _ h0 0 0 4 #[.val (.ref a1)] [(.int (1 : Int32))]
  refine g_iconst C d7_4 (v := (1 : Int32)) rfl (pc' := 5) rfl ?_
  refine g_icmp_n C d7_5 (Jvm.Free.XT.ii_ne_f (by decide)) (pc' := 8) rfl ?_
  refine g_iconst C d7_8 (v := (1 : Int32)) rfl (pc' := 9) rfl ?_
  refine g_goto C d7_9 (pc' := 13) (by decide) (by decide) ?_
  refine g_ret C (v := (.int (1 : Int32))) (ty := .boolean) rfl rfl (Or.inl ⟨rfl, Or.inr (Or.inl rfl), _, rfl⟩) d7_13 (by decide) (by decide) ?_
  exact ⟨rfl, rfl⟩
theorem d7_12 : decode prog_45_method_8_code 12 = .ok (.iconst 0, 1) := by decide +kernel
set_option maxRecDepth 65536 in
set_option maxHeartbeats 40000000 in
theorem rm_isPrim_2 (l : Launch) (Z : State) (a0 : Array Value) (hw : ∀ d ∈ tables_1, d.before a0 Z = true) (n0 : Nat) (a1 b1 : Addr) (x0 x1 : Int32) (h0 : Heap) (Z0 : n0 ≤ h0.size) (cm : Cmp Z) (O : Old Z n0 h0) (E0 : Exa Z h0 a1 "java/lang/String") (F0 : Fld Z h0 a1 "java/lang/String" "value" "[B" (.ref b1)) (F1 : Fld Z h0 a1 "java/lang/String" "coder" "B" (.int (0 : Int32))) (A1 : Ary Z h0 b1 .byte [.int x0, .int x1]) :
    Met1 l Z (⟨"com/example/chiton/chiton/runtime/ObjectGraph", "isPrimitive", "(Ljava/lang/String;)Z"⟩ : MethodName) prog_45_method_8_code 1 (some .boolean) ({ frames := 2, cells := 0, slots := 0, locals := 25 } : Room) n0 #[(.ref a1)] h0 (fun v h => v = some (.int (0 : Int32)) ∧ h0 = h) := by
  refine met_of (plainFor_of_name own_pn_com_example_chiton_chiton_runtime_ObjectGraph) (L0 := #[.val (.ref a1)]) (by first | (simp [argsToLocals, Value.category]; done) | rfl) ?_
  intro B C
  change Ctx B l _ _ "com/example/chiton/chiton/runtime/ObjectGraph" "isPrimitive" _ _ Z at C
  have cm' := cm
  obtain ⟨cz, Scz, hcz⟩ := cm'
  refine g_aload_n C d7_0 (v := (.ref a1)) rfl rfl (pc' := 1) rfl ?_
  refine g_virtual C (own_w hw 35 rfl) (own_w hw 36 rfl) (own_w hw 38 rfl) (own_w hw 37 rfl) (own_w hw 7 rfl) (own_w hw 39 rfl) (notFace_of_selects (args := #[]) (mvT C.2.2.2.2.1 (own_w hw 38 rfl))) (by decide) E0 (rm_length_2 l Z a0 hw n0 a1 b1 x0 x1 h0 Z0 cm O E0 F0 F1 A1) (st := []) [] rfl rfl own_pd_1_length rfl rfl (by decide) (W := 0) (Nat.le_of_eq rfl) (by decide) (by decide) (by decide) d7_1 (pc' := 4) rfl ?_
  intro v_3 h_1 q_2
  obtain ⟨rfl, rfl⟩ := q_2
  show Go B n0 _ h0 0 0 4 #[.val (.ref a1)] [(.int (2 : Int32))]
  refine g_iconst C d7_4 (v := (1 : Int32)) rfl (pc' := 5) rfl ?_
  refine g_icmp_y C d7_5 (Jvm.Free.XT.ii_ne_t (by decide)) (pc' := 12) (by decide) (by decide) ?_
  refine g_iconst C d7_12 (v := (0 : Int32)) rfl (pc' := 13) rfl ?_
  refine g_ret C (v := (.int (0 : Int32))) (ty := .boolean) rfl rfl (Or.inl ⟨rfl, Or.inr (Or.inl rfl), _, rfl⟩) d7_13 (by decide) (by decide) ?_
  exact ⟨rfl, rfl⟩
set_option maxRecDepth 65536 in
set_option maxHeartbeats 40000000 in
theorem rm_isPrim_3 (l : Launch) (Z : State) (a0 : Array Value) (hw : ∀ d ∈ tables_1, d.before a0 Z = true) (n0 : Nat) (a1 b1 : Addr) (x0 x1 x2 : Int32) (h0 : Heap) (Z0 : n0 ≤ h0.size) (cm : Cmp Z) (O : Old Z n0 h0) (E0 : Exa Z h0 a1 "java/lang/String") (F0 : Fld Z h0 a1 "java/lang/String" "value" "[B" (.ref b1)) (F1 : Fld Z h0 a1 "java/lang/String" "coder" "B" (.int (0 : Int32))) (A1 : Ary Z h0 b1 .byte [.int x0, .int x1, .int x2]) :
    Met1 l Z (⟨"com/example/chiton/chiton/runtime/ObjectGraph", "isPrimitive", "(Ljava/lang/String;)Z"⟩ : MethodName) prog_45_method_8_code 1 (some .boolean) ({ frames := 2, cells := 0, slots := 0, locals := 25 } : Room) n0 #[(.ref a1)] h0 (fun v h => v = some (.int (0 : Int32)) ∧ h0 = h) := by
  refine met_of (plainFor_of_name own_pn_com_example_chiton_chiton_runtime_ObjectGraph) (L0 := #[.val (.ref a1)]) (by first | (simp [argsToLocals, Value.category]; done) | rfl) ?_
  intro B C
  change Ctx B l _ _ "com/example/chiton/chiton/runtime/ObjectGraph" "isPrimitive" _ _ Z at C
  have cm' := cm
  obtain ⟨cz, Scz, hcz⟩ := cm'
  refine g_aload_n C d7_0 (v := (.ref a1)) rfl rfl (pc' := 1) rfl ?_
  refine g_virtual C (own_w hw 35 rfl) (own_w hw 36 rfl) (own_w hw 38 rfl) (own_w hw 37 rfl) (own_w hw 7 rfl) (own_w hw 39 rfl) (notFace_of_selects (args := #[]) (mvT C.2.2.2.2.1 (own_w hw 38 rfl))) (by decide) E0 (rm_length_3 l Z a0 hw n0 a1 b1 x0 x1 x2 h0 Z0 cm O E0 F0 F1 A1) (st := []) [] rfl rfl own_pd_1_length rfl rfl (by decide) (W := 0) (Nat.le_of_eq rfl) (by decide) (by decide) (by decide) d7_1 (pc' := 4) rfl ?_
  intro v_3 h_1 q_2
  obtain ⟨rfl, rfl⟩ := q_2
  show Go B n0 _ h0 0 0 4 #[.val (.ref a1)] [(.int (3 : Int32))]
  refine g_iconst C d7_4 (v := (1 : Int32)) rfl (pc' := 5) rfl ?_
  refine g_icmp_y C d7_5 (Jvm.Free.XT.ii_ne_t (by decide)) (pc' := 12) (by decide) (by decide) ?_
  refine g_iconst C d7_12 (v := (0 : Int32)) rfl (pc' := 13) rfl ?_
  refine g_ret C (v := (.int (0 : Int32))) (ty := .boolean) rfl rfl (Or.inl ⟨rfl, Or.inr (Or.inl rfl), _, rfl⟩) d7_13 (by decide) (by decide) ?_
  exact ⟨rfl, rfl⟩
set_option maxRecDepth 65536 in
set_option maxHeartbeats 40000000 in
theorem rm_isPrim_4 (l : Launch) (Z : State) (a0 : Array Value) (hw : ∀ d ∈ tables_1, d.before a0 Z = true) (n0 : Nat) (a1 b1 : Addr) (x0 x1 x2 x3 : Int32) (h0 : Heap) (Z0 : n0 ≤ h0.size) (cm : Cmp Z) (O : Old Z n0 h0) (E0 : Exa Z h0 a1 "java/lang/String") (F0 : Fld Z h0 a1 "java/lang/String" "value" "[B" (.ref b1)) (F1 : Fld Z h0 a1 "java/lang/String" "coder" "B" (.int (0 : Int32))) (A1 : Ary Z h0 b1 .byte [.int x0, .int x1, .int x2, .int x3]) :
    Met1 l Z (⟨"com/example/chiton/chiton/runtime/ObjectGraph", "isPrimitive", "(Ljava/lang/String;)Z"⟩ : MethodName) prog_45_method_8_code 1 (some .boolean) ({ frames := 2, cells := 0, slots := 0, locals := 25 } : Room) n0 #[(.ref a1)] h0 (fun v h => v = some (.int (0 : Int32)) ∧ h0 = h) := by
  refine met_of (plainFor_of_name own_pn_com_example_chiton_chiton_runtime_ObjectGraph) (L0 := #[.val (.ref a1)]) (by first | (simp [argsToLocals, Value.category]; done) | rfl) ?_
  intro B C
  change Ctx B l _ _ "com/example/chiton/chiton/runtime/ObjectGraph" "isPrimitive" _ _ Z at C
  have cm' := cm
  obtain ⟨cz, Scz, hcz⟩ := cm'
  refine g_aload_n C d7_0 (v := (.ref a1)) rfl rfl (pc' := 1) rfl ?_
  refine g_virtual C (own_w hw 35 rfl) (own_w hw 36 rfl) (own_w hw 38 rfl) (own_w hw 37 rfl) (own_w hw 7 rfl) (own_w hw 39 rfl) (notFace_of_selects (args := #[]) (mvT C.2.2.2.2.1 (own_w hw 38 rfl))) (by decide) E0 (rm_length_4 l Z a0 hw n0 a1 b1 x0 x1 x2 x3 h0 Z0 cm O E0 F0 F1 A1) (st := []) [] rfl rfl own_pd_1_length rfl rfl (by decide) (W := 0) (Nat.le_of_eq rfl) (by decide) (by decide) (by decide) d7_1 (pc' := 4) rfl ?_
  intro v_3 h_1 q_2
  obtain ⟨rfl, rfl⟩ := q_2
  show Go B n0 _ h0 0 0 4 #[.val (.ref a1)] [(.int (4 : Int32))]
  refine g_iconst C d7_4 (v := (1 : Int32)) rfl (pc' := 5) rfl ?_
  refine g_icmp_y C d7_5 (Jvm.Free.XT.ii_ne_t (by decide)) (pc' := 12) (by decide) (by decide) ?_
  refine g_iconst C d7_12 (v := (0 : Int32)) rfl (pc' := 13) rfl ?_
  refine g_ret C (v := (.int (0 : Int32))) (ty := .boolean) rfl rfl (Or.inl ⟨rfl, Or.inr (Or.inl rfl), _, rfl⟩) d7_13 (by decide) (by decide) ?_
  exact ⟨rfl, rfl⟩
theorem own_pd_6_letter : parseMethodDescriptor "(I)C" = some ⟨[.int], (some .char)⟩ := by decide +kernel
theorem own_split6 (i : Int32) (h0 : 0 ≤ i.toInt) (h1 : i.toInt < 6) : i = (0 : Int32) ∨ i = (1 : Int32) ∨ i = (2 : Int32) ∨ i = (3 : Int32) ∨ i = (4 : Int32) ∨ i = (5 : Int32) := by
  simp only [← Int32.toInt_inj, Int32.reduceToInt]; omega
theorem own_pd_3_valueOf : parseMethodDescriptor "(C)Ljava/lang/String;" = some ⟨[.char], (some (.object "java/lang/String"))⟩ := by decide +kernel
theorem own_pd_8_isPrimitive : parseMethodDescriptor "(Ljava/lang/String;)Z" = some ⟨[(.object "java/lang/String")], (some .boolean)⟩ := by decide +kernel
theorem own_pd_11_init : parseMethodDescriptor "([C)V" = some ⟨[(.array .char)], none⟩ := by decide +kernel
set_option maxRecDepth 65536 in
set_option maxHeartbeats 40000000 in
theorem rm_law (l : Launch) (Z : State) (a0 : Array Value) (hw : ∀ d ∈ tables_1, d.before a0 Z = true) (n0 : Nat) (p0 p1 p2 p3 : Int32) (h0 : Heap) (Z0 : n0 ≤ h0.size) (cm : Cmp Z) (O : Old Z n0 h0) :
    Met1 l Z x code maxLocals ret room_1 n0 #[(.int p0), (.int p1), (.int p2), (.int p3)] h0 (fun v h => v = some (.int 1)) := by
  refine met_of (plainFor_of_name own_pn_com_example_chiton_chiton_runtime_ObjectGraphIsPrimitivePinLaw) (L0 := #[.val (.int p0), .val (.int p1), .val (.int p2), .val (.int p3), .unset, .unset, .unset, .unset, .unset, .unset]) (by first | (simp [argsToLocals, Value.category]; done) | rfl) ?_
  intro B C
  change Ctx B l room_1 code "com/example/chiton/chiton/runtime/ObjectGraphIsPrimitivePinLaw" "law" 10 (some .boolean) Z at C
  have cm' := cm
  obtain ⟨cz, Scz, hcz⟩ := cm'
  refine g_iload_n C at_0 (v := p0) rfl (pc' := 1) rfl ?_
  refine g_ldc C (v := (2147483647 : Int32)) (own_w hw 0 rfl) at_1 (pc' := 3) rfl ?_
  refine g_iand C (x := p0) (y := (2147483647 : Int32)) at_3  (pc' := 4) rfl ?_
  refine g_bipush C at_4 (v := (6 : Int32)) rfl (pc' := 6) rfl ?_
  refine g_irem C (x := (p0 &&& (2147483647 : Int32))) (y := (6 : Int32)) at_6 (by decide) (pc' := 7) rfl ?_
  refine g_istore C at_7 (v := ((p0 &&& (2147483647 : Int32)) - ((p0 &&& (2147483647 : Int32)) / (6 : Int32)) * (6 : Int32))) (L' := #[.val (.int p0), .val (.int p1), .val (.int p2), .val (.int p3), .val (.int ((p0 &&& (2147483647 : Int32)) - ((p0 &&& (2147483647 : Int32)) / (6 : Int32)) * (6 : Int32))), .unset, .unset, .unset, .unset, .unset]) rfl (pc' := 9) rfl ?_
  refine g_iload_n C at_9 (v := p1) rfl (pc' := 10) rfl ?_
  refine g_bipush C at_10 (v := (7 : Int32)) rfl (pc' := 12) rfl ?_
  refine g_iand C (x := p1) (y := (7 : Int32)) at_12  (pc' := 13) rfl ?_
  refine g_static C (own_w hw 1 rfl) (own_w hw 2 rfl) (own_w hw 3 rfl) (own_w hw 4 rfl) (by decide) (rm_letter l Z a0 hw n0 (p1 &&& (7 : Int32)) h0 Z0 ) (st := []) [(.int (p1 &&& (7 : Int32)))] rfl rfl own_pd_6_letter rfl rfl (by decide) (W := 0) (Nat.le_of_eq rfl) (by decide) (by decide) (by decide) at_13 (pc' := 16) rfl ?_
  intro v_3 h_1 q_2
  obtain ⟨p, rfl, kp, rfl⟩ := q_2
  show Go B n0 _ h0 0 0 16 #[.val (.int p0), .val (.int p1), .val (.int p2), .val (.int p3), .val (.int ((p0 &&& (2147483647 : Int32)) - ((p0 &&& (2147483647 : Int32)) / (6 : Int32)) * (6 : Int32))), .unset, .unset, .unset, .unset, .unset] [(.int p)]
  refine g_istore C at_16 (v := p) (L' := #[.val (.int p0), .val (.int p1), .val (.int p2), .val (.int p3), .val (.int ((p0 &&& (2147483647 : Int32)) - ((p0 &&& (2147483647 : Int32)) / (6 : Int32)) * (6 : Int32))), .val (.int p), .unset, .unset, .unset, .unset]) rfl (pc' := 18) rfl ?_
  refine g_iload_n C at_18 (v := p2) rfl (pc' := 19) rfl ?_
  refine g_sipush C at_19 (v := (255 : Int32)) rfl (pc' := 22) rfl ?_
  refine g_iand C (x := p2) (y := (255 : Int32)) at_22  (pc' := 23) rfl ?_
  refine g_i2c C (x := (p2 &&& (255 : Int32))) at_23 (pc' := 24) rfl ?_
  rw [i2c_mask p2]
  obtain ⟨ca, eca⟩ : ∃ z : Int32, z = (p2 &&& (255 : Int32)) := ⟨_, rfl⟩
  have kca : Ch ca := by rw [eca]; exact own_chM p2
  rw [← eca]
  refine g_istore C at_24 (v := ca) (L' := #[.val (.int p0), .val (.int p1), .val (.int p2), .val (.int p3), .val (.int ((p0 &&& (2147483647 : Int32)) - ((p0 &&& (2147483647 : Int32)) / (6 : Int32)) * (6 : Int32))), .val (.int p), .val (.int ca), .unset, .unset, .unset]) rfl (pc' := 26) rfl ?_
  refine g_iload_n C at_26 (v := p3) rfl (pc' := 27) rfl ?_
  refine g_sipush C at_27 (v := (255 : Int32)) rfl (pc' := 30) rfl ?_
  refine g_iand C (x := p3) (y := (255 : Int32)) at_30  (pc' := 31) rfl ?_
  refine g_i2c C (x := (p3 &&& (255 : Int32))) at_31 (pc' := 32) rfl ?_
  rw [i2c_mask p3]
  obtain ⟨cb, ecb⟩ : ∃ z : Int32, z = (p3 &&& (255 : Int32)) := ⟨_, rfl⟩
  have kcb : Ch cb := by rw [ecb]; exact own_chM p3
  rw [← ecb]
  refine g_istore C at_32 (v := cb) (L' := #[.val (.int p0), .val (.int p1), .val (.int p2), .val (.int p3), .val (.int ((p0 &&& (2147483647 : Int32)) - ((p0 &&& (2147483647 : Int32)) / (6 : Int32)) * (6 : Int32))), .val (.int p), .val (.int ca), .val (.int cb), .unset, .unset]) rfl (pc' := 34) rfl ?_
  obtain ⟨i_4, hi_5⟩ : ∃ z : Int32, z = ((p0 &&& (2147483647 : Int32)) - ((p0 &&& (2147483647 : Int32)) / (6 : Int32)) * (6 : Int32)) := ⟨_, rfl⟩
  rw [← hi_5]
  rcases own_split6 i_4 (by rw [hi_5]; exact (own_rem6 (own_nn p0)).1) (by rw [hi_5]; exact (own_rem6 (own_nn p0)).2) with i_4e | i_4e | i_4e | i_4e | i_4e | i_4e
  · subst i_4e
    show Go B n0 _ h0 0 0 34 #[.val (.int p0), .val (.int p1), .val (.int p2), .val (.int p3), .val (.int (0 : Int32)), .val (.int p), .val (.int ca), .val (.int cb), .unset, .unset] []
    refine g_iload C at_34 (v := (0 : Int32)) rfl (pc' := 36) rfl ?_
    refine g_if_n C at_36 (Jvm.Free.XT.i0_ne_f (by decide)) (pc' := 39) rfl ?_
    refine g_iload C at_39 (v := p) rfl (pc' := 41) rfl ?_
    refine g_static C (own_w hw 5 rfl) (own_w hw 6 rfl) (own_w hw 7 rfl) (own_w hw 8 rfl) (by decide) (rm_valueOf l Z a0 hw n0 p h0 Z0 cm O kp) (st := []) [(.int p)] rfl rfl own_pd_3_valueOf rfl rfl (by decide) (W := 0) (Nat.le_of_eq rfl) (by decide) (by decide) (by decide) at_41 (pc' := 44) rfl ?_
    intro v_8 h_6 q_7
    obtain ⟨a_9, rfl, le_10, K_11, E_12, b_13, f_14, f_15, f_16⟩ := q_7
    have ge_a_9 : n0 ≤ a_9 := Nat.le_trans Z0 le_10
    have gs_a_9 : h0.size ≤ a_9 := Nat.le_trans (Nat.le_refl h0.size) le_10
    show Go B n0 _ h_6 2 5 44 #[.val (.int p0), .val (.int p1), .val (.int p2), .val (.int p3), .val (.int (0 : Int32)), .val (.int p), .val (.int ca), .val (.int cb), .unset, .unset] [(.ref a_9)]
    refine g_astore C at_44 (v := (.ref a_9)) (L' := #[.val (.int p0), .val (.int p1), .val (.int p2), .val (.int p3), .val (.int (0 : Int32)), .val (.int p), .val (.int ca), .val (.int cb), .val (.ref a_9), .unset]) rfl rfl (pc' := 46) rfl ?_
    refine g_goto C at_46 (pc' := 225) (by decide) (by decide) ?_
    refine g_iload C at_225 (v := (0 : Int32)) rfl (pc' := 227) rfl ?_
    refine g_if_n C at_227 (Jvm.Free.XT.i0_ne_f (by decide)) (pc' := 230) rfl ?_
    refine g_iconst C at_230 (v := (1 : Int32)) rfl (pc' := 231) rfl ?_
    refine g_goto C at_231 (pc' := 235) (by decide) (by decide) ?_
    refine g_istore C at_235 (v := (1 : Int32)) (L' := #[.val (.int p0), .val (.int p1), .val (.int p2), .val (.int p3), .val (.int (0 : Int32)), .val (.int p), .val (.int ca), .val (.int cb), .val (.ref a_9), .val (.int (1 : Int32))]) rfl (pc' := 237) rfl ?_
    refine g_aload C at_237 (v := (.ref a_9)) rfl rfl (pc' := 239) rfl ?_
    have f_17 := (O.keep K_11 all0)
    have f_18 := (Nat.le_trans Z0 K_11.1)
    refine g_static C (own_w hw 31 rfl) (own_w hw 32 rfl) (own_w hw 33 rfl) (own_w hw 34 rfl) (by decide) (rm_isPrim_1 l Z a0 hw n0 a_9 b_13 (Int8.toInt32 (Int32.toInt8 p)) h_6 f_18 cm f_17 E_12 f_14 f_15 f_16) (st := []) [(.ref a_9)] rfl rfl own_pd_8_isPrimitive rfl rfl (by decide) (W := 0) (Nat.le_of_eq rfl) (by decide) (by decide) (by decide) at_239 (pc' := 242) rfl ?_
    intro v_21 h_19 q_20
    obtain ⟨rfl, rfl⟩ := q_20
    show Go B n0 _ h_6 2 5 242 #[.val (.int p0), .val (.int p1), .val (.int p2), .val (.int p3), .val (.int (0 : Int32)), .val (.int p), .val (.int ca), .val (.int cb), .val (.ref a_9), .val (.int (1 : Int32))] [(.int (1 : Int32))]
    refine g_iload C at_242 (v := (1 : Int32)) rfl (pc' := 244) rfl ?_
    refine g_icmp_n C at_244 (Jvm.Free.XT.ii_ne_f (by decide)) (pc' := 247) rfl ?_
    refine g_iconst C at_247 (v := (1 : Int32)) rfl (pc' := 248) rfl ?_
    refine g_goto C at_248 (pc' := 252) (by decide) (by decide) ?_
    refine g_ret C (v := (.int (1 : Int32))) (ty := .boolean) rfl rfl (Or.inl ⟨rfl, Or.inr (Or.inl rfl), _, rfl⟩) at_252 (by decide) (by decide) ?_
    rfl
  · subst i_4e
    show Go B n0 _ h0 0 0 34 #[.val (.int p0), .val (.int p1), .val (.int p2), .val (.int p3), .val (.int (1 : Int32)), .val (.int p), .val (.int ca), .val (.int cb), .unset, .unset] []
    refine g_iload C at_34 (v := (1 : Int32)) rfl (pc' := 36) rfl ?_
    refine g_if_y C at_36 (Jvm.Free.XT.i0_ne_t (by decide)) (pc' := 49) (by decide) (by decide) ?_
    refine g_iload C at_49 (v := (1 : Int32)) rfl (pc' := 51) rfl ?_
    refine g_iconst C at_51 (v := (1 : Int32)) rfl (pc' := 52) rfl ?_
    refine g_icmp_n C at_52 (Jvm.Free.XT.ii_ne_f (by decide)) (pc' := 55) rfl ?_
    refine g_new C (own_w hw 45 rfl) (own_w hw 15 rfl) (own_w hw 7 rfl) (by decide) (by decide) at_55 (pc' := 58) rfl ?_
    intro h_22 a_23 g_24 E_25 A_26 D_27
    have ge_a_23 : n0 ≤ a_23 := Nat.le_trans Z0 (Nat.le_of_eq g_24.symm)
    have gs_a_23 : h0.size ≤ a_23 := Nat.le_trans (Nat.le_refl h0.size) (Nat.le_of_eq g_24.symm)
    have f_28 : Fld Z h_22 a_23 "java/lang/String" "value" "[B" .null := D_27 (Or.inr (own_w hw 28 rfl)) (ty := (.array .byte)) (by decide)
    have f_29 : Fld Z h_22 a_23 "java/lang/String" "coder" "B" (.int (0 : Int32)) := D_27 (Or.inr (own_w hw 30 rfl)) (ty := .byte) (by decide)
    show Go B n0 _ h_22 1 4 58 #[.val (.int p0), .val (.int p1), .val (.int p2), .val (.int p3), .val (.int (1 : Int32)), .val (.int p), .val (.int ca), .val (.int cb), .unset, .unset] [(.ref a_23)]
    refine g_dup C at_58 rfl (pc' := 59) rfl ?_
    refine g_iconst C at_59 (v := (2 : Int32)) rfl (pc' := 60) rfl ?_
    refine g_newarray C (own_w hw 46 rfl) (ty := .char) rfl (by decide) (cap := 2) (by decide) (by decide) (by decide) (by decide) at_60 (pc' := 62) rfl ?_
    intro h_30 a_31 g_32 E_33 A_34
    have ne_35 : a_23 ≠ a_31 := ne_new A_26.lt g_32
    have f_36 := (Nat.le_trans Z0 E_25.1)
    have ge_a_31 : n0 ≤ a_31 := Nat.le_trans f_36 (Nat.le_of_eq g_32.symm)
    have f_37 := (Nat.le_trans (Nat.le_refl h0.size) E_25.1)
    have gs_a_31 : h0.size ≤ a_31 := Nat.le_trans f_37 (Nat.le_of_eq g_32.symm)
    have f_38 : Ary Z h_30 a_31 .char [(.int (0 : Int32)), (.int (0 : Int32))] := A_34
    show Go B n0 _ h_30 2 6 62 #[.val (.int p0), .val (.int p1), .val (.int p2), .val (.int p3), .val (.int (1 : Int32)), .val (.int p), .val (.int ca), .val (.int cb), .unset, .unset] [(.ref a_31), (.ref a_23), (.ref a_23)]
    refine g_dup C at_62 rfl (pc' := 63) rfl ?_
    refine g_iconst C at_63 (v := (0 : Int32)) rfl (pc' := 64) rfl ?_
    refine g_bipush C at_64 (v := (91 : Int32)) rfl (pc' := 66) rfl ?_
    refine g_castore C f_38 (by decide) (i := 0) (by decide) (show 0 < 2 by decide) (w := (.int (91 : Int32))) rfl ge_a_31 at_66 (pc' := 67) rfl ?_
    intro h_39 K_40 A_41
    have f_42 : Ary Z h_39 a_31 .char [(.int (91 : Int32)), (.int (0 : Int32))] := A_41
    refine g_dup C at_67 rfl (pc' := 68) rfl ?_
    refine g_iconst C at_68 (v := (1 : Int32)) rfl (pc' := 69) rfl ?_
    refine g_iload C at_69 (v := p) rfl (pc' := 71) rfl ?_
    refine g_castore C f_42 (by decide) (i := 1) (by decide) (show 1 < 2 by decide) (w := (.int p)) (congrArg Value.int kp.1) ge_a_31 at_71 (pc' := 72) rfl ?_
    intro h_43 K_44 A_45
    have f_46 : Ary Z h_43 a_31 .char [(.int (91 : Int32)), (.int p)] := A_45
    have f_47 := ((((O.ext E_25).ext E_33).keep K_40 (allS ge_a_31 all0)).keep K_44 (allS ge_a_31 all0))
    have f_48 := (((A_26.ext E_33).keep K_40).keep K_44)
    have f_49 := (((f_28.ext E_33).keep K_40 (ninS ne_35 nin0)).keep K_44 (ninS ne_35 nin0))
    have f_50 := (((f_29.ext E_33).keep K_40 (ninS ne_35 nin0)).keep K_44 (ninS ne_35 nin0))
    have f_51 := (Nat.le_trans (Nat.le_trans (Nat.le_trans f_36 E_33.1) K_40.1) K_44.1)
    have f_52 := (Nat.le_trans (Nat.le_trans (Nat.le_trans f_37 E_33.1) K_40.1) K_44.1)
    refine g_special C (a := a_23) rfl (own_w hw 47 rfl) (own_w hw 48 rfl) (own_w hw 7 rfl) (own_w hw 49 rfl) (by decide) (rm_init1_2 l Z a0 hw n0 a_23 a_31 (91 : Int32) p h_43 f_51 cm f_47 f_48 f_49 f_50 ge_a_23 f_46 ne_35 (by refine ⟨?_, ?_, ?_⟩ <;> decide) kp) (st := [(.ref a_23)]) [(.ref a_31)] rfl rfl own_pd_11_init rfl rfl (by decide) (W := 1) (Nat.le_of_eq rfl) (by decide) (by decide) (by decide) at_72 (pc' := 75) rfl ?_
    intro v_55 h_53 q_54
    obtain ⟨rfl, K_56, b_57, le_58, f_59, f_60, f_61⟩ := q_54
    have ne_62 : a_23 ≠ b_57 := ne_ge f_48.lt le_58
    have ne_63 : a_31 ≠ b_57 := ne_ge f_46.lt le_58
    have ge_b_57 : n0 ≤ b_57 := Nat.le_trans f_51 le_58
    have gs_b_57 : h0.size ≤ b_57 := Nat.le_trans f_52 le_58
    show Go B n0 _ h_53 3 8 75 #[.val (.int p0), .val (.int p1), .val (.int p2), .val (.int p3), .val (.int (1 : Int32)), .val (.int p), .val (.int ca), .val (.int cb), .unset, .unset] [(.ref a_23)]
    refine g_astore C at_75 (v := (.ref a_23)) (L' := #[.val (.int p0), .val (.int p1), .val (.int p2), .val (.int p3), .val (.int (1 : Int32)), .val (.int p), .val (.int ca), .val (.int cb), .val (.ref a_23), .unset]) rfl rfl (pc' := 77) rfl ?_
    refine g_goto C at_77 (pc' := 225) (by decide) (by decide) ?_
    refine g_iload C at_225 (v := (1 : Int32)) rfl (pc' := 227) rfl ?_
    refine g_if_y C at_227 (Jvm.Free.XT.i0_ne_t (by decide)) (pc' := 234) (by decide) (by decide) ?_
    refine g_iconst C at_234 (v := (0 : Int32)) rfl (pc' := 235) rfl ?_
    refine g_istore C at_235 (v := (0 : Int32)) (L' := #[.val (.int p0), .val (.int p1), .val (.int p2), .val (.int p3), .val (.int (1 : Int32)), .val (.int p), .val (.int ca), .val (.int cb), .val (.ref a_23), .val (.int (0 : Int32))]) rfl (pc' := 237) rfl ?_
    refine g_aload C at_237 (v := (.ref a_23)) rfl rfl (pc' := 239) rfl ?_
    have f_64 := (f_48.keep K_56)
    have f_65 := (f_47.keep K_56 (allS ge_a_23 all0))
    have f_66 := (Nat.le_trans f_51 K_56.1)
    refine g_static C (own_w hw 31 rfl) (own_w hw 32 rfl) (own_w hw 33 rfl) (own_w hw 34 rfl) (by decide) (rm_isPrim_2 l Z a0 hw n0 a_23 b_57 (Int8.toInt32 (Int32.toInt8 (91 : Int32))) (Int8.toInt32 (Int32.toInt8 p)) h_53 f_66 cm f_65 f_64 f_59 f_60 f_61) (st := []) [(.ref a_23)] rfl rfl own_pd_8_isPrimitive rfl rfl (by decide) (W := 0) (Nat.le_of_eq rfl) (by decide) (by decide) (by decide) at_239 (pc' := 242) rfl ?_
    intro v_69 h_67 q_68
    obtain ⟨rfl, rfl⟩ := q_68
    show Go B n0 _ h_53 3 8 242 #[.val (.int p0), .val (.int p1), .val (.int p2), .val (.int p3), .val (.int (1 : Int32)), .val (.int p), .val (.int ca), .val (.int cb), .val (.ref a_23), .val (.int (0 : Int32))] [(.int (0 : Int32))]
    refine g_iload C at_242 (v := (0 : Int32)) rfl (pc' := 244) rfl ?_
    refine g_icmp_n C at_244 (Jvm.Free.XT.ii_ne_f (by decide)) (pc' := 247) rfl ?_
    refine g_iconst C at_247 (v := (1 : Int32)) rfl (pc' := 248) rfl ?_
    refine g_goto C at_248 (pc' := 252) (by decide) (by decide) ?_
    refine g_ret C (v := (.int (1 : Int32))) (ty := .boolean) rfl rfl (Or.inl ⟨rfl, Or.inr (Or.inl rfl), _, rfl⟩) at_252 (by decide) (by decide) ?_
    rfl
  · subst i_4e
    show Go B n0 _ h0 0 0 34 #[.val (.int p0), .val (.int p1), .val (.int p2), .val (.int p3), .val (.int (2 : Int32)), .val (.int p), .val (.int ca), .val (.int cb), .unset, .unset] []
    refine g_iload C at_34 (v := (2 : Int32)) rfl (pc' := 36) rfl ?_
    refine g_if_y C at_36 (Jvm.Free.XT.i0_ne_t (by decide)) (pc' := 49) (by decide) (by decide) ?_
    refine g_iload C at_49 (v := (2 : Int32)) rfl (pc' := 51) rfl ?_
    refine g_iconst C at_51 (v := (1 : Int32)) rfl (pc' := 52) rfl ?_
    refine g_icmp_y C at_52 (Jvm.Free.XT.ii_ne_t (by decide)) (pc' := 80) (by decide) (by decide) ?_
    refine g_iload C at_80 (v := (2 : Int32)) rfl (pc' := 82) rfl ?_
    refine g_iconst C at_82 (v := (2 : Int32)) rfl (pc' := 83) rfl ?_
    refine g_icmp_n C at_83 (Jvm.Free.XT.ii_ne_f (by decide)) (pc' := 86) rfl ?_
    refine g_new C (own_w hw 45 rfl) (own_w hw 15 rfl) (own_w hw 7 rfl) (by decide) (by decide) at_86 (pc' := 89) rfl ?_
    intro h_70 a_71 g_72 E_73 A_74 D_75
    have ge_a_71 : n0 ≤ a_71 := Nat.le_trans Z0 (Nat.le_of_eq g_72.symm)
    have gs_a_71 : h0.size ≤ a_71 := Nat.le_trans (Nat.le_refl h0.size) (Nat.le_of_eq g_72.symm)
    have f_76 : Fld Z h_70 a_71 "java/lang/String" "value" "[B" .null := D_75 (Or.inr (own_w hw 28 rfl)) (ty := (.array .byte)) (by decide)
    have f_77 : Fld Z h_70 a_71 "java/lang/String" "coder" "B" (.int (0 : Int32)) := D_75 (Or.inr (own_w hw 30 rfl)) (ty := .byte) (by decide)
    show Go B n0 _ h_70 1 4 89 #[.val (.int p0), .val (.int p1), .val (.int p2), .val (.int p3), .val (.int (2 : Int32)), .val (.int p), .val (.int ca), .val (.int cb), .unset, .unset] [(.ref a_71)]
    refine g_dup C at_89 rfl (pc' := 90) rfl ?_
    refine g_iconst C at_90 (v := (3 : Int32)) rfl (pc' := 91) rfl ?_
    refine g_newarray C (own_w hw 46 rfl) (ty := .char) rfl (by decide) (cap := 3) (by decide) (by decide) (by decide) (by decide) at_91 (pc' := 93) rfl ?_
    intro h_78 a_79 g_80 E_81 A_82
    have ne_83 : a_71 ≠ a_79 := ne_new A_74.lt g_80
    have f_84 := (Nat.le_trans Z0 E_73.1)
    have ge_a_79 : n0 ≤ a_79 := Nat.le_trans f_84 (Nat.le_of_eq g_80.symm)
    have f_85 := (Nat.le_trans (Nat.le_refl h0.size) E_73.1)
    have gs_a_79 : h0.size ≤ a_79 := Nat.le_trans f_85 (Nat.le_of_eq g_80.symm)
    have f_86 : Ary Z h_78 a_79 .char [(.int (0 : Int32)), (.int (0 : Int32)), (.int (0 : Int32))] := A_82
    show Go B n0 _ h_78 2 7 93 #[.val (.int p0), .val (.int p1), .val (.int p2), .val (.int p3), .val (.int (2 : Int32)), .val (.int p), .val (.int ca), .val (.int cb), .unset, .unset] [(.ref a_79), (.ref a_71), (.ref a_71)]
    refine g_dup C at_93 rfl (pc' := 94) rfl ?_
    refine g_iconst C at_94 (v := (0 : Int32)) rfl (pc' := 95) rfl ?_
    refine g_bipush C at_95 (v := (91 : Int32)) rfl (pc' := 97) rfl ?_
    refine g_castore C f_86 (by decide) (i := 0) (by decide) (show 0 < 3 by decide) (w := (.int (91 : Int32))) rfl ge_a_79 at_97 (pc' := 98) rfl ?_
    intro h_87 K_88 A_89
    have f_90 : Ary Z h_87 a_79 .char [(.int (91 : Int32)), (.int (0 : Int32)), (.int (0 : Int32))] := A_89
    refine g_dup C at_98 rfl (pc' := 99) rfl ?_
    refine g_iconst C at_99 (v := (1 : Int32)) rfl (pc' := 100) rfl ?_
    refine g_bipush C at_100 (v := (91 : Int32)) rfl (pc' := 102) rfl ?_
    refine g_castore C f_90 (by decide) (i := 1) (by decide) (show 1 < 3 by decide) (w := (.int (91 : Int32))) rfl ge_a_79 at_102 (pc' := 103) rfl ?_
    intro h_91 K_92 A_93
    have f_94 : Ary Z h_91 a_79 .char [(.int (91 : Int32)), (.int (91 : Int32)), (.int (0 : Int32))] := A_93
    refine g_dup C at_103 rfl (pc' := 104) rfl ?_
    refine g_iconst C at_104 (v := (2 : Int32)) rfl (pc' := 105) rfl ?_
    refine g_iload C at_105 (v := p) rfl (pc' := 107) rfl ?_
    refine g_castore C f_94 (by decide) (i := 2) (by decide) (show 2 < 3 by decide) (w := (.int p)) (congrArg Value.int kp.1) ge_a_79 at_107 (pc' := 108) rfl ?_
    intro h_95 K_96 A_97
    have f_98 : Ary Z h_95 a_79 .char [(.int (91 : Int32)), (.int (91 : Int32)), (.int p)] := A_97
    have f_99 := (((((O.ext E_73).ext E_81).keep K_88 (allS ge_a_79 all0)).keep K_92 (allS ge_a_79 all0)).keep K_96 (allS ge_a_79 all0))
    have f_100 := ((((A_74.ext E_81).keep K_88).keep K_92).keep K_96)
    have f_101 := ((((f_76.ext E_81).keep K_88 (ninS ne_83 nin0)).keep K_92 (ninS ne_83 nin0)).keep K_96 (ninS ne_83 nin0))
    have f_102 := ((((f_77.ext E_81).keep K_88 (ninS ne_83 nin0)).keep K_92 (ninS ne_83 nin0)).keep K_96 (ninS ne_83 nin0))
    have f_103 := (Nat.le_trans (Nat.le_trans (Nat.le_trans (Nat.le_trans f_84 E_81.1) K_88.1) K_92.1) K_96.1)
    have f_104 := (Nat.le_trans (Nat.le_trans (Nat.le_trans (Nat.le_trans f_85 E_81.1) K_88.1) K_92.1) K_96.1)
    refine g_special C (a := a_71) rfl (own_w hw 47 rfl) (own_w hw 48 rfl) (own_w hw 7 rfl) (own_w hw 49 rfl) (by decide) (rm_init1_3 l Z a0 hw n0 a_71 a_79 (91 : Int32) (91 : Int32) p h_95 f_103 cm f_99 f_100 f_101 f_102 ge_a_71 f_98 ne_83 (by refine ⟨?_, ?_, ?_⟩ <;> decide) (by refine ⟨?_, ?_, ?_⟩ <;> decide) kp) (st := [(.ref a_71)]) [(.ref a_79)] rfl rfl own_pd_11_init rfl rfl (by decide) (W := 1) (Nat.le_of_eq rfl) (by decide) (by decide) (by decide) at_108 (pc' := 111) rfl ?_
    intro v_107 h_105 q_106
    obtain ⟨rfl, K_108, b_109, le_110, f_111, f_112, f_113⟩ := q_106
    have ne_114 : a_71 ≠ b_109 := ne_ge f_100.lt le_110
    have ne_115 : a_79 ≠ b_109 := ne_ge f_98.lt le_110
    have ge_b_109 : n0 ≤ b_109 := Nat.le_trans f_103 le_110
    have gs_b_109 : h0.size ≤ b_109 := Nat.le_trans f_104 le_110
    show Go B n0 _ h_105 3 10 111 #[.val (.int p0), .val (.int p1), .val (.int p2), .val (.int p3), .val (.int (2 : Int32)), .val (.int p), .val (.int ca), .val (.int cb), .unset, .unset] [(.ref a_71)]
    refine g_astore C at_111 (v := (.ref a_71)) (L' := #[.val (.int p0), .val (.int p1), .val (.int p2), .val (.int p3), .val (.int (2 : Int32)), .val (.int p), .val (.int ca), .val (.int cb), .val (.ref a_71), .unset]) rfl rfl (pc' := 113) rfl ?_
    refine g_goto C at_113 (pc' := 225) (by decide) (by decide) ?_
    refine g_iload C at_225 (v := (2 : Int32)) rfl (pc' := 227) rfl ?_
    refine g_if_y C at_227 (Jvm.Free.XT.i0_ne_t (by decide)) (pc' := 234) (by decide) (by decide) ?_
    refine g_iconst C at_234 (v := (0 : Int32)) rfl (pc' := 235) rfl ?_
    refine g_istore C at_235 (v := (0 : Int32)) (L' := #[.val (.int p0), .val (.int p1), .val (.int p2), .val (.int p3), .val (.int (2 : Int32)), .val (.int p), .val (.int ca), .val (.int cb), .val (.ref a_71), .val (.int (0 : Int32))]) rfl (pc' := 237) rfl ?_
    refine g_aload C at_237 (v := (.ref a_71)) rfl rfl (pc' := 239) rfl ?_
    have f_116 := (f_100.keep K_108)
    have f_117 := (f_99.keep K_108 (allS ge_a_71 all0))
    have f_118 := (Nat.le_trans f_103 K_108.1)
    refine g_static C (own_w hw 31 rfl) (own_w hw 32 rfl) (own_w hw 33 rfl) (own_w hw 34 rfl) (by decide) (rm_isPrim_3 l Z a0 hw n0 a_71 b_109 (Int8.toInt32 (Int32.toInt8 (91 : Int32))) (Int8.toInt32 (Int32.toInt8 (91 : Int32))) (Int8.toInt32 (Int32.toInt8 p)) h_105 f_118 cm f_117 f_116 f_111 f_112 f_113) (st := []) [(.ref a_71)] rfl rfl own_pd_8_isPrimitive rfl rfl (by decide) (W := 0) (Nat.le_of_eq rfl) (by decide) (by decide) (by decide) at_239 (pc' := 242) rfl ?_
    intro v_121 h_119 q_120
    obtain ⟨rfl, rfl⟩ := q_120
    show Go B n0 _ h_105 3 10 242 #[.val (.int p0), .val (.int p1), .val (.int p2), .val (.int p3), .val (.int (2 : Int32)), .val (.int p), .val (.int ca), .val (.int cb), .val (.ref a_71), .val (.int (0 : Int32))] [(.int (0 : Int32))]
    refine g_iload C at_242 (v := (0 : Int32)) rfl (pc' := 244) rfl ?_
    refine g_icmp_n C at_244 (Jvm.Free.XT.ii_ne_f (by decide)) (pc' := 247) rfl ?_
    refine g_iconst C at_247 (v := (1 : Int32)) rfl (pc' := 248) rfl ?_
    refine g_goto C at_248 (pc' := 252) (by decide) (by decide) ?_
    refine g_ret C (v := (.int (1 : Int32))) (ty := .boolean) rfl rfl (Or.inl ⟨rfl, Or.inr (Or.inl rfl), _, rfl⟩) at_252 (by decide) (by decide) ?_
    rfl
  · subst i_4e
    show Go B n0 _ h0 0 0 34 #[.val (.int p0), .val (.int p1), .val (.int p2), .val (.int p3), .val (.int (3 : Int32)), .val (.int p), .val (.int ca), .val (.int cb), .unset, .unset] []
    refine g_iload C at_34 (v := (3 : Int32)) rfl (pc' := 36) rfl ?_
    refine g_if_y C at_36 (Jvm.Free.XT.i0_ne_t (by decide)) (pc' := 49) (by decide) (by decide) ?_
    refine g_iload C at_49 (v := (3 : Int32)) rfl (pc' := 51) rfl ?_
    refine g_iconst C at_51 (v := (1 : Int32)) rfl (pc' := 52) rfl ?_
    refine g_icmp_y C at_52 (Jvm.Free.XT.ii_ne_t (by decide)) (pc' := 80) (by decide) (by decide) ?_
    refine g_iload C at_80 (v := (3 : Int32)) rfl (pc' := 82) rfl ?_
    refine g_iconst C at_82 (v := (2 : Int32)) rfl (pc' := 83) rfl ?_
    refine g_icmp_y C at_83 (Jvm.Free.XT.ii_ne_t (by decide)) (pc' := 116) (by decide) (by decide) ?_
    refine g_iload C at_116 (v := (3 : Int32)) rfl (pc' := 118) rfl ?_
    refine g_iconst C at_118 (v := (3 : Int32)) rfl (pc' := 119) rfl ?_
    refine g_icmp_n C at_119 (Jvm.Free.XT.ii_ne_f (by decide)) (pc' := 122) rfl ?_
    refine g_new C (own_w hw 45 rfl) (own_w hw 15 rfl) (own_w hw 7 rfl) (by decide) (by decide) at_122 (pc' := 125) rfl ?_
    intro h_122 a_123 g_124 E_125 A_126 D_127
    have ge_a_123 : n0 ≤ a_123 := Nat.le_trans Z0 (Nat.le_of_eq g_124.symm)
    have gs_a_123 : h0.size ≤ a_123 := Nat.le_trans (Nat.le_refl h0.size) (Nat.le_of_eq g_124.symm)
    have f_128 : Fld Z h_122 a_123 "java/lang/String" "value" "[B" .null := D_127 (Or.inr (own_w hw 28 rfl)) (ty := (.array .byte)) (by decide)
    have f_129 : Fld Z h_122 a_123 "java/lang/String" "coder" "B" (.int (0 : Int32)) := D_127 (Or.inr (own_w hw 30 rfl)) (ty := .byte) (by decide)
    show Go B n0 _ h_122 1 4 125 #[.val (.int p0), .val (.int p1), .val (.int p2), .val (.int p3), .val (.int (3 : Int32)), .val (.int p), .val (.int ca), .val (.int cb), .unset, .unset] [(.ref a_123)]
    refine g_dup C at_125 rfl (pc' := 126) rfl ?_
    refine g_iconst C at_126 (v := (3 : Int32)) rfl (pc' := 127) rfl ?_
    refine g_newarray C (own_w hw 46 rfl) (ty := .char) rfl (by decide) (cap := 3) (by decide) (by decide) (by decide) (by decide) at_127 (pc' := 129) rfl ?_
    intro h_130 a_131 g_132 E_133 A_134
    have ne_135 : a_123 ≠ a_131 := ne_new A_126.lt g_132
    have f_136 := (Nat.le_trans Z0 E_125.1)
    have ge_a_131 : n0 ≤ a_131 := Nat.le_trans f_136 (Nat.le_of_eq g_132.symm)
    have f_137 := (Nat.le_trans (Nat.le_refl h0.size) E_125.1)
    have gs_a_131 : h0.size ≤ a_131 := Nat.le_trans f_137 (Nat.le_of_eq g_132.symm)
    have f_138 : Ary Z h_130 a_131 .char [(.int (0 : Int32)), (.int (0 : Int32)), (.int (0 : Int32))] := A_134
    show Go B n0 _ h_130 2 7 129 #[.val (.int p0), .val (.int p1), .val (.int p2), .val (.int p3), .val (.int (3 : Int32)), .val (.int p), .val (.int ca), .val (.int cb), .unset, .unset] [(.ref a_131), (.ref a_123), (.ref a_123)]
    refine g_dup C at_129 rfl (pc' := 130) rfl ?_
    refine g_iconst C at_130 (v := (0 : Int32)) rfl (pc' := 131) rfl ?_
    refine g_bipush C at_131 (v := (76 : Int32)) rfl (pc' := 133) rfl ?_
    refine g_castore C f_138 (by decide) (i := 0) (by decide) (show 0 < 3 by decide) (w := (.int (76 : Int32))) rfl ge_a_131 at_133 (pc' := 134) rfl ?_
    intro h_139 K_140 A_141
    have f_142 : Ary Z h_139 a_131 .char [(.int (76 : Int32)), (.int (0 : Int32)), (.int (0 : Int32))] := A_141
    refine g_dup C at_134 rfl (pc' := 135) rfl ?_
    refine g_iconst C at_135 (v := (1 : Int32)) rfl (pc' := 136) rfl ?_
    refine g_iload C at_136 (v := ca) rfl (pc' := 138) rfl ?_
    refine g_castore C f_142 (by decide) (i := 1) (by decide) (show 1 < 3 by decide) (w := (.int ca)) (congrArg Value.int kca.1) ge_a_131 at_138 (pc' := 139) rfl ?_
    intro h_143 K_144 A_145
    have f_146 : Ary Z h_143 a_131 .char [(.int (76 : Int32)), (.int ca), (.int (0 : Int32))] := A_145
    refine g_dup C at_139 rfl (pc' := 140) rfl ?_
    refine g_iconst C at_140 (v := (2 : Int32)) rfl (pc' := 141) rfl ?_
    refine g_bipush C at_141 (v := (59 : Int32)) rfl (pc' := 143) rfl ?_
    refine g_castore C f_146 (by decide) (i := 2) (by decide) (show 2 < 3 by decide) (w := (.int (59 : Int32))) rfl ge_a_131 at_143 (pc' := 144) rfl ?_
    intro h_147 K_148 A_149
    have f_150 : Ary Z h_147 a_131 .char [(.int (76 : Int32)), (.int ca), (.int (59 : Int32))] := A_149
    have f_151 := (((((O.ext E_125).ext E_133).keep K_140 (allS ge_a_131 all0)).keep K_144 (allS ge_a_131 all0)).keep K_148 (allS ge_a_131 all0))
    have f_152 := ((((A_126.ext E_133).keep K_140).keep K_144).keep K_148)
    have f_153 := ((((f_128.ext E_133).keep K_140 (ninS ne_135 nin0)).keep K_144 (ninS ne_135 nin0)).keep K_148 (ninS ne_135 nin0))
    have f_154 := ((((f_129.ext E_133).keep K_140 (ninS ne_135 nin0)).keep K_144 (ninS ne_135 nin0)).keep K_148 (ninS ne_135 nin0))
    have f_155 := (Nat.le_trans (Nat.le_trans (Nat.le_trans (Nat.le_trans f_136 E_133.1) K_140.1) K_144.1) K_148.1)
    have f_156 := (Nat.le_trans (Nat.le_trans (Nat.le_trans (Nat.le_trans f_137 E_133.1) K_140.1) K_144.1) K_148.1)
    refine g_special C (a := a_123) rfl (own_w hw 47 rfl) (own_w hw 48 rfl) (own_w hw 7 rfl) (own_w hw 49 rfl) (by decide) (rm_init1_3 l Z a0 hw n0 a_123 a_131 (76 : Int32) ca (59 : Int32) h_147 f_155 cm f_151 f_152 f_153 f_154 ge_a_123 f_150 ne_135 (by refine ⟨?_, ?_, ?_⟩ <;> decide) kca (by refine ⟨?_, ?_, ?_⟩ <;> decide)) (st := [(.ref a_123)]) [(.ref a_131)] rfl rfl own_pd_11_init rfl rfl (by decide) (W := 1) (Nat.le_of_eq rfl) (by decide) (by decide) (by decide) at_144 (pc' := 147) rfl ?_
    intro v_159 h_157 q_158
    obtain ⟨rfl, K_160, b_161, le_162, f_163, f_164, f_165⟩ := q_158
    have ne_166 : a_123 ≠ b_161 := ne_ge f_152.lt le_162
    have ne_167 : a_131 ≠ b_161 := ne_ge f_150.lt le_162
    have ge_b_161 : n0 ≤ b_161 := Nat.le_trans f_155 le_162
    have gs_b_161 : h0.size ≤ b_161 := Nat.le_trans f_156 le_162
    show Go B n0 _ h_157 3 10 147 #[.val (.int p0), .val (.int p1), .val (.int p2), .val (.int p3), .val (.int (3 : Int32)), .val (.int p), .val (.int ca), .val (.int cb), .unset, .unset] [(.ref a_123)]
    refine g_astore C at_147 (v := (.ref a_123)) (L' := #[.val (.int p0), .val (.int p1), .val (.int p2), .val (.int p3), .val (.int (3 : Int32)), .val (.int p), .val (.int ca), .val (.int cb), .val (.ref a_123), .unset]) rfl rfl (pc' := 149) rfl ?_
    refine g_goto C at_149 (pc' := 225) (by decide) (by decide) ?_
    refine g_iload C at_225 (v := (3 : Int32)) rfl (pc' := 227) rfl ?_
    refine g_if_y C at_227 (Jvm.Free.XT.i0_ne_t (by decide)) (pc' := 234) (by decide) (by decide) ?_
    refine g_iconst C at_234 (v := (0 : Int32)) rfl (pc' := 235) rfl ?_
    refine g_istore C at_235 (v := (0 : Int32)) (L' := #[.val (.int p0), .val (.int p1), .val (.int p2), .val (.int p3), .val (.int (3 : Int32)), .val (.int p), .val (.int ca), .val (.int cb), .val (.ref a_123), .val (.int (0 : Int32))]) rfl (pc' := 237) rfl ?_
    refine g_aload C at_237 (v := (.ref a_123)) rfl rfl (pc' := 239) rfl ?_
    have f_168 := (f_152.keep K_160)
    have f_169 := (f_151.keep K_160 (allS ge_a_123 all0))
    have f_170 := (Nat.le_trans f_155 K_160.1)
    refine g_static C (own_w hw 31 rfl) (own_w hw 32 rfl) (own_w hw 33 rfl) (own_w hw 34 rfl) (by decide) (rm_isPrim_3 l Z a0 hw n0 a_123 b_161 (Int8.toInt32 (Int32.toInt8 (76 : Int32))) (Int8.toInt32 (Int32.toInt8 ca)) (Int8.toInt32 (Int32.toInt8 (59 : Int32))) h_157 f_170 cm f_169 f_168 f_163 f_164 f_165) (st := []) [(.ref a_123)] rfl rfl own_pd_8_isPrimitive rfl rfl (by decide) (W := 0) (Nat.le_of_eq rfl) (by decide) (by decide) (by decide) at_239 (pc' := 242) rfl ?_
    intro v_173 h_171 q_172
    obtain ⟨rfl, rfl⟩ := q_172
    show Go B n0 _ h_157 3 10 242 #[.val (.int p0), .val (.int p1), .val (.int p2), .val (.int p3), .val (.int (3 : Int32)), .val (.int p), .val (.int ca), .val (.int cb), .val (.ref a_123), .val (.int (0 : Int32))] [(.int (0 : Int32))]
    refine g_iload C at_242 (v := (0 : Int32)) rfl (pc' := 244) rfl ?_
    refine g_icmp_n C at_244 (Jvm.Free.XT.ii_ne_f (by decide)) (pc' := 247) rfl ?_
    refine g_iconst C at_247 (v := (1 : Int32)) rfl (pc' := 248) rfl ?_
    refine g_goto C at_248 (pc' := 252) (by decide) (by decide) ?_
    refine g_ret C (v := (.int (1 : Int32))) (ty := .boolean) rfl rfl (Or.inl ⟨rfl, Or.inr (Or.inl rfl), _, rfl⟩) at_252 (by decide) (by decide) ?_
    rfl
  · subst i_4e
    show Go B n0 _ h0 0 0 34 #[.val (.int p0), .val (.int p1), .val (.int p2), .val (.int p3), .val (.int (4 : Int32)), .val (.int p), .val (.int ca), .val (.int cb), .unset, .unset] []
    refine g_iload C at_34 (v := (4 : Int32)) rfl (pc' := 36) rfl ?_
    refine g_if_y C at_36 (Jvm.Free.XT.i0_ne_t (by decide)) (pc' := 49) (by decide) (by decide) ?_
    refine g_iload C at_49 (v := (4 : Int32)) rfl (pc' := 51) rfl ?_
    refine g_iconst C at_51 (v := (1 : Int32)) rfl (pc' := 52) rfl ?_
    refine g_icmp_y C at_52 (Jvm.Free.XT.ii_ne_t (by decide)) (pc' := 80) (by decide) (by decide) ?_
    refine g_iload C at_80 (v := (4 : Int32)) rfl (pc' := 82) rfl ?_
    refine g_iconst C at_82 (v := (2 : Int32)) rfl (pc' := 83) rfl ?_
    refine g_icmp_y C at_83 (Jvm.Free.XT.ii_ne_t (by decide)) (pc' := 116) (by decide) (by decide) ?_
    refine g_iload C at_116 (v := (4 : Int32)) rfl (pc' := 118) rfl ?_
    refine g_iconst C at_118 (v := (3 : Int32)) rfl (pc' := 119) rfl ?_
    refine g_icmp_y C at_119 (Jvm.Free.XT.ii_ne_t (by decide)) (pc' := 152) (by decide) (by decide) ?_
    refine g_iload C at_152 (v := (4 : Int32)) rfl (pc' := 154) rfl ?_
    refine g_iconst C at_154 (v := (4 : Int32)) rfl (pc' := 155) rfl ?_
    refine g_icmp_n C at_155 (Jvm.Free.XT.ii_ne_f (by decide)) (pc' := 158) rfl ?_
    refine g_new C (own_w hw 45 rfl) (own_w hw 15 rfl) (own_w hw 7 rfl) (by decide) (by decide) at_158 (pc' := 161) rfl ?_
    intro h_174 a_175 g_176 E_177 A_178 D_179
    have ge_a_175 : n0 ≤ a_175 := Nat.le_trans Z0 (Nat.le_of_eq g_176.symm)
    have gs_a_175 : h0.size ≤ a_175 := Nat.le_trans (Nat.le_refl h0.size) (Nat.le_of_eq g_176.symm)
    have f_180 : Fld Z h_174 a_175 "java/lang/String" "value" "[B" .null := D_179 (Or.inr (own_w hw 28 rfl)) (ty := (.array .byte)) (by decide)
    have f_181 : Fld Z h_174 a_175 "java/lang/String" "coder" "B" (.int (0 : Int32)) := D_179 (Or.inr (own_w hw 30 rfl)) (ty := .byte) (by decide)
    show Go B n0 _ h_174 1 4 161 #[.val (.int p0), .val (.int p1), .val (.int p2), .val (.int p3), .val (.int (4 : Int32)), .val (.int p), .val (.int ca), .val (.int cb), .unset, .unset] [(.ref a_175)]
    refine g_dup C at_161 rfl (pc' := 162) rfl ?_
    refine g_iconst C at_162 (v := (4 : Int32)) rfl (pc' := 163) rfl ?_
    refine g_newarray C (own_w hw 46 rfl) (ty := .char) rfl (by decide) (cap := 4) (by decide) (by decide) (by decide) (by decide) at_163 (pc' := 165) rfl ?_
    intro h_182 a_183 g_184 E_185 A_186
    have ne_187 : a_175 ≠ a_183 := ne_new A_178.lt g_184
    have f_188 := (Nat.le_trans Z0 E_177.1)
    have ge_a_183 : n0 ≤ a_183 := Nat.le_trans f_188 (Nat.le_of_eq g_184.symm)
    have f_189 := (Nat.le_trans (Nat.le_refl h0.size) E_177.1)
    have gs_a_183 : h0.size ≤ a_183 := Nat.le_trans f_189 (Nat.le_of_eq g_184.symm)
    have f_190 : Ary Z h_182 a_183 .char [(.int (0 : Int32)), (.int (0 : Int32)), (.int (0 : Int32)), (.int (0 : Int32))] := A_186
    show Go B n0 _ h_182 2 8 165 #[.val (.int p0), .val (.int p1), .val (.int p2), .val (.int p3), .val (.int (4 : Int32)), .val (.int p), .val (.int ca), .val (.int cb), .unset, .unset] [(.ref a_183), (.ref a_175), (.ref a_175)]
    refine g_dup C at_165 rfl (pc' := 166) rfl ?_
    refine g_iconst C at_166 (v := (0 : Int32)) rfl (pc' := 167) rfl ?_
    refine g_bipush C at_167 (v := (76 : Int32)) rfl (pc' := 169) rfl ?_
    refine g_castore C f_190 (by decide) (i := 0) (by decide) (show 0 < 4 by decide) (w := (.int (76 : Int32))) rfl ge_a_183 at_169 (pc' := 170) rfl ?_
    intro h_191 K_192 A_193
    have f_194 : Ary Z h_191 a_183 .char [(.int (76 : Int32)), (.int (0 : Int32)), (.int (0 : Int32)), (.int (0 : Int32))] := A_193
    refine g_dup C at_170 rfl (pc' := 171) rfl ?_
    refine g_iconst C at_171 (v := (1 : Int32)) rfl (pc' := 172) rfl ?_
    refine g_iload C at_172 (v := ca) rfl (pc' := 174) rfl ?_
    refine g_castore C f_194 (by decide) (i := 1) (by decide) (show 1 < 4 by decide) (w := (.int ca)) (congrArg Value.int kca.1) ge_a_183 at_174 (pc' := 175) rfl ?_
    intro h_195 K_196 A_197
    have f_198 : Ary Z h_195 a_183 .char [(.int (76 : Int32)), (.int ca), (.int (0 : Int32)), (.int (0 : Int32))] := A_197
    refine g_dup C at_175 rfl (pc' := 176) rfl ?_
    refine g_iconst C at_176 (v := (2 : Int32)) rfl (pc' := 177) rfl ?_
    refine g_iload C at_177 (v := cb) rfl (pc' := 179) rfl ?_
    refine g_castore C f_198 (by decide) (i := 2) (by decide) (show 2 < 4 by decide) (w := (.int cb)) (congrArg Value.int kcb.1) ge_a_183 at_179 (pc' := 180) rfl ?_
    intro h_199 K_200 A_201
    have f_202 : Ary Z h_199 a_183 .char [(.int (76 : Int32)), (.int ca), (.int cb), (.int (0 : Int32))] := A_201
    refine g_dup C at_180 rfl (pc' := 181) rfl ?_
    refine g_iconst C at_181 (v := (3 : Int32)) rfl (pc' := 182) rfl ?_
    refine g_bipush C at_182 (v := (59 : Int32)) rfl (pc' := 184) rfl ?_
    refine g_castore C f_202 (by decide) (i := 3) (by decide) (show 3 < 4 by decide) (w := (.int (59 : Int32))) rfl ge_a_183 at_184 (pc' := 185) rfl ?_
    intro h_203 K_204 A_205
    have f_206 : Ary Z h_203 a_183 .char [(.int (76 : Int32)), (.int ca), (.int cb), (.int (59 : Int32))] := A_205
    have f_207 := ((((((O.ext E_177).ext E_185).keep K_192 (allS ge_a_183 all0)).keep K_196 (allS ge_a_183 all0)).keep K_200 (allS ge_a_183 all0)).keep K_204 (allS ge_a_183 all0))
    have f_208 := (((((A_178.ext E_185).keep K_192).keep K_196).keep K_200).keep K_204)
    have f_209 := (((((f_180.ext E_185).keep K_192 (ninS ne_187 nin0)).keep K_196 (ninS ne_187 nin0)).keep K_200 (ninS ne_187 nin0)).keep K_204 (ninS ne_187 nin0))
    have f_210 := (((((f_181.ext E_185).keep K_192 (ninS ne_187 nin0)).keep K_196 (ninS ne_187 nin0)).keep K_200 (ninS ne_187 nin0)).keep K_204 (ninS ne_187 nin0))
    have f_211 := (Nat.le_trans (Nat.le_trans (Nat.le_trans (Nat.le_trans (Nat.le_trans f_188 E_185.1) K_192.1) K_196.1) K_200.1) K_204.1)
    have f_212 := (Nat.le_trans (Nat.le_trans (Nat.le_trans (Nat.le_trans (Nat.le_trans f_189 E_185.1) K_192.1) K_196.1) K_200.1) K_204.1)
    refine g_special C (a := a_175) rfl (own_w hw 47 rfl) (own_w hw 48 rfl) (own_w hw 7 rfl) (own_w hw 49 rfl) (by decide) (rm_init1_4 l Z a0 hw n0 a_175 a_183 (76 : Int32) ca cb (59 : Int32) h_203 f_211 cm f_207 f_208 f_209 f_210 ge_a_175 f_206 ne_187 (by refine ⟨?_, ?_, ?_⟩ <;> decide) kca kcb (by refine ⟨?_, ?_, ?_⟩ <;> decide)) (st := [(.ref a_175)]) [(.ref a_183)] rfl rfl own_pd_11_init rfl rfl (by decide) (W := 1) (Nat.le_of_eq rfl) (by decide) (by decide) (by decide) at_185 (pc' := 188) rfl ?_
    intro v_215 h_213 q_214
    obtain ⟨rfl, K_216, b_217, le_218, f_219, f_220, f_221⟩ := q_214
    have ne_222 : a_175 ≠ b_217 := ne_ge f_208.lt le_218
    have ne_223 : a_183 ≠ b_217 := ne_ge f_206.lt le_218
    have ge_b_217 : n0 ≤ b_217 := Nat.le_trans f_211 le_218
    have gs_b_217 : h0.size ≤ b_217 := Nat.le_trans f_212 le_218
    show Go B n0 _ h_213 3 12 188 #[.val (.int p0), .val (.int p1), .val (.int p2), .val (.int p3), .val (.int (4 : Int32)), .val (.int p), .val (.int ca), .val (.int cb), .unset, .unset] [(.ref a_175)]
    refine g_astore C at_188 (v := (.ref a_175)) (L' := #[.val (.int p0), .val (.int p1), .val (.int p2), .val (.int p3), .val (.int (4 : Int32)), .val (.int p), .val (.int ca), .val (.int cb), .val (.ref a_175), .unset]) rfl rfl (pc' := 190) rfl ?_
    refine g_goto C at_190 (pc' := 225) (by decide) (by decide) ?_
    refine g_iload C at_225 (v := (4 : Int32)) rfl (pc' := 227) rfl ?_
    refine g_if_y C at_227 (Jvm.Free.XT.i0_ne_t (by decide)) (pc' := 234) (by decide) (by decide) ?_
    refine g_iconst C at_234 (v := (0 : Int32)) rfl (pc' := 235) rfl ?_
    refine g_istore C at_235 (v := (0 : Int32)) (L' := #[.val (.int p0), .val (.int p1), .val (.int p2), .val (.int p3), .val (.int (4 : Int32)), .val (.int p), .val (.int ca), .val (.int cb), .val (.ref a_175), .val (.int (0 : Int32))]) rfl (pc' := 237) rfl ?_
    refine g_aload C at_237 (v := (.ref a_175)) rfl rfl (pc' := 239) rfl ?_
    have f_224 := (f_208.keep K_216)
    have f_225 := (f_207.keep K_216 (allS ge_a_175 all0))
    have f_226 := (Nat.le_trans f_211 K_216.1)
    refine g_static C (own_w hw 31 rfl) (own_w hw 32 rfl) (own_w hw 33 rfl) (own_w hw 34 rfl) (by decide) (rm_isPrim_4 l Z a0 hw n0 a_175 b_217 (Int8.toInt32 (Int32.toInt8 (76 : Int32))) (Int8.toInt32 (Int32.toInt8 ca)) (Int8.toInt32 (Int32.toInt8 cb)) (Int8.toInt32 (Int32.toInt8 (59 : Int32))) h_213 f_226 cm f_225 f_224 f_219 f_220 f_221) (st := []) [(.ref a_175)] rfl rfl own_pd_8_isPrimitive rfl rfl (by decide) (W := 0) (Nat.le_of_eq rfl) (by decide) (by decide) (by decide) at_239 (pc' := 242) rfl ?_
    intro v_229 h_227 q_228
    obtain ⟨rfl, rfl⟩ := q_228
    show Go B n0 _ h_213 3 12 242 #[.val (.int p0), .val (.int p1), .val (.int p2), .val (.int p3), .val (.int (4 : Int32)), .val (.int p), .val (.int ca), .val (.int cb), .val (.ref a_175), .val (.int (0 : Int32))] [(.int (0 : Int32))]
    refine g_iload C at_242 (v := (0 : Int32)) rfl (pc' := 244) rfl ?_
    refine g_icmp_n C at_244 (Jvm.Free.XT.ii_ne_f (by decide)) (pc' := 247) rfl ?_
    refine g_iconst C at_247 (v := (1 : Int32)) rfl (pc' := 248) rfl ?_
    refine g_goto C at_248 (pc' := 252) (by decide) (by decide) ?_
    refine g_ret C (v := (.int (1 : Int32))) (ty := .boolean) rfl rfl (Or.inl ⟨rfl, Or.inr (Or.inl rfl), _, rfl⟩) at_252 (by decide) (by decide) ?_
    rfl
  · subst i_4e
    show Go B n0 _ h0 0 0 34 #[.val (.int p0), .val (.int p1), .val (.int p2), .val (.int p3), .val (.int (5 : Int32)), .val (.int p), .val (.int ca), .val (.int cb), .unset, .unset] []
    refine g_iload C at_34 (v := (5 : Int32)) rfl (pc' := 36) rfl ?_
    refine g_if_y C at_36 (Jvm.Free.XT.i0_ne_t (by decide)) (pc' := 49) (by decide) (by decide) ?_
    refine g_iload C at_49 (v := (5 : Int32)) rfl (pc' := 51) rfl ?_
    refine g_iconst C at_51 (v := (1 : Int32)) rfl (pc' := 52) rfl ?_
    refine g_icmp_y C at_52 (Jvm.Free.XT.ii_ne_t (by decide)) (pc' := 80) (by decide) (by decide) ?_
    refine g_iload C at_80 (v := (5 : Int32)) rfl (pc' := 82) rfl ?_
    refine g_iconst C at_82 (v := (2 : Int32)) rfl (pc' := 83) rfl ?_
    refine g_icmp_y C at_83 (Jvm.Free.XT.ii_ne_t (by decide)) (pc' := 116) (by decide) (by decide) ?_
    refine g_iload C at_116 (v := (5 : Int32)) rfl (pc' := 118) rfl ?_
    refine g_iconst C at_118 (v := (3 : Int32)) rfl (pc' := 119) rfl ?_
    refine g_icmp_y C at_119 (Jvm.Free.XT.ii_ne_t (by decide)) (pc' := 152) (by decide) (by decide) ?_
    refine g_iload C at_152 (v := (5 : Int32)) rfl (pc' := 154) rfl ?_
    refine g_iconst C at_154 (v := (4 : Int32)) rfl (pc' := 155) rfl ?_
    refine g_icmp_y C at_155 (Jvm.Free.XT.ii_ne_t (by decide)) (pc' := 193) (by decide) (by decide) ?_
    refine g_new C (own_w hw 45 rfl) (own_w hw 15 rfl) (own_w hw 7 rfl) (by decide) (by decide) at_193 (pc' := 196) rfl ?_
    intro h_230 a_231 g_232 E_233 A_234 D_235
    have ge_a_231 : n0 ≤ a_231 := Nat.le_trans Z0 (Nat.le_of_eq g_232.symm)
    have gs_a_231 : h0.size ≤ a_231 := Nat.le_trans (Nat.le_refl h0.size) (Nat.le_of_eq g_232.symm)
    have f_236 : Fld Z h_230 a_231 "java/lang/String" "value" "[B" .null := D_235 (Or.inr (own_w hw 28 rfl)) (ty := (.array .byte)) (by decide)
    have f_237 : Fld Z h_230 a_231 "java/lang/String" "coder" "B" (.int (0 : Int32)) := D_235 (Or.inr (own_w hw 30 rfl)) (ty := .byte) (by decide)
    show Go B n0 _ h_230 1 4 196 #[.val (.int p0), .val (.int p1), .val (.int p2), .val (.int p3), .val (.int (5 : Int32)), .val (.int p), .val (.int ca), .val (.int cb), .unset, .unset] [(.ref a_231)]
    refine g_dup C at_196 rfl (pc' := 197) rfl ?_
    refine g_iconst C at_197 (v := (4 : Int32)) rfl (pc' := 198) rfl ?_
    refine g_newarray C (own_w hw 46 rfl) (ty := .char) rfl (by decide) (cap := 4) (by decide) (by decide) (by decide) (by decide) at_198 (pc' := 200) rfl ?_
    intro h_238 a_239 g_240 E_241 A_242
    have ne_243 : a_231 ≠ a_239 := ne_new A_234.lt g_240
    have f_244 := (Nat.le_trans Z0 E_233.1)
    have ge_a_239 : n0 ≤ a_239 := Nat.le_trans f_244 (Nat.le_of_eq g_240.symm)
    have f_245 := (Nat.le_trans (Nat.le_refl h0.size) E_233.1)
    have gs_a_239 : h0.size ≤ a_239 := Nat.le_trans f_245 (Nat.le_of_eq g_240.symm)
    have f_246 : Ary Z h_238 a_239 .char [(.int (0 : Int32)), (.int (0 : Int32)), (.int (0 : Int32)), (.int (0 : Int32))] := A_242
    show Go B n0 _ h_238 2 8 200 #[.val (.int p0), .val (.int p1), .val (.int p2), .val (.int p3), .val (.int (5 : Int32)), .val (.int p), .val (.int ca), .val (.int cb), .unset, .unset] [(.ref a_239), (.ref a_231), (.ref a_231)]
    refine g_dup C at_200 rfl (pc' := 201) rfl ?_
    refine g_iconst C at_201 (v := (0 : Int32)) rfl (pc' := 202) rfl ?_
    refine g_bipush C at_202 (v := (91 : Int32)) rfl (pc' := 204) rfl ?_
    refine g_castore C f_246 (by decide) (i := 0) (by decide) (show 0 < 4 by decide) (w := (.int (91 : Int32))) rfl ge_a_239 at_204 (pc' := 205) rfl ?_
    intro h_247 K_248 A_249
    have f_250 : Ary Z h_247 a_239 .char [(.int (91 : Int32)), (.int (0 : Int32)), (.int (0 : Int32)), (.int (0 : Int32))] := A_249
    refine g_dup C at_205 rfl (pc' := 206) rfl ?_
    refine g_iconst C at_206 (v := (1 : Int32)) rfl (pc' := 207) rfl ?_
    refine g_bipush C at_207 (v := (76 : Int32)) rfl (pc' := 209) rfl ?_
    refine g_castore C f_250 (by decide) (i := 1) (by decide) (show 1 < 4 by decide) (w := (.int (76 : Int32))) rfl ge_a_239 at_209 (pc' := 210) rfl ?_
    intro h_251 K_252 A_253
    have f_254 : Ary Z h_251 a_239 .char [(.int (91 : Int32)), (.int (76 : Int32)), (.int (0 : Int32)), (.int (0 : Int32))] := A_253
    refine g_dup C at_210 rfl (pc' := 211) rfl ?_
    refine g_iconst C at_211 (v := (2 : Int32)) rfl (pc' := 212) rfl ?_
    refine g_iload C at_212 (v := ca) rfl (pc' := 214) rfl ?_
    refine g_castore C f_254 (by decide) (i := 2) (by decide) (show 2 < 4 by decide) (w := (.int ca)) (congrArg Value.int kca.1) ge_a_239 at_214 (pc' := 215) rfl ?_
    intro h_255 K_256 A_257
    have f_258 : Ary Z h_255 a_239 .char [(.int (91 : Int32)), (.int (76 : Int32)), (.int ca), (.int (0 : Int32))] := A_257
    refine g_dup C at_215 rfl (pc' := 216) rfl ?_
    refine g_iconst C at_216 (v := (3 : Int32)) rfl (pc' := 217) rfl ?_
    refine g_bipush C at_217 (v := (59 : Int32)) rfl (pc' := 219) rfl ?_
    refine g_castore C f_258 (by decide) (i := 3) (by decide) (show 3 < 4 by decide) (w := (.int (59 : Int32))) rfl ge_a_239 at_219 (pc' := 220) rfl ?_
    intro h_259 K_260 A_261
    have f_262 : Ary Z h_259 a_239 .char [(.int (91 : Int32)), (.int (76 : Int32)), (.int ca), (.int (59 : Int32))] := A_261
    have f_263 := ((((((O.ext E_233).ext E_241).keep K_248 (allS ge_a_239 all0)).keep K_252 (allS ge_a_239 all0)).keep K_256 (allS ge_a_239 all0)).keep K_260 (allS ge_a_239 all0))
    have f_264 := (((((A_234.ext E_241).keep K_248).keep K_252).keep K_256).keep K_260)
    have f_265 := (((((f_236.ext E_241).keep K_248 (ninS ne_243 nin0)).keep K_252 (ninS ne_243 nin0)).keep K_256 (ninS ne_243 nin0)).keep K_260 (ninS ne_243 nin0))
    have f_266 := (((((f_237.ext E_241).keep K_248 (ninS ne_243 nin0)).keep K_252 (ninS ne_243 nin0)).keep K_256 (ninS ne_243 nin0)).keep K_260 (ninS ne_243 nin0))
    have f_267 := (Nat.le_trans (Nat.le_trans (Nat.le_trans (Nat.le_trans (Nat.le_trans f_244 E_241.1) K_248.1) K_252.1) K_256.1) K_260.1)
    have f_268 := (Nat.le_trans (Nat.le_trans (Nat.le_trans (Nat.le_trans (Nat.le_trans f_245 E_241.1) K_248.1) K_252.1) K_256.1) K_260.1)
    refine g_special C (a := a_231) rfl (own_w hw 47 rfl) (own_w hw 48 rfl) (own_w hw 7 rfl) (own_w hw 49 rfl) (by decide) (rm_init1_4 l Z a0 hw n0 a_231 a_239 (91 : Int32) (76 : Int32) ca (59 : Int32) h_259 f_267 cm f_263 f_264 f_265 f_266 ge_a_231 f_262 ne_243 (by refine ⟨?_, ?_, ?_⟩ <;> decide) (by refine ⟨?_, ?_, ?_⟩ <;> decide) kca (by refine ⟨?_, ?_, ?_⟩ <;> decide)) (st := [(.ref a_231)]) [(.ref a_239)] rfl rfl own_pd_11_init rfl rfl (by decide) (W := 1) (Nat.le_of_eq rfl) (by decide) (by decide) (by decide) at_220 (pc' := 223) rfl ?_
    intro v_271 h_269 q_270
    obtain ⟨rfl, K_272, b_273, le_274, f_275, f_276, f_277⟩ := q_270
    have ne_278 : a_231 ≠ b_273 := ne_ge f_264.lt le_274
    have ne_279 : a_239 ≠ b_273 := ne_ge f_262.lt le_274
    have ge_b_273 : n0 ≤ b_273 := Nat.le_trans f_267 le_274
    have gs_b_273 : h0.size ≤ b_273 := Nat.le_trans f_268 le_274
    show Go B n0 _ h_269 3 12 223 #[.val (.int p0), .val (.int p1), .val (.int p2), .val (.int p3), .val (.int (5 : Int32)), .val (.int p), .val (.int ca), .val (.int cb), .unset, .unset] [(.ref a_231)]
    refine g_astore C at_223 (v := (.ref a_231)) (L' := #[.val (.int p0), .val (.int p1), .val (.int p2), .val (.int p3), .val (.int (5 : Int32)), .val (.int p), .val (.int ca), .val (.int cb), .val (.ref a_231), .unset]) rfl rfl (pc' := 225) rfl ?_
    refine g_iload C at_225 (v := (5 : Int32)) rfl (pc' := 227) rfl ?_
    refine g_if_y C at_227 (Jvm.Free.XT.i0_ne_t (by decide)) (pc' := 234) (by decide) (by decide) ?_
    refine g_iconst C at_234 (v := (0 : Int32)) rfl (pc' := 235) rfl ?_
    refine g_istore C at_235 (v := (0 : Int32)) (L' := #[.val (.int p0), .val (.int p1), .val (.int p2), .val (.int p3), .val (.int (5 : Int32)), .val (.int p), .val (.int ca), .val (.int cb), .val (.ref a_231), .val (.int (0 : Int32))]) rfl (pc' := 237) rfl ?_
    refine g_aload C at_237 (v := (.ref a_231)) rfl rfl (pc' := 239) rfl ?_
    have f_280 := (f_264.keep K_272)
    have f_281 := (f_263.keep K_272 (allS ge_a_231 all0))
    have f_282 := (Nat.le_trans f_267 K_272.1)
    refine g_static C (own_w hw 31 rfl) (own_w hw 32 rfl) (own_w hw 33 rfl) (own_w hw 34 rfl) (by decide) (rm_isPrim_4 l Z a0 hw n0 a_231 b_273 (Int8.toInt32 (Int32.toInt8 (91 : Int32))) (Int8.toInt32 (Int32.toInt8 (76 : Int32))) (Int8.toInt32 (Int32.toInt8 ca)) (Int8.toInt32 (Int32.toInt8 (59 : Int32))) h_269 f_282 cm f_281 f_280 f_275 f_276 f_277) (st := []) [(.ref a_231)] rfl rfl own_pd_8_isPrimitive rfl rfl (by decide) (W := 0) (Nat.le_of_eq rfl) (by decide) (by decide) (by decide) at_239 (pc' := 242) rfl ?_
    intro v_285 h_283 q_284
    obtain ⟨rfl, rfl⟩ := q_284
    show Go B n0 _ h_269 3 12 242 #[.val (.int p0), .val (.int p1), .val (.int p2), .val (.int p3), .val (.int (5 : Int32)), .val (.int p), .val (.int ca), .val (.int cb), .val (.ref a_231), .val (.int (0 : Int32))] [(.int (0 : Int32))]
    refine g_iload C at_242 (v := (0 : Int32)) rfl (pc' := 244) rfl ?_
    refine g_icmp_n C at_244 (Jvm.Free.XT.ii_ne_f (by decide)) (pc' := 247) rfl ?_
    refine g_iconst C at_247 (v := (1 : Int32)) rfl (pc' := 248) rfl ?_
    refine g_goto C at_248 (pc' := 252) (by decide) (by decide) ?_
    refine g_ret C (v := (.int (1 : Int32))) (ty := .boolean) rfl rfl (Or.inl ⟨rfl, Or.inr (Or.inl rfl), _, rfl⟩) at_252 (by decide) (by decide) ?_
    rfl
set_option maxRecDepth 65536 in
set_option maxHeartbeats 40000000 in
theorem comes_1 {Post : Tables → Env → Array Value → State → Outcome → State → Prop} (hpost : ∀ tb e args s v u, (limb_1_1.after args s (.returned v) u = true ∧ limb_1_2.after args s (.returned v) u = true ∧ True) → FrameEnd s (.returned v) u (Jvm.fieldLocs frame_1_writes args s ++ Jvm.arrayLocs frame_1_arrays args s ++ Jvm.staticLocs frame_1_statics s) 16 128 → Post tb e args s (.returned v) u) :
    ArmFor flags0 classFile x code maxLocals ret World_1 tables_1 room_1 Calls_1 rest_1 Pre_1 Post := by
  intro l hfl _ _ p e ha hc hk s m args below hf hA hF happ hP
  obtain ⟨hcalls, hrest, hpre⟩ := hP
  obtain ⟨-, -, -, hnamed, -, -, -, hat⟩ := (Spec.applies_iff hf).mp happ
  obtain ⟨hg, hn⟩ := and_e (Cond.before_iff.mp (show (Jvm.Cond.and given_1 narrow_1).before args s = true from hpre))
  obtain ⟨gc, gr0⟩ := and_e hg
  obtain ⟨ga0, gr1⟩ := and_e gr0
  obtain ⟨ga1, gr2⟩ := and_e gr1
  obtain ⟨ga2, gr3⟩ := and_e gr2
  obtain ⟨w0, w1, w2, w3, rfl⟩ : ∃ w0 w1 w2 w3 : Value, args = #[w0, w1, w2, w3] := by
    have hs : args.size = 4 := by simpa [Cond.value, given_1] using gc
    obtain ⟨L⟩ := args
    match L, hs with
    | [w0, w1, w2, w3], _ => exact ⟨w0, w1, w2, w3, rfl⟩
  have hw := fun d (hd : d ∈ tables_1) => atoms_spec (ws := Jvm.Cond.code x code maxLocals ret :: tables_1) hat d (List.mem_cons_of_mem _ hd)
  have hfit : Fit s := fun {y c} hc i hi => by
    obtain ⟨ha, rfl⟩ := Array.getElem?_eq_some_iff.mp hc
    have q := List.all_eq_true.mp ((Array.all_eq_true_iff_forall_mem.mp hF) _ (Array.getElem_mem ha)) i (List.mem_range.mpr hi)
    simpa [Array.getElem?_eq_getElem hi] using q
  obtain ⟨i0, ei0⟩ := is_v ga0
  obtain rfl : w0 = (.int i0) := Option.some.inj ei0
  obtain ⟨i1, ei1⟩ := is_v ga1
  obtain rfl : w1 = (.int i1) := Option.some.inj ei1
  obtain ⟨i2, ei2⟩ := is_v ga2
  obtain rfl : w2 = (.int i2) := Option.some.inj ei2
  obtain ⟨i3, ei3⟩ := is_v gr3
  obtain rfl : w3 = (.int i3) := Option.some.inj ei3
  have hr0 : rest_1_c.before _ s = true := hrest
  rw [rest_1_c_eq] at hr0
  obtain ⟨hjs, -⟩ := atoms_of jdkStatics_1 hr0
  have hj := fun (k : Nat) {d : Jvm.Cond} (e : jdkStatics_1[k]? = some d) => hjs d (List.mem_of_getElem? e)
  have cm : Cmp s := own_cmp (hj 0 rfl) (hj 1 rfl) (hj 2 rfl)
  obtain ⟨n, o, h1, h2, h3, _, L, rfl, ⟨N, rfl⟩, hq⟩ := rm_law l s _ hw s.heap.size i0 i1 i2 i3  s.heap (Nat.le_refl _) cm (Old.start s) tables_1 p e ha hc hk s m _ below hf ((Spec.applies_iff_loose hf).mp happ).1 ⟨rfl, State.Warmed39.refl s, rfl⟩ trivial
  refine ⟨n, _, h1, h2, h3, hpost _ _ _ _ _ _ ⟨Cond.after_iff.mpr rfl, Cond.after_iff.mpr (eq_i res_at (Term.int_eval (1)) rfl), trivial⟩ ⟨hq.1, hq.2.1, (hq.2.2.sift fun y hy => Or.inr (N y hy)).mono (by decide) (by decide)⟩⟩
theorem main_1_1 : Claimed_1_1 := comes_1 fun _ _ _ _ _ _ h hF => ⟨h.1, hF⟩
theorem main_1_2 : Claimed_1_2 := comes_1 fun _ _ _ _ _ _ h hF => ⟨h.2.1, hF⟩
end Jvm.Pilot.@@N@@
namespace Jvm.Pilot.@@N@@
open Jvm Jvm.ClassFile Sem Op Lib Jvm.Free Jvm.Stand Jvm.Pilot.@@N@@.Jvm.D
/-! MADE BY PROGRAM (witnessworld.py) out of the Statement's table words and the real class files: 20 classes; the members and pool entries that the words name. The judged class is class 1, her method 1. -/
namespace start1
open Jvm.ClassFile
def u (s : String) : CpInfo := .utf8 (stringToUtf16 s)
/-- a pool by its gaps: so many unusable entries, then the entry; so many at the end -/
def gap : Nat → List CpInfo → List CpInfo
  | 0, r => r
  | n + 1, r => .unusable :: gap n r
def poolList (es : List (Nat × CpInfo)) (last : Nat) : List CpInfo := es.foldr (fun e r => gap e.1 (e.2 :: r)) (gap last [])
def pool (es : List (Nat × CpInfo)) (last : Nat) : Array CpInfo := ⟨poolList es last⟩
def fileOf (pool : Array CpInfo) (this : Nat) (attrs : Array Attribute := #[]) (ms : Array MethodInfo := #[]) (fl : Nat := 33) (sup : Nat := 0) (ifs : Array Nat := #[]) (fds : Array FieldInfo := #[]) : ClassFile where
  minorVersion := 0
  majorVersion := 65
  constantPool := pool
  accessFlags := fl
  thisClass := this
  superClass := sup
  interfaces := ifs
  fields := fds
  methods := ms
  attributes := attrs
def plain (name : String) (sup : Option ClassId) : Class where
  name := name
  kind := .ordinary
  loader := none
  accessFlags := 33
  super := sup
  interfaces := #[]
  cf := none
  fields := #[]
  methods := #[]
  instanceTypes := #[]
  staticTypes := #[]
  resolved := #[]
  callSites := []
  init := .initialized
  statics := none
  mirror := none

def pool0 : Array CpInfo := pool [(5, u "<init>"), (0, u "()V"), (1, .class_ 10), (1, u "java/lang/Object")] 113

def k0c0 : Code := { maxStack := 0, maxLocals := 1, code := object_method_1_code, exceptionTable := #[], attributes := #[] }
def k0m0 : Method := { name := "<init>", desc := "()V", sig := { parameters := [], returnType := none }, accessFlags := 1, code := some k0c0 }
/-- java/lang/Object -/
def k0 : Class := { plain "java/lang/Object" none with
  accessFlags := 33
  interfaces := #[]
  cf := some (fileOf pool0 8 #[] #[{ accessFlags := 1, nameIndex := 5, descriptorIndex := 6, attributes := #[] }] 33 0 #[] #[])
  fields := #[]
  methods := #[k0m0]
  instanceTypes := #[]
  staticTypes := #[]
  resolved := Array.replicate 124 none
  statics := none }

def pool1 : Array CpInfo := pool [(2, .class_ 4), (1, u "java/lang/Object"), (0, u "<init>"), (0, u "()V"), (0, .integer 2147483647), (0, .methodref 9 10), (0, .class_ 11), (0, .nameAndType 12 13), (0, u "com/example/chiton/chiton/runtime/ObjectGraphIsPrimitivePinLaw"), (0, u "letter"), (0, u "(I)C"), (0, .methodref 15 16), (0, .class_ 17), (0, .nameAndType 18 19), (0, u "java/lang/String"), (0, u "valueOf"), (0, u "(C)Ljava/lang/String;"), (0, .methodref 15 21), (0, .nameAndType 5 22), (0, u "([C)V"), (0, .methodref 24 25), (0, .class_ 26), (0, .nameAndType 27 28), (0, u "com/example/chiton/chiton/runtime/ObjectGraph"), (0, u "isPrimitive"), (0, u "(Ljava/lang/String;)Z"), (2, u "law"), (0, u "(IIII)Z")] 3

def k1m0 : Method := { name := "<init>", desc := "()V", sig := { parameters := [], returnType := none }, accessFlags := 1, code := none }
def k1c1 : Code := { maxStack := 6, maxLocals := 10, code := code, exceptionTable := #[], attributes := #[] }
def k1m1 : Method := { name := "law", desc := "(IIII)Z", sig := { parameters := [.int, .int, .int, .int], returnType := some .boolean }, accessFlags := 9, code := some k1c1 }
def k1c2 : Code := { maxStack := 2, maxLocals := 1, code := method_3_code, exceptionTable := #[], attributes := #[] }
def k1m2 : Method := { name := "letter", desc := "(I)C", sig := { parameters := [.int], returnType := some .char }, accessFlags := 10, code := some k1c2 }
/-- com/example/chiton/chiton/runtime/ObjectGraphIsPrimitivePinLaw -/
def k1 : Class := { plain "com/example/chiton/chiton/runtime/ObjectGraphIsPrimitivePinLaw" (some 0) with
  accessFlags := 49
  interfaces := #[]
  cf := some (fileOf pool1 9 #[] #[{ accessFlags := 1, nameIndex := 5, descriptorIndex := 6, attributes := #[] }, { accessFlags := 9, nameIndex := 31, descriptorIndex := 32, attributes := #[] }, { accessFlags := 10, nameIndex := 12, descriptorIndex := 13, attributes := #[] }] 49 2 #[] #[])
  fields := #[]
  methods := #[k1m0, k1m1, k1m2]
  instanceTypes := #[]
  staticTypes := #[]
  resolved := Array.replicate 36 none
  statics := none }

def pool2 : Array CpInfo := pool [(1, .class_ 2), (0, u "java/io/Serializable"), (0, .class_ 4), (0, u "java/lang/Object")] 2

/-- java/io/Serializable -/
def k2 : Class := { plain "java/io/Serializable" (some 0) with
  accessFlags := 1537
  interfaces := #[]
  cf := some (fileOf pool2 1 #[] #[] 1537 3 #[] #[])
  fields := #[]
  methods := #[]
  instanceTypes := #[]
  staticTypes := #[]
  resolved := Array.replicate 7 none
  statics := none }

def pool3 : Array CpInfo := pool [(1, .class_ 2), (0, u "java/lang/Comparable"), (0, .class_ 4), (0, u "java/lang/Object")] 7

/-- java/lang/Comparable -/
def k3 : Class := { plain "java/lang/Comparable" (some 0) with
  accessFlags := 1537
  interfaces := #[]
  cf := some (fileOf pool3 1 #[] #[] 1537 3 #[] #[])
  fields := #[]
  methods := #[]
  instanceTypes := #[]
  staticTypes := #[]
  resolved := Array.replicate 12 none
  statics := none }

def pool4 : Array CpInfo := pool [(2, .class_ 4), (1, u "java/lang/CharSequence"), (42, .class_ 48), (0, u "java/lang/CharSequence$1CodePointIterator"), (10, .class_ 60), (0, u "java/lang/CharSequence$1CharIterator"), (5, .class_ 67), (0, u "java/lang/Object")] 63

/-- java/lang/CharSequence -/
def k4 : Class := { plain "java/lang/CharSequence" (some 0) with
  accessFlags := 1537
  interfaces := #[]
  cf := some (fileOf pool4 2 #[.nestMembers #[47, 59]] #[] 1537 66 #[] #[])
  fields := #[]
  methods := #[]
  instanceTypes := #[]
  staticTypes := #[]
  resolved := Array.replicate 131 none
  statics := none }

def pool5 : Array CpInfo := pool [(1, .class_ 2), (0, u "java/lang/constant/Constable"), (0, .class_ 4), (0, u "java/lang/Object")] 6

/-- java/lang/constant/Constable -/
def k5 : Class := { plain "java/lang/constant/Constable" (some 0) with
  accessFlags := 1537
  interfaces := #[]
  cf := some (fileOf pool5 1 #[] #[] 1537 3 #[] #[])
  fields := #[]
  methods := #[]
  instanceTypes := #[]
  staticTypes := #[]
  resolved := Array.replicate 11 none
  statics := none }

def pool6 : Array CpInfo := pool [(1, .class_ 2), (0, u "java/lang/constant/ConstantDesc"), (0, .class_ 4), (0, u "java/lang/Object")] 32

/-- java/lang/constant/ConstantDesc -/
def k6 : Class := { plain "java/lang/constant/ConstantDesc" (some 0) with
  accessFlags := 1537
  interfaces := #[]
  cf := some (fileOf pool6 1 #[] #[] 1537 3 #[] #[])
  fields := #[]
  methods := #[]
  instanceTypes := #[]
  staticTypes := #[]
  resolved := Array.replicate 37 none
  statics := none }

def pool7 : Array CpInfo := pool [(1, .methodref 2 3), (0, .class_ 4), (0, .nameAndType 5 6), (0, u "java/lang/Object"), (0, u "<init>"), (0, u "()V"), (2, .fieldref 10 11), (0, .class_ 12), (0, .nameAndType 13 14), (0, u "java/lang/String"), (0, u "value"), (0, u "[B"), (0, .fieldref 10 16), (0, .nameAndType 17 18), (0, u "coder"), (0, u "B"), (2, u "hash"), (0, u "I"), (2, u "hashIsZero"), (0, u "Z"), (0, .methodref 10 28), (0, .nameAndType 5 29), (0, u "([CIILjava/lang/Void;)V"), (8, .fieldref 10 39), (0, .nameAndType 40 26), (0, u "COMPACT_STRINGS"), (1, .class_ 44), (1, u "java/lang/StringUTF16"), (0, u "compress"), (1, .methodref 42 48), (0, .nameAndType 49 50), (0, u "coderFromArrayLen"), (0, u "([BI)B"), (2, u "toBytes"), (53, .class_ 109), (1, u "java/lang/StringLatin1"), (67, .methodref 42 178), (0, .nameAndType 45 179), (0, u "([CII)[B"), (29, .methodref 10 210), (0, .nameAndType 5 211), (0, u "([BB)V"), (122, u "()I"), (0, .methodref 10 336), (0, .nameAndType 17 337), (0, u "()B"), (31, u "(C)Z"), (137, u "length"), (67, .class_ 576), (0, u "java/lang/CharSequence"), (22, u "CASE_INSENSITIVE_ORDER"), (0, u "Ljava/util/Comparator;"), (181, u "valueOf"), (0, u "(C)Ljava/lang/String;"), (226, u "([C)V"), (4, .methodref 107 1016), (0, .nameAndType 1017 369), (0, u "canEncode"), (0, .methodref 107 1019), (0, .nameAndType 53 1020), (0, u "(C)[B"), (80, u "serialPersistentFields"), (0, u "[Ljava/io/ObjectStreamField;"), (0, .class_ 1104), (0, u "java/lang/String$CaseInsensitiveComparator"), (1, .class_ 1107), (0, u "java/io/Serializable"), (0, .class_ 1109), (0, u "java/lang/Comparable"), (0, .class_ 1111), (0, u "java/lang/constant/Constable"), (0, .class_ 1113), (0, u "java/lang/constant/ConstantDesc"), (2, u "serialVersionUID"), (0, u "J"), (3, u "REPL"), (0, u "C"), (2, u "LATIN1"), (1, u "UTF16")] 323

def k7m0 : Method := { name := "<init>", desc := "()V", sig := { parameters := [], returnType := none }, accessFlags := 1, code := none }
def k7c1 : Code := { maxStack := 5, maxLocals := 2, code := jdk_42_method_3_code, exceptionTable := #[], attributes := #[] }
def k7m1 : Method := { name := "<init>", desc := "([C)V", sig := { parameters := [(.array .char)], returnType := none }, accessFlags := 1, code := some k7c1 }
def k7c2 : Code := { maxStack := 2, maxLocals := 1, code := jdk_42_method_54_code, exceptionTable := #[], attributes := #[] }
def k7m2 : Method := { name := "length", desc := "()I", sig := { parameters := [], returnType := some .int }, accessFlags := 1, code := some k7c2 }
def k7c3 : Code := { maxStack := 4, maxLocals := 1, code := jdk_42_method_139_code, exceptionTable := #[], attributes := #[] }
def k7m3 : Method := { name := "valueOf", desc := "(C)Ljava/lang/String;", sig := { parameters := [.char], returnType := some (.object "java/lang/String") }, accessFlags := 9, code := some k7c3 }
def k7c4 : Code := { maxStack := 4, maxLocals := 6, code := jdk_42_method_149_code, exceptionTable := #[], attributes := #[] }
def k7m4 : Method := { name := "<init>", desc := "([CIILjava/lang/Void;)V", sig := { parameters := [(.array .char), .int, .int, (.object "java/lang/Void")], returnType := none }, accessFlags := 2, code := some k7c4 }
def k7c5 : Code := { maxStack := 2, maxLocals := 3, code := jdk_42_method_151_code, exceptionTable := #[], attributes := #[] }
def k7m5 : Method := { name := "<init>", desc := "([BB)V", sig := { parameters := [(.array .byte), .byte], returnType := none }, accessFlags := 0, code := some k7c5 }
def k7c6 : Code := { maxStack := 1, maxLocals := 1, code := jdk_42_method_152_code, exceptionTable := #[], attributes := #[] }
def k7m6 : Method := { name := "coder", desc := "()B", sig := { parameters := [], returnType := some .byte }, accessFlags := 0, code := some k7c6 }
/-- java/lang/String -/
def k7 : Class := { plain "java/lang/String" (some 0) with
  accessFlags := 49
  interfaces := #[2, 3, 4, 5, 6]
  cf := some (fileOf pool7 10 #[.nestMembers #[1103]] #[{ accessFlags := 1, nameIndex := 5, descriptorIndex := 6, attributes := #[] }, { accessFlags := 1, nameIndex := 5, descriptorIndex := 1010, attributes := #[] }, { accessFlags := 1, nameIndex := 507, descriptorIndex := 334, attributes := #[] }, { accessFlags := 9, nameIndex := 782, descriptorIndex := 783, attributes := #[] }, { accessFlags := 2, nameIndex := 5, descriptorIndex := 29, attributes := #[] }, { accessFlags := 0, nameIndex := 5, descriptorIndex := 211, attributes := #[] }, { accessFlags := 0, nameIndex := 17, descriptorIndex := 337, attributes := #[] }] 49 2 #[1106, 1108, 575, 1110, 1112] #[{ accessFlags := 18, nameIndex := 13, descriptorIndex := 14, attributes := #[] }, { accessFlags := 18, nameIndex := 17, descriptorIndex := 18, attributes := #[] }, { accessFlags := 2, nameIndex := 21, descriptorIndex := 22, attributes := #[] }, { accessFlags := 2, nameIndex := 25, descriptorIndex := 26, attributes := #[] }, { accessFlags := 26, nameIndex := 1116, descriptorIndex := 1117, attributes := #[] }, { accessFlags := 24, nameIndex := 40, descriptorIndex := 26, attributes := #[] }, { accessFlags := 26, nameIndex := 1101, descriptorIndex := 1102, attributes := #[] }, { accessFlags := 26, nameIndex := 1121, descriptorIndex := 1122, attributes := #[] }, { accessFlags := 25, nameIndex := 599, descriptorIndex := 600, attributes := #[] }, { accessFlags := 24, nameIndex := 1125, descriptorIndex := 18, attributes := #[] }, { accessFlags := 24, nameIndex := 1127, descriptorIndex := 18, attributes := #[] }])
  fields := #[{ name := "value", type := (.array .byte), accessFlags := 18, slot := 0, constantValue := 0 }, { name := "coder", type := .byte, accessFlags := 18, slot := 1, constantValue := 0 }, { name := "hash", type := .int, accessFlags := 2, slot := 2, constantValue := 0 }, { name := "hashIsZero", type := .boolean, accessFlags := 2, slot := 3, constantValue := 0 }, { name := "serialVersionUID", type := .long, accessFlags := 26, slot := 0, constantValue := 0 }, { name := "COMPACT_STRINGS", type := .boolean, accessFlags := 24, slot := 1, constantValue := 0 }, { name := "serialPersistentFields", type := (.array (.object "java/io/ObjectStreamField")), accessFlags := 26, slot := 2, constantValue := 0 }, { name := "REPL", type := .char, accessFlags := 26, slot := 3, constantValue := 0 }, { name := "CASE_INSENSITIVE_ORDER", type := (.object "java/util/Comparator"), accessFlags := 25, slot := 4, constantValue := 0 }, { name := "LATIN1", type := .byte, accessFlags := 24, slot := 5, constantValue := 0 }, { name := "UTF16", type := .byte, accessFlags := 24, slot := 6, constantValue := 0 }]
  methods := #[k7m0, k7m1, k7m2, k7m3, k7m4, k7m5, k7m6]
  instanceTypes := #[(.array .byte), .byte, .int, .boolean]
  staticTypes := #[.long, .boolean, (.array (.object "java/io/ObjectStreamField")), .char, (.object "java/util/Comparator"), .byte, .byte]
  resolved := Array.replicate 1451 none
  statics := some 0 }

def pool8 : Array CpInfo := pool [(4, .class_ 6), (1, u "java/lang/Object"), (0, u "<init>"), (0, u "()V"), (5, .class_ 16), (1, u "java/lang/StringLatin1"), (73, u "canEncode"), (14, u "(C)Z"), (15, u "$assertionsDisabled"), (0, u "Z"), (98, .class_ 223), (1, u "java/lang/StringLatin1$LinesSpliterator"), (156, u "toBytes"), (1, u "(C)[B"), (7, .class_ 391), (0, u "java/lang/StringLatin1$CharsSpliterator")] 3

def k8m0 : Method := { name := "<init>", desc := "()V", sig := { parameters := [], returnType := none }, accessFlags := 0, code := none }
def k8c1 : Code := { maxStack := 2, maxLocals := 1, code := jdk_43_method_3_code, exceptionTable := #[], attributes := #[] }
def k8m1 : Method := { name := "canEncode", desc := "(C)Z", sig := { parameters := [.char], returnType := some .boolean }, accessFlags := 9, code := some k8c1 }
def k8c2 : Code := { maxStack := 4, maxLocals := 1, code := jdk_43_method_46_code, exceptionTable := #[], attributes := #[] }
def k8m2 : Method := { name := "toBytes", desc := "(C)[B", sig := { parameters := [.char], returnType := some (.array .byte) }, accessFlags := 9, code := some k8c2 }
/-- java/lang/StringLatin1 -/
def k8 : Class := { plain "java/lang/StringLatin1" (some 0) with
  accessFlags := 48
  interfaces := #[]
  cf := some (fileOf pool8 14 #[.nestMembers #[390, 221]] #[{ accessFlags := 0, nameIndex := 7, descriptorIndex := 8, attributes := #[] }, { accessFlags := 9, nameIndex := 90, descriptorIndex := 105, attributes := #[] }, { accessFlags := 9, nameIndex := 380, descriptorIndex := 382, attributes := #[] }] 48 4 #[] #[{ accessFlags := 4120, nameIndex := 121, descriptorIndex := 122, attributes := #[] }])
  fields := #[{ name := "$assertionsDisabled", type := .boolean, accessFlags := 4120, slot := 0, constantValue := 0 }]
  methods := #[k8m0, k8m1, k8m2]
  instanceTypes := #[]
  staticTypes := #[.boolean]
  resolved := Array.replicate 395 none
  statics := none }

def pool9 : Array CpInfo := pool [(2, .class_ 4), (1, u "java/lang/Object"), (3, .class_ 10), (1, u "com/example/chiton/chiton/runtime/ObjectGraph"), (0, u "roots"), (0, u "[I"), (2, u "nodes"), (0, u "Ljava/util/List;"), (13, u "isPrimitive"), (5, .class_ 37), (0, u "com/example/chiton/chiton/runtime/ObjectGraph$Position"), (52, .class_ 91), (0, u "com/example/chiton/chiton/runtime/ObjectGraph$Node"), (5, .class_ 99), (1, u "java/lang/String"), (24, u "()I"), (17, .class_ 143), (0, u "com/example/chiton/chiton/runtime/ObjectGraph$Value"), (22, .class_ 167), (0, u "com/example/chiton/chiton/runtime/ObjectGraph$Instance"), (5, .class_ 175), (1, u "com/example/chiton/chiton/runtime/ObjectGraph$Shape"), (75, .methodref 97 252), (0, .nameAndType 253 124), (0, u "length"), (29, u "(Ljava/lang/String;)Z"), (5, .class_ 290), (0, u "com/example/chiton/chiton/runtime/ObjectGraph$References"), (0, .class_ 292), (0, u "com/example/chiton/chiton/runtime/ObjectGraph$EnumConstant")] 43

def k9c0 : Code := { maxStack := 2, maxLocals := 1, code := prog_45_method_8_code, exceptionTable := #[], attributes := #[] }
def k9m0 : Method := { name := "isPrimitive", desc := "(Ljava/lang/String;)Z", sig := { parameters := [(.object "java/lang/String")], returnType := some .boolean }, accessFlags := 8, code := some k9c0 }
/-- com/example/chiton/chiton/runtime/ObjectGraph -/
def k9 : Class := { plain "com/example/chiton/chiton/runtime/ObjectGraph" (some 0) with
  accessFlags := 32
  interfaces := #[]
  cf := some (fileOf pool9 8 #[.nestMembers #[166, 173, 289, 291, 142, 90, 36]] #[{ accessFlags := 8, nameIndex := 30, descriptorIndex := 283, attributes := #[] }] 32 2 #[] #[{ accessFlags := 18, nameIndex := 11, descriptorIndex := 12, attributes := #[] }, { accessFlags := 18, nameIndex := 15, descriptorIndex := 16, attributes := #[] }])
  fields := #[{ name := "roots", type := (.array .int), accessFlags := 18, slot := 0, constantValue := 0 }, { name := "nodes", type := (.object "java/util/List"), accessFlags := 18, slot := 1, constantValue := 0 }]
  methods := #[k9m0]
  instanceTypes := #[(.array .int), (.object "java/util/List")]
  staticTypes := #[]
  resolved := Array.replicate 336 none
  statics := none }

def pool10 : Array CpInfo := pool [(6, .class_ 8), (1, u "java/lang/Object"), (0, u "<init>"), (0, u "()V"), (1, .class_ 14), (1, u "java/lang/StringUTF16"), (31, u "$assertionsDisabled"), (0, u "Z"), (13, u "HI_BYTE_SHIFT"), (0, u "I"), (2, u "LO_BYTE_SHIFT"), (49, .methodref 12 116), (0, .nameAndType 117 118), (0, u "compress"), (0, u "([CI[BII)I"), (3, u "([CII)[B"), (138, u "coderFromArrayLen"), (0, u "([BI)B"), (106, .class_ 371), (1, u "java/lang/StringUTF16$LinesSpliterator"), (58, u "MAX_LENGTH"), (196, .class_ 628), (0, u "java/lang/StringUTF16$CodePointsSpliterator"), (0, .class_ 630), (0, u "java/lang/StringUTF16$CharsSpliterator")] 4

def k10m0 : Method := { name := "<init>", desc := "()V", sig := { parameters := [], returnType := none }, accessFlags := 0, code := none }
def k10c1 : Code := { maxStack := 2, maxLocals := 2, code := jdk_52_method_15_code, exceptionTable := #[], attributes := #[] }
def k10m1 : Method := { name := "coderFromArrayLen", desc := "([BI)B", sig := { parameters := [(.array .byte), .int], returnType := some .byte }, accessFlags := 8, code := some k10c1 }
def k10c2 : Code := { maxStack := 5, maxLocals := 6, code := jdk_52_method_16_code, exceptionTable := #[], attributes := #[] }
def k10m2 : Method := { name := "compress", desc := "([CII)[B", sig := { parameters := [(.array .char), .int, .int], returnType := some (.array .byte) }, accessFlags := 9, code := some k10c2 }
def k10c3 : Code := { maxStack := 3, maxLocals := 7, code := jdk_52_method_21_code, exceptionTable := #[], attributes := #[] }
def k10m3 : Method := { name := "compress", desc := "([CI[BII)I", sig := { parameters := [(.array .char), .int, (.array .byte), .int, .int], returnType := some .int }, accessFlags := 9, code := some k10c3 }
/-- java/lang/StringUTF16 -/
def k10 : Class := { plain "java/lang/StringUTF16" (some 0) with
  accessFlags := 48
  interfaces := #[]
  cf := some (fileOf pool10 12 #[.nestMembers #[627, 629, 369]] #[{ accessFlags := 0, nameIndex := 9, descriptorIndex := 10, attributes := #[] }, { accessFlags := 8, nameIndex := 261, descriptorIndex := 262, attributes := #[] }, { accessFlags := 9, nameIndex := 117, descriptorIndex := 122, attributes := #[] }, { accessFlags := 9, nameIndex := 117, descriptorIndex := 118, attributes := #[] }] 48 6 #[] #[{ accessFlags := 26, nameIndex := 61, descriptorIndex := 62, attributes := #[] }, { accessFlags := 26, nameIndex := 65, descriptorIndex := 62, attributes := #[] }, { accessFlags := 24, nameIndex := 430, descriptorIndex := 62, attributes := #[] }, { accessFlags := 4120, nameIndex := 46, descriptorIndex := 47, attributes := #[] }])
  fields := #[{ name := "HI_BYTE_SHIFT", type := .int, accessFlags := 26, slot := 0, constantValue := 0 }, { name := "LO_BYTE_SHIFT", type := .int, accessFlags := 26, slot := 1, constantValue := 0 }, { name := "MAX_LENGTH", type := .int, accessFlags := 24, slot := 2, constantValue := 0 }, { name := "$assertionsDisabled", type := .boolean, accessFlags := 4120, slot := 3, constantValue := 0 }]
  methods := #[k10m0, k10m1, k10m2, k10m3]
  instanceTypes := #[]
  staticTypes := #[.int, .int, .int, .boolean]
  resolved := Array.replicate 635 none
  statics := none }

def pool11 : Array CpInfo := pool [(2, .class_ 4), (1, u "java/lang/Object"), (0, u "<init>"), (0, u "()V"), (17, .class_ 26), (1, u "jdk/internal/util/Preconditions"), (28, .class_ 56), (0, u "jdk/internal/util/Preconditions$4"), (57, .class_ 115), (0, u "jdk/internal/util/Preconditions$1"), (7, u "SIOOBE_FORMATTER"), (0, u "Ljava/util/function/BiFunction;"), (0, .class_ 126), (0, u "jdk/internal/util/Preconditions$2"), (3, u "AIOOBE_FORMATTER"), (0, .class_ 132), (0, u "jdk/internal/util/Preconditions$3"), (3, u "IOOBE_FORMATTER")] 57

def k11m0 : Method := { name := "<init>", desc := "()V", sig := { parameters := [], returnType := none }, accessFlags := 1, code := none }
/-- jdk/internal/util/Preconditions -/
def k11 : Class := { plain "jdk/internal/util/Preconditions" (some 0) with
  accessFlags := 33
  interfaces := #[]
  cf := some (fileOf pool11 24 #[.nestMembers #[55, 131, 125, 114]] #[{ accessFlags := 1, nameIndex := 5, descriptorIndex := 6, attributes := #[] }] 33 2 #[] #[{ accessFlags := 25, nameIndex := 123, descriptorIndex := 124, attributes := #[] }, { accessFlags := 25, nameIndex := 130, descriptorIndex := 124, attributes := #[] }, { accessFlags := 25, nameIndex := 136, descriptorIndex := 124, attributes := #[] }])
  fields := #[{ name := "SIOOBE_FORMATTER", type := (.object "java/util/function/BiFunction"), accessFlags := 25, slot := 0, constantValue := 0 }, { name := "AIOOBE_FORMATTER", type := (.object "java/util/function/BiFunction"), accessFlags := 25, slot := 1, constantValue := 0 }, { name := "IOOBE_FORMATTER", type := (.object "java/util/function/BiFunction"), accessFlags := 25, slot := 2, constantValue := 0 }]
  methods := #[k11m0]
  instanceTypes := #[]
  staticTypes := #[(.object "java/util/function/BiFunction"), (.object "java/util/function/BiFunction"), (.object "java/util/function/BiFunction")]
  resolved := Array.replicate 194 none
  statics := some 1 }

def pool12 : Array CpInfo := pool [(9, u "<init>"), (6, .class_ 18), (1, u "java/lang/Object"), (0, u "()V"), (1, .class_ 23), (1, u "jdk/internal/util/ArraysSupport"), (0, u "LOG2_ARRAY_LONG_INDEX_SCALE"), (0, u "I"), (2, u "U"), (0, u "Ljdk/internal/misc/Unsafe;"), (8, u "BIG_ENDIAN"), (0, u "Z"), (8, u "LOG2_BYTE_BIT_SIZE"), (4, u "LOG2_ARRAY_INT_INDEX_SCALE"), (54, u "JLA"), (0, u "Ljdk/internal/access/JavaLangAccess;"), (11, u "LOG2_ARRAY_BOOLEAN_INDEX_SCALE"), (9, u "LOG2_ARRAY_BYTE_INDEX_SCALE"), (5, u "LOG2_ARRAY_CHAR_INDEX_SCALE"), (5, u "LOG2_ARRAY_SHORT_INDEX_SCALE"), (18, u "LOG2_ARRAY_FLOAT_INDEX_SCALE"), (24, u "LOG2_ARRAY_DOUBLE_INDEX_SCALE"), (89, u "T_BOOLEAN"), (2, u "T_CHAR"), (1, u "T_FLOAT"), (1, u "T_DOUBLE"), (1, u "T_BYTE"), (1, u "T_SHORT"), (1, u "T_INT"), (1, u "T_LONG"), (1, u "SOFT_MAX_ARRAY_LENGTH")] 83

def k12m0 : Method := { name := "<init>", desc := "()V", sig := { parameters := [], returnType := none }, accessFlags := 2, code := none }
/-- jdk/internal/util/ArraysSupport -/
def k12 : Class := { plain "jdk/internal/util/ArraysSupport" (some 0) with
  accessFlags := 33
  interfaces := #[]
  cf := some (fileOf pool12 21 #[] #[{ accessFlags := 2, nameIndex := 9, descriptorIndex := 19, attributes := #[] }] 33 16 #[] #[{ accessFlags := 24, nameIndex := 28, descriptorIndex := 29, attributes := #[] }, { accessFlags := 26, nameIndex := 38, descriptorIndex := 39, attributes := #[] }, { accessFlags := 25, nameIndex := 121, descriptorIndex := 25, attributes := #[] }, { accessFlags := 25, nameIndex := 131, descriptorIndex := 25, attributes := #[] }, { accessFlags := 25, nameIndex := 137, descriptorIndex := 25, attributes := #[] }, { accessFlags := 25, nameIndex := 143, descriptorIndex := 25, attributes := #[] }, { accessFlags := 25, nameIndex := 53, descriptorIndex := 25, attributes := #[] }, { accessFlags := 25, nameIndex := 24, descriptorIndex := 25, attributes := #[] }, { accessFlags := 25, nameIndex := 162, descriptorIndex := 25, attributes := #[] }, { accessFlags := 25, nameIndex := 187, descriptorIndex := 25, attributes := #[] }, { accessFlags := 26, nameIndex := 48, descriptorIndex := 25, attributes := #[] }, { accessFlags := 25, nameIndex := 277, descriptorIndex := 25, attributes := #[] }, { accessFlags := 25, nameIndex := 280, descriptorIndex := 25, attributes := #[] }, { accessFlags := 25, nameIndex := 282, descriptorIndex := 25, attributes := #[] }, { accessFlags := 25, nameIndex := 284, descriptorIndex := 25, attributes := #[] }, { accessFlags := 25, nameIndex := 286, descriptorIndex := 25, attributes := #[] }, { accessFlags := 25, nameIndex := 288, descriptorIndex := 25, attributes := #[] }, { accessFlags := 25, nameIndex := 290, descriptorIndex := 25, attributes := #[] }, { accessFlags := 25, nameIndex := 292, descriptorIndex := 25, attributes := #[] }, { accessFlags := 26, nameIndex := 108, descriptorIndex := 109, attributes := #[] }, { accessFlags := 25, nameIndex := 294, descriptorIndex := 25, attributes := #[] }])
  fields := #[{ name := "U", type := (.object "jdk/internal/misc/Unsafe"), accessFlags := 24, slot := 0, constantValue := 0 }, { name := "BIG_ENDIAN", type := .boolean, accessFlags := 26, slot := 1, constantValue := 0 }, { name := "LOG2_ARRAY_BOOLEAN_INDEX_SCALE", type := .int, accessFlags := 25, slot := 2, constantValue := 0 }, { name := "LOG2_ARRAY_BYTE_INDEX_SCALE", type := .int, accessFlags := 25, slot := 3, constantValue := 0 }, { name := "LOG2_ARRAY_CHAR_INDEX_SCALE", type := .int, accessFlags := 25, slot := 4, constantValue := 0 }, { name := "LOG2_ARRAY_SHORT_INDEX_SCALE", type := .int, accessFlags := 25, slot := 5, constantValue := 0 }, { name := "LOG2_ARRAY_INT_INDEX_SCALE", type := .int, accessFlags := 25, slot := 6, constantValue := 0 }, { name := "LOG2_ARRAY_LONG_INDEX_SCALE", type := .int, accessFlags := 25, slot := 7, constantValue := 0 }, { name := "LOG2_ARRAY_FLOAT_INDEX_SCALE", type := .int, accessFlags := 25, slot := 8, constantValue := 0 }, { name := "LOG2_ARRAY_DOUBLE_INDEX_SCALE", type := .int, accessFlags := 25, slot := 9, constantValue := 0 }, { name := "LOG2_BYTE_BIT_SIZE", type := .int, accessFlags := 26, slot := 10, constantValue := 0 }, { name := "T_BOOLEAN", type := .int, accessFlags := 25, slot := 11, constantValue := 0 }, { name := "T_CHAR", type := .int, accessFlags := 25, slot := 12, constantValue := 0 }, { name := "T_FLOAT", type := .int, accessFlags := 25, slot := 13, constantValue := 0 }, { name := "T_DOUBLE", type := .int, accessFlags := 25, slot := 14, constantValue := 0 }, { name := "T_BYTE", type := .int, accessFlags := 25, slot := 15, constantValue := 0 }, { name := "T_SHORT", type := .int, accessFlags := 25, slot := 16, constantValue := 0 }, { name := "T_INT", type := .int, accessFlags := 25, slot := 17, constantValue := 0 }, { name := "T_LONG", type := .int, accessFlags := 25, slot := 18, constantValue := 0 }, { name := "JLA", type := (.object "jdk/internal/access/JavaLangAccess"), accessFlags := 26, slot := 19, constantValue := 0 }, { name := "SOFT_MAX_ARRAY_LENGTH", type := .int, accessFlags := 25, slot := 20, constantValue := 0 }]
  methods := #[k12m0]
  instanceTypes := #[]
  staticTypes := #[(.object "jdk/internal/misc/Unsafe"), .boolean, .int, .int, .int, .int, .int, .int, .int, .int, .int, .int, .int, .int, .int, .int, .int, .int, .int, (.object "jdk/internal/access/JavaLangAccess"), .int]
  resolved := Array.replicate 378 none
  statics := none }

def pool13 : Array CpInfo := pool [(1, u "java/lang/Cloneable"), (0, .class_ 1), (0, u "java/lang/Object"), (0, .class_ 3)] 3

/-- java/lang/Cloneable -/
def k13 : Class := { plain "java/lang/Cloneable" (some 0) with
  accessFlags := 1537
  interfaces := #[]
  cf := some (fileOf pool13 2 #[] #[] 1537 4 #[] #[])
  fields := #[]
  methods := #[]
  instanceTypes := #[]
  staticTypes := #[]
  resolved := Array.replicate 8 none
  statics := none }

/-- the primitive byte -/
def k14 : Class := { plain "byte" none with kind := .primitive 'B', accessFlags := 0x411 }
/-- [B -/
def k15 : Class := { plain "[B" (some 0) with kind := .array 14 .byte, interfaces := #[13, 2], accessFlags := 1041 }

/-- the primitive char -/
def k16 : Class := { plain "char" none with kind := .primitive 'C', accessFlags := 0x411 }
/-- [C -/
def k17 : Class := { plain "[C" (some 0) with kind := .array 16 .char, interfaces := #[13, 2], accessFlags := 1041 }

/-- the primitive int -/
def k18 : Class := { plain "int" none with kind := .primitive 'I', accessFlags := 0x411 }
/-- [I -/
def k19 : Class := { plain "[I" (some 0) with kind := .array 18 .int, interfaces := #[13, 2], accessFlags := 1041 }

def heap : Heap := #[{ cls := 7, slots := #[.long 0, .int 1, .null, .int 0, .null, .int 0, .int 0], vm := .statics 7 },
  { cls := 11, slots := #[.null, .null, .null], vm := .statics 11 }]
def classes : Array Class := #[k0, k1, k2, k3, k4, k5, k6, k7, k8, k9, k10, k11, k12, k13, k14, k15, k16, k17, k18, k19]
def interned : List (Array UInt16 × Addr) := []
def slotsUsed : Nat := 10
def theMethod : MethodId := ⟨1, 1⟩
def args0 : Array Value := #[.int 1, .int 2, .int 3, .int 4]
def aboutOver (below : List Frame) : State where
  vm := { classes := classes, interned := interned.toArray }
  heap := heap
  slotsUsed := slotsUsed
  threads := #[{ frames := .invoking theMethod args0 :: below }]
def below0 : List Frame := [.native { method := ⟨0, 0⟩, args := #[] }]
def about1 : State := aboutOver below0
def p0 : Program := .bare "" "" ""
def e0 : Env := launch0.env 0 0 0
theorem w_frames : about1.frames = Frame.invoking theMethod args0 :: below0 := rfl
set_option maxRecDepth 65536 in
theorem w_args : argsFit about1.vm theMethod args0 = true := by decide +kernel
set_option maxRecDepth 65536 in
theorem w_heap : heapFits about1 = true := by decide +kernel
set_option maxRecDepth 65536 in
theorem w_runnable : about1.curStatus? = some .runnable := by decide +kernel
set_option maxRecDepth 65536 in
theorem w_alone : about1.alone = true := by decide +kernel
set_option maxRecDepth 65536 in
theorem w_named : about1.methodNamed? x = some theMethod := by decide +kernel
set_option maxRecDepth 65536 in
theorem w_hears : about1.hears theMethod below0 = true := by decide +kernel
set_option maxRecDepth 65536 in
theorem w_ripe : about1.ripe theMethod args0 below0 = true := by decide +kernel
theorem w_running : about1.status = .running := rfl
set_option maxRecDepth 65536 in
theorem w_room : about1.hasRoom e0.platform room_1 = true :=
  launch0.hasRoom_least _ room_1 (by decide +kernel) (by decide +kernel) (by decide +kernel) (by decide +kernel) (by decide +kernel) (by decide +kernel)
theorem allAtoms_all (ts : List Jvm.Cond) (a : Array Jvm.Value) (st : Jvm.State) : (allAtoms ts).before a st = ts.all (fun c => c.before a st) := by
  induction ts with
  | nil => rfl
  | cons c t ih =>
    show (Jvm.Cond.and c (allAtoms t)).before a st = _
    rw [Jvm.Cond.before_and, ih, List.all_cons]
def words1 : List Jvm.Cond := Jvm.Cond.code x code maxLocals ret :: tables_1
/-- a 'code' word, met by the world's own term for the bytes: nothing is compared byte by byte -/
theorem code_word {y : MethodName} {bytes : ByteArray} {mx : Nat} {rt : Option FieldType} {a : Array Value} {s : State} {m : MethodId} {meth : Method} {c : Code} (h1 : s.methodNamed? y = some m) (h2 : s.vm.method? m = some meth) (h3 : meth.code = some c) (h4 : c.code = bytes)
    (h5 : (c.maxLocals == mx && c.exceptionTable.isEmpty && decide (c.maxStack ≤ mostOperands) && decide (meth.sig.returnType = rt) && !meth.locks && decide (parseMethodDescriptor y.desc = some meth.sig)) = true) : (Jvm.Cond.code y bytes mx rt).before a s = true := by
  simp only [Bool.and_eq_true, beq_iff_eq, Bool.not_eq_true', decide_eq_true_eq] at h5
  obtain ⟨⟨⟨⟨⟨g1, g2⟩, g3⟩, g4⟩, g5⟩, g6⟩ := h5
  simp [Cond.before, Cond.holds, Cond.value, h1, h2, h3, h4, g1, g2, g3, g4, g5, g6]
def isCode : Jvm.Cond → Bool
  | .code _ _ _ _ => true
  | _ => false
theorem all_split {L : List Jvm.Cond} {P : Jvm.Cond → Bool} (h1 : L.all (fun c => isCode c || P c) = true) (h2 : ∀ c ∈ L.filter isCode, P c = true) : L.all P = true := by
  refine List.all_eq_true.mpr fun c hc => ?_
  have h := List.all_eq_true.mp h1 c hc
  rcases Bool.eq_false_or_eq_true (isCode c) with hi | hi
  · exact h2 c (List.mem_filter.mpr ⟨hc, hi⟩)
  · simpa [hi] using h
set_option maxRecDepth 65536 in
theorem w_c0 : (Jvm.Cond.code x code maxLocals ret).before args0 about1 = true := code_word (m := ⟨1, 1⟩) (meth := k1m1) (c := k1c1) (by decide +kernel) rfl rfl rfl (by decide +kernel)
set_option maxRecDepth 65536 in
theorem w_c1 : (Jvm.Cond.code ({ cls := "com/example/chiton/chiton/runtime/ObjectGraphIsPrimitivePinLaw", name := "letter", desc := "(I)C" } : Jvm.MethodName) method_3_code (1 : Nat) (Option.some Jvm.ClassFile.FieldType.char)).before args0 about1 = true := code_word (m := ⟨1, 2⟩) (meth := k1m2) (c := k1c2) (by decide +kernel) rfl rfl rfl (by decide +kernel)
set_option maxRecDepth 65536 in
theorem w_c2 : (Jvm.Cond.code ({ cls := "java/lang/String", name := "valueOf", desc := "(C)Ljava/lang/String;" } : Jvm.MethodName) jdk_42_method_139_code (1 : Nat) (Option.some (Jvm.ClassFile.FieldType.object "java/lang/String"))).before args0 about1 = true := code_word (m := ⟨7, 3⟩) (meth := k7m3) (c := k7c3) (by decide +kernel) rfl rfl rfl (by decide +kernel)
set_option maxRecDepth 65536 in
theorem w_c3 : (Jvm.Cond.code ({ cls := "java/lang/StringLatin1", name := "canEncode", desc := "(C)Z" } : Jvm.MethodName) jdk_43_method_3_code (1 : Nat) (Option.some Jvm.ClassFile.FieldType.boolean)).before args0 about1 = true := code_word (m := ⟨8, 1⟩) (meth := k8m1) (c := k8c1) (by decide +kernel) rfl rfl rfl (by decide +kernel)
set_option maxRecDepth 65536 in
theorem w_c4 : (Jvm.Cond.code ({ cls := "java/lang/StringLatin1", name := "toBytes", desc := "(C)[B" } : Jvm.MethodName) jdk_43_method_46_code (1 : Nat) (Option.some (Jvm.ClassFile.FieldType.array Jvm.ClassFile.FieldType.byte))).before args0 about1 = true := code_word (m := ⟨8, 2⟩) (meth := k8m2) (c := k8c2) (by decide +kernel) rfl rfl rfl (by decide +kernel)
set_option maxRecDepth 65536 in
theorem w_c5 : (Jvm.Cond.code ({ cls := "java/lang/String", name := "<init>", desc := "([BB)V" } : Jvm.MethodName) jdk_42_method_151_code (3 : Nat) (Option.none : Option Jvm.ClassFile.FieldType)).before args0 about1 = true := code_word (m := ⟨7, 5⟩) (meth := k7m5) (c := k7c5) (by decide +kernel) rfl rfl rfl (by decide +kernel)
set_option maxRecDepth 65536 in
theorem w_c6 : (Jvm.Cond.code ({ cls := "java/lang/Object", name := "<init>", desc := "()V" } : Jvm.MethodName) object_method_1_code (1 : Nat) (Option.none : Option Jvm.ClassFile.FieldType)).before args0 about1 = true := code_word (m := ⟨0, 0⟩) (meth := k0m0) (c := k0c0) (by decide +kernel) rfl rfl rfl (by decide +kernel)
set_option maxRecDepth 65536 in
theorem w_c7 : (Jvm.Cond.code ({ cls := "com/example/chiton/chiton/runtime/ObjectGraph", name := "isPrimitive", desc := "(Ljava/lang/String;)Z" } : Jvm.MethodName) prog_45_method_8_code (1 : Nat) (Option.some Jvm.ClassFile.FieldType.boolean)).before args0 about1 = true := code_word (m := ⟨9, 0⟩) (meth := k9m0) (c := k9c0) (by decide +kernel) rfl rfl rfl (by decide +kernel)
set_option maxRecDepth 65536 in
theorem w_c8 : (Jvm.Cond.code ({ cls := "java/lang/String", name := "length", desc := "()I" } : Jvm.MethodName) jdk_42_method_54_code (1 : Nat) (Option.some Jvm.ClassFile.FieldType.int)).before args0 about1 = true := code_word (m := ⟨7, 2⟩) (meth := k7m2) (c := k7c2) (by decide +kernel) rfl rfl rfl (by decide +kernel)
set_option maxRecDepth 65536 in
theorem w_c9 : (Jvm.Cond.code ({ cls := "java/lang/String", name := "coder", desc := "()B" } : Jvm.MethodName) jdk_42_method_152_code (1 : Nat) (Option.some Jvm.ClassFile.FieldType.byte)).before args0 about1 = true := code_word (m := ⟨7, 6⟩) (meth := k7m6) (c := k7c6) (by decide +kernel) rfl rfl rfl (by decide +kernel)
set_option maxRecDepth 65536 in
theorem w_c10 : (Jvm.Cond.code ({ cls := "java/lang/String", name := "<init>", desc := "([C)V" } : Jvm.MethodName) jdk_42_method_3_code (2 : Nat) (Option.none : Option Jvm.ClassFile.FieldType)).before args0 about1 = true := code_word (m := ⟨7, 1⟩) (meth := k7m1) (c := k7c1) (by decide +kernel) rfl rfl rfl (by decide +kernel)
set_option maxRecDepth 65536 in
theorem w_c11 : (Jvm.Cond.code ({ cls := "java/lang/String", name := "<init>", desc := "([CIILjava/lang/Void;)V" } : Jvm.MethodName) jdk_42_method_149_code (6 : Nat) (Option.none : Option Jvm.ClassFile.FieldType)).before args0 about1 = true := code_word (m := ⟨7, 4⟩) (meth := k7m4) (c := k7c4) (by decide +kernel) rfl rfl rfl (by decide +kernel)
set_option maxRecDepth 65536 in
theorem w_c12 : (Jvm.Cond.code ({ cls := "java/lang/StringUTF16", name := "compress", desc := "([CII)[B" } : Jvm.MethodName) jdk_52_method_16_code (6 : Nat) (Option.some (Jvm.ClassFile.FieldType.array Jvm.ClassFile.FieldType.byte))).before args0 about1 = true := code_word (m := ⟨10, 2⟩) (meth := k10m2) (c := k10c2) (by decide +kernel) rfl rfl rfl (by decide +kernel)
set_option maxRecDepth 65536 in
theorem w_c13 : (Jvm.Cond.code ({ cls := "java/lang/StringUTF16", name := "compress", desc := "([CI[BII)I" } : Jvm.MethodName) jdk_52_method_21_code (7 : Nat) (Option.some Jvm.ClassFile.FieldType.int)).before args0 about1 = true := code_word (m := ⟨10, 3⟩) (meth := k10m3) (c := k10c3) (by decide +kernel) rfl rfl rfl (by decide +kernel)
set_option maxRecDepth 65536 in
theorem w_c14 : (Jvm.Cond.code ({ cls := "java/lang/StringUTF16", name := "coderFromArrayLen", desc := "([BI)B" } : Jvm.MethodName) jdk_52_method_15_code (2 : Nat) (Option.some Jvm.ClassFile.FieldType.byte)).before args0 about1 = true := code_word (m := ⟨10, 1⟩) (meth := k10m1) (c := k10c1) (by decide +kernel) rfl rfl rfl (by decide +kernel)
def codes1 : List Jvm.Cond := [Jvm.Cond.code x code maxLocals ret, Jvm.Cond.code ({ cls := "com/example/chiton/chiton/runtime/ObjectGraphIsPrimitivePinLaw", name := "letter", desc := "(I)C" } : Jvm.MethodName) method_3_code (1 : Nat) (Option.some Jvm.ClassFile.FieldType.char), Jvm.Cond.code ({ cls := "java/lang/String", name := "valueOf", desc := "(C)Ljava/lang/String;" } : Jvm.MethodName) jdk_42_method_139_code (1 : Nat) (Option.some (Jvm.ClassFile.FieldType.object "java/lang/String")), Jvm.Cond.code ({ cls := "java/lang/StringLatin1", name := "canEncode", desc := "(C)Z" } : Jvm.MethodName) jdk_43_method_3_code (1 : Nat) (Option.some Jvm.ClassFile.FieldType.boolean), Jvm.Cond.code ({ cls := "java/lang/StringLatin1", name := "toBytes", desc := "(C)[B" } : Jvm.MethodName) jdk_43_method_46_code (1 : Nat) (Option.some (Jvm.ClassFile.FieldType.array Jvm.ClassFile.FieldType.byte)), Jvm.Cond.code ({ cls := "java/lang/String", name := "<init>", desc := "([BB)V" } : Jvm.MethodName) jdk_42_method_151_code (3 : Nat) (Option.none : Option Jvm.ClassFile.FieldType), Jvm.Cond.code ({ cls := "java/lang/Object", name := "<init>", desc := "()V" } : Jvm.MethodName) object_method_1_code (1 : Nat) (Option.none : Option Jvm.ClassFile.FieldType), Jvm.Cond.code ({ cls := "com/example/chiton/chiton/runtime/ObjectGraph", name := "isPrimitive", desc := "(Ljava/lang/String;)Z" } : Jvm.MethodName) prog_45_method_8_code (1 : Nat) (Option.some Jvm.ClassFile.FieldType.boolean), Jvm.Cond.code ({ cls := "java/lang/String", name := "length", desc := "()I" } : Jvm.MethodName) jdk_42_method_54_code (1 : Nat) (Option.some Jvm.ClassFile.FieldType.int), Jvm.Cond.code ({ cls := "java/lang/String", name := "coder", desc := "()B" } : Jvm.MethodName) jdk_42_method_152_code (1 : Nat) (Option.some Jvm.ClassFile.FieldType.byte), Jvm.Cond.code ({ cls := "java/lang/String", name := "<init>", desc := "([C)V" } : Jvm.MethodName) jdk_42_method_3_code (2 : Nat) (Option.none : Option Jvm.ClassFile.FieldType), Jvm.Cond.code ({ cls := "java/lang/String", name := "<init>", desc := "([CIILjava/lang/Void;)V" } : Jvm.MethodName) jdk_42_method_149_code (6 : Nat) (Option.none : Option Jvm.ClassFile.FieldType), Jvm.Cond.code ({ cls := "java/lang/StringUTF16", name := "compress", desc := "([CII)[B" } : Jvm.MethodName) jdk_52_method_16_code (6 : Nat) (Option.some (Jvm.ClassFile.FieldType.array Jvm.ClassFile.FieldType.byte)), Jvm.Cond.code ({ cls := "java/lang/StringUTF16", name := "compress", desc := "([CI[BII)I" } : Jvm.MethodName) jdk_52_method_21_code (7 : Nat) (Option.some Jvm.ClassFile.FieldType.int), Jvm.Cond.code ({ cls := "java/lang/StringUTF16", name := "coderFromArrayLen", desc := "([BI)B" } : Jvm.MethodName) jdk_52_method_15_code (2 : Nat) (Option.some Jvm.ClassFile.FieldType.byte)]
set_option maxRecDepth 65536 in
theorem codes_eq : words1.filter isCode = codes1 := rfl
theorem w_codes : ∀ c ∈ words1.filter isCode, c.before args0 about1 = true := by
  rw [codes_eq]
  intro c hc
  simp only [codes1, List.mem_cons, List.not_mem_nil, or_false] at hc
  rcases hc with rfl | rfl | rfl | rfl | rfl | rfl | rfl | rfl | rfl | rfl | rfl | rfl | rfl | rfl | rfl
  · exact w_c0
  · exact w_c1
  · exact w_c2
  · exact w_c3
  · exact w_c4
  · exact w_c5
  · exact w_c6
  · exact w_c7
  · exact w_c8
  · exact w_c9
  · exact w_c10
  · exact w_c11
  · exact w_c12
  · exact w_c13
  · exact w_c14
set_option maxRecDepth 65536 in
theorem w_t1 : (words1.take 24).all (fun c => isCode c || c.before args0 about1) = true := by decide +kernel
set_option maxRecDepth 65536 in
theorem w_t2 : ((words1.drop 24).take 24).all (fun c => isCode c || c.before args0 about1) = true := by decide +kernel
set_option maxRecDepth 65536 in
theorem w_t3 : ((words1.drop 24).drop 24).all (fun c => isCode c || c.before args0 about1) = true := by decide +kernel
theorem w_tables : (allAtoms (Jvm.Cond.code x code maxLocals ret :: tables_1)).before args0 about1 = true := by
  rw [allAtoms_all]
  show words1.all (fun c => c.before args0 about1) = true
  refine all_split ?_ w_codes
  rw [← List.take_append_drop 24 words1, List.all_append, w_t1, ← List.take_append_drop 24 (words1.drop 24), List.all_append, w_t2, w_t3]
  rfl
set_option maxRecDepth 65536 in
theorem w_rest : rest_1_c.before args0 about1 = true := by decide +kernel
set_option maxRecDepth 65536 in
theorem w_case : (Jvm.Cond.and given_1 narrow_1).before args0 about1 = true := by decide +kernel
theorem w_applies : (headSpec (Jvm.Cond.code x code maxLocals ret :: tables_1) room_1).applies x e0.platform about1 = true :=
  (Spec.applies_iff w_frames).mpr ⟨w_running, w_runnable, w_alone, w_named, w_hears, w_ripe, w_room, w_tables⟩
theorem atStart : AtStart classFile x code maxLocals ret World_1 tables_1 room_1 Calls_1 rest_1 Pre_1 launch0 p0 e0 about1 theMethod args0 below0 :=
  ⟨lists_1, trivial, launch0.admits_env _ _ _, launch0.least_env, fairChoices_fair.cas, fairChoices_fair.clock, w_frames, w_args, w_heap, w_applies, trivial, w_rest, w_case⟩
end start1
theorem witness_1 : WitnessClaimed_1 := ⟨start1.p0, start1.e0, start1.about1, start1.theMethod, start1.args0, start1.below0, start1.atStart⟩
end Jvm.Pilot.@@N@@
