import JvmDerived
import JvmDerived.Pilot.@@N@@Statement
import JvmDerived.Pilot.@@N@@Code
set_option linter.unusedVariables false
set_option linter.unusedSimpArgs false
@@BLOCK:NumsL.lean.txt@@
@@BLOCK:LamKit.lean.txt@@
namespace Jvm.Own
open Sem ClassFile Op Lib Jvm.Stand Jvm.Free Jvm.LawKit Jvm.RoadKit
/-- from the state A the run comes to an end that meets G -/
def Goes (tb : Tables) (e : Env) (below : List Frame) (G : Outcome → State → Prop) (A : State) : Prop := ∃ s₂ o, Steps tb e below A s₂ ∧ s₂.status = .running ∧ Ended s₂ below o ∧ G o s₂
/-- what a body's walk may lean on throughout -/
def Ctx (p : Program) (Z s : State) (m : MethodId) (meth : Method) (c : Code) (bs : ByteArray) (own : String) (maxL : Nat) (ret : Option FieldType) : Prop :=
  p.tables.exec = Jvm.exec ∧ Z.Warmed39 s.vm ∧ c.code = bs ∧ c.maxLocals = maxL ∧ s.vm.findClass own = some m.cls ∧ meth.sig.returnType = ret ∧ meth.locks = false
section Kit
variable {p : Program} {l : Launch} {e : Env} {R : Room} {s : State} {m : MethodId} {args : Array Value} {below : List Frame} {meth : Method} {c : Code} {T : State} {locs : List Loc} {cells slots : Nat} {Z : State} {a0 : Array Value} {h : Heap} {G : Outcome → State → Prop} {bs : ByteArray} {own : String} {maxL : Nat} {ret : Option FieldType}
theorem Goes.on {tb : Tables} {A B : State} (k : ∀ t, Steps tb e below B t → Steps tb e below A t) (h : Goes tb e below G B) : Goes tb e below G A := by
  obtain ⟨s2, o, h1, h2⟩ := h
  exact ⟨s2, o, k _ h1, h2⟩
theorem Goes.to {tb : Tables} {A B : State} (q : A = B) (h : Goes tb e below G B) : Goes tb e below G A := q ▸ h
theorem body_of {y : MethodName} {bytes : ByteArray} {ws : List Cond} {as' : Array Value} {h0 : Heap} {Q : Option Value → Heap → List Loc → Prop} (hplain : plainFor y = true)
    (H : ∀ p e s m below meth c s₁ G, Ctx p Z s m meth c bytes y.cls maxL ret → meth.name = y.name → s.methodNamed? y = some m → Stand p l e R s m as' below meth c s₁ [] 0 0 → s₁.heap = h0 →
      (∀ (v : Option Value) (L : List Loc) (T' : State), Q v T'.heap L → s.WarmedH T'.vm → s.sameButNew ({ T' with vm := s.vm } : State) L R.cells R.slots → G (.returned v) T') →
      Goes p.tables e below G (s₁.setTop (entryFrame m as' maxL))) :
    MetFree l y (head1 (Cond.code y bytes maxL ret :: ws) R) (fun a U => a = as' ∧ Z.Warmed39 U.vm ∧ U.heap = h0) (fun _ _ _ _ _ => True) (fun _ U o U' => ∃ v L, o = .returned v ∧ Q v U'.heap L ∧ FrameEnd U o U' L R.cells R.slots) := by
  refine MetFree.of_bodySF hplain hisR ?_
  intro p e s m args below meth c s₁ Bd hml0 hP hK
  obtain ⟨rfl, hZ, hh⟩ := hP
  exact H p e s m below meth c s₁ _ ⟨Bd.exec, hZ, Bd.bytes, hml0, findClass_of_methodNamed Bd.named, Bd.returns, BodyLoose.notSynchronized Bd⟩ (name_of_methodNamed Bd.named Bd.method).1 Bd.named (Stand.of_body Bd) (by rw [← hh, Bd.state]; rfl)
    (fun v L T' hQ hW hS => ⟨v, L, rfl, hQ, ⟨_, rfl⟩, hW, hS⟩)

theorem g_iloadN (C : Ctx p Z s m meth c bs own maxL ret) (X : Stand p l e R s m args below meth c T locs cells slots) {pc pc' : Nat} {ls : Array Slot} {st : List Value} {k : Fin 4} {v : Int32} (hd : decode bs pc = .ok (.iload_n k, 1)) (hp : pc + 1 = pc') (hl : ls[k.val]? = some (.val (.int v)))
    (k : Goes p.tables e below G (T.setTop (mkF m pc' ls (.int v :: st)))) : Goes p.tables e below G (T.setTop (mkF m pc ls st)) := by
  subst hp
  exact Goes.on (fun _ k => XS.iloadN X.here C.1 rfl (hb C.2.2.1 hd) hl k) k
theorem g_iload (C : Ctx p Z s m meth c bs own maxL ret) (X : Stand p l e R s m args below meth c T locs cells slots) {pc pc' : Nat} {ls : Array Slot} {st : List Value} {k : Nat} {v : Int32} (hd : decode bs pc = .ok (.iload k, 2)) (hp : pc + 2 = pc') (hl : ls[k]? = some (.val (.int v)))
    (k : Goes p.tables e below G (T.setTop (mkF m pc' ls (.int v :: st)))) : Goes p.tables e below G (T.setTop (mkF m pc ls st)) := by
  subst hp
  exact Goes.on (fun _ k => XS.iload X.here C.1 rfl (hb C.2.2.1 hd) hl k) k
theorem g_istoreN (C : Ctx p Z s m meth c bs own maxL ret) (X : Stand p l e R s m args below meth c T locs cells slots) {pc pc' : Nat} {ls ls' : Array Slot} {st : List Value} {k : Fin 4} {v w : Int32} (hd : decode bs pc = .ok (.istore_n k, 1)) (hp : pc + 1 = pc') (hv : v = w) (hl : storeLocals ls k.val (.int w) = some ls')
    (k : Goes p.tables e below G (T.setTop (mkF m pc' ls' st))) : Goes p.tables e below G (T.setTop (mkF m pc ls (.int v :: st))) := by
  subst hp hv
  exact Goes.on (fun _ k => XS.istoreN X.here C.1 rfl (hb C.2.2.1 hd) rfl hl k) k
theorem g_istore (C : Ctx p Z s m meth c bs own maxL ret) (X : Stand p l e R s m args below meth c T locs cells slots) {pc pc' : Nat} {ls ls' : Array Slot} {st : List Value} {k : Nat} {v w : Int32} (hd : decode bs pc = .ok (.istore k, 2)) (hp : pc + 2 = pc') (hv : v = w) (hl : storeLocals ls k (.int w) = some ls')
    (k : Goes p.tables e below G (T.setTop (mkF m pc' ls' st))) : Goes p.tables e below G (T.setTop (mkF m pc ls (.int v :: st))) := by
  subst hp hv
  exact Goes.on (fun _ k => XS.istore X.here C.1 rfl (hb C.2.2.1 hd) rfl hl k) k
theorem g_lloadN (C : Ctx p Z s m meth c bs own maxL ret) (X : Stand p l e R s m args below meth c T locs cells slots) {pc pc' : Nat} {ls : Array Slot} {st : List Value} {k : Fin 4} {v : Int64} (hd : decode bs pc = .ok (.lload_n k, 1)) (hp : pc + 1 = pc') (hl : ls[k.val]? = some (.val (.long v)))
    (k : Goes p.tables e below G (T.setTop (mkF m pc' ls (.long v :: st)))) : Goes p.tables e below G (T.setTop (mkF m pc ls st)) := by
  subst hp
  exact Goes.on (fun _ k => XT.lloadN X.here C.1 rfl (hb C.2.2.1 hd) hl k) k
theorem g_lload (C : Ctx p Z s m meth c bs own maxL ret) (X : Stand p l e R s m args below meth c T locs cells slots) {pc pc' : Nat} {ls : Array Slot} {st : List Value} {k : Nat} {v : Int64} (hd : decode bs pc = .ok (.lload k, 2)) (hp : pc + 2 = pc') (hl : ls[k]? = some (.val (.long v)))
    (k : Goes p.tables e below G (T.setTop (mkF m pc' ls (.long v :: st)))) : Goes p.tables e below G (T.setTop (mkF m pc ls st)) := by
  subst hp
  exact Goes.on (fun _ k => XT.lload X.here C.1 rfl (hb C.2.2.1 hd) hl k) k
theorem g_lstoreN (C : Ctx p Z s m meth c bs own maxL ret) (X : Stand p l e R s m args below meth c T locs cells slots) {pc pc' : Nat} {ls ls' : Array Slot} {st : List Value} {k : Fin 4} {v w : Int64} (hd : decode bs pc = .ok (.lstore_n k, 1)) (hp : pc + 1 = pc') (hv : v = w) (hl : storeLocals ls k.val (.long w) = some ls')
    (k : Goes p.tables e below G (T.setTop (mkF m pc' ls' st))) : Goes p.tables e below G (T.setTop (mkF m pc ls (.long v :: st))) := by
  subst hp hv
  exact Goes.on (fun _ k => XT.lstoreN X.here C.1 rfl (hb C.2.2.1 hd) rfl hl k) k
theorem g_lstore (C : Ctx p Z s m meth c bs own maxL ret) (X : Stand p l e R s m args below meth c T locs cells slots) {pc pc' : Nat} {ls ls' : Array Slot} {st : List Value} {k : Nat} {v w : Int64} (hd : decode bs pc = .ok (.lstore k, 2)) (hp : pc + 2 = pc') (hv : v = w) (hl : storeLocals ls k (.long w) = some ls')
    (k : Goes p.tables e below G (T.setTop (mkF m pc' ls' st))) : Goes p.tables e below G (T.setTop (mkF m pc ls (.long v :: st))) := by
  subst hp hv
  exact Goes.on (fun _ k => XT.lstore X.here C.1 rfl (hb C.2.2.1 hd) rfl hl k) k
theorem g_aloadN (C : Ctx p Z s m meth c bs own maxL ret) (X : Stand p l e R s m args below meth c T locs cells slots) {pc pc' : Nat} {ls : Array Slot} {st : List Value} {k : Fin 4} {v : Value} (hd : decode bs pc = .ok (.aload_n k, 1)) (hp : pc + 1 = pc') (hl : ls[k.val]? = some (.val v)) (hv : v.isRef = true)
    (k : Goes p.tables e below G (T.setTop (mkF m pc' ls (v :: st)))) : Goes p.tables e below G (T.setTop (mkF m pc ls st)) := by
  subst hp
  exact Goes.on (fun _ k => XS.aloadN X.here C.1 rfl (hb C.2.2.1 hd) hl hv k) k
theorem g_aload (C : Ctx p Z s m meth c bs own maxL ret) (X : Stand p l e R s m args below meth c T locs cells slots) {pc pc' : Nat} {ls : Array Slot} {st : List Value} {k : Nat} {v : Value} (hd : decode bs pc = .ok (.aload k, 2)) (hp : pc + 2 = pc') (hl : ls[k]? = some (.val v)) (hv : v.isRef = true)
    (k : Goes p.tables e below G (T.setTop (mkF m pc' ls (v :: st)))) : Goes p.tables e below G (T.setTop (mkF m pc ls st)) := by
  subst hp
  exact Goes.on (fun _ k => XS.aload X.here C.1 rfl (hb C.2.2.1 hd) hl hv k) k
theorem g_astoreN (C : Ctx p Z s m meth c bs own maxL ret) (X : Stand p l e R s m args below meth c T locs cells slots) {pc pc' : Nat} {ls ls' : Array Slot} {st : List Value} {k : Fin 4} {v : Value} (hd : decode bs pc = .ok (.astore_n k, 1)) (hp : pc + 1 = pc') (hv : v.isRef = true) (hl : storeLocals ls k.val v = some ls')
    (k : Goes p.tables e below G (T.setTop (mkF m pc' ls' st))) : Goes p.tables e below G (T.setTop (mkF m pc ls (v :: st))) := by
  subst hp
  exact Goes.on (fun _ k => XS.astoreN X.here C.1 rfl (hb C.2.2.1 hd) rfl hv hl k) k
theorem g_astore (C : Ctx p Z s m meth c bs own maxL ret) (X : Stand p l e R s m args below meth c T locs cells slots) {pc pc' : Nat} {ls ls' : Array Slot} {st : List Value} {k : Nat} {v : Value} (hd : decode bs pc = .ok (.astore k, 2)) (hp : pc + 2 = pc') (hv : v.isRef = true) (hl : storeLocals ls k v = some ls')
    (k : Goes p.tables e below G (T.setTop (mkF m pc' ls' st))) : Goes p.tables e below G (T.setTop (mkF m pc ls (v :: st))) := by
  subst hp
  exact Goes.on (fun _ k => XS.astore X.here C.1 rfl (hb C.2.2.1 hd) rfl hv hl k) k
theorem g_iconst (C : Ctx p Z s m meth c bs own maxL ret) (X : Stand p l e R s m args below meth c T locs cells slots) {pc pc' : Nat} {ls : Array Slot} {st : List Value} {i : Int} {v : Int32} (hd : decode bs pc = .ok (.iconst i, 1)) (hp : pc + 1 = pc') (hv : Int32.ofInt i = v)
    (k : Goes p.tables e below G (T.setTop (mkF m pc' ls (.int v :: st)))) : Goes p.tables e below G (T.setTop (mkF m pc ls st)) := by
  subst hp hv
  exact Goes.on (fun _ k => XS.iconst X.here C.1 rfl (hb C.2.2.1 hd) k) k
theorem g_bipush (C : Ctx p Z s m meth c bs own maxL ret) (X : Stand p l e R s m args below meth c T locs cells slots) {pc pc' : Nat} {ls : Array Slot} {st : List Value} {i : Int} {v : Int32} (hd : decode bs pc = .ok (.bipush i, 2)) (hp : pc + 2 = pc') (hv : (Int8.ofInt i).toInt32 = v)
    (k : Goes p.tables e below G (T.setTop (mkF m pc' ls (.int v :: st)))) : Goes p.tables e below G (T.setTop (mkF m pc ls st)) := by
  subst hp hv
  exact Goes.on (fun _ k => XS.bipush X.here C.1 rfl (hb C.2.2.1 hd) k) k
theorem g_sipush (C : Ctx p Z s m meth c bs own maxL ret) (X : Stand p l e R s m args below meth c T locs cells slots) {pc pc' : Nat} {ls : Array Slot} {st : List Value} {i : Int} {v : Int32} (hd : decode bs pc = .ok (.sipush i, 3)) (hp : pc + 3 = pc') (hv : (Int16.ofInt i).toInt32 = v)
    (k : Goes p.tables e below G (T.setTop (mkF m pc' ls (.int v :: st)))) : Goes p.tables e below G (T.setTop (mkF m pc ls st)) := by
  subst hp hv
  exact Goes.on (fun _ k => XS.sipush X.here C.1 rfl (hb C.2.2.1 hd) k) k
theorem g_lconst (C : Ctx p Z s m meth c bs own maxL ret) (X : Stand p l e R s m args below meth c T locs cells slots) {pc pc' : Nat} {ls : Array Slot} {st : List Value} {i : Fin 2} {v : Int64} (hd : decode bs pc = .ok (.lconst i, 1)) (hp : pc + 1 = pc') (hv : Int64.ofNat i = v)
    (k : Goes p.tables e below G (T.setTop (mkF m pc' ls (.long v :: st)))) : Goes p.tables e below G (T.setTop (mkF m pc ls st)) := by
  subst hp hv
  exact Goes.on (fun _ k => XT.lconst X.here C.1 rfl (hb C.2.2.1 hd) k) k
theorem g_aconstNull (C : Ctx p Z s m meth c bs own maxL ret) (X : Stand p l e R s m args below meth c T locs cells slots) {pc pc' : Nat} {ls : Array Slot} {st : List Value}  (hd : decode bs pc = .ok (.aconst_null, 1)) (hp : pc + 1 = pc')
    (k : Goes p.tables e below G (T.setTop (mkF m pc' ls (.null :: st)))) : Goes p.tables e below G (T.setTop (mkF m pc ls st)) := by
  subst hp
  exact Goes.on (fun _ k => XS.aconstNull X.here C.1 rfl (hb C.2.2.1 hd) k) k
theorem g_iadd (C : Ctx p Z s m meth c bs own maxL ret) (X : Stand p l e R s m args below meth c T locs cells slots) {pc pc' : Nat} {ls : Array Slot} {st : List Value} {x y : Int32} (hd : decode bs pc = .ok (.iadd, 1)) (hp : pc + 1 = pc')
    (k : Goes p.tables e below G (T.setTop (mkF m pc' ls (.int (x + y) :: st)))) : Goes p.tables e below G (T.setTop (mkF m pc ls (.int y :: .int x :: st))) := by
  subst hp
  exact Goes.on (fun _ k => XS.iadd X.here C.1 rfl (hb C.2.2.1 hd) rfl k) k
theorem g_isub (C : Ctx p Z s m meth c bs own maxL ret) (X : Stand p l e R s m args below meth c T locs cells slots) {pc pc' : Nat} {ls : Array Slot} {st : List Value} {x y : Int32} (hd : decode bs pc = .ok (.isub, 1)) (hp : pc + 1 = pc')
    (k : Goes p.tables e below G (T.setTop (mkF m pc' ls (.int (x - y) :: st)))) : Goes p.tables e below G (T.setTop (mkF m pc ls (.int y :: .int x :: st))) := by
  subst hp
  exact Goes.on (fun _ k => XS.isub X.here C.1 rfl (hb C.2.2.1 hd) rfl k) k
theorem g_imul (C : Ctx p Z s m meth c bs own maxL ret) (X : Stand p l e R s m args below meth c T locs cells slots) {pc pc' : Nat} {ls : Array Slot} {st : List Value} {x y : Int32} (hd : decode bs pc = .ok (.imul, 1)) (hp : pc + 1 = pc')
    (k : Goes p.tables e below G (T.setTop (mkF m pc' ls (.int (x * y) :: st)))) : Goes p.tables e below G (T.setTop (mkF m pc ls (.int y :: .int x :: st))) := by
  subst hp
  exact Goes.on (fun _ k => XS.imul X.here C.1 rfl (hb C.2.2.1 hd) rfl k) k
theorem g_iand (C : Ctx p Z s m meth c bs own maxL ret) (X : Stand p l e R s m args below meth c T locs cells slots) {pc pc' : Nat} {ls : Array Slot} {st : List Value} {x y : Int32} (hd : decode bs pc = .ok (.iand, 1)) (hp : pc + 1 = pc')
    (k : Goes p.tables e below G (T.setTop (mkF m pc' ls (.int (x &&& y) :: st)))) : Goes p.tables e below G (T.setTop (mkF m pc ls (.int y :: .int x :: st))) := by
  subst hp
  exact Goes.on (fun _ k => XS.iand X.here C.1 rfl (hb C.2.2.1 hd) rfl k) k
theorem g_ior (C : Ctx p Z s m meth c bs own maxL ret) (X : Stand p l e R s m args below meth c T locs cells slots) {pc pc' : Nat} {ls : Array Slot} {st : List Value} {x y : Int32} (hd : decode bs pc = .ok (.ior, 1)) (hp : pc + 1 = pc')
    (k : Goes p.tables e below G (T.setTop (mkF m pc' ls (.int (x ||| y) :: st)))) : Goes p.tables e below G (T.setTop (mkF m pc ls (.int y :: .int x :: st))) := by
  subst hp
  exact Goes.on (fun _ k => XT.ior X.here C.1 rfl (hb C.2.2.1 hd) rfl k) k
theorem g_ixor (C : Ctx p Z s m meth c bs own maxL ret) (X : Stand p l e R s m args below meth c T locs cells slots) {pc pc' : Nat} {ls : Array Slot} {st : List Value} {x y : Int32} (hd : decode bs pc = .ok (.ixor, 1)) (hp : pc + 1 = pc')
    (k : Goes p.tables e below G (T.setTop (mkF m pc' ls (.int (x ^^^ y) :: st)))) : Goes p.tables e below G (T.setTop (mkF m pc ls (.int y :: .int x :: st))) := by
  subst hp
  exact Goes.on (fun _ k => XT.ixor X.here C.1 rfl (hb C.2.2.1 hd) rfl k) k
theorem g_ishl (C : Ctx p Z s m meth c bs own maxL ret) (X : Stand p l e R s m args below meth c T locs cells slots) {pc pc' : Nat} {ls : Array Slot} {st : List Value} {x y : Int32} (hd : decode bs pc = .ok (.ishl, 1)) (hp : pc + 1 = pc')
    (k : Goes p.tables e below G (T.setTop (mkF m pc' ls (.int (x <<< (y &&& 31)) :: st)))) : Goes p.tables e below G (T.setTop (mkF m pc ls (.int y :: .int x :: st))) := by
  subst hp
  exact Goes.on (fun _ k => XT.ishl X.here C.1 rfl (hb C.2.2.1 hd) rfl k) k
theorem g_ishr (C : Ctx p Z s m meth c bs own maxL ret) (X : Stand p l e R s m args below meth c T locs cells slots) {pc pc' : Nat} {ls : Array Slot} {st : List Value} {x y : Int32} (hd : decode bs pc = .ok (.ishr, 1)) (hp : pc + 1 = pc')
    (k : Goes p.tables e below G (T.setTop (mkF m pc' ls (.int (x >>> (y &&& 31)) :: st)))) : Goes p.tables e below G (T.setTop (mkF m pc ls (.int y :: .int x :: st))) := by
  subst hp
  exact Goes.on (fun _ k => XT.ishr X.here C.1 rfl (hb C.2.2.1 hd) rfl k) k
theorem g_iushr (C : Ctx p Z s m meth c bs own maxL ret) (X : Stand p l e R s m args below meth c T locs cells slots) {pc pc' : Nat} {ls : Array Slot} {st : List Value} {x y : Int32} (hd : decode bs pc = .ok (.iushr, 1)) (hp : pc + 1 = pc')
    (k : Goes p.tables e below G (T.setTop (mkF m pc' ls (.int (XT.ushr x y) :: st)))) : Goes p.tables e below G (T.setTop (mkF m pc ls (.int y :: .int x :: st))) := by
  subst hp
  exact Goes.on (fun _ k => XT.iushr X.here C.1 rfl (hb C.2.2.1 hd) rfl k) k
theorem g_ladd (C : Ctx p Z s m meth c bs own maxL ret) (X : Stand p l e R s m args below meth c T locs cells slots) {pc pc' : Nat} {ls : Array Slot} {st : List Value} {x y : Int64} (hd : decode bs pc = .ok (.ladd, 1)) (hp : pc + 1 = pc')
    (k : Goes p.tables e below G (T.setTop (mkF m pc' ls (.long (x + y) :: st)))) : Goes p.tables e below G (T.setTop (mkF m pc ls (.long y :: .long x :: st))) := by
  subst hp
  exact Goes.on (fun _ k => XT.ladd X.here C.1 rfl (hb C.2.2.1 hd) rfl k) k
theorem g_lsub (C : Ctx p Z s m meth c bs own maxL ret) (X : Stand p l e R s m args below meth c T locs cells slots) {pc pc' : Nat} {ls : Array Slot} {st : List Value} {x y : Int64} (hd : decode bs pc = .ok (.lsub, 1)) (hp : pc + 1 = pc')
    (k : Goes p.tables e below G (T.setTop (mkF m pc' ls (.long (x - y) :: st)))) : Goes p.tables e below G (T.setTop (mkF m pc ls (.long y :: .long x :: st))) := by
  subst hp
  exact Goes.on (fun _ k => XT.lsub X.here C.1 rfl (hb C.2.2.1 hd) rfl k) k
theorem g_lmul (C : Ctx p Z s m meth c bs own maxL ret) (X : Stand p l e R s m args below meth c T locs cells slots) {pc pc' : Nat} {ls : Array Slot} {st : List Value} {x y : Int64} (hd : decode bs pc = .ok (.lmul, 1)) (hp : pc + 1 = pc')
    (k : Goes p.tables e below G (T.setTop (mkF m pc' ls (.long (x * y) :: st)))) : Goes p.tables e below G (T.setTop (mkF m pc ls (.long y :: .long x :: st))) := by
  subst hp
  exact Goes.on (fun _ k => XT.lmul X.here C.1 rfl (hb C.2.2.1 hd) rfl k) k
theorem g_land (C : Ctx p Z s m meth c bs own maxL ret) (X : Stand p l e R s m args below meth c T locs cells slots) {pc pc' : Nat} {ls : Array Slot} {st : List Value} {x y : Int64} (hd : decode bs pc = .ok (.land, 1)) (hp : pc + 1 = pc')
    (k : Goes p.tables e below G (T.setTop (mkF m pc' ls (.long (x &&& y) :: st)))) : Goes p.tables e below G (T.setTop (mkF m pc ls (.long y :: .long x :: st))) := by
  subst hp
  exact Goes.on (fun _ k => XT.land X.here C.1 rfl (hb C.2.2.1 hd) rfl k) k
theorem g_lor (C : Ctx p Z s m meth c bs own maxL ret) (X : Stand p l e R s m args below meth c T locs cells slots) {pc pc' : Nat} {ls : Array Slot} {st : List Value} {x y : Int64} (hd : decode bs pc = .ok (.lor, 1)) (hp : pc + 1 = pc')
    (k : Goes p.tables e below G (T.setTop (mkF m pc' ls (.long (x ||| y) :: st)))) : Goes p.tables e below G (T.setTop (mkF m pc ls (.long y :: .long x :: st))) := by
  subst hp
  exact Goes.on (fun _ k => XT.lor X.here C.1 rfl (hb C.2.2.1 hd) rfl k) k
theorem g_lxor (C : Ctx p Z s m meth c bs own maxL ret) (X : Stand p l e R s m args below meth c T locs cells slots) {pc pc' : Nat} {ls : Array Slot} {st : List Value} {x y : Int64} (hd : decode bs pc = .ok (.lxor, 1)) (hp : pc + 1 = pc')
    (k : Goes p.tables e below G (T.setTop (mkF m pc' ls (.long (x ^^^ y) :: st)))) : Goes p.tables e below G (T.setTop (mkF m pc ls (.long y :: .long x :: st))) := by
  subst hp
  exact Goes.on (fun _ k => XT.lxor X.here C.1 rfl (hb C.2.2.1 hd) rfl k) k
theorem g_lshl (C : Ctx p Z s m meth c bs own maxL ret) (X : Stand p l e R s m args below meth c T locs cells slots) {pc pc' : Nat} {ls : Array Slot} {st : List Value} {x : Int64} {y : Int32} (hd : decode bs pc = .ok (.lshl, 1)) (hp : pc + 1 = pc')
    (k : Goes p.tables e below G (T.setTop (mkF m pc' ls (.long (x <<< (y.toInt64 &&& 63)) :: st)))) : Goes p.tables e below G (T.setTop (mkF m pc ls (.int y :: .long x :: st))) := by
  subst hp
  exact Goes.on (fun _ k => XT.lshl X.here C.1 rfl (hb C.2.2.1 hd) rfl k) k
theorem g_lshr (C : Ctx p Z s m meth c bs own maxL ret) (X : Stand p l e R s m args below meth c T locs cells slots) {pc pc' : Nat} {ls : Array Slot} {st : List Value} {x : Int64} {y : Int32} (hd : decode bs pc = .ok (.lshr, 1)) (hp : pc + 1 = pc')
    (k : Goes p.tables e below G (T.setTop (mkF m pc' ls (.long (x >>> (y.toInt64 &&& 63)) :: st)))) : Goes p.tables e below G (T.setTop (mkF m pc ls (.int y :: .long x :: st))) := by
  subst hp
  exact Goes.on (fun _ k => XT.lshr X.here C.1 rfl (hb C.2.2.1 hd) rfl k) k
theorem g_lushr (C : Ctx p Z s m meth c bs own maxL ret) (X : Stand p l e R s m args below meth c T locs cells slots) {pc pc' : Nat} {ls : Array Slot} {st : List Value} {x : Int64} {y : Int32} (hd : decode bs pc = .ok (.lushr, 1)) (hp : pc + 1 = pc')
    (k : Goes p.tables e below G (T.setTop (mkF m pc' ls (.long (XT.ushrL x y) :: st)))) : Goes p.tables e below G (T.setTop (mkF m pc ls (.int y :: .long x :: st))) := by
  subst hp
  exact Goes.on (fun _ k => XT.lushr X.here C.1 rfl (hb C.2.2.1 hd) rfl k) k
theorem g_idiv (C : Ctx p Z s m meth c bs own maxL ret) (X : Stand p l e R s m args below meth c T locs cells slots) {pc pc' : Nat} {ls : Array Slot} {st : List Value} {x y : Int32} (hd : decode bs pc = .ok (.idiv, 1)) (hp : pc + 1 = pc') (hy : y ≠ 0)
    (k : Goes p.tables e below G (T.setTop (mkF m pc' ls (.int (x / y) :: st)))) : Goes p.tables e below G (T.setTop (mkF m pc ls (.int y :: .int x :: st))) := by
  subst hp
  exact Goes.on (fun _ k => XS.idiv X.here C.1 rfl (hb C.2.2.1 hd) rfl hy k) k
theorem g_ldiv (C : Ctx p Z s m meth c bs own maxL ret) (X : Stand p l e R s m args below meth c T locs cells slots) {pc pc' : Nat} {ls : Array Slot} {st : List Value} {x y : Int64} (hd : decode bs pc = .ok (.ldiv, 1)) (hp : pc + 1 = pc') (hy : y ≠ 0)
    (k : Goes p.tables e below G (T.setTop (mkF m pc' ls (.long (x / y) :: st)))) : Goes p.tables e below G (T.setTop (mkF m pc ls (.long y :: .long x :: st))) := by
  subst hp
  exact Goes.on (fun _ k => XT.ldiv X.here C.1 rfl (hb C.2.2.1 hd) rfl hy k) k
theorem g_irem (C : Ctx p Z s m meth c bs own maxL ret) (X : Stand p l e R s m args below meth c T locs cells slots) {pc pc' : Nat} {ls : Array Slot} {st : List Value} {x y : Int32} (hd : decode bs pc = .ok (.irem, 1)) (hp : pc + 1 = pc') (hy : y ≠ 0)
    (k : Goes p.tables e below G (T.setTop (mkF m pc' ls (.int (x % y) :: st)))) : Goes p.tables e below G (T.setTop (mkF m pc ls (.int y :: .int x :: st))) := by
  subst hp
  exact Goes.on (fun _ k => iremM X C.1 rfl (hb C.2.2.1 hd) rfl hy k) k
theorem g_lrem (C : Ctx p Z s m meth c bs own maxL ret) (X : Stand p l e R s m args below meth c T locs cells slots) {pc pc' : Nat} {ls : Array Slot} {st : List Value} {x y : Int64} (hd : decode bs pc = .ok (.lrem, 1)) (hp : pc + 1 = pc') (hy : y ≠ 0)
    (k : Goes p.tables e below G (T.setTop (mkF m pc' ls (.long (x - (x / y) * y) :: st)))) : Goes p.tables e below G (T.setTop (mkF m pc ls (.long y :: .long x :: st))) := by
  subst hp
  exact Goes.on (fun _ k => XT.lrem X.here C.1 rfl (hb C.2.2.1 hd) rfl hy k) k
theorem g_ineg (C : Ctx p Z s m meth c bs own maxL ret) (X : Stand p l e R s m args below meth c T locs cells slots) {pc pc' : Nat} {ls : Array Slot} {st : List Value} {x : Int32} (hd : decode bs pc = .ok (.ineg, 1)) (hp : pc + 1 = pc')
    (k : Goes p.tables e below G (T.setTop (mkF m pc' ls (.int (-x) :: st)))) : Goes p.tables e below G (T.setTop (mkF m pc ls (.int x :: st))) := by
  subst hp
  exact Goes.on (fun _ k => XS.ineg X.here C.1 rfl (hb C.2.2.1 hd) rfl k) k
theorem g_lneg (C : Ctx p Z s m meth c bs own maxL ret) (X : Stand p l e R s m args below meth c T locs cells slots) {pc pc' : Nat} {ls : Array Slot} {st : List Value} {x : Int64} (hd : decode bs pc = .ok (.lneg, 1)) (hp : pc + 1 = pc')
    (k : Goes p.tables e below G (T.setTop (mkF m pc' ls (.long (-x) :: st)))) : Goes p.tables e below G (T.setTop (mkF m pc ls (.long x :: st))) := by
  subst hp
  exact Goes.on (fun _ k => XT.lneg X.here C.1 rfl (hb C.2.2.1 hd) rfl k) k
theorem g_i2l (C : Ctx p Z s m meth c bs own maxL ret) (X : Stand p l e R s m args below meth c T locs cells slots) {pc pc' : Nat} {ls : Array Slot} {st : List Value} {x : Int32} (hd : decode bs pc = .ok (.i2l, 1)) (hp : pc + 1 = pc')
    (k : Goes p.tables e below G (T.setTop (mkF m pc' ls (.long x.toInt64 :: st)))) : Goes p.tables e below G (T.setTop (mkF m pc ls (.int x :: st))) := by
  subst hp
  exact Goes.on (fun _ k => XT.i2l X.here C.1 rfl (hb C.2.2.1 hd) rfl k) k
theorem g_l2i (C : Ctx p Z s m meth c bs own maxL ret) (X : Stand p l e R s m args below meth c T locs cells slots) {pc pc' : Nat} {ls : Array Slot} {st : List Value} {x : Int64} (hd : decode bs pc = .ok (.l2i, 1)) (hp : pc + 1 = pc')
    (k : Goes p.tables e below G (T.setTop (mkF m pc' ls (.int x.toInt32 :: st)))) : Goes p.tables e below G (T.setTop (mkF m pc ls (.long x :: st))) := by
  subst hp
  exact Goes.on (fun _ k => XT.l2i X.here C.1 rfl (hb C.2.2.1 hd) rfl k) k
theorem g_i2c (C : Ctx p Z s m meth c bs own maxL ret) (X : Stand p l e R s m args below meth c T locs cells slots) {pc pc' : Nat} {ls : Array Slot} {st : List Value} {x : Int32} (hd : decode bs pc = .ok (.i2c, 1)) (hp : pc + 1 = pc')
    (k : Goes p.tables e below G (T.setTop (mkF m pc' ls (.int x.toUInt32.toUInt16.toUInt32.toInt32 :: st)))) : Goes p.tables e below G (T.setTop (mkF m pc ls (.int x :: st))) := by
  subst hp
  exact Goes.on (fun _ k => XT.i2c X.here C.1 rfl (hb C.2.2.1 hd) rfl k) k
theorem g_i2b (C : Ctx p Z s m meth c bs own maxL ret) (X : Stand p l e R s m args below meth c T locs cells slots) {pc pc' : Nat} {ls : Array Slot} {st : List Value} {x : Int32} (hd : decode bs pc = .ok (.i2b, 1)) (hp : pc + 1 = pc')
    (k : Goes p.tables e below G (T.setTop (mkF m pc' ls (.int x.toInt8.toInt32 :: st)))) : Goes p.tables e below G (T.setTop (mkF m pc ls (.int x :: st))) := by
  subst hp
  exact Goes.on (fun _ k => XT.i2b X.here C.1 rfl (hb C.2.2.1 hd) rfl k) k
theorem g_i2s (C : Ctx p Z s m meth c bs own maxL ret) (X : Stand p l e R s m args below meth c T locs cells slots) {pc pc' : Nat} {ls : Array Slot} {st : List Value} {x : Int32} (hd : decode bs pc = .ok (.i2s, 1)) (hp : pc + 1 = pc')
    (k : Goes p.tables e below G (T.setTop (mkF m pc' ls (.int x.toInt16.toInt32 :: st)))) : Goes p.tables e below G (T.setTop (mkF m pc ls (.int x :: st))) := by
  subst hp
  exact Goes.on (fun _ k => XT.i2s X.here C.1 rfl (hb C.2.2.1 hd) rfl k) k
theorem g_dup (C : Ctx p Z s m meth c bs own maxL ret) (X : Stand p l e R s m args below meth c T locs cells slots) {pc pc' : Nat} {ls : Array Slot} {st : List Value} {x : Value} (hd : decode bs pc = .ok (.dup, 1)) (hp : pc + 1 = pc') (hc : x.category = 1)
    (k : Goes p.tables e below G (T.setTop (mkF m pc' ls (x :: x :: st)))) : Goes p.tables e below G (T.setTop (mkF m pc ls (x :: st))) := by
  subst hp
  exact Goes.on (fun _ k => XS.dup X.here C.1 rfl (hb C.2.2.1 hd) rfl hc k) k
theorem g_dupX1 (C : Ctx p Z s m meth c bs own maxL ret) (X : Stand p l e R s m args below meth c T locs cells slots) {pc pc' : Nat} {ls : Array Slot} {st : List Value} {x y : Value} (hd : decode bs pc = .ok (.dup_x1, 1)) (hp : pc + 1 = pc') (hc : x.category = 1) (hc' : y.category = 1)
    (k : Goes p.tables e below G (T.setTop (mkF m pc' ls (x :: y :: x :: st)))) : Goes p.tables e below G (T.setTop (mkF m pc ls (x :: y :: st))) := by
  subst hp
  exact Goes.on (fun _ k => XT.dupX1 X.here C.1 rfl (hb C.2.2.1 hd) rfl hc hc' k) k
theorem g_dup2 (C : Ctx p Z s m meth c bs own maxL ret) (X : Stand p l e R s m args below meth c T locs cells slots) {pc pc' : Nat} {ls : Array Slot} {st : List Value} {x y : Value} (hd : decode bs pc = .ok (.dup2, 1)) (hp : pc + 1 = pc') (hc : x.category = 1) (hc' : y.category = 1)
    (k : Goes p.tables e below G (T.setTop (mkF m pc' ls (x :: y :: x :: y :: st)))) : Goes p.tables e below G (T.setTop (mkF m pc ls (x :: y :: st))) := by
  subst hp
  exact Goes.on (fun _ k => XT.dup2 X.here C.1 rfl (hb C.2.2.1 hd) rfl hc hc' k) k
theorem g_dup2L (C : Ctx p Z s m meth c bs own maxL ret) (X : Stand p l e R s m args below meth c T locs cells slots) {pc pc' : Nat} {ls : Array Slot} {st : List Value} {x : Int64} (hd : decode bs pc = .ok (.dup2, 1)) (hp : pc + 1 = pc')
    (k : Goes p.tables e below G (T.setTop (mkF m pc' ls (.long x :: .long x :: st)))) : Goes p.tables e below G (T.setTop (mkF m pc ls (.long x :: st))) := by
  subst hp
  exact Goes.on (fun _ k => XT.dup2L X.here C.1 rfl (hb C.2.2.1 hd) rfl k) k
theorem g_pop (C : Ctx p Z s m meth c bs own maxL ret) (X : Stand p l e R s m args below meth c T locs cells slots) {pc pc' : Nat} {ls : Array Slot} {st : List Value} {x : Value} (hd : decode bs pc = .ok (.pop, 1)) (hp : pc + 1 = pc') (hc : x.category = 1)
    (k : Goes p.tables e below G (T.setTop (mkF m pc' ls st))) : Goes p.tables e below G (T.setTop (mkF m pc ls (x :: st))) := by
  subst hp
  exact Goes.on (fun _ k => XT.pop X.here C.1 rfl (hb C.2.2.1 hd) rfl hc k) k
theorem g_iinc (C : Ctx p Z s m meth c bs own maxL ret) (X : Stand p l e R s m args below meth c T locs cells slots) {pc pc' : Nat} {ls ls' : Array Slot} {st : List Value} {k : Nat} {cst : Int} {x w : Int32} (hd : decode bs pc = .ok (.iinc k cst, 3)) (hp : pc + 3 = pc') (hl : ls[k]? = some (.val (.int x))) (hv : x + Int32.ofInt cst = w) (hl' : storeLocals ls k (.int w) = some ls')
    (k : Goes p.tables e below G (T.setTop (mkF m pc' ls' st))) : Goes p.tables e below G (T.setTop (mkF m pc ls st)) := by
  subst hp hv
  exact Goes.on (fun _ k => XS.iinc X.here C.1 rfl (hb C.2.2.1 hd) hl hl' k) k
theorem g_dloadN (C : Ctx p Z s m meth c bs own maxL ret) (X : Stand p l e R s m args below meth c T locs cells slots) {pc pc' : Nat} {ls : Array Slot} {st : List Value} {k : Fin 4} {v : UInt64} (hd : decode bs pc = .ok (.dload_n k, 1)) (hp : pc + 1 = pc') (hl : ls[k.val]? = some (.val (.double v)))
    (k : Goes p.tables e below G (T.setTop (mkF m pc' ls (.double v :: st)))) : Goes p.tables e below G (T.setTop (mkF m pc ls st)) := by
  subst hp
  exact Goes.on (fun _ k => XS.dloadN X.here C.1 rfl (hb C.2.2.1 hd) hl k) k
theorem g_dload (C : Ctx p Z s m meth c bs own maxL ret) (X : Stand p l e R s m args below meth c T locs cells slots) {pc pc' : Nat} {ls : Array Slot} {st : List Value} {k : Nat} {v : UInt64} (hd : decode bs pc = .ok (.dload k, 2)) (hp : pc + 2 = pc') (hl : ls[k]? = some (.val (.double v)))
    (k : Goes p.tables e below G (T.setTop (mkF m pc' ls (.double v :: st)))) : Goes p.tables e below G (T.setTop (mkF m pc ls st)) := by
  subst hp
  exact Goes.on (fun _ k => XS.dload X.here C.1 rfl (hb C.2.2.1 hd) hl k) k
theorem g_dstore (C : Ctx p Z s m meth c bs own maxL ret) (X : Stand p l e R s m args below meth c T locs cells slots) {pc pc' : Nat} {ls ls' : Array Slot} {st : List Value} {k : Nat} {v w : UInt64} (hd : decode bs pc = .ok (.dstore k, 2)) (hp : pc + 2 = pc') (hv : v = w) (hl : storeLocals ls k (.double w) = some ls')
    (k : Goes p.tables e below G (T.setTop (mkF m pc' ls' st))) : Goes p.tables e below G (T.setTop (mkF m pc ls (.double v :: st))) := by
  subst hp hv
  exact Goes.on (fun _ k => XS.dstore X.here C.1 rfl (hb C.2.2.1 hd) rfl hl k) k
theorem g_i2d (C : Ctx p Z s m meth c bs own maxL ret) (X : Stand p l e R s m args below meth c T locs cells slots) {pc pc' : Nat} {ls : Array Slot} {st : List Value} {x : Int32} (hd : decode bs pc = .ok (.i2d, 1)) (hp : pc + 1 = pc')
    (k : Goes p.tables e below G (T.setTop (mkF m pc' ls (.double (FP.i2d x) :: st)))) : Goes p.tables e below G (T.setTop (mkF m pc ls (.int x :: st))) := by
  subst hp
  exact Goes.on (fun _ k => XS.i2dS X.here C.1 rfl (hb C.2.2.1 hd) rfl rfl k) k
theorem g_goto (C : Ctx p Z s m meth c bs own maxL ret) (X : Stand p l e R s m args below meth c T locs cells slots) {pc pc' : Nat} {ls : Array Slot} {st : List Value} {o : Int} (hd : decode bs pc = .ok (.goto o, 3)) (ho : 0 ≤ (pc : Int) + o) (hp : ((pc : Int) + o).toNat = pc')
    (k : Goes p.tables e below G (T.setTop (mkF m pc' ls st))) : Goes p.tables e below G (T.setTop (mkF m pc ls st)) :=
  Goes.on (fun _ k => XS.goto X.here C.1 rfl (pc0 := pc) (pc' := pc') rfl (hb C.2.2.1 hd) ho hp k) k
theorem cmpL_lt (x y : Int64) : XT.cmpL x y < 0 ↔ x < y := by unfold XT.cmpL; split <;> (try split) <;> simp_all [Int64.lt_iff_toInt_lt, ← Int64.toInt_inj] <;> omega
theorem cmpL_gt (x y : Int64) : 0 < XT.cmpL x y ↔ y < x := by unfold XT.cmpL; split <;> (try split) <;> simp_all [Int64.lt_iff_toInt_lt, ← Int64.toInt_inj] <;> omega
theorem cmpL_eq (x y : Int64) : XT.cmpL x y = 0 ↔ x = y := by unfold XT.cmpL; split <;> (try split) <;> simp_all [Int64.lt_iff_toInt_lt, ← Int64.toInt_inj] <;> omega
theorem g_icmp_eq (C : Ctx p Z s m meth c bs own maxL ret) (X : Stand p l e R s m args below meth c T locs cells slots) {pc pcT pcN : Nat} {ls : Array Slot} {st : List Value} {x y : Int32} {o : Int} (hd : decode bs pc = .ok (.if_icmp .eq o, 3)) (ho : 0 ≤ (pc : Int) + o) (hp : ((pc : Int) + o).toNat = pcT) (hq : pc + 3 = pcN)
    (hyes : x = y → Goes p.tables e below G (T.setTop (mkF m pcT ls st))) (hno : ¬ x = y → Goes p.tables e below G (T.setTop (mkF m pcN ls st))) : Goes p.tables e below G (T.setTop (mkF m pc ls (.int y :: .int x :: st))) := by
  subst hq
  by_cases q : x = y
  · exact Goes.on (fun _ k => XS.icmpYes X.here C.1 rfl (pc0 := pc) (pc' := pcT) rfl (hb C.2.2.1 hd) rfl (teq q).1 ho hp k) (hyes q)
  · exact Goes.on (fun _ k => XS.icmpNo X.here C.1 rfl (hb C.2.2.1 hd) rfl (feq q).1 k) (hno q)
theorem g_if_eq (C : Ctx p Z s m meth c bs own maxL ret) (X : Stand p l e R s m args below meth c T locs cells slots) {pc pcT pcN : Nat} {ls : Array Slot} {st : List Value} {x : Int32} {o : Int} (hd : decode bs pc = .ok (.ifCond .eq o, 3)) (ho : 0 ≤ (pc : Int) + o) (hp : ((pc : Int) + o).toNat = pcT) (hq : pc + 3 = pcN)
    (hyes : x = (0 : Int32) → Goes p.tables e below G (T.setTop (mkF m pcT ls st))) (hno : ¬ x = (0 : Int32) → Goes p.tables e below G (T.setTop (mkF m pcN ls st))) : Goes p.tables e below G (T.setTop (mkF m pc ls (.int x :: st))) := by
  subst hq
  by_cases q : x = (0 : Int32)
  · exact Goes.on (fun _ k => XS.ifYes X.here C.1 rfl (pc0 := pc) (pc' := pcT) rfl (hb C.2.2.1 hd) rfl ((if0 _ _).trans (teq q).1) ho hp k) (hyes q)
  · exact Goes.on (fun _ k => XS.ifNo X.here C.1 rfl (hb C.2.2.1 hd) rfl ((if0 _ _).trans (feq q).1) k) (hno q)
theorem g_lcmp_eq (C : Ctx p Z s m meth c bs own maxL ret) (X : Stand p l e R s m args below meth c T locs cells slots) {pc pc1 pcT pcN : Nat} {ls : Array Slot} {st : List Value} {x y : Int64} {o : Int} (hd : decode bs pc = .ok (.lcmp, 1)) (h1 : pc + 1 = pc1) (hd1 : decode bs pc1 = .ok (.ifCond .eq o, 3)) (ho : 0 ≤ (pc1 : Int) + o) (hp : ((pc1 : Int) + o).toNat = pcT) (hq : pc1 + 3 = pcN)
    (hyes : x = y → Goes p.tables e below G (T.setTop (mkF m pcT ls st))) (hno : ¬ x = y → Goes p.tables e below G (T.setTop (mkF m pcN ls st))) : Goes p.tables e below G (T.setTop (mkF m pc ls (.long y :: .long x :: st))) := by
  subst h1
  exact Goes.on (fun _ k => XT.lcmp X.here C.1 rfl (hb C.2.2.1 hd) rfl k) (g_if_eq C X hd1 ho hp hq (fun q => hyes ((cmpL_eq x y).mp q)) (fun q => hno ((not_congr (cmpL_eq x y)).mp q)))
theorem g_icmp_ne (C : Ctx p Z s m meth c bs own maxL ret) (X : Stand p l e R s m args below meth c T locs cells slots) {pc pcT pcN : Nat} {ls : Array Slot} {st : List Value} {x y : Int32} {o : Int} (hd : decode bs pc = .ok (.if_icmp .ne o, 3)) (ho : 0 ≤ (pc : Int) + o) (hp : ((pc : Int) + o).toNat = pcT) (hq : pc + 3 = pcN)
    (hyes : ¬ x = y → Goes p.tables e below G (T.setTop (mkF m pcT ls st))) (hno : x = y → Goes p.tables e below G (T.setTop (mkF m pcN ls st))) : Goes p.tables e below G (T.setTop (mkF m pc ls (.int y :: .int x :: st))) := by
  subst hq
  by_cases q : x = y
  · exact Goes.on (fun _ k => XS.icmpNo X.here C.1 rfl (hb C.2.2.1 hd) rfl (teq q).2 k) (hno q)
  · exact Goes.on (fun _ k => XS.icmpYes X.here C.1 rfl (pc0 := pc) (pc' := pcT) rfl (hb C.2.2.1 hd) rfl (feq q).2 ho hp k) (hyes q)
theorem g_if_ne (C : Ctx p Z s m meth c bs own maxL ret) (X : Stand p l e R s m args below meth c T locs cells slots) {pc pcT pcN : Nat} {ls : Array Slot} {st : List Value} {x : Int32} {o : Int} (hd : decode bs pc = .ok (.ifCond .ne o, 3)) (ho : 0 ≤ (pc : Int) + o) (hp : ((pc : Int) + o).toNat = pcT) (hq : pc + 3 = pcN)
    (hyes : ¬ x = (0 : Int32) → Goes p.tables e below G (T.setTop (mkF m pcT ls st))) (hno : x = (0 : Int32) → Goes p.tables e below G (T.setTop (mkF m pcN ls st))) : Goes p.tables e below G (T.setTop (mkF m pc ls (.int x :: st))) := by
  subst hq
  by_cases q : x = (0 : Int32)
  · exact Goes.on (fun _ k => XS.ifNo X.here C.1 rfl (hb C.2.2.1 hd) rfl ((if0 _ _).trans (teq q).2) k) (hno q)
  · exact Goes.on (fun _ k => XS.ifYes X.here C.1 rfl (pc0 := pc) (pc' := pcT) rfl (hb C.2.2.1 hd) rfl ((if0 _ _).trans (feq q).2) ho hp k) (hyes q)
theorem g_lcmp_ne (C : Ctx p Z s m meth c bs own maxL ret) (X : Stand p l e R s m args below meth c T locs cells slots) {pc pc1 pcT pcN : Nat} {ls : Array Slot} {st : List Value} {x y : Int64} {o : Int} (hd : decode bs pc = .ok (.lcmp, 1)) (h1 : pc + 1 = pc1) (hd1 : decode bs pc1 = .ok (.ifCond .ne o, 3)) (ho : 0 ≤ (pc1 : Int) + o) (hp : ((pc1 : Int) + o).toNat = pcT) (hq : pc1 + 3 = pcN)
    (hyes : ¬ x = y → Goes p.tables e below G (T.setTop (mkF m pcT ls st))) (hno : x = y → Goes p.tables e below G (T.setTop (mkF m pcN ls st))) : Goes p.tables e below G (T.setTop (mkF m pc ls (.long y :: .long x :: st))) := by
  subst h1
  exact Goes.on (fun _ k => XT.lcmp X.here C.1 rfl (hb C.2.2.1 hd) rfl k) (g_if_ne C X hd1 ho hp hq (fun q => hyes ((not_congr (cmpL_eq x y)).mp q)) (fun q => hno ((cmpL_eq x y).mp q)))
theorem g_icmp_lt (C : Ctx p Z s m meth c bs own maxL ret) (X : Stand p l e R s m args below meth c T locs cells slots) {pc pcT pcN : Nat} {ls : Array Slot} {st : List Value} {x y : Int32} {o : Int} (hd : decode bs pc = .ok (.if_icmp .lt o, 3)) (ho : 0 ≤ (pc : Int) + o) (hp : ((pc : Int) + o).toNat = pcT) (hq : pc + 3 = pcN)
    (hyes : x < y → Goes p.tables e below G (T.setTop (mkF m pcT ls st))) (hno : ¬ x < y → Goes p.tables e below G (T.setTop (mkF m pcN ls st))) : Goes p.tables e below G (T.setTop (mkF m pc ls (.int y :: .int x :: st))) := by
  subst hq
  by_cases q : x < y
  · exact Goes.on (fun _ k => XS.icmpYes X.here C.1 rfl (pc0 := pc) (pc' := pcT) rfl (hb C.2.2.1 hd) rfl (tlt q).1 ho hp k) (hyes q)
  · exact Goes.on (fun _ k => XS.icmpNo X.here C.1 rfl (hb C.2.2.1 hd) rfl (flt q).1 k) (hno q)
theorem g_if_lt (C : Ctx p Z s m meth c bs own maxL ret) (X : Stand p l e R s m args below meth c T locs cells slots) {pc pcT pcN : Nat} {ls : Array Slot} {st : List Value} {x : Int32} {o : Int} (hd : decode bs pc = .ok (.ifCond .lt o, 3)) (ho : 0 ≤ (pc : Int) + o) (hp : ((pc : Int) + o).toNat = pcT) (hq : pc + 3 = pcN)
    (hyes : x < (0 : Int32) → Goes p.tables e below G (T.setTop (mkF m pcT ls st))) (hno : ¬ x < (0 : Int32) → Goes p.tables e below G (T.setTop (mkF m pcN ls st))) : Goes p.tables e below G (T.setTop (mkF m pc ls (.int x :: st))) := by
  subst hq
  by_cases q : x < (0 : Int32)
  · exact Goes.on (fun _ k => XS.ifYes X.here C.1 rfl (pc0 := pc) (pc' := pcT) rfl (hb C.2.2.1 hd) rfl ((if0 _ _).trans (tlt q).1) ho hp k) (hyes q)
  · exact Goes.on (fun _ k => XS.ifNo X.here C.1 rfl (hb C.2.2.1 hd) rfl ((if0 _ _).trans (flt q).1) k) (hno q)
theorem g_lcmp_lt (C : Ctx p Z s m meth c bs own maxL ret) (X : Stand p l e R s m args below meth c T locs cells slots) {pc pc1 pcT pcN : Nat} {ls : Array Slot} {st : List Value} {x y : Int64} {o : Int} (hd : decode bs pc = .ok (.lcmp, 1)) (h1 : pc + 1 = pc1) (hd1 : decode bs pc1 = .ok (.ifCond .lt o, 3)) (ho : 0 ≤ (pc1 : Int) + o) (hp : ((pc1 : Int) + o).toNat = pcT) (hq : pc1 + 3 = pcN)
    (hyes : x < y → Goes p.tables e below G (T.setTop (mkF m pcT ls st))) (hno : ¬ x < y → Goes p.tables e below G (T.setTop (mkF m pcN ls st))) : Goes p.tables e below G (T.setTop (mkF m pc ls (.long y :: .long x :: st))) := by
  subst h1
  exact Goes.on (fun _ k => XT.lcmp X.here C.1 rfl (hb C.2.2.1 hd) rfl k) (g_if_lt C X hd1 ho hp hq (fun q => hyes ((cmpL_lt x y).mp q)) (fun q => hno ((not_congr (cmpL_lt x y)).mp q)))
theorem g_icmp_ge (C : Ctx p Z s m meth c bs own maxL ret) (X : Stand p l e R s m args below meth c T locs cells slots) {pc pcT pcN : Nat} {ls : Array Slot} {st : List Value} {x y : Int32} {o : Int} (hd : decode bs pc = .ok (.if_icmp .ge o, 3)) (ho : 0 ≤ (pc : Int) + o) (hp : ((pc : Int) + o).toNat = pcT) (hq : pc + 3 = pcN)
    (hyes : ¬ x < y → Goes p.tables e below G (T.setTop (mkF m pcT ls st))) (hno : x < y → Goes p.tables e below G (T.setTop (mkF m pcN ls st))) : Goes p.tables e below G (T.setTop (mkF m pc ls (.int y :: .int x :: st))) := by
  subst hq
  by_cases q : x < y
  · exact Goes.on (fun _ k => XS.icmpNo X.here C.1 rfl (hb C.2.2.1 hd) rfl (tlt q).2.1 k) (hno q)
  · exact Goes.on (fun _ k => XS.icmpYes X.here C.1 rfl (pc0 := pc) (pc' := pcT) rfl (hb C.2.2.1 hd) rfl (flt q).2.1 ho hp k) (hyes q)
theorem g_if_ge (C : Ctx p Z s m meth c bs own maxL ret) (X : Stand p l e R s m args below meth c T locs cells slots) {pc pcT pcN : Nat} {ls : Array Slot} {st : List Value} {x : Int32} {o : Int} (hd : decode bs pc = .ok (.ifCond .ge o, 3)) (ho : 0 ≤ (pc : Int) + o) (hp : ((pc : Int) + o).toNat = pcT) (hq : pc + 3 = pcN)
    (hyes : ¬ x < (0 : Int32) → Goes p.tables e below G (T.setTop (mkF m pcT ls st))) (hno : x < (0 : Int32) → Goes p.tables e below G (T.setTop (mkF m pcN ls st))) : Goes p.tables e below G (T.setTop (mkF m pc ls (.int x :: st))) := by
  subst hq
  by_cases q : x < (0 : Int32)
  · exact Goes.on (fun _ k => XS.ifNo X.here C.1 rfl (hb C.2.2.1 hd) rfl ((if0 _ _).trans (tlt q).2.1) k) (hno q)
  · exact Goes.on (fun _ k => XS.ifYes X.here C.1 rfl (pc0 := pc) (pc' := pcT) rfl (hb C.2.2.1 hd) rfl ((if0 _ _).trans (flt q).2.1) ho hp k) (hyes q)
theorem g_lcmp_ge (C : Ctx p Z s m meth c bs own maxL ret) (X : Stand p l e R s m args below meth c T locs cells slots) {pc pc1 pcT pcN : Nat} {ls : Array Slot} {st : List Value} {x y : Int64} {o : Int} (hd : decode bs pc = .ok (.lcmp, 1)) (h1 : pc + 1 = pc1) (hd1 : decode bs pc1 = .ok (.ifCond .ge o, 3)) (ho : 0 ≤ (pc1 : Int) + o) (hp : ((pc1 : Int) + o).toNat = pcT) (hq : pc1 + 3 = pcN)
    (hyes : ¬ x < y → Goes p.tables e below G (T.setTop (mkF m pcT ls st))) (hno : x < y → Goes p.tables e below G (T.setTop (mkF m pcN ls st))) : Goes p.tables e below G (T.setTop (mkF m pc ls (.long y :: .long x :: st))) := by
  subst h1
  exact Goes.on (fun _ k => XT.lcmp X.here C.1 rfl (hb C.2.2.1 hd) rfl k) (g_if_ge C X hd1 ho hp hq (fun q => hyes ((not_congr (cmpL_lt x y)).mp q)) (fun q => hno ((cmpL_lt x y).mp q)))
theorem g_icmp_gt (C : Ctx p Z s m meth c bs own maxL ret) (X : Stand p l e R s m args below meth c T locs cells slots) {pc pcT pcN : Nat} {ls : Array Slot} {st : List Value} {x y : Int32} {o : Int} (hd : decode bs pc = .ok (.if_icmp .gt o, 3)) (ho : 0 ≤ (pc : Int) + o) (hp : ((pc : Int) + o).toNat = pcT) (hq : pc + 3 = pcN)
    (hyes : y < x → Goes p.tables e below G (T.setTop (mkF m pcT ls st))) (hno : ¬ y < x → Goes p.tables e below G (T.setTop (mkF m pcN ls st))) : Goes p.tables e below G (T.setTop (mkF m pc ls (.int y :: .int x :: st))) := by
  subst hq
  by_cases q : y < x
  · exact Goes.on (fun _ k => XS.icmpYes X.here C.1 rfl (pc0 := pc) (pc' := pcT) rfl (hb C.2.2.1 hd) rfl (tlt q).2.2.1 ho hp k) (hyes q)
  · exact Goes.on (fun _ k => XS.icmpNo X.here C.1 rfl (hb C.2.2.1 hd) rfl (flt q).2.2.1 k) (hno q)
theorem g_if_gt (C : Ctx p Z s m meth c bs own maxL ret) (X : Stand p l e R s m args below meth c T locs cells slots) {pc pcT pcN : Nat} {ls : Array Slot} {st : List Value} {x : Int32} {o : Int} (hd : decode bs pc = .ok (.ifCond .gt o, 3)) (ho : 0 ≤ (pc : Int) + o) (hp : ((pc : Int) + o).toNat = pcT) (hq : pc + 3 = pcN)
    (hyes : (0 : Int32) < x → Goes p.tables e below G (T.setTop (mkF m pcT ls st))) (hno : ¬ (0 : Int32) < x → Goes p.tables e below G (T.setTop (mkF m pcN ls st))) : Goes p.tables e below G (T.setTop (mkF m pc ls (.int x :: st))) := by
  subst hq
  by_cases q : (0 : Int32) < x
  · exact Goes.on (fun _ k => XS.ifYes X.here C.1 rfl (pc0 := pc) (pc' := pcT) rfl (hb C.2.2.1 hd) rfl ((if0 _ _).trans (tlt q).2.2.1) ho hp k) (hyes q)
  · exact Goes.on (fun _ k => XS.ifNo X.here C.1 rfl (hb C.2.2.1 hd) rfl ((if0 _ _).trans (flt q).2.2.1) k) (hno q)
theorem g_lcmp_gt (C : Ctx p Z s m meth c bs own maxL ret) (X : Stand p l e R s m args below meth c T locs cells slots) {pc pc1 pcT pcN : Nat} {ls : Array Slot} {st : List Value} {x y : Int64} {o : Int} (hd : decode bs pc = .ok (.lcmp, 1)) (h1 : pc + 1 = pc1) (hd1 : decode bs pc1 = .ok (.ifCond .gt o, 3)) (ho : 0 ≤ (pc1 : Int) + o) (hp : ((pc1 : Int) + o).toNat = pcT) (hq : pc1 + 3 = pcN)
    (hyes : y < x → Goes p.tables e below G (T.setTop (mkF m pcT ls st))) (hno : ¬ y < x → Goes p.tables e below G (T.setTop (mkF m pcN ls st))) : Goes p.tables e below G (T.setTop (mkF m pc ls (.long y :: .long x :: st))) := by
  subst h1
  exact Goes.on (fun _ k => XT.lcmp X.here C.1 rfl (hb C.2.2.1 hd) rfl k) (g_if_gt C X hd1 ho hp hq (fun q => hyes ((cmpL_gt x y).mp q)) (fun q => hno ((not_congr (cmpL_gt x y)).mp q)))
theorem g_icmp_le (C : Ctx p Z s m meth c bs own maxL ret) (X : Stand p l e R s m args below meth c T locs cells slots) {pc pcT pcN : Nat} {ls : Array Slot} {st : List Value} {x y : Int32} {o : Int} (hd : decode bs pc = .ok (.if_icmp .le o, 3)) (ho : 0 ≤ (pc : Int) + o) (hp : ((pc : Int) + o).toNat = pcT) (hq : pc + 3 = pcN)
    (hyes : ¬ y < x → Goes p.tables e below G (T.setTop (mkF m pcT ls st))) (hno : y < x → Goes p.tables e below G (T.setTop (mkF m pcN ls st))) : Goes p.tables e below G (T.setTop (mkF m pc ls (.int y :: .int x :: st))) := by
  subst hq
  by_cases q : y < x
  · exact Goes.on (fun _ k => XS.icmpNo X.here C.1 rfl (hb C.2.2.1 hd) rfl (tlt q).2.2.2 k) (hno q)
  · exact Goes.on (fun _ k => XS.icmpYes X.here C.1 rfl (pc0 := pc) (pc' := pcT) rfl (hb C.2.2.1 hd) rfl (flt q).2.2.2 ho hp k) (hyes q)
theorem g_if_le (C : Ctx p Z s m meth c bs own maxL ret) (X : Stand p l e R s m args below meth c T locs cells slots) {pc pcT pcN : Nat} {ls : Array Slot} {st : List Value} {x : Int32} {o : Int} (hd : decode bs pc = .ok (.ifCond .le o, 3)) (ho : 0 ≤ (pc : Int) + o) (hp : ((pc : Int) + o).toNat = pcT) (hq : pc + 3 = pcN)
    (hyes : ¬ (0 : Int32) < x → Goes p.tables e below G (T.setTop (mkF m pcT ls st))) (hno : (0 : Int32) < x → Goes p.tables e below G (T.setTop (mkF m pcN ls st))) : Goes p.tables e below G (T.setTop (mkF m pc ls (.int x :: st))) := by
  subst hq
  by_cases q : (0 : Int32) < x
  · exact Goes.on (fun _ k => XS.ifNo X.here C.1 rfl (hb C.2.2.1 hd) rfl ((if0 _ _).trans (tlt q).2.2.2) k) (hno q)
  · exact Goes.on (fun _ k => XS.ifYes X.here C.1 rfl (pc0 := pc) (pc' := pcT) rfl (hb C.2.2.1 hd) rfl ((if0 _ _).trans (flt q).2.2.2) ho hp k) (hyes q)
theorem g_lcmp_le (C : Ctx p Z s m meth c bs own maxL ret) (X : Stand p l e R s m args below meth c T locs cells slots) {pc pc1 pcT pcN : Nat} {ls : Array Slot} {st : List Value} {x y : Int64} {o : Int} (hd : decode bs pc = .ok (.lcmp, 1)) (h1 : pc + 1 = pc1) (hd1 : decode bs pc1 = .ok (.ifCond .le o, 3)) (ho : 0 ≤ (pc1 : Int) + o) (hp : ((pc1 : Int) + o).toNat = pcT) (hq : pc1 + 3 = pcN)
    (hyes : ¬ y < x → Goes p.tables e below G (T.setTop (mkF m pcT ls st))) (hno : y < x → Goes p.tables e below G (T.setTop (mkF m pcN ls st))) : Goes p.tables e below G (T.setTop (mkF m pc ls (.long y :: .long x :: st))) := by
  subst h1
  exact Goes.on (fun _ k => XT.lcmp X.here C.1 rfl (hb C.2.2.1 hd) rfl k) (g_if_le C X hd1 ho hp hq (fun q => hyes ((not_congr (cmpL_gt x y)).mp q)) (fun q => hno ((cmpL_gt x y).mp q)))
theorem g_ldc (C : Ctx p Z s m meth c bs own maxL ret) (X : Stand p l e R s m args below meth c T locs cells slots) {pc pc' : Nat} {ls : Array Slot} {st : List Value} {i : Nat} {v : Int32} (w : (Cond.constant own i v).before a0 Z = true) (hd : decode bs pc = .ok (.ldc i, 2)) (hp : pc + 2 = pc') (k : Goes p.tables e below G (T.setTop (mkF m pc' ls (.int v :: st)))) : Goes p.tables e below G (T.setTop (mkF m pc ls st)) := by
  subst hp
  exact Goes.on (fun _ k => X.ldcInt C.1 C.2.2.2.2.1 (mvT C.2.1 w) (g := mkF m pc ls st) rfl (hb C.2.2.1 hd) _ k) k
theorem g_ldc2 (C : Ctx p Z s m meth c bs own maxL ret) (X : Stand p l e R s m args below meth c T locs cells slots) {pc pc' : Nat} {ls : Array Slot} {st : List Value} {i : Nat} {v : Int64} (w : (Cond.constantLong own i v).before a0 Z = true) (hd : decode bs pc = .ok (.ldc2_w i, 3)) (hp : pc + 3 = pc') (k : Goes p.tables e below G (T.setTop (mkF m pc' ls (.long v :: st)))) : Goes p.tables e below G (T.setTop (mkF m pc ls st)) := by
  subst hp
  exact Goes.on (fun _ k => X.ldc2Long C.1 C.2.2.2.2.1 (mvT C.2.1 w) (g := mkF m pc ls st) rfl (hb C.2.2.1 hd) _ k) k
theorem g_retN {t : FieldType} (C : Ctx p Z s m meth c bs own maxL (some t)) (X : Stand p l e R s m args below meth c T locs cells slots) {Q : Option Value → Heap → List Loc → Prop} (K : ∀ (v : Option Value) (L : List Loc) (T' : State), Q v T'.heap L → s.WarmedH T'.vm → s.sameButNew ({ T' with vm := s.vm } : State) L R.cells R.slots → G (.returned v) T') {pc : Nat} {ls : Array Slot} {rest : List Value} {z : Int32} (ht : t = .boolean ∨ t = .byte ∨ t = .char ∨ t = .short) (hd : decode bs pc = .ok (.ireturn, 1)) (hc : cells ≤ R.cells) (hs : slots ≤ R.slots) (eT : T.heap = h) (hQ : Q (some (.int (nar t z))) h locs) : Goes p.tables e below G (T.setTop (mkF m pc ls (.int z :: rest))) := by
  have hlk : meth.locks = false := C.2.2.2.2.2.2
  obtain ⟨fs, hr, hrun, hended, hW, hsame⟩ := X.leave (v := some (.int (nar t z))) (fun q => by rw [C.2.2.2.2.2.1] at q; cases q) hlk
  refine ⟨_, _, ?_, hrun, hended, K _ locs _ (by show Q _ T.heap locs; rw [eT]; exact hQ) hW (hsame.mono hc hs)⟩
  exact retN X C.1 C.2.2.2.2.2.1 ht (hb C.2.2.1 hd) hr
theorem g_retI (C : Ctx p Z s m meth c bs own maxL (some .int)) (X : Stand p l e R s m args below meth c T locs cells slots) {Q : Option Value → Heap → List Loc → Prop} (K : ∀ (v : Option Value) (L : List Loc) (T' : State), Q v T'.heap L → s.WarmedH T'.vm → s.sameButNew ({ T' with vm := s.vm } : State) L R.cells R.slots → G (.returned v) T') {pc : Nat} {ls : Array Slot} {rest : List Value} {z : Int32} (hd : decode bs pc = .ok (.ireturn, 1)) (hc : cells ≤ R.cells) (hs : slots ≤ R.slots) (eT : T.heap = h) (hQ : Q (some (.int z)) h locs) : Goes p.tables e below G (T.setTop (mkF m pc ls (.int z :: rest))) := by
  have hlk : meth.locks = false := C.2.2.2.2.2.2
  obtain ⟨fs, hr, hrun, hended, hW, hsame⟩ := X.leave (v := some (.int z)) (fun q => by rw [C.2.2.2.2.2.1] at q; cases q) hlk
  refine ⟨_, _, ?_, hrun, hended, K _ locs _ (by show Q _ T.heap locs; rw [eT]; exact hQ) hW (hsame.mono hc hs)⟩
  exact retOut X C.1 (w := .int z) (i := .ireturn) C.2.2.2.2.2.1 rfl (Or.inl ⟨rfl, Or.inl rfl, z, rfl⟩) (hb C.2.2.1 hd) hr
theorem g_retJ (C : Ctx p Z s m meth c bs own maxL (some .long)) (X : Stand p l e R s m args below meth c T locs cells slots) {Q : Option Value → Heap → List Loc → Prop} (K : ∀ (v : Option Value) (L : List Loc) (T' : State), Q v T'.heap L → s.WarmedH T'.vm → s.sameButNew ({ T' with vm := s.vm } : State) L R.cells R.slots → G (.returned v) T') {pc : Nat} {ls : Array Slot} {rest : List Value} {z : Int64} (hd : decode bs pc = .ok (.lreturn, 1)) (hc : cells ≤ R.cells) (hs : slots ≤ R.slots) (eT : T.heap = h) (hQ : Q (some (.long z)) h locs) : Goes p.tables e below G (T.setTop (mkF m pc ls (.long z :: rest))) := by
  have hlk : meth.locks = false := C.2.2.2.2.2.2
  obtain ⟨fs, hr, hrun, hended, hW, hsame⟩ := X.leave (v := some (.long z)) (fun q => by rw [C.2.2.2.2.2.1] at q; cases q) hlk
  refine ⟨_, _, ?_, hrun, hended, K _ locs _ (by show Q _ T.heap locs; rw [eT]; exact hQ) hW (hsame.mono hc hs)⟩
  exact retOut X C.1 (w := .long z) (i := .lreturn) C.2.2.2.2.2.1 rfl (Or.inr (Or.inl ⟨rfl, rfl, z, rfl⟩)) (hb C.2.2.1 hd) hr
theorem g_retA {t : FieldType} (C : Ctx p Z s m meth c bs own maxL (some t)) (X : Stand p l e R s m args below meth c T locs cells slots) {Q : Option Value → Heap → List Loc → Prop} (K : ∀ (v : Option Value) (L : List Loc) (T' : State), Q v T'.heap L → s.WarmedH T'.vm → s.sameButNew ({ T' with vm := s.vm } : State) L R.cells R.slots → G (.returned v) T') {pc : Nat} {ls : Array Slot} {rest : List Value} {w : Value} (ht : t.isReference = true) (hn : narrow t w = w) (hw : w.isRef = true) (hd : decode bs pc = .ok (.areturn, 1)) (hc : cells ≤ R.cells) (hs : slots ≤ R.slots) (eT : T.heap = h) (hQ : Q (some w) h locs) : Goes p.tables e below G (T.setTop (mkF m pc ls (w :: rest))) := by
  have hlk : meth.locks = false := C.2.2.2.2.2.2
  obtain ⟨fs, hr, hrun, hended, hW, hsame⟩ := X.leave (v := some w) (fun q => by rw [C.2.2.2.2.2.1] at q; cases q) hlk
  refine ⟨_, _, ?_, hrun, hended, K _ locs _ (by show Q _ T.heap locs; rw [eT]; exact hQ) hW (hsame.mono hc hs)⟩
  exact retOut X C.1 (w := w) (i := .areturn) C.2.2.2.2.2.1 hn (Or.inr (Or.inr (Or.inr (Or.inr ⟨rfl, ht, hw⟩)))) (hb C.2.2.1 hd) hr
theorem g_retV (C : Ctx p Z s m meth c bs own maxL (none)) (X : Stand p l e R s m args below meth c T locs cells slots) {Q : Option Value → Heap → List Loc → Prop} (K : ∀ (v : Option Value) (L : List Loc) (T' : State), Q v T'.heap L → s.WarmedH T'.vm → s.sameButNew ({ T' with vm := s.vm } : State) L R.cells R.slots → G (.returned v) T') {pc : Nat} {ls : Array Slot}  (hd : decode bs pc = .ok (.return_, 1)) (hc : cells ≤ R.cells) (hs : slots ≤ R.slots) (eT : T.heap = h) (hQ : Q (none) h locs) : Goes p.tables e below G (T.setTop (mkF m pc ls [])) := by
  have hlk : meth.locks = false := C.2.2.2.2.2.2
  obtain ⟨fs, hr, hrun, hended, hW, hsame⟩ := X.leave (v := none) (fun _ => rfl) hlk
  refine ⟨_, _, ?_, hrun, hended, K _ locs _ (by show Q _ T.heap locs; rw [eT]; exact hQ) hW (hsame.mono hc hs)⟩
  exact X.returnOut C.1 C.2.2.2.2.2.1 (hb C.2.2.1 hd) hr
theorem g_getF (C : Ctx p Z s m meth c bs own maxL ret) (X : Stand p l e R s m args below meth c T locs cells slots) {pc pc' : Nat} {ls : Array Slot} {st : List Value} {R0 O n d : String} {index : Nat} {a : Addr} {v : Value} (w : (Cond.fieldLink own index R0 n d).before a0 Z = true) (via : Via Z R0 O n d) (eT : T.heap = h) (F : Fld Z h a O n d v) (hd : decode bs pc = .ok (.getfield index, 3)) (hp : pc + 3 = pc')
    (k : ∀ T' : State, Stand p l e R s m args below meth c T' locs cells slots → T'.heap = h → Goes p.tables e below G (T'.setTop (mkF m pc' ls (v :: st)))) : Goes p.tables e below G (T.setTop (mkF m pc ls (.ref a :: st))) := by
  subst hp
  obtain ⟨T', X', e', st'⟩ := getF X C.1 C.2.1 C.2.2.2.2.1 (host := "") (Or.inl w) via eT F (g := mkF m pc ls (.ref a :: st)) rfl rfl (hb C.2.2.1 hd)
  exact Goes.on (fun t k => st' t k) (k T' X' e')
theorem g_getS (C : Ctx p Z s m meth c bs own maxL ret) (X : Stand p l e R s m args below meth c T locs cells slots) {pc pc' : Nat} {ls : Array Slot} {st : List Value} {R0 O n d : String} {index : Nat} {v : Value} (w : (Cond.fieldLink own index R0 n d).before a0 Z = true) (via : Via Z R0 O n d) (eT : T.heap = h) (F : Sta Z h O n d v) (hd : decode bs pc = .ok (.getstatic index, 3)) (hp : pc + 3 = pc')
    (k : ∀ T' : State, Stand p l e R s m args below meth c T' locs cells slots → T'.heap = h → Goes p.tables e below G (T'.setTop (mkF m pc' ls (v :: st)))) : Goes p.tables e below G (T.setTop (mkF m pc ls st)) := by
  subst hp
  obtain ⟨T', X', e', st'⟩ := getS2 X C.1 C.2.1 C.2.2.2.2.1 (host := "") (Or.inl w) via eT F (g := mkF m pc ls st) rfl (hb C.2.2.1 hd)
  exact Goes.on (fun t k => st' t k) (k T' X' e')
theorem g_getFN (C : Ctx p Z s m meth c bs own maxL ret) (X : Stand p l e R s m args below meth c T locs cells slots) {pc pc' : Nat} {ls : Array Slot} {st : List Value} {R0 O n d host : String} {index : Nat} {a : Addr} {v : Value} (w : (Cond.fieldLinkNest own index R0 n d host).before a0 Z = true) (via : Via Z R0 O n d) (eT : T.heap = h) (F : Fld Z h a O n d v) (hd : decode bs pc = .ok (.getfield index, 3)) (hp : pc + 3 = pc')
    (k : ∀ T' : State, Stand p l e R s m args below meth c T' locs cells slots → T'.heap = h → Goes p.tables e below G (T'.setTop (mkF m pc' ls (v :: st)))) : Goes p.tables e below G (T.setTop (mkF m pc ls (.ref a :: st))) := by
  subst hp
  obtain ⟨T', X', e', st'⟩ := getF X C.1 C.2.1 C.2.2.2.2.1 (Or.inr w) via eT F (g := mkF m pc ls (.ref a :: st)) rfl rfl (hb C.2.2.1 hd)
  exact Goes.on (fun t k => st' t k) (k T' X' e')
theorem g_putF (C : Ctx p Z s m meth c bs own maxL ret) (X : Stand p l e R s m args below meth c T locs cells slots) {pc pc' : Nat} {ls : Array Slot} {st : List Value} {R0 O n d K : String} {index kk : Nat} {ty : FieldType} {a : Addr} {v old : Value} (w : (Cond.fieldLink own index R0 n d).before a0 Z = true) (via : Via Z R0 O n d) (eT : T.heap = h) (F : Fld Z h a O n d old) (E : Exa Z h a K) (L : (Cond.lays K O n d).before a0 Z = true ∨ ((Cond.laysFinal K O n d).before a0 Z = true ∧ own = O ∧ meth.name = "<init>")) (wi : (Cond.instantiable K kk).before a0 Z = true) (hty : parseFieldDescriptor d = some ty) (hn : narrow ty v = v) (hf : fits ty v = true) (hd : decode bs pc = .ok (.putfield index, 3)) (hp : pc + 3 = pc')
    (k : ∀ (T' : State) (h' : Heap), Stand p l e R s m args below meth c T' (locs ++ [⟨a, Jvm.RoadKit.slotOf Z O n d⟩]) cells slots → T'.heap = h' → Wr h h' a (Jvm.RoadKit.slotOf Z O n d) v → Goes p.tables e below G (T'.setTop (mkF m pc' ls st))) : Goes p.tables e below G (T.setTop (mkF m pc ls (v :: .ref a :: st))) := by
  subst hp
  obtain ⟨T', h', X', e', W', st'⟩ := putF X C.1 C.2.1 C.2.2.2.2.1 (host := "") (Or.inl w) via eT F E L wi hty hn hf (g := mkF m pc ls (v :: .ref a :: st)) rfl rfl (hb C.2.2.1 hd)
  exact Goes.on (fun t k => st' t k) (k T' h' X' e' W')
theorem g_putFN (C : Ctx p Z s m meth c bs own maxL ret) (X : Stand p l e R s m args below meth c T locs cells slots) {pc pc' : Nat} {ls : Array Slot} {st : List Value} {R0 O n d K : String} {index kk : Nat} {ty : FieldType} {a : Addr} {v old v' : Value} (w : (Cond.fieldLink own index R0 n d).before a0 Z = true) (via : Via Z R0 O n d) (eT : T.heap = h) (F : Fld Z h a O n d old) (E : Exa Z h a K) (L : (Cond.lays K O n d).before a0 Z = true ∨ ((Cond.laysFinal K O n d).before a0 Z = true ∧ own = O ∧ meth.name = "<init>")) (wi : (Cond.instantiable K kk).before a0 Z = true) (hty : parseFieldDescriptor d = some ty) (hn : narrow ty v = v') (hf : fits ty v' = true) (hd : decode bs pc = .ok (.putfield index, 3)) (hp : pc + 3 = pc')
    (k : ∀ (T' : State) (h' : Heap), Stand p l e R s m args below meth c T' (locs ++ [⟨a, Jvm.RoadKit.slotOf Z O n d⟩]) cells slots → T'.heap = h' → Wr h h' a (Jvm.RoadKit.slotOf Z O n d) v' → Goes p.tables e below G (T'.setTop (mkF m pc' ls st))) : Goes p.tables e below G (T.setTop (mkF m pc ls (v :: .ref a :: st))) := by
  subst hp
  obtain ⟨T', h', X', e', W', st'⟩ := putFN X C.1 C.2.1 C.2.2.2.2.1 w via eT F E L wi hty hn hf (g := mkF m pc ls (v :: .ref a :: st)) rfl rfl (hb C.2.2.1 hd)
  exact Goes.on (fun t k => st' t k) (k T' h' X' e' W')
theorem g_new (C : Ctx p Z s m meth c bs own maxL ret) (X : Stand p l e R s m args below meth c T locs cells slots) {pc pc' : Nat} {ls : Array Slot} {st : List Value} {K : String} {index n : Nat} (w : (Cond.classLink own index K).before a0 Z = true) (wi : (Cond.instantiable K n).before a0 Z = true) (wz : (Cond.initialized K).before a0 Z = true) (eT : T.heap = h) (hd : decode bs pc = .ok (.new index, 3)) (hp : pc + 3 = pc') (hc : cells + 1 ≤ R.cells) (hs : slots + n ≤ R.slots)
    (k : ∀ (T' : State) (h' : Heap) (b : Addr), Stand p l e R s m args below meth c T' locs (cells + 1) (slots + n) → T'.heap = h' → b = h.size → Ext h h' → Exa Z h' b K → (∀ {O nm d : String} {ty : FieldType}, Laid Z a0 K O nm d → parseFieldDescriptor d = some ty → Fld Z h' b O nm d (defaultValue ty)) → Goes p.tables e below G (T'.setTop (mkF m pc' ls (.ref b :: st)))) : Goes p.tables e below G (T.setTop (mkF m pc ls st)) := by
  subst hp
  obtain ⟨T', h', X', e', E', A', D', -, st'⟩ := newO X C.1 C.2.1 C.2.2.2.2.1 w wi wz eT (g := mkF m pc ls st) rfl (hb C.2.2.1 hd) hc hs
  exact Goes.on (fun t k => st' t k) (k T' h' h.size X' e' rfl E' A' D')
theorem g_initO (C : Ctx p Z s m meth c bs own maxL ret) (X : Stand p l e R s m args below meth c T locs cells slots) {pc pc' : Nat} {ls : Array Slot} {st : List Value} {idx : Nat} {a : Addr} (w1 : (Cond.methodLink own idx Lib.objectInit).before a0 Z = true) (w2 : (Cond.instanceMethod Lib.objectInit).before a0 Z = true) (w3 : (Cond.code Lib.objectInit ⟨#[0xb1]⟩ 1 none).before a0 Z = true) (eT : T.heap = h) (hls : ls.size = maxL) (hd : decode bs pc = .ok (.invokespecial idx, 3)) (hp : pc + 3 = pc') (hf : 1 ≤ R.frames) {W : Nat} (hW : (st.map fun v => v.category).sum ≤ W) (hl : W + 12 ≤ R.locals)
    (k : ∀ T' : State, Stand p l e R s m args below meth c T' locs cells slots → T'.heap = h → Goes p.tables e below G (T'.setTop (mkF m pc' ls st))) : Goes p.tables e below G (T.setTop (mkF m pc ls (.ref a :: st))) := by
  subst hp
  obtain ⟨T', X', e', st'⟩ := initO X C.1 C.2.1 C.2.2.2.2.1 w1 w2 w3 eT (g := mkF m pc ls (.ref a :: st)) rfl (by rw [C.2.2.2.1]; exact hls) rfl (hb C.2.2.1 hd) hf (W := W) (by show 2 * 0 + _ ≤ _; omega) hl
  exact Goes.on (fun t k => st' t k) (k T' X' e')
theorem g_callS (C : Ctx p Z s m meth c bs own maxL ret) (X : Stand p l e R s m args below meth c T locs cells slots) {pc pc' : Nat} {ls : Array Slot} {y : MethodName} {index : Nat} {bytes : ByteArray} {maxY : Nat} {retY : Option FieldType} {rm : Room} {W : Nat} {Q : Option Value → Heap → List Loc → Prop} {ps : List FieldType} {rr : Option FieldType} {argsL rest stk : List Value} (w1 : (Cond.methodLink own index y).before a0 Z = true) (w2 : (Cond.static y).before a0 Z = true) (w3 : (Cond.initialized y.cls).before a0 Z = true) (w4 : (Cond.code y bytes maxY retY).before a0 Z = true) (hy : y.cls ≠ "java/lang/invoke/MethodHandle" ∧ y.cls ≠ "java/lang/invoke/VarHandle") (hd : decode bs pc = .ok (.invokestatic index, 3)) (hM : MetFree l y (head1 [Cond.code y bytes maxY retY] rm) (fun a' U => a' = argsL.toArray ∧ Z.Warmed39 U.vm ∧ U.heap = h) (fun _ _ _ _ _ => True) (fun _ U o U' => ∃ v L, o = .returned v ∧ Q v U'.heap L ∧ FrameEnd U o U' L rm.cells rm.slots)) (hf : rm.frames + 1 ≤ R.frames) (hl : W + (maxY + 11) + rm.locals ≤ R.locals) (hls : ls.size = maxL) (hpd : parseMethodDescriptor y.desc = some ⟨ps, rr⟩) (hlen : argsL.length = ps.length) (hst : stk = argsL.reverse ++ rest) (hW : (rest.map fun v => v.category).sum ≤ W) (eT : T.heap = h) (hc : cells + rm.cells ≤ R.cells) (hs : slots + rm.slots ≤ R.slots) (hp : pc + 3 = pc')
    (k : ∀ (v : Option Value) (T' : State) (L : List Loc), Stand p l e R s m args below meth c T' (locs ++ L) (cells + rm.cells) (slots + rm.slots) → Q v T'.heap L → Goes p.tables e below G (T'.setTop (mkF m pc' ls (v.toList ++ rest)))) : Goes p.tables e below G (T.setTop (mkF m pc ls stk)) := by
  subst hp hst
  obtain ⟨v, _, ⟨T', L', k', n'⟩, -, X', ⟨L, hQ, l1, l2, l3⟩, st'⟩ := Jvm.LawKit.callS X C.1 (y := y) C.2.2.2.2.1 (mvT C.2.1 w1) (mvT C.2.1 w2) (mvT C.2.1 w3) (mvT C.2.1 w4) hy (backOf (W := W) hM C.2.1 w4 w3 hf hl) (g := mkF m pc ls (argsL.reverse ++ rest)) rfl (by rw [C.2.2.2.1]; exact hls) (argsL := argsL) (rest := rest) (lenOf hpd hlen) rfl (by show 2 * 0 + _ ≤ _; omega) (hb C.2.2.1 hd) (fun _ _ => ⟨rfl, eT, hc, hs⟩)
  dsimp only [Pt.U, Pt.locs, Pt.cells, Pt.slots] at X' l1 l2 l3 st' hQ
  subst l1 l2 l3
  exact Goes.on (fun t k => st' t k) (k v T' L X' hQ)
theorem g_callI (C : Ctx p Z s m meth c bs own maxL ret) (X : Stand p l e R s m args below meth c T locs cells slots) {pc pc' : Nat} {ls : Array Slot} {a : Addr} {y : MethodName} {index : Nat} {bytes : ByteArray} {maxY : Nat} {rm : Room} {W : Nat} {Q : Option Value → Heap → List Loc → Prop} {ps : List FieldType} {rr : Option FieldType} {argsL rest stk : List Value} (hn : y.name = "<init>") (w1 : (Cond.methodLink own index y).before a0 Z = true) (w2 : (Cond.instanceMethod y).before a0 Z = true) (w3 : (Cond.initialized y.cls).before a0 Z = true) (w4 : (Cond.code y bytes maxY none).before a0 Z = true) (hy : y.cls ≠ "java/lang/invoke/MethodHandle" ∧ y.cls ≠ "java/lang/invoke/VarHandle") (hd : decode bs pc = .ok (.invokespecial index, 3)) (hM : MetFree l y (head1 [Cond.code y bytes maxY none] rm) (fun a' U => a' = (.ref a :: argsL).toArray ∧ Z.Warmed39 U.vm ∧ U.heap = h) (fun _ _ _ _ _ => True) (fun _ U o U' => ∃ v L, o = .returned v ∧ Q v U'.heap L ∧ FrameEnd U o U' L rm.cells rm.slots)) (hf : rm.frames + 1 ≤ R.frames) (hl : W + (maxY + 11) + rm.locals ≤ R.locals) (hls : ls.size = maxL) (hpd : parseMethodDescriptor y.desc = some ⟨ps, rr⟩) (hlen : argsL.length = ps.length) (hst : stk = argsL.reverse ++ .ref a :: rest) (hW : (rest.map fun v => v.category).sum ≤ W) (eT : T.heap = h) (hc : cells + rm.cells ≤ R.cells) (hs : slots + rm.slots ≤ R.slots) (hp : pc + 3 = pc')
    (k : ∀ (v : Option Value) (T' : State) (L : List Loc), Stand p l e R s m args below meth c T' (locs ++ L) (cells + rm.cells) (slots + rm.slots) → Q v T'.heap L → Goes p.tables e below G (T'.setTop (mkF m pc' ls (v.toList ++ rest)))) : Goes p.tables e below G (T.setTop (mkF m pc ls stk)) := by
  subst hp hst
  obtain ⟨v, _, ⟨T', L', k', n'⟩, -, X', ⟨L, hQ, l1, l2, l3⟩, st'⟩ := X.specialBack C.1 (y := y) hn C.2.2.2.2.1 (mvT C.2.1 w1) (mvT C.2.1 w2) (mvT C.2.1 w4) hy (backOf (W := W) hM C.2.1 w4 w3 hf hl) (g := mkF m pc ls (argsL.reverse ++ .ref a :: rest)) rfl (by rw [C.2.2.2.1]; exact hls) (Steps.refl _) (a := a) (argsL := argsL) (rest := rest) (lenOf hpd hlen) rfl (by show 2 * 0 + _ ≤ _; omega) (hb C.2.2.1 hd) (fun _ _ => ⟨rfl, eT, hc, hs⟩)
  dsimp only [Pt.U, Pt.locs, Pt.cells, Pt.slots] at X' l1 l2 l3 st' hQ
  subst l1 l2 l3
  exact Goes.on (fun t k => st'.trans k) (k v T' L X' hQ)
theorem g_callV (C : Ctx p Z s m meth c bs own maxL ret) (X : Stand p l e R s m args below meth c T locs cells slots) {pc pc' : Nat} {ls : Array Slot} {a : Addr} {K : String} {y z : MethodName} {index : Nat} {bytes : ByteArray} {maxY : Nat} {retY : Option FieldType} {rm : Room} {W : Nat} {Q : Option Value → Heap → List Loc → Prop} {ps : List FieldType} {rr : Option FieldType} {argsL rest stk : List Value} (w1 : (Cond.methodLink own index y).before a0 Z = true) (w2 : (Cond.declares y).before a0 Z = true) (hnf : NotFace s y) (w3 : (Cond.selects K y z).before a0 Z = true) (w4 : (Cond.instanceMethod z).before a0 Z = true) (w5 : (Cond.code z bytes maxY retY).before a0 Z = true) (w6 : (Cond.initialized z.cls).before a0 Z = true) (hy : y.cls ≠ "java/lang/invoke/MethodHandle" ∧ y.cls ≠ "java/lang/invoke/VarHandle") (E : Exa Z h a K) (hd : decode bs pc = .ok (.invokevirtual index, 3)) (hM : MetFree l z (head1 [Cond.code z bytes maxY retY] rm) (fun a' U => a' = (.ref a :: argsL).toArray ∧ Z.Warmed39 U.vm ∧ U.heap = h) (fun _ _ _ _ _ => True) (fun _ U o U' => ∃ v L, o = .returned v ∧ Q v U'.heap L ∧ FrameEnd U o U' L rm.cells rm.slots)) (hf : rm.frames + 1 ≤ R.frames) (hl : W + (maxY + 11) + rm.locals ≤ R.locals) (hls : ls.size = maxL) (hpd : parseMethodDescriptor y.desc = some ⟨ps, rr⟩) (hlen : argsL.length = ps.length) (hst : stk = argsL.reverse ++ .ref a :: rest) (hW : (rest.map fun v => v.category).sum ≤ W) (eT : T.heap = h) (hc : cells + rm.cells ≤ R.cells) (hs : slots + rm.slots ≤ R.slots) (hp : pc + 3 = pc')
    (k : ∀ (v : Option Value) (T' : State) (L : List Loc), Stand p l e R s m args below meth c T' (locs ++ L) (cells + rm.cells) (slots + rm.slots) → Q v T'.heap L → Goes p.tables e below G (T'.setTop (mkF m pc' ls (v.toList ++ rest)))) : Goes p.tables e below G (T.setTop (mkF m pc ls stk)) := by
  subst hp hst
  obtain ⟨cq, kq, qa, qb, qc⟩ := isOf C.2.1 eT E
  obtain ⟨v, _, ⟨T', L', k', n'⟩, -, X', ⟨L, hQ, l1, l2, l3⟩, st'⟩ := X.virtualBack C.1 (y := y) (z := z) C.2.2.2.2.1 (mvT C.2.1 w1) (mvT C.2.1 w2) hnf (mvT C.2.1 w3) (mvT C.2.1 w4) hy (backOf (W := W) hM C.2.1 w5 w6 hf hl) qa qc (g := mkF m pc ls (argsL.reverse ++ .ref a :: rest)) rfl (by rw [C.2.2.2.1]; exact hls) (Steps.refl _) (argsL := argsL) (rest := rest) (lenOf hpd hlen) rfl (by show 2 * 0 + _ ≤ _; omega) (hb C.2.2.1 hd) (fun _ _ => ⟨rfl, eT, hc, hs⟩)
  dsimp only [Pt.U, Pt.locs, Pt.cells, Pt.slots] at X' l1 l2 l3 st' hQ
  subst l1 l2 l3
  exact Goes.on (fun t k => st'.trans k) (k v T' L X' hQ)
theorem g_callVU (C : Ctx p Z s m meth c bs own maxL ret) (X : Stand p l e R s m args below meth c T locs cells slots) {pc pc' : Nat} {ls : Array Slot} {a : Addr} {K owner : String} {y z : MethodName} {index : Nat} {bytes : ByteArray} {maxY : Nat} {retY : Option FieldType} {rm : Room} {W : Nat} {Q : Option Value → Heap → List Loc → Prop} {ps : List FieldType} {rr : Option FieldType} {argsL rest stk : List Value} (w1 : (Cond.methodLink own index y).before a0 Z = true) (w2 : (Cond.sameMethod y.cls owner y.name y.desc).before a0 Z = true) (w2' : (Cond.declares ⟨owner, y.name, y.desc⟩).before a0 Z = true) (w3 : (Cond.selects K y z).before a0 Z = true) (w4 : (Cond.instanceMethod z).before a0 Z = true) (w5 : (Cond.code z bytes maxY retY).before a0 Z = true) (w6 : (Cond.initialized z.cls).before a0 Z = true) (hy : owner ≠ "java/lang/invoke/MethodHandle" ∧ owner ≠ "java/lang/invoke/VarHandle") (E : Exa Z h a K) (hd : decode bs pc = .ok (.invokevirtual index, 3)) (hM : MetFree l z (head1 [Cond.code z bytes maxY retY] rm) (fun a' U => a' = (.ref a :: argsL).toArray ∧ Z.Warmed39 U.vm ∧ U.heap = h) (fun _ _ _ _ _ => True) (fun _ U o U' => ∃ v L, o = .returned v ∧ Q v U'.heap L ∧ FrameEnd U o U' L rm.cells rm.slots)) (hf : rm.frames + 1 ≤ R.frames) (hl : W + (maxY + 11) + rm.locals ≤ R.locals) (hls : ls.size = maxL) (hpd : parseMethodDescriptor y.desc = some ⟨ps, rr⟩) (hlen : argsL.length = ps.length) (hst : stk = argsL.reverse ++ .ref a :: rest) (hW : (rest.map fun v => v.category).sum ≤ W) (eT : T.heap = h) (hc : cells + rm.cells ≤ R.cells) (hs : slots + rm.slots ≤ R.slots) (hp : pc + 3 = pc')
    (k : ∀ (v : Option Value) (T' : State) (L : List Loc), Stand p l e R s m args below meth c T' (locs ++ L) (cells + rm.cells) (slots + rm.slots) → Q v T'.heap L → Goes p.tables e below G (T'.setTop (mkF m pc' ls (v.toList ++ rest)))) : Goes p.tables e below G (T.setTop (mkF m pc ls stk)) := by
  subst hp hst
  obtain ⟨cq, kq, qa, qb, qc⟩ := isOf C.2.1 eT E
  obtain ⟨v, _, ⟨T', L', k', n'⟩, -, X', ⟨L, hQ, l1, l2, l3⟩, st'⟩ := X.virtualBackUp C.1 (x := y) (y := z) C.2.2.2.2.1 (mvT C.2.1 w1) (mvT C.2.1 w2) (mvT C.2.1 w2') hy (mvT C.2.1 w3) (mvT C.2.1 w4) (backOf (W := W) hM C.2.1 w5 w6 hf hl) qa qc (g := mkF m pc ls (argsL.reverse ++ .ref a :: rest)) rfl (by rw [C.2.2.2.1]; exact hls) (Steps.refl _) (argsL := argsL) (rest := rest) (lenOf hpd hlen) rfl (by show 2 * 0 + _ ≤ _; omega) (hb C.2.2.1 hd) (fun _ _ => ⟨rfl, eT, hc, hs⟩)
  dsimp only [Pt.U, Pt.locs, Pt.cells, Pt.slots] at X' l1 l2 l3 st' hQ
  subst l1 l2 l3
  exact Goes.on (fun t k => st'.trans k) (k v T' L X' hQ)
theorem g_ifnullY (C : Ctx p Z s m meth c bs own maxL ret) (X : Stand p l e R s m args below meth c T locs cells slots) {pc pc' : Nat} {ls : Array Slot} {st : List Value}  {o : Int} (hd : decode bs pc = .ok (.ifnull o, 3)) (ho : 0 ≤ (pc : Int) + o) (hp : ((pc : Int) + o).toNat = pc')
    (k : Goes p.tables e below G (T.setTop (mkF m pc' ls st))) : Goes p.tables e below G (T.setTop (mkF m pc ls (.null :: st))) :=
  Goes.on (fun _ k => XS.ifnullYes X.here C.1 rfl (pc0 := pc) (pc' := pc') rfl (hb C.2.2.1 hd) rfl ho hp k) k
theorem g_ifnullN (C : Ctx p Z s m meth c bs own maxL ret) (X : Stand p l e R s m args below meth c T locs cells slots) {pc pc' : Nat} {ls : Array Slot} {st : List Value} {b : Addr} {o : Int} (hd : decode bs pc = .ok (.ifnull o, 3)) (hp : pc + 3 = pc')
    (k : Goes p.tables e below G (T.setTop (mkF m pc' ls st))) : Goes p.tables e below G (T.setTop (mkF m pc ls (.ref b :: st))) := by
  subst hp
  exact Goes.on (fun _ k => XS.ifnullNo X.here C.1 rfl (hb C.2.2.1 hd) rfl k) k
theorem g_ifnonnullY (C : Ctx p Z s m meth c bs own maxL ret) (X : Stand p l e R s m args below meth c T locs cells slots) {pc pc' : Nat} {ls : Array Slot} {st : List Value} {b : Addr} {o : Int} (hd : decode bs pc = .ok (.ifnonnull o, 3)) (ho : 0 ≤ (pc : Int) + o) (hp : ((pc : Int) + o).toNat = pc')
    (k : Goes p.tables e below G (T.setTop (mkF m pc' ls st))) : Goes p.tables e below G (T.setTop (mkF m pc ls (.ref b :: st))) :=
  Goes.on (fun _ k => XT.ifnonnullYes X.here C.1 rfl (pc0 := pc) (pc' := pc') rfl (hb C.2.2.1 hd) rfl ho hp k) k
theorem g_ifnonnullN (C : Ctx p Z s m meth c bs own maxL ret) (X : Stand p l e R s m args below meth c T locs cells slots) {pc pc' : Nat} {ls : Array Slot} {st : List Value}  {o : Int} (hd : decode bs pc = .ok (.ifnonnull o, 3)) (hp : pc + 3 = pc')
    (k : Goes p.tables e below G (T.setTop (mkF m pc' ls st))) : Goes p.tables e below G (T.setTop (mkF m pc ls (.null :: st))) := by
  subst hp
  exact Goes.on (fun _ k => XT.ifnonnullNo X.here C.1 rfl (hb C.2.2.1 hd) rfl k) k
theorem g_acmp_eq (C : Ctx p Z s m meth c bs own maxL ret) (X : Stand p l e R s m args below meth c T locs cells slots) {pc pcT pcN : Nat} {ls : Array Slot} {st : List Value} {x y : Value} {o : Int} (h1 : x.isRef = true) (h2 : y.isRef = true) (hd : decode bs pc = .ok (.if_acmp .eq o, 3)) (ho : 0 ≤ (pc : Int) + o) (hp : ((pc : Int) + o).toNat = pcT) (hq : pc + 3 = pcN)
    (hyes : x = y → Goes p.tables e below G (T.setTop (mkF m pcT ls st))) (hno : ¬ x = y → Goes p.tables e below G (T.setTop (mkF m pcN ls st))) : Goes p.tables e below G (T.setTop (mkF m pc ls (y :: x :: st))) := by
  subst hq
  by_cases q : x = y
  · exact Goes.on (fun _ k => XT.acmpYes X.here C.1 rfl (pc0 := pc) (pc' := pcT) rfl (hb C.2.2.1 hd) rfl h1 h2 (by simp [XT.acmp, q]) ho hp k) (hyes q)
  · exact Goes.on (fun _ k => XT.acmpNo X.here C.1 rfl (hb C.2.2.1 hd) rfl h1 h2 (by simp [XT.acmp, q]) k) (hno q)
theorem g_acmp_ne (C : Ctx p Z s m meth c bs own maxL ret) (X : Stand p l e R s m args below meth c T locs cells slots) {pc pcT pcN : Nat} {ls : Array Slot} {st : List Value} {x y : Value} {o : Int} (h1 : x.isRef = true) (h2 : y.isRef = true) (hd : decode bs pc = .ok (.if_acmp .ne o, 3)) (ho : 0 ≤ (pc : Int) + o) (hp : ((pc : Int) + o).toNat = pcT) (hq : pc + 3 = pcN)
    (hyes : ¬ x = y → Goes p.tables e below G (T.setTop (mkF m pcT ls st))) (hno : x = y → Goes p.tables e below G (T.setTop (mkF m pcN ls st))) : Goes p.tables e below G (T.setTop (mkF m pc ls (y :: x :: st))) := by
  subst hq
  by_cases q : x = y
  · exact Goes.on (fun _ k => XT.acmpNo X.here C.1 rfl (hb C.2.2.1 hd) rfl h1 h2 (by simp [XT.acmp, q]) k) (hno q)
  · exact Goes.on (fun _ k => XT.acmpYes X.here C.1 rfl (pc0 := pc) (pc' := pcT) rfl (hb C.2.2.1 hd) rfl h1 h2 (by simp [XT.acmp, q]) ho hp k) (hyes q)
theorem g_tsw (C : Ctx p Z s m meth c bs own maxL ret) (X : Stand p l e R s m args below meth c T locs cells slots) {pc pc' : Nat} {ls : Array Slot} {st : List Value} {dflt low high : Int} {offs : Array Int} {len : Nat} {o : Int} {i : Int32} (hd : decode bs pc = .ok (.tableswitch dflt low high offs, len)) (hin : ¬ (i.toInt < low ∨ i.toInt > high)) (hoff : offs[(i.toInt - low).toNat]? = some o) (ho : 0 ≤ (pc : Int) + o) (hp : ((pc : Int) + o).toNat = pc')
    (k : Goes p.tables e below G (T.setTop (mkF m pc' ls st))) : Goes p.tables e below G (T.setTop (mkF m pc ls (.int i :: st))) :=
  Goes.on (fun _ k => XS.tswIn X.here C.1 rfl (pc0 := pc) (pc' := pc') rfl (hb C.2.2.1 hd) rfl hin hoff ho hp k) k
theorem body_ofW {y : MethodName} {bytes : ByteArray} {ws : List Cond} {as' : Array Value} {h0 : Heap} {Q : Option Value → Heap → List Loc → Prop} (hplain : plainFor y = true)
    (H : ∀ p e s m below meth c s₁ G, Ctx p Z (s.setVm s.vm) m meth c bytes y.cls maxL ret → meth.name = y.name → (s.setVm s.vm).methodNamed? y = some m → Stand p l e R (s.setVm s.vm) m as' below meth c s₁ [] 0 0 → s₁.heap = h0 → s.heap = h0 → s.Since s.vm 0 →
      (∀ (v : Option Value) (L : List Loc) (T' : State), Q v T'.heap L → ReturnedEndW s (.returned v) T' L R.cells R.slots → G (.returned v) T') →
      Goes p.tables e below G (s₁.setTop (entryFrame m as' maxL))) :
    MetFree l y (head1 (Cond.code y bytes maxL ret :: ws) R) (fun a U => a = as' ∧ Z.Warmed39 U.vm ∧ U.heap = h0) (fun _ _ _ _ _ => True) (fun _ U o U' => ∃ v L, o = .returned v ∧ Q v U'.heap L ∧ ReturnedEndW U o U' L R.cells R.slots) := by
  refine MetFree.of_bodySF hplain hisR ?_
  intro p e s m args below meth c s₁ Bd hml0 hP hK
  obtain ⟨rfl, hZ, hh⟩ := hP
  exact H p e s m below meth c s₁ _ ⟨Bd.exec, hZ, Bd.bytes, hml0, findClass_of_methodNamed Bd.named, Bd.returns, BodyLoose.notSynchronized Bd⟩ (name_of_methodNamed Bd.named Bd.method).1 Bd.named (Stand.of_body Bd) (by rw [← hh, Bd.state]; rfl) hh ((State.WarmedH.refl s).since 0)
    (fun v L T' hQ hE => ⟨v, L, rfl, hQ, hE⟩)
theorem g_ldcS {vm0 : Vm} (C : Ctx p Z (s.setVm vm0) m meth c bs own maxL ret) (X : Stand p l e R (s.setVm vm0) m args below meth c T locs cells slots) {pc pc' : Nat} {ls : Array Slot} {st : List Value} {text : String} {index k0 n : Nat} (w : (Cond.stringLink own index text).before a0 Z = true) (wS : ∀ a ∈ Bundle.stringAtoms, a.before a0 Z = true) (eT : T.heap = h) (hS : s.Since vm0 k0) (hk : k0 ≤ h.size) (hd : decode bs pc = .ok (.ldc index, 2)) (hp : pc + 2 = pc') (hn : 4 * text.toList.length ≤ n) (hbig : n ≤ 536870912) (hc : cells + 2 ≤ R.cells) (hl : slots + (n + 4) ≤ R.slots)
    (k : ∀ (b : Addr) (T' : State) (h' : Heap) (k1 : Nat), Ctx p Z (s.setVm T'.vm) m meth c bs own maxL ret → Stand p l e R (s.setVm T'.vm) m args below meth c T' locs (cells + 2) (slots + (n + 4)) → T'.heap = h' → Ext h h' → s.Since T'.vm k1 → k1 ≤ h'.size → Goes p.tables e below G (T'.setTop (mkF m pc' ls (.ref b :: st)))) : Goes p.tables e below G (T.setTop (mkF m pc ls st)) := by
  subst hp
  obtain ⟨b, T', h', k1, X', e', E', hS', hk', hZ', hown', st'⟩ := ldcS X C.1 C.2.1 C.2.2.2.2.1 w wS eT hS hk (g := mkF m pc ls st) rfl (hb C.2.2.1 hd) hn hbig hc hl
  exact Goes.on (fun t k => st' t k) (k b T' h' k1 ⟨C.1, hZ', C.2.2.1, C.2.2.2.1, hown', C.2.2.2.2.2⟩ X' e' E' hS' hk')
theorem lam_alike {y : MethodName} (hZ : Z.Warmed39 s.vm) (hnm : s.methodNamed? y = some m) : Z.methodNamed? y = some m := by
  have q : (Z.setVm s.vm).methodNamed? y = s.methodNamed? y := rfl
  rw [State.methodNamed?_setVm hZ.alike] at q
  rw [q]; exact hnm
theorem g_lam {y : MethodName} (C : Ctx p Z s m meth c bs own maxL ret) (X : Stand p l e R s m args below meth c T locs cells slots) (hnm : s.methodNamed? y = some m) {pc pc' : Nat} {ls : Array Slot} {st : List Value} {index : Nat} {σ : Lambda.Shape} {D : String} {v0 : Value} (w : (Cond.lambdaSite y pc index σ).before a0 Z = true) (wO : (Cond.instantiable "java/lang/Object" 0).before a0 Z = true) (hcl : σ.captured.length = 1) (lays : ((σ.file y.cls).bind (layoutFields · 0)).map (·.2.1) = some #[.object D])
    (hr0 : v0.isRef = true) (eT : T.heap = h) (hls : ls.size = maxL) (hd : decode bs pc = .ok (.invokedynamic index, 5)) (hp : pc + 5 = pc') {W : Nat} (hW : (st.map fun v => v.category).sum ≤ W) (hl : W + 1 + 3072 ≤ R.locals) (hc : cells + 1 ≤ R.cells) (hs : slots + 1 ≤ R.slots)
    (k : ∀ (T' : State) (h' : Heap) (b : Addr), Stand p l e R s m args below meth c T' locs (cells + 1) (slots + 1) → T'.heap = h' → b = h.size → Ext h h' → (∀ q, b = q → h'.size = h.size + 1) → Goes p.tables e below G (T'.setTop (mkF m pc' ls (.ref b :: st)))) : Goes p.tables e below G (T.setTop (mkF m pc ls (v0 :: st))) := by
  subst hp
  obtain ⟨cK, one, hat⟩ := Cond.lambdaSite_spec w
  obtain ⟨m', kZ, cfZ, i0, p0, lk, hm', hkZ, hcfZ, hshape, -, hfind, hmade, hcan, hlk⟩ := State.lambdaAt?_spec hat
  cases (lam_alike C.2.1 hnm).symm.trans hm'
  obtain ⟨rfl, rfl, -⟩ : lk = .makes cK ∧ one = none ∧ σ.captured ≠ [] := by
    rcases hlk with ⟨a, cell, -, -, q, -⟩ | q
    · rw [q] at hcl; cases hcl
    · exact q
  obtain ⟨kZ', hkZ', hnameZ⟩ := className_of_methodNamed hm'
  cases hkZ.symm.trans hkZ'
  obtain ⟨bsm, nt, desc, site, hcp, hnt, hsite, hpar⟩ := Lambda.shapeOf?_site hshape
  obtain ⟨kK, hkK, htyK, hkindK, hhid⟩ := Lambda.made_types hmade hkZ wO (by rw [hnameZ]; exact lays)
  obtain ⟨kS, hkS, ekS⟩ := C.2.1.alike.2.2 _ _ hkZ
  obtain ⟨kL, hkL, ekL⟩ := C.2.1.alike.2.2 _ _ hkK
  have htyL : kL.instanceTypes = #[.object D] := by rw [ekL]; exact htyK
  have hkindL : kL.kind = .ordinary := by rw [ekL]; exact hkindK
  have hc0 : v0.category = 1 := by cases v0 <;> first | rfl | cases hr0
  have hn0 : narrow (.object D) v0 = v0 := by cases v0 <;> rfl
  have hf0 : fits (.object D) v0 = true := by cases v0 <;> first | rfl | cases hr0
  have hslotsE : ((kL.instanceTypes.toList.zip [(v0 : Value)]).map fun (t, v) => narrow t v) = [v0] := by
    rw [htyL]; simp [hn0]
  obtain ⟨X', st'⟩ := X.lambdaMakes C.1 (g := mkF m pc ls (v0 :: st)) rfl (by rw [C.2.2.2.1]; exact hls) (hb C.2.2.1 hd) (vals := [v0]) (rest := st)
    hkS (by rw [ekS]; exact hfind) (by rw [ekS]; exact hcfZ) hcp hnt (parseLong_of_parse hsite) (by rw [hpar]; simpa using hcl.symm) rfl hkL
    (by rw [X.admits.platform]; show 2 * 0 + (v0.category + (st.map fun v => v.category).sum) + 3072 ≤ R.locals; rw [hc0]; omega) hc (by rw [hslotsE]; exact hs)
    (fun i v hv => by
      rw [hslotsE] at hv
      match i, hv with
      | 0, hv => simp at hv; subst hv; simp [State.fitsSlot, State.slotType?, hkL, hkindL, htyL, hf0]
      | k + 1, hv => simp at hv)
  rw [hslotsE] at X' st'
  subst eT
  refine Goes.on (fun t k => st' t k) (k _ _ T.heap.size X' rfl rfl ⟨by show T.heap.size ≤ (T.heap.push _).size; simp, fun a c q => ?_⟩ (fun _ _ => by show (T.heap.push _).size = _; simp))
  show (T.heap.push _)[a]? = _
  rw [Array.getElem?_push_lt (Array.getElem?_eq_some_iff.mp q).1]; exact (Array.getElem?_eq_getElem _).symm.trans q
theorem g_retNW {t : FieldType} {vm0 : Vm} {k0 : Nat} (C : Ctx p Z (s.setVm vm0) m meth c bs own maxL (some t)) (X : Stand p l e R (s.setVm vm0) m args below meth c T locs cells slots) {Q : Option Value → Heap → List Loc → Prop} (K : ∀ (v : Option Value) (L : List Loc) (T' : State), Q v T'.heap L → ReturnedEndW s (.returned v) T' L R.cells R.slots → G (.returned v) T') (hS : s.Since vm0 k0) (hk : k0 ≤ h.size) {pc : Nat} {ls : Array Slot} {rest : List Value} {z : Int32} (ht : t = .boolean ∨ t = .byte ∨ t = .char ∨ t = .short) (hd : decode bs pc = .ok (.ireturn, 1)) (hc : cells ≤ R.cells) (hs : slots ≤ R.slots) (eT : T.heap = h) (hQ : Q (some (.int (nar t z))) h locs) : Goes p.tables e below G (T.setTop (mkF m pc ls (.int z :: rest))) := by
  have hlk : meth.locks = false := C.2.2.2.2.2.2
  obtain ⟨fs, hr, hrun, hended, hE⟩ := X.leaveW hS (by rw [eT]; exact hk) (v := some (.int (nar t z))) (fun q => by rw [C.2.2.2.2.2.1] at q; cases q) hlk
  refine ⟨_, _, ?_, hrun, hended, K _ locs _ (by show Q _ T.heap locs; rw [eT]; exact hQ) ⟨hE.1, hE.2.1, hE.2.2.1, hE.2.2.2.mono hc hs⟩⟩
  exact retN X C.1 C.2.2.2.2.2.1 ht (hb C.2.2.1 hd) hr
theorem g_retIW {vm0 : Vm} {k0 : Nat} (C : Ctx p Z (s.setVm vm0) m meth c bs own maxL (some .int)) (X : Stand p l e R (s.setVm vm0) m args below meth c T locs cells slots) {Q : Option Value → Heap → List Loc → Prop} (K : ∀ (v : Option Value) (L : List Loc) (T' : State), Q v T'.heap L → ReturnedEndW s (.returned v) T' L R.cells R.slots → G (.returned v) T') (hS : s.Since vm0 k0) (hk : k0 ≤ h.size) {pc : Nat} {ls : Array Slot} {rest : List Value} {z : Int32} (hd : decode bs pc = .ok (.ireturn, 1)) (hc : cells ≤ R.cells) (hs : slots ≤ R.slots) (eT : T.heap = h) (hQ : Q (some (.int z)) h locs) : Goes p.tables e below G (T.setTop (mkF m pc ls (.int z :: rest))) := by
  have hlk : meth.locks = false := C.2.2.2.2.2.2
  obtain ⟨fs, hr, hrun, hended, hE⟩ := X.leaveW hS (by rw [eT]; exact hk) (v := some (.int z)) (fun q => by rw [C.2.2.2.2.2.1] at q; cases q) hlk
  refine ⟨_, _, ?_, hrun, hended, K _ locs _ (by show Q _ T.heap locs; rw [eT]; exact hQ) ⟨hE.1, hE.2.1, hE.2.2.1, hE.2.2.2.mono hc hs⟩⟩
  exact retOut X C.1 (w := .int z) (i := .ireturn) C.2.2.2.2.2.1 rfl (Or.inl ⟨rfl, Or.inl rfl, z, rfl⟩) (hb C.2.2.1 hd) hr
theorem g_retAW {t : FieldType} {vm0 : Vm} {k0 : Nat} (C : Ctx p Z (s.setVm vm0) m meth c bs own maxL (some t)) (X : Stand p l e R (s.setVm vm0) m args below meth c T locs cells slots) {Q : Option Value → Heap → List Loc → Prop} (K : ∀ (v : Option Value) (L : List Loc) (T' : State), Q v T'.heap L → ReturnedEndW s (.returned v) T' L R.cells R.slots → G (.returned v) T') (hS : s.Since vm0 k0) (hk : k0 ≤ h.size) {pc : Nat} {ls : Array Slot} {rest : List Value} {w : Value} (ht : t.isReference = true) (hn : narrow t w = w) (hw : w.isRef = true) (hd : decode bs pc = .ok (.areturn, 1)) (hc : cells ≤ R.cells) (hs : slots ≤ R.slots) (eT : T.heap = h) (hQ : Q (some w) h locs) : Goes p.tables e below G (T.setTop (mkF m pc ls (w :: rest))) := by
  have hlk : meth.locks = false := C.2.2.2.2.2.2
  obtain ⟨fs, hr, hrun, hended, hE⟩ := X.leaveW hS (by rw [eT]; exact hk) (v := some w) (fun q => by rw [C.2.2.2.2.2.1] at q; cases q) hlk
  refine ⟨_, _, ?_, hrun, hended, K _ locs _ (by show Q _ T.heap locs; rw [eT]; exact hQ) ⟨hE.1, hE.2.1, hE.2.2.1, hE.2.2.2.mono hc hs⟩⟩
  exact retOut X C.1 (w := w) (i := .areturn) C.2.2.2.2.2.1 hn (Or.inr (Or.inr (Or.inr (Or.inr ⟨rfl, ht, hw⟩)))) (hb C.2.2.1 hd) hr
theorem g_retVW {vm0 : Vm} {k0 : Nat} (C : Ctx p Z (s.setVm vm0) m meth c bs own maxL (none)) (X : Stand p l e R (s.setVm vm0) m args below meth c T locs cells slots) {Q : Option Value → Heap → List Loc → Prop} (K : ∀ (v : Option Value) (L : List Loc) (T' : State), Q v T'.heap L → ReturnedEndW s (.returned v) T' L R.cells R.slots → G (.returned v) T') (hS : s.Since vm0 k0) (hk : k0 ≤ h.size) {pc : Nat} {ls : Array Slot}  (hd : decode bs pc = .ok (.return_, 1)) (hc : cells ≤ R.cells) (hs : slots ≤ R.slots) (eT : T.heap = h) (hQ : Q (none) h locs) : Goes p.tables e below G (T.setTop (mkF m pc ls [])) := by
  have hlk : meth.locks = false := C.2.2.2.2.2.2
  obtain ⟨fs, hr, hrun, hended, hE⟩ := X.leaveW hS (by rw [eT]; exact hk) (v := none) (fun _ => rfl) hlk
  refine ⟨_, _, ?_, hrun, hended, K _ locs _ (by show Q _ T.heap locs; rw [eT]; exact hQ) ⟨hE.1, hE.2.1, hE.2.2.1, hE.2.2.2.mono hc hs⟩⟩
  exact X.returnOut C.1 C.2.2.2.2.2.1 (hb C.2.2.1 hd) hr
theorem ne_of_fld {a b : Addr} {K n d : String} {v w : Value} (F : Fld Z h a K n d v) (F' : Fld Z h b K n d w) (hv : v ≠ w) : a ≠ b := fun q => by
  subst q
  obtain ⟨c1, f1, k1, i1, g1, a1, a2, -, -, -, -, a7⟩ := F
  obtain ⟨c2, f2, k2, i2, g2, b1, b2, -, -, -, -, b7⟩ := F'
  cases a1.symm.trans b1
  cases a2.symm.trans b2
  exact hv (Option.some.inj (a7.symm.trans b7))
theorem ref_of_exactly {t : Term} {K : String} (hx : (Cond.exactly t K).value args s none s [] = some true) : ∃ a, t.eval args s none [] s = some (.ref a) ∧ Exa s s.heap a K := by
  obtain ⟨a, -, -, -, e1, -⟩ := Cond.exactly_spec (Cond.before_iff.mpr hx)
  exact ⟨a, e1, Exa.start e1 hx⟩
theorem fldI_of {t : Term} {K n d : String} {k : Int32} {a : Addr} (ht : t.eval args s none [] s = some (.ref a)) (hx : (Cond.eq (.field t K n d) (.int k)).value args s none s [] = some true) : Fld s s.heap a K n d (.int k) := by
  obtain ⟨x, y, e1, e2, k1, k2⟩ := cmp_v (Or.inl hx)
  have e3 : y = .int k := (Option.some.inj e2).symm
  subst e3
  obtain ⟨z, rfl⟩ : ∃ z, x = .int z := k2
  have e4 := e1
  rw [fld_at ht] at e4
  have e5 : z = k := by
    simp only [Cond.value, e1, e2] at hx
    simpa using hx
  subst e5
  exact Fld.start e4
theorem fldN_of {t : Term} {K n d : String} {a : Addr} (ht : t.eval args s none [] s = some (.ref a)) (hx : (Cond.eq (.field t K n d) .null).value args s none s [] = some true) : Fld s s.heap a K n d .null := by
  have e := null_v hx
  rw [fld_at ht] at e
  exact Fld.start e
theorem fldR_of {t u : Term} {K n d : String} {a b : Addr} (ht : t.eval args s none [] s = some (.ref a)) (hu : u.eval args s none [] s = some (.ref b)) (hx : (Cond.eq (.field t K n d) u).value args s none s [] = some true) : Fld s s.heap a K n d (.ref b) := by
  obtain ⟨x, y, e1, e2, k1, k2⟩ := cmp_v (Or.inl hx)
  cases e2.symm.trans hu
  have hr : x.isRef = true := k2.2
  have e5 := gotT (eq_R e1 e2 hr rfl) hx
  subst e5
  rw [fld_at ht] at e1
  exact Fld.start e1
end Kit
end Jvm.Own

namespace Jvm.Pilot.@@N@@
open Jvm Jvm.ClassFile Sem Op Lib Jvm.Free Jvm.Stand Jvm.LawKit Jvm.RoadKit Jvm.Own Bundle Jvm.Pilot.@@N@@.Jvm.D
theorem ef_6 (m : MethodId) (x0 : Int64) (x1 : Int64) : entryFrame m #[(.long x0), (.long x1)] 4 = mkF m 0 #[.val (.long x0), .second, .val (.long x1), .second] [] := by first | (simp [entryFrame, mkF, argsToLocals, Value.category]; done) | rfl
theorem d6_0 : decode jdk_29_method_70_code 0 = .ok (.lload_n 0, 1) := by decide +kernel
theorem d6_1 : decode jdk_29_method_70_code 1 = .ok (.lload_n 2, 1) := by decide +kernel
theorem d6_2 : decode jdk_29_method_70_code 2 = .ok (.lcmp, 1) := by decide +kernel
theorem d6_3 : decode jdk_29_method_70_code 3 = .ok (.ifCond .gt 7, 3) := by decide +kernel
theorem d6_10 : decode jdk_29_method_70_code 10 = .ok (.lload_n 2, 1) := by decide +kernel
theorem d6_11 : decode jdk_29_method_70_code 11 = .ok (.lreturn, 1) := by decide +kernel
theorem d6_6 : decode jdk_29_method_70_code 6 = .ok (.lload_n 0, 1) := by decide +kernel
theorem d6_7 : decode jdk_29_method_70_code 7 = .ok (.goto 4, 3) := by decide +kernel
def fMin (x0 : Int64) (x1 : Int64) : Int64 := if x1 < x0 then x1 else x0
def Q6 (Z : State) (x0 : Int64) (x1 : Int64) (h0 : Heap) (n0 : Nat) (v : Option Value) (h : Heap) (L : List Loc) : Prop := v = some (.long (fMin x0 x1)) ∧ Fr n0 L ∧ h = h0
set_option maxRecDepth 65536 in
set_option maxHeartbeats 40000000 in
theorem rm6 (l : Launch) (Z : State) (a0 : Array Value) (hw : ∀ d ∈ tables_1, d.before a0 Z = true) (ws : List Jvm.Cond) (x0 : Int64) (x1 : Int64) (h0 : Heap) (n0 : Nat) (Z0 : n0 ≤ h0.size) :
    MetFree l (⟨"java/lang/Math", "min", "(JJ)J"⟩ : MethodName) (head1 (Jvm.Cond.code (⟨"java/lang/Math", "min", "(JJ)J"⟩ : MethodName) jdk_29_method_70_code 4 (some .long) :: ws) ({ frames := 0, cells := 0, slots := 0, locals := 0 } : Room)) (fun a U => a = #[(.long x0), (.long x1)] ∧ Z.Warmed39 U.vm ∧ U.heap = h0) (fun _ _ _ _ _ => True) (fun _ U o U' => ∃ v L, o = .returned v ∧ Q6 Z x0 x1 h0 n0 v U'.heap L ∧ FrameEnd U o U' L ({ frames := 0, cells := 0, slots := 0, locals := 0 } : Room).cells ({ frames := 0, cells := 0, slots := 0, locals := 0 } : Room).slots) := by
  refine body_of (y := (⟨"java/lang/Math", "min", "(JJ)J"⟩ : MethodName)) (Q := Q6 Z x0 x1 h0 n0) (Jvm.Free.JP.mathPlain rfl (by decide +kernel)) ?_
  intro p e s m below meth c T0 G C hnm hnamed X0 e0 K
  have N0 := Fr.nil n0
  refine Goes.to (congrArg T0.setTop (ef_6 m x0 x1)) ?_
  refine g_lloadN C X0 d6_0 (pc' := 1) rfl rfl ?_
  refine g_lloadN C X0 d6_1 (pc' := 2) rfl rfl ?_
  refine g_lcmp_gt C X0 d6_2 (pc1 := 3) rfl d6_3 (pcT := 10) (pcN := 6) (by decide) (by decide) rfl (fun hc3 => ?_) (fun hc3 => ?_)
  · refine g_lloadN C X0 d6_10 (pc' := 11) rfl rfl ?_
    exact g_retJ C X0 K d6_11 (by decide) (by decide) e0 ⟨by (unfold fMin; rw [if_pos hc3]) <;> rfl, N0, rfl⟩
  · refine g_lloadN C X0 d6_6 (pc' := 7) rfl rfl ?_
    refine g_goto C X0 d6_7 (pc' := 11) (by decide) (by decide) ?_
    exact g_retJ C X0 K d6_11 (by decide) (by decide) e0 ⟨by (unfold fMin; rw [if_neg hc3]) <;> rfl, N0, rfl⟩
theorem ef_2n3 (m : MethodId) (o1 : Addr) (i1 : Int32) (o2 : Addr) : entryFrame m #[(.ref o1), (.int i1), (.ref o2), .null] 4 = mkF m 0 #[.val (.ref o1), .val (.int i1), .val (.ref o2), .val .null] [] := by first | (simp [entryFrame, mkF, argsToLocals, Value.category]; done) | rfl
theorem d2_0 : decode prog_1_method_2_code 0 = .ok (.aload_n 0, 1) := by decide +kernel
theorem d2_1 : decode prog_1_method_2_code 1 = .ok (.invokespecial 11, 3) := by decide +kernel
theorem w_22 {Z : State} {a0 : Array Value} (hw : ∀ d ∈ tables_1, d.before a0 Z = true) : Jvm.Cond.before (Jvm.Cond.methodLink "com/example/hanko/hanko/access/Budget" (11 : Nat) ({ cls := "java/lang/Object", name := "<init>", desc := "()V" } : Jvm.MethodName)) a0 Z = true := hw _ (List.mem_of_getElem? (i := 22) rfl)
theorem w_23 {Z : State} {a0 : Array Value} (hw : ∀ d ∈ tables_1, d.before a0 Z = true) : Jvm.Cond.before (Jvm.Cond.instanceMethod ({ cls := "java/lang/Object", name := "<init>", desc := "()V" } : Jvm.MethodName)) a0 Z = true := hw _ (List.mem_of_getElem? (i := 23) rfl)
theorem w_24 {Z : State} {a0 : Array Value} (hw : ∀ d ∈ tables_1, d.before a0 Z = true) : Jvm.Cond.before (Jvm.Cond.code ({ cls := "java/lang/Object", name := "<init>", desc := "()V" } : Jvm.MethodName) object_method_1_code (1 : Nat) (Option.none : Option Jvm.ClassFile.FieldType)) a0 Z = true := hw _ (List.mem_of_getElem? (i := 24) rfl)
theorem d2_4 : decode prog_1_method_2_code 4 = .ok (.aload_n 0, 1) := by decide +kernel
theorem d2_5 : decode prog_1_method_2_code 5 = .ok (.iload_n 1, 1) := by decide +kernel
theorem d2_6 : decode prog_1_method_2_code 6 = .ok (.putfield 16, 3) := by decide +kernel
theorem w_26 {Z : State} {a0 : Array Value} (hw : ∀ d ∈ tables_1, d.before a0 Z = true) : Jvm.Cond.before (Jvm.Cond.laysFinal "com/example/hanko/hanko/access/Budget" "com/example/hanko/hanko/access/Budget" "maxSteps" "I") a0 Z = true := hw _ (List.mem_of_getElem? (i := 26) rfl)
theorem w_25 {Z : State} {a0 : Array Value} (hw : ∀ d ∈ tables_1, d.before a0 Z = true) : Jvm.Cond.before (Jvm.Cond.fieldLink "com/example/hanko/hanko/access/Budget" (16 : Nat) "com/example/hanko/hanko/access/Budget" "maxSteps" "I") a0 Z = true := hw _ (List.mem_of_getElem? (i := 25) rfl)
theorem w_2 {Z : State} {a0 : Array Value} (hw : ∀ d ∈ tables_1, d.before a0 Z = true) : Jvm.Cond.before (Jvm.Cond.instantiable "com/example/hanko/hanko/access/Budget" (4 : Nat)) a0 Z = true := hw _ (List.mem_of_getElem? (i := 2) rfl)
theorem w_28 {Z : State} {a0 : Array Value} (hw : ∀ d ∈ tables_1, d.before a0 Z = true) : Jvm.Cond.before (Jvm.Cond.laysFinal "com/example/hanko/hanko/access/Budget" "com/example/hanko/hanko/access/Budget" "refusal" "Ljava/util/function/Supplier;") a0 Z = true := hw _ (List.mem_of_getElem? (i := 28) rfl)
theorem w_30 {Z : State} {a0 : Array Value} (hw : ∀ d ∈ tables_1, d.before a0 Z = true) : Jvm.Cond.before (Jvm.Cond.laysFinal "com/example/hanko/hanko/access/Budget" "com/example/hanko/hanko/access/Budget" "enclosing" "Lcom/example/hanko/hanko/access/Budget;") a0 Z = true := hw _ (List.mem_of_getElem? (i := 30) rfl)
theorem w_37 {Z : State} {a0 : Array Value} (hw : ∀ d ∈ tables_1, d.before a0 Z = true) : Jvm.Cond.before (Jvm.Cond.lays "com/example/hanko/hanko/access/Budget" "com/example/hanko/hanko/access/Budget" "steps" "J") a0 Z = true := hw _ (List.mem_of_getElem? (i := 37) rfl)
theorem d2_9 : decode prog_1_method_2_code 9 = .ok (.aload_n 0, 1) := by decide +kernel
theorem d2_10 : decode prog_1_method_2_code 10 = .ok (.aload_n 2, 1) := by decide +kernel
theorem d2_11 : decode prog_1_method_2_code 11 = .ok (.putfield 20, 3) := by decide +kernel
theorem w_27 {Z : State} {a0 : Array Value} (hw : ∀ d ∈ tables_1, d.before a0 Z = true) : Jvm.Cond.before (Jvm.Cond.fieldLink "com/example/hanko/hanko/access/Budget" (20 : Nat) "com/example/hanko/hanko/access/Budget" "refusal" "Ljava/util/function/Supplier;") a0 Z = true := hw _ (List.mem_of_getElem? (i := 27) rfl)
theorem d2_14 : decode prog_1_method_2_code 14 = .ok (.aload_n 0, 1) := by decide +kernel
theorem d2_15 : decode prog_1_method_2_code 15 = .ok (.aload_n 3, 1) := by decide +kernel
theorem d2_16 : decode prog_1_method_2_code 16 = .ok (.putfield 24, 3) := by decide +kernel
theorem w_29 {Z : State} {a0 : Array Value} (hw : ∀ d ∈ tables_1, d.before a0 Z = true) : Jvm.Cond.before (Jvm.Cond.fieldLink "com/example/hanko/hanko/access/Budget" (24 : Nat) "com/example/hanko/hanko/access/Budget" "enclosing" "Lcom/example/hanko/hanko/access/Budget;") a0 Z = true := hw _ (List.mem_of_getElem? (i := 29) rfl)
theorem d2_19 : decode prog_1_method_2_code 19 = .ok (.return_, 1) := by decide +kernel
def Q2_a (Z : State) (o1 : Addr) (i1 : Int32) (o2 : Addr) (h0 : Heap) (n0 : Nat) (v : Option Value) (h : Heap) (L : List Loc) : Prop := v = none ∧ Fr n0 L ∧ Keep h0 h [o1] ∧ Exa Z h o1 "com/example/hanko/hanko/access/Budget" ∧ Fld Z h o1 "com/example/hanko/hanko/access/Budget" "maxSteps" "I" (.int i1) ∧ Fld Z h o1 "com/example/hanko/hanko/access/Budget" "steps" "J" (.long (0 : Int64)) ∧ Fld Z h o1 "com/example/hanko/hanko/access/Budget" "enclosing" "Lcom/example/hanko/hanko/access/Budget;" .null
theorem pn_1 : plainName "com/example/hanko/hanko/access/Budget" = true := by first | (simp [plainName, overriddenIn]; done) | decide +kernel
set_option maxRecDepth 65536 in
set_option maxHeartbeats 40000000 in
theorem rm2_a (l : Launch) (Z : State) (a0 : Array Value) (hw : ∀ d ∈ tables_1, d.before a0 Z = true) (ws : List Jvm.Cond) (o1 : Addr) (i1 : Int32) (o2 : Addr) (h0 : Heap) (n0 : Nat) (Z0 : n0 ≤ h0.size) (F0 : Exa Z h0 o1 "com/example/hanko/hanko/access/Budget") (F1 : Fld Z h0 o1 "com/example/hanko/hanko/access/Budget" "maxSteps" "I" (.int (0 : Int32))) (F2 : Fld Z h0 o1 "com/example/hanko/hanko/access/Budget" "refusal" "Ljava/util/function/Supplier;" .null) (F3 : Fld Z h0 o1 "com/example/hanko/hanko/access/Budget" "enclosing" "Lcom/example/hanko/hanko/access/Budget;" .null) (F4 : Fld Z h0 o1 "com/example/hanko/hanko/access/Budget" "steps" "J" (.long (0 : Int64))) (gn_o1 : n0 ≤ o1) :
    MetFree l (⟨"com/example/hanko/hanko/access/Budget", "<init>", "(ILjava/util/function/Supplier;Lcom/example/hanko/hanko/access/Budget;)V"⟩ : MethodName) (head1 (Jvm.Cond.code (⟨"com/example/hanko/hanko/access/Budget", "<init>", "(ILjava/util/function/Supplier;Lcom/example/hanko/hanko/access/Budget;)V"⟩ : MethodName) prog_1_method_2_code 4 none :: ws) ({ frames := 1, cells := 0, slots := 0, locals := 12 } : Room)) (fun a U => a = #[(.ref o1), (.int i1), (.ref o2), .null] ∧ Z.Warmed39 U.vm ∧ U.heap = h0) (fun _ _ _ _ _ => True) (fun _ U o U' => ∃ v L, o = .returned v ∧ Q2_a Z o1 i1 o2 h0 n0 v U'.heap L ∧ FrameEnd U o U' L ({ frames := 1, cells := 0, slots := 0, locals := 12 } : Room).cells ({ frames := 1, cells := 0, slots := 0, locals := 12 } : Room).slots) := by
  refine body_of (y := (⟨"com/example/hanko/hanko/access/Budget", "<init>", "(ILjava/util/function/Supplier;Lcom/example/hanko/hanko/access/Budget;)V"⟩ : MethodName)) (Q := Q2_a Z o1 i1 o2 h0 n0) (plainFor_of_name pn_1) ?_
  intro p e s m below meth c T0 G C hnm hnamed X0 e0 K
  have N0 := Fr.nil n0
  refine Goes.to (congrArg T0.setTop (ef_2n3 m o1 i1 o2)) ?_
  have K00 := Keep.refl h0 [o1]
  refine g_aloadN C X0 d2_0 (pc' := 1) rfl rfl rfl ?_
  refine g_initO C X0 (w_22 hw) (w_23 hw) (w_24 hw) e0 rfl d2_1 (pc' := 4) rfl (by decide) (W := 0) (Nat.le_of_eq rfl) (by decide) (fun T1 X1 e1 => ?_)
  refine g_aloadN C X1 d2_4 (pc' := 5) rfl rfl rfl ?_
  refine g_iloadN C X1 d2_5 (pc' := 6) rfl rfl ?_
  refine g_putF C X1 (w_25 hw) Via.refl e1 F1 F0 (Or.inr ⟨(w_26 hw), rfl, hnm⟩) (w_2 hw) (ty := .int) (by decide) rfl rfl d2_6 (pc' := 9) rfl (fun T2 h2 X2 e2 W2 => ?_)
  have f3 := F0.wr W2
  have f4 := F1.same W2
  have f5 := F2.other W2 (Or.inr (slot_ne (Or.inr (w_28 hw)) (Or.inr (w_26 hw)) (by decide) (t := (.object "java/util/function/Supplier")) (t' := .int) (by decide) (by decide)))
  have f6 := F3.other W2 (Or.inr (slot_ne (Or.inr (w_30 hw)) (Or.inr (w_26 hw)) (by decide) (t := (.object "com/example/hanko/hanko/access/Budget")) (t' := .int) (by decide) (by decide)))
  have f7 := F4.other W2 (Or.inr (slot_ne (Or.inl (w_37 hw)) (Or.inr (w_26 hw)) (by decide) (t := .long) (t' := .int) (by decide) (by decide)))
  have N2 := Fr.snoc X2 N0 gn_o1
  have Z2 := Nat.le_trans Z0 (Nat.le_of_eq W2.size.symm)
  have K2 := K00.wr W2 (Or.inl (List.mem_of_getElem? (i := 0) rfl))
  refine g_aloadN C X2 d2_9 (pc' := 10) rfl rfl rfl ?_
  refine g_aloadN C X2 d2_10 (pc' := 11) rfl rfl rfl ?_
  refine g_putF C X2 (w_27 hw) Via.refl e2 f5 f3 (Or.inr ⟨(w_28 hw), rfl, hnm⟩) (w_2 hw) (ty := (.object "java/util/function/Supplier")) (by decide) rfl rfl d2_11 (pc' := 14) rfl (fun T8 h8 X8 e8 W8 => ?_)
  have f9 := f3.wr W8
  have f10 := f4.other W8 (Or.inr (slot_ne (Or.inr (w_26 hw)) (Or.inr (w_28 hw)) (by decide) (t := .int) (t' := (.object "java/util/function/Supplier")) (by decide) (by decide)))
  have f11 := f5.same W8
  have f12 := f6.other W8 (Or.inr (slot_ne (Or.inr (w_30 hw)) (Or.inr (w_28 hw)) (by decide) (t := (.object "com/example/hanko/hanko/access/Budget")) (t' := (.object "java/util/function/Supplier")) (by decide) (by decide)))
  have f13 := f7.other W8 (Or.inr (slot_ne (Or.inl (w_37 hw)) (Or.inr (w_28 hw)) (by decide) (t := .long) (t' := (.object "java/util/function/Supplier")) (by decide) (by decide)))
  have N8 := Fr.snoc X8 N2 gn_o1
  have Z8 := Nat.le_trans Z2 (Nat.le_of_eq W8.size.symm)
  have K8 := K2.wr W8 (Or.inl (List.mem_of_getElem? (i := 0) rfl))
  refine g_aloadN C X8 d2_14 (pc' := 15) rfl rfl rfl ?_
  refine g_aloadN C X8 d2_15 (pc' := 16) rfl rfl rfl ?_
  refine g_putF C X8 (w_29 hw) Via.refl e8 f12 f9 (Or.inr ⟨(w_30 hw), rfl, hnm⟩) (w_2 hw) (ty := (.object "com/example/hanko/hanko/access/Budget")) (by decide) rfl rfl d2_16 (pc' := 19) rfl (fun T14 h14 X14 e14 W14 => ?_)
  have f15 := f9.wr W14
  have f16 := f10.other W14 (Or.inr (slot_ne (Or.inr (w_26 hw)) (Or.inr (w_30 hw)) (by decide) (t := .int) (t' := (.object "com/example/hanko/hanko/access/Budget")) (by decide) (by decide)))
  have f17 := f11.other W14 (Or.inr (slot_ne (Or.inr (w_28 hw)) (Or.inr (w_30 hw)) (by decide) (t := (.object "java/util/function/Supplier")) (t' := (.object "com/example/hanko/hanko/access/Budget")) (by decide) (by decide)))
  have f18 := f12.same W14
  have f19 := f13.other W14 (Or.inr (slot_ne (Or.inl (w_37 hw)) (Or.inr (w_30 hw)) (by decide) (t := .long) (t' := (.object "com/example/hanko/hanko/access/Budget")) (by decide) (by decide)))
  have N14 := Fr.snoc X14 N8 gn_o1
  have Z14 := Nat.le_trans Z8 (Nat.le_of_eq W14.size.symm)
  have K14 := K8.wr W14 (Or.inl (List.mem_of_getElem? (i := 0) rfl))
  exact g_retV C X14 K d2_19 (by decide) (by decide) e14 ⟨rfl, N14, K14, f15, f16, f19, f18⟩
theorem ef_2n2 (m : MethodId) (o1 : Addr) (i1 : Int32) (o2 : Addr) : entryFrame m #[(.ref o1), (.int i1), .null, (.ref o2)] 4 = mkF m 0 #[.val (.ref o1), .val (.int i1), .val .null, .val (.ref o2)] [] := by first | (simp [entryFrame, mkF, argsToLocals, Value.category]; done) | rfl
def Q2_b (Z : State) (o1 : Addr) (i1 : Int32) (o2 : Addr) (h0 : Heap) (n0 : Nat) (v : Option Value) (h : Heap) (L : List Loc) : Prop := v = none ∧ Fr n0 L ∧ Keep h0 h [o1] ∧ Exa Z h o1 "com/example/hanko/hanko/access/Budget" ∧ Fld Z h o1 "com/example/hanko/hanko/access/Budget" "maxSteps" "I" (.int i1) ∧ Fld Z h o1 "com/example/hanko/hanko/access/Budget" "steps" "J" (.long (0 : Int64)) ∧ Fld Z h o1 "com/example/hanko/hanko/access/Budget" "enclosing" "Lcom/example/hanko/hanko/access/Budget;" (.ref o2)
set_option maxRecDepth 65536 in
set_option maxHeartbeats 40000000 in
theorem rm2_b (l : Launch) (Z : State) (a0 : Array Value) (hw : ∀ d ∈ tables_1, d.before a0 Z = true) (ws : List Jvm.Cond) (o1 : Addr) (i1 : Int32) (o2 : Addr) (h0 : Heap) (n0 : Nat) (Z0 : n0 ≤ h0.size) (F0 : Exa Z h0 o1 "com/example/hanko/hanko/access/Budget") (F1 : Fld Z h0 o1 "com/example/hanko/hanko/access/Budget" "maxSteps" "I" (.int (0 : Int32))) (F2 : Fld Z h0 o1 "com/example/hanko/hanko/access/Budget" "refusal" "Ljava/util/function/Supplier;" .null) (F3 : Fld Z h0 o1 "com/example/hanko/hanko/access/Budget" "enclosing" "Lcom/example/hanko/hanko/access/Budget;" .null) (F4 : Fld Z h0 o1 "com/example/hanko/hanko/access/Budget" "steps" "J" (.long (0 : Int64))) (gn_o1 : n0 ≤ o1) :
    MetFree l (⟨"com/example/hanko/hanko/access/Budget", "<init>", "(ILjava/util/function/Supplier;Lcom/example/hanko/hanko/access/Budget;)V"⟩ : MethodName) (head1 (Jvm.Cond.code (⟨"com/example/hanko/hanko/access/Budget", "<init>", "(ILjava/util/function/Supplier;Lcom/example/hanko/hanko/access/Budget;)V"⟩ : MethodName) prog_1_method_2_code 4 none :: ws) ({ frames := 1, cells := 0, slots := 0, locals := 12 } : Room)) (fun a U => a = #[(.ref o1), (.int i1), .null, (.ref o2)] ∧ Z.Warmed39 U.vm ∧ U.heap = h0) (fun _ _ _ _ _ => True) (fun _ U o U' => ∃ v L, o = .returned v ∧ Q2_b Z o1 i1 o2 h0 n0 v U'.heap L ∧ FrameEnd U o U' L ({ frames := 1, cells := 0, slots := 0, locals := 12 } : Room).cells ({ frames := 1, cells := 0, slots := 0, locals := 12 } : Room).slots) := by
  refine body_of (y := (⟨"com/example/hanko/hanko/access/Budget", "<init>", "(ILjava/util/function/Supplier;Lcom/example/hanko/hanko/access/Budget;)V"⟩ : MethodName)) (Q := Q2_b Z o1 i1 o2 h0 n0) (plainFor_of_name pn_1) ?_
  intro p e s m below meth c T0 G C hnm hnamed X0 e0 K
  have N0 := Fr.nil n0
  refine Goes.to (congrArg T0.setTop (ef_2n2 m o1 i1 o2)) ?_
  have K00 := Keep.refl h0 [o1]
  refine g_aloadN C X0 d2_0 (pc' := 1) rfl rfl rfl ?_
  refine g_initO C X0 (w_22 hw) (w_23 hw) (w_24 hw) e0 rfl d2_1 (pc' := 4) rfl (by decide) (W := 0) (Nat.le_of_eq rfl) (by decide) (fun T1 X1 e1 => ?_)
  refine g_aloadN C X1 d2_4 (pc' := 5) rfl rfl rfl ?_
  refine g_iloadN C X1 d2_5 (pc' := 6) rfl rfl ?_
  refine g_putF C X1 (w_25 hw) Via.refl e1 F1 F0 (Or.inr ⟨(w_26 hw), rfl, hnm⟩) (w_2 hw) (ty := .int) (by decide) rfl rfl d2_6 (pc' := 9) rfl (fun T2 h2 X2 e2 W2 => ?_)
  have f3 := F0.wr W2
  have f4 := F1.same W2
  have f5 := F2.other W2 (Or.inr (slot_ne (Or.inr (w_28 hw)) (Or.inr (w_26 hw)) (by decide) (t := (.object "java/util/function/Supplier")) (t' := .int) (by decide) (by decide)))
  have f6 := F3.other W2 (Or.inr (slot_ne (Or.inr (w_30 hw)) (Or.inr (w_26 hw)) (by decide) (t := (.object "com/example/hanko/hanko/access/Budget")) (t' := .int) (by decide) (by decide)))
  have f7 := F4.other W2 (Or.inr (slot_ne (Or.inl (w_37 hw)) (Or.inr (w_26 hw)) (by decide) (t := .long) (t' := .int) (by decide) (by decide)))
  have N2 := Fr.snoc X2 N0 gn_o1
  have Z2 := Nat.le_trans Z0 (Nat.le_of_eq W2.size.symm)
  have K2 := K00.wr W2 (Or.inl (List.mem_of_getElem? (i := 0) rfl))
  refine g_aloadN C X2 d2_9 (pc' := 10) rfl rfl rfl ?_
  refine g_aloadN C X2 d2_10 (pc' := 11) rfl rfl rfl ?_
  refine g_putF C X2 (w_27 hw) Via.refl e2 f5 f3 (Or.inr ⟨(w_28 hw), rfl, hnm⟩) (w_2 hw) (ty := (.object "java/util/function/Supplier")) (by decide) rfl rfl d2_11 (pc' := 14) rfl (fun T8 h8 X8 e8 W8 => ?_)
  have f9 := f3.wr W8
  have f10 := f4.other W8 (Or.inr (slot_ne (Or.inr (w_26 hw)) (Or.inr (w_28 hw)) (by decide) (t := .int) (t' := (.object "java/util/function/Supplier")) (by decide) (by decide)))
  have f11 := f5.same W8
  have f12 := f6.other W8 (Or.inr (slot_ne (Or.inr (w_30 hw)) (Or.inr (w_28 hw)) (by decide) (t := (.object "com/example/hanko/hanko/access/Budget")) (t' := (.object "java/util/function/Supplier")) (by decide) (by decide)))
  have f13 := f7.other W8 (Or.inr (slot_ne (Or.inl (w_37 hw)) (Or.inr (w_28 hw)) (by decide) (t := .long) (t' := (.object "java/util/function/Supplier")) (by decide) (by decide)))
  have N8 := Fr.snoc X8 N2 gn_o1
  have Z8 := Nat.le_trans Z2 (Nat.le_of_eq W8.size.symm)
  have K8 := K2.wr W8 (Or.inl (List.mem_of_getElem? (i := 0) rfl))
  refine g_aloadN C X8 d2_14 (pc' := 15) rfl rfl rfl ?_
  refine g_aloadN C X8 d2_15 (pc' := 16) rfl rfl rfl ?_
  refine g_putF C X8 (w_29 hw) Via.refl e8 f12 f9 (Or.inr ⟨(w_30 hw), rfl, hnm⟩) (w_2 hw) (ty := (.object "com/example/hanko/hanko/access/Budget")) (by decide) rfl rfl d2_16 (pc' := 19) rfl (fun T14 h14 X14 e14 W14 => ?_)
  have f15 := f9.wr W14
  have f16 := f10.other W14 (Or.inr (slot_ne (Or.inr (w_26 hw)) (Or.inr (w_30 hw)) (by decide) (t := .int) (t' := (.object "com/example/hanko/hanko/access/Budget")) (by decide) (by decide)))
  have f17 := f11.other W14 (Or.inr (slot_ne (Or.inr (w_28 hw)) (Or.inr (w_30 hw)) (by decide) (t := (.object "java/util/function/Supplier")) (t' := (.object "com/example/hanko/hanko/access/Budget")) (by decide) (by decide)))
  have f18 := f12.same W14
  have f19 := f13.other W14 (Or.inr (slot_ne (Or.inl (w_37 hw)) (Or.inr (w_30 hw)) (by decide) (t := .long) (t' := (.object "com/example/hanko/hanko/access/Budget")) (by decide) (by decide)))
  have N14 := Fr.snoc X14 N8 gn_o1
  have Z14 := Nat.le_trans Z8 (Nat.le_of_eq W14.size.symm)
  have K14 := K8.wr W14 (Or.inl (List.mem_of_getElem? (i := 0) rfl))
  exact g_retV C X14 K d2_19 (by decide) (by decide) e14 ⟨rfl, N14, K14, f15, f16, f19, f18⟩
theorem ef_1 (m : MethodId) (o1 : Addr) (i1 : Int32) (o2 : Addr) : entryFrame m #[(.ref o1), (.int i1), (.ref o2)] 3 = mkF m 0 #[.val (.ref o1), .val (.int i1), .val (.ref o2)] [] := by first | (simp [entryFrame, mkF, argsToLocals, Value.category]; done) | rfl
theorem d1_0 : decode prog_1_method_1_code 0 = .ok (.aload_n 0, 1) := by decide +kernel
theorem d1_1 : decode prog_1_method_1_code 1 = .ok (.iload_n 1, 1) := by decide +kernel
theorem d1_2 : decode prog_1_method_1_code 2 = .ok (.aload_n 2, 1) := by decide +kernel
theorem d1_3 : decode prog_1_method_1_code 3 = .ok (.invokedynamic 1, 5) := by decide +kernel
theorem lam_15 : ((((Jvm.Lambda.Shape.mk "java/util/function/Supplier" "get" (Jvm.ClassFile.MethodDescriptor.mk ([] : List Jvm.ClassFile.FieldType) (Option.some (Jvm.ClassFile.FieldType.object "java/lang/Object"))) ([(Jvm.ClassFile.FieldType.object "java/lang/String")] : List Jvm.ClassFile.FieldType) (6 : Nat) "com/example/hanko/hanko/access/Budget" "lambda$new$0" (Jvm.ClassFile.MethodDescriptor.mk ([(Jvm.ClassFile.FieldType.object "java/lang/String")] : List Jvm.ClassFile.FieldType) (Option.some (Jvm.ClassFile.FieldType.object "java/lang/String"))) false (Jvm.ClassFile.MethodDescriptor.mk ([] : List Jvm.ClassFile.FieldType) (Option.some (Jvm.ClassFile.FieldType.object "java/lang/String")))) : Lambda.Shape).file "com/example/hanko/hanko/access/Budget").bind (layoutFields · 0)).map (·.2.1) = some #[.object "java/lang/String"] := by decide +kernel
theorem w_15 {Z : State} {a0 : Array Value} (hw : ∀ d ∈ tables_1, d.before a0 Z = true) : Jvm.Cond.before (Jvm.Cond.lambdaSite ({ cls := "com/example/hanko/hanko/access/Budget", name := "<init>", desc := "(ILjava/lang/String;)V" } : Jvm.MethodName) (3 : Nat) (1 : Nat) (Jvm.Lambda.Shape.mk "java/util/function/Supplier" "get" (Jvm.ClassFile.MethodDescriptor.mk ([] : List Jvm.ClassFile.FieldType) (Option.some (Jvm.ClassFile.FieldType.object "java/lang/Object"))) ([(Jvm.ClassFile.FieldType.object "java/lang/String")] : List Jvm.ClassFile.FieldType) (6 : Nat) "com/example/hanko/hanko/access/Budget" "lambda$new$0" (Jvm.ClassFile.MethodDescriptor.mk ([(Jvm.ClassFile.FieldType.object "java/lang/String")] : List Jvm.ClassFile.FieldType) (Option.some (Jvm.ClassFile.FieldType.object "java/lang/String"))) false (Jvm.ClassFile.MethodDescriptor.mk ([] : List Jvm.ClassFile.FieldType) (Option.some (Jvm.ClassFile.FieldType.object "java/lang/String"))))) a0 Z = true := hw _ (List.mem_of_getElem? (i := 15) rfl)
theorem w_18 {Z : State} {a0 : Array Value} (hw : ∀ d ∈ tables_1, d.before a0 Z = true) : Jvm.Cond.before (Jvm.Cond.instantiable "java/lang/Object" (0 : Nat)) a0 Z = true := hw _ (List.mem_of_getElem? (i := 18) rfl)
theorem d1_8 : decode prog_1_method_1_code 8 = .ok (.aconst_null, 1) := by decide +kernel
theorem d1_9 : decode prog_1_method_1_code 9 = .ok (.invokespecial 5, 3) := by decide +kernel
theorem w_21 {Z : State} {a0 : Array Value} (hw : ∀ d ∈ tables_1, d.before a0 Z = true) : Jvm.Cond.before (Jvm.Cond.code ({ cls := "com/example/hanko/hanko/access/Budget", name := "<init>", desc := "(ILjava/util/function/Supplier;Lcom/example/hanko/hanko/access/Budget;)V" } : Jvm.MethodName) prog_1_method_2_code (4 : Nat) (Option.none : Option Jvm.ClassFile.FieldType)) a0 Z = true := hw _ (List.mem_of_getElem? (i := 21) rfl)
theorem w_3 {Z : State} {a0 : Array Value} (hw : ∀ d ∈ tables_1, d.before a0 Z = true) : Jvm.Cond.before (Jvm.Cond.initialized "com/example/hanko/hanko/access/Budget") a0 Z = true := hw _ (List.mem_of_getElem? (i := 3) rfl)
theorem w_19 {Z : State} {a0 : Array Value} (hw : ∀ d ∈ tables_1, d.before a0 Z = true) : Jvm.Cond.before (Jvm.Cond.methodLink "com/example/hanko/hanko/access/Budget" (5 : Nat) ({ cls := "com/example/hanko/hanko/access/Budget", name := "<init>", desc := "(ILjava/util/function/Supplier;Lcom/example/hanko/hanko/access/Budget;)V" } : Jvm.MethodName)) a0 Z = true := hw _ (List.mem_of_getElem? (i := 19) rfl)
theorem pd_0 : parseMethodDescriptor "(ILjava/util/function/Supplier;Lcom/example/hanko/hanko/access/Budget;)V" = some ⟨[.int, (.object "java/util/function/Supplier"), (.object "com/example/hanko/hanko/access/Budget")], none⟩ := by decide +kernel
theorem w_20 {Z : State} {a0 : Array Value} (hw : ∀ d ∈ tables_1, d.before a0 Z = true) : Jvm.Cond.before (Jvm.Cond.instanceMethod ({ cls := "com/example/hanko/hanko/access/Budget", name := "<init>", desc := "(ILjava/util/function/Supplier;Lcom/example/hanko/hanko/access/Budget;)V" } : Jvm.MethodName)) a0 Z = true := hw _ (List.mem_of_getElem? (i := 20) rfl)
theorem d1_12 : decode prog_1_method_1_code 12 = .ok (.return_, 1) := by decide +kernel
def Q1 (Z : State) (o1 : Addr) (i1 : Int32) (o2 : Addr) (h0 : Heap) (n0 : Nat) (v : Option Value) (h : Heap) (L : List Loc) : Prop := v = none ∧ Fr n0 L ∧ Keep h0 h [o1] ∧ Exa Z h o1 "com/example/hanko/hanko/access/Budget" ∧ Fld Z h o1 "com/example/hanko/hanko/access/Budget" "maxSteps" "I" (.int i1) ∧ Fld Z h o1 "com/example/hanko/hanko/access/Budget" "steps" "J" (.long (0 : Int64)) ∧ Fld Z h o1 "com/example/hanko/hanko/access/Budget" "enclosing" "Lcom/example/hanko/hanko/access/Budget;" .null
set_option maxRecDepth 65536 in
set_option maxHeartbeats 40000000 in
theorem rm1 (l : Launch) (Z : State) (a0 : Array Value) (hw : ∀ d ∈ tables_1, d.before a0 Z = true) (ws : List Jvm.Cond) (o1 : Addr) (i1 : Int32) (o2 : Addr) (h0 : Heap) (n0 : Nat) (Z0 : n0 ≤ h0.size) (F0 : Exa Z h0 o1 "com/example/hanko/hanko/access/Budget") (F1 : Fld Z h0 o1 "com/example/hanko/hanko/access/Budget" "maxSteps" "I" (.int (0 : Int32))) (F2 : Fld Z h0 o1 "com/example/hanko/hanko/access/Budget" "refusal" "Ljava/util/function/Supplier;" .null) (F3 : Fld Z h0 o1 "com/example/hanko/hanko/access/Budget" "enclosing" "Lcom/example/hanko/hanko/access/Budget;" .null) (F4 : Fld Z h0 o1 "com/example/hanko/hanko/access/Budget" "steps" "J" (.long (0 : Int64))) (gn_o1 : n0 ≤ o1) :
    MetFree l (⟨"com/example/hanko/hanko/access/Budget", "<init>", "(ILjava/lang/String;)V"⟩ : MethodName) (head1 (Jvm.Cond.code (⟨"com/example/hanko/hanko/access/Budget", "<init>", "(ILjava/lang/String;)V"⟩ : MethodName) prog_1_method_1_code 3 none :: ws) ({ frames := 2, cells := 1, slots := 1, locals := 3075 } : Room)) (fun a U => a = #[(.ref o1), (.int i1), (.ref o2)] ∧ Z.Warmed39 U.vm ∧ U.heap = h0) (fun _ _ _ _ _ => True) (fun _ U o U' => ∃ v L, o = .returned v ∧ Q1 Z o1 i1 o2 h0 n0 v U'.heap L ∧ FrameEnd U o U' L ({ frames := 2, cells := 1, slots := 1, locals := 3075 } : Room).cells ({ frames := 2, cells := 1, slots := 1, locals := 3075 } : Room).slots) := by
  refine body_of (y := (⟨"com/example/hanko/hanko/access/Budget", "<init>", "(ILjava/lang/String;)V"⟩ : MethodName)) (Q := Q1 Z o1 i1 o2 h0 n0) (plainFor_of_name pn_1) ?_
  intro p e s m below meth c T0 G C hnm hnamed X0 e0 K
  have N0 := Fr.nil n0
  refine Goes.to (congrArg T0.setTop (ef_1 m o1 i1 o2)) ?_
  have K00 := Keep.refl h0 [o1]
  refine g_aloadN C X0 d1_0 (pc' := 1) rfl rfl rfl ?_
  refine g_iloadN C X0 d1_1 (pc' := 2) rfl rfl ?_
  refine g_aloadN C X0 d1_2 (pc' := 3) rfl rfl rfl ?_
  refine g_lam (y := (⟨"com/example/hanko/hanko/access/Budget", "<init>", "(ILjava/lang/String;)V"⟩ : MethodName)) C X0 hnamed (w_15 hw) (w_18 hw) rfl lam_15 rfl e0 rfl d1_3 (pc' := 8) rfl (W := 2) (Nat.le_of_eq rfl) (by decide) (by decide) (by decide) (fun T1 h1 b1 X1 e1 g1 E1 _ => ?_)
  have n2 : o1 ≠ b1 := Nat.ne_of_lt (Nat.lt_of_lt_of_eq F0.lt g1.symm)
  have f3 := F0.ext E1
  have f4 := F1.ext E1
  have f5 := F2.ext E1
  have f6 := F3.ext E1
  have f7 := F4.ext E1
  have gn_b1 : n0 ≤ b1 := Nat.le_trans Z0 (Nat.le_of_eq g1.symm)
  have Z1 := Nat.le_trans Z0 E1.1
  have K1 := K00.ext E1
  refine g_aconstNull C X1 d1_8 (pc' := 9) rfl ?_
  refine g_callI C X1 rfl (w_19 hw) (w_20 hw) (w_3 hw) (w_21 hw) (by decide) d1_9 (rm2_a l Z a0 hw [] o1 i1 b1 h1 n0 Z1 f3 f4 f5 f6 f7 gn_o1) (by decide) (by decide) rfl pd_0 rfl (argsL := [(.int i1), (.ref b1), .null]) (rest := []) rfl (W := 0) (Nat.le_of_eq rfl) e1 (by decide) (by decide) (pc' := 12) rfl (fun u8 T8 L8 X8 hQ8 => ?_)
  obtain ⟨rfl, Nq8, Kq8, q8_0, q8_1, q8_2, q8_3⟩ := hQ8
  have N8 := Fr.app N0 Nq8
  have f9 := f3.keep Kq8
  have Z8 := Nat.le_trans Z1 Kq8.1
  have K8 := K1.trans Kq8 (allS (Or.inl (List.mem_of_getElem? (i := 0) rfl)) all0)
  show Goes p.tables e below G (T8.setTop (mkF m 12 #[.val (.ref o1), .val (.int i1), .val (.ref o2)] []))
  exact g_retV C X8 K d1_12 (by decide) (by decide) rfl ⟨rfl, N8, K8, q8_0, q8_1, q8_2, q8_3⟩
theorem ef_4 (m : MethodId) (o1 : Addr) (j1 : Int64) : entryFrame m #[(.ref o1), (.long j1)] 3 = mkF m 0 #[.val (.ref o1), .val (.long j1), .second] [] := by first | (simp [entryFrame, mkF, argsToLocals, Value.category]; done) | rfl
theorem d4_0 : decode prog_1_method_4_code 0 = .ok (.aload_n 0, 1) := by decide +kernel
theorem d4_1 : decode prog_1_method_4_code 1 = .ok (.dup, 1) := by decide +kernel
theorem d4_2 : decode prog_1_method_4_code 2 = .ok (.getfield 28, 3) := by decide +kernel
theorem w_36 {Z : State} {a0 : Array Value} (hw : ∀ d ∈ tables_1, d.before a0 Z = true) : Jvm.Cond.before (Jvm.Cond.fieldLink "com/example/hanko/hanko/access/Budget" (28 : Nat) "com/example/hanko/hanko/access/Budget" "steps" "J") a0 Z = true := hw _ (List.mem_of_getElem? (i := 36) rfl)
theorem d4_5 : decode prog_1_method_4_code 5 = .ok (.lload_n 1, 1) := by decide +kernel
theorem d4_6 : decode prog_1_method_4_code 6 = .ok (.ladd, 1) := by decide +kernel
theorem d4_7 : decode prog_1_method_4_code 7 = .ok (.putfield 28, 3) := by decide +kernel
theorem d4_10 : decode prog_1_method_4_code 10 = .ok (.aload_n 0, 1) := by decide +kernel
theorem d4_11 : decode prog_1_method_4_code 11 = .ok (.getfield 28, 3) := by decide +kernel
theorem d4_14 : decode prog_1_method_4_code 14 = .ok (.aload_n 0, 1) := by decide +kernel
theorem d4_15 : decode prog_1_method_4_code 15 = .ok (.getfield 16, 3) := by decide +kernel
theorem d4_18 : decode prog_1_method_4_code 18 = .ok (.i2l, 1) := by decide +kernel
theorem d4_19 : decode prog_1_method_4_code 19 = .ok (.lcmp, 1) := by decide +kernel
theorem d4_20 : decode prog_1_method_4_code 20 = .ok (.ifCond .le 45, 3) := by decide +kernel
theorem d4_65 : decode prog_1_method_4_code 65 = .ok (.aload_n 0, 1) := by decide +kernel
theorem d4_66 : decode prog_1_method_4_code 66 = .ok (.getfield 24, 3) := by decide +kernel
theorem d4_69 : decode prog_1_method_4_code 69 = .ok (.ifnull 11, 3) := by decide +kernel
theorem d4_80 : decode prog_1_method_4_code 80 = .ok (.return_, 1) := by decide +kernel
def Q4_n (Z : State) (o1 : Addr) (j1 : Int64) (i1 : Int32) (j2 : Int64) (h0 : Heap) (n0 : Nat) (v : Option Value) (h : Heap) (L : List Loc) : Prop := v = none ∧ Fr n0 L ∧ Keep h0 h [o1] ∧ Exa Z h o1 "com/example/hanko/hanko/access/Budget" ∧ Fld Z h o1 "com/example/hanko/hanko/access/Budget" "maxSteps" "I" (.int i1) ∧ Fld Z h o1 "com/example/hanko/hanko/access/Budget" "steps" "J" (.long (j2 + j1)) ∧ Fld Z h o1 "com/example/hanko/hanko/access/Budget" "enclosing" "Lcom/example/hanko/hanko/access/Budget;" .null
set_option maxRecDepth 65536 in
set_option maxHeartbeats 40000000 in
theorem rm4_n (l : Launch) (Z : State) (a0 : Array Value) (hw : ∀ d ∈ tables_1, d.before a0 Z = true) (ws : List Jvm.Cond) (o1 : Addr) (j1 : Int64) (i1 : Int32) (j2 : Int64) (h0 : Heap) (n0 : Nat) (Z0 : n0 ≤ h0.size) (F0 : Exa Z h0 o1 "com/example/hanko/hanko/access/Budget") (F1 : Fld Z h0 o1 "com/example/hanko/hanko/access/Budget" "maxSteps" "I" (.int i1)) (F2 : Fld Z h0 o1 "com/example/hanko/hanko/access/Budget" "steps" "J" (.long j2)) (F3 : Fld Z h0 o1 "com/example/hanko/hanko/access/Budget" "enclosing" "Lcom/example/hanko/hanko/access/Budget;" .null) (gn_o1 : n0 ≤ o1) (hle : ¬ i1.toInt64 < j2 + j1) :
    MetFree l (⟨"com/example/hanko/hanko/access/Budget", "charge", "(J)V"⟩ : MethodName) (head1 (Jvm.Cond.code (⟨"com/example/hanko/hanko/access/Budget", "charge", "(J)V"⟩ : MethodName) prog_1_method_4_code 3 none :: ws) ({ frames := 0, cells := 0, slots := 0, locals := 0 } : Room)) (fun a U => a = #[(.ref o1), (.long j1)] ∧ Z.Warmed39 U.vm ∧ U.heap = h0) (fun _ _ _ _ _ => True) (fun _ U o U' => ∃ v L, o = .returned v ∧ Q4_n Z o1 j1 i1 j2 h0 n0 v U'.heap L ∧ FrameEnd U o U' L ({ frames := 0, cells := 0, slots := 0, locals := 0 } : Room).cells ({ frames := 0, cells := 0, slots := 0, locals := 0 } : Room).slots) := by
  refine body_of (y := (⟨"com/example/hanko/hanko/access/Budget", "charge", "(J)V"⟩ : MethodName)) (Q := Q4_n Z o1 j1 i1 j2 h0 n0) (plainFor_of_name pn_1) ?_
  intro p e s m below meth c T0 G C hnm hnamed X0 e0 K
  have N0 := Fr.nil n0
  refine Goes.to (congrArg T0.setTop (ef_4 m o1 j1)) ?_
  have K00 := Keep.refl h0 [o1]
  refine g_aloadN C X0 d4_0 (pc' := 1) rfl rfl rfl ?_
  refine g_dup C X0 d4_1 (pc' := 2) rfl rfl ?_
  refine g_getF C X0 (w_36 hw) Via.refl e0 F2 d4_2 (pc' := 5) rfl (fun T1 X1 e1 => ?_)
  refine g_lloadN C X1 d4_5 (pc' := 6) rfl rfl ?_
  refine g_ladd C X1 d4_6 (pc' := 7) rfl ?_
  refine g_putF C X1 (w_36 hw) Via.refl e1 F2 F0 (Or.inl (w_37 hw)) (w_2 hw) (ty := .long) (by decide) rfl rfl d4_7 (pc' := 10) rfl (fun T2 h2 X2 e2 W2 => ?_)
  have f3 := F0.wr W2
  have f4 := F1.other W2 (Or.inr (slot_ne (Or.inr (w_26 hw)) (Or.inl (w_37 hw)) (by decide) (t := .int) (t' := .long) (by decide) (by decide)))
  have f5 := F2.same W2
  have f6 := F3.other W2 (Or.inr (slot_ne (Or.inr (w_30 hw)) (Or.inl (w_37 hw)) (by decide) (t := (.object "com/example/hanko/hanko/access/Budget")) (t' := .long) (by decide) (by decide)))
  have N2 := Fr.snoc X2 N0 gn_o1
  have Z2 := Nat.le_trans Z0 (Nat.le_of_eq W2.size.symm)
  have K2 := K00.wr W2 (Or.inl (List.mem_of_getElem? (i := 0) rfl))
  refine g_aloadN C X2 d4_10 (pc' := 11) rfl rfl rfl ?_
  refine g_getF C X2 (w_36 hw) Via.refl e2 f5 d4_11 (pc' := 14) rfl (fun T7 X7 e7 => ?_)
  refine g_aloadN C X7 d4_14 (pc' := 15) rfl rfl rfl ?_
  refine g_getF C X7 (w_25 hw) Via.refl e7 f4 d4_15 (pc' := 18) rfl (fun T8 X8 e8 => ?_)
  refine g_i2l C X8 d4_18 (pc' := 19) rfl ?_
  refine g_lcmp_le C X8 d4_19 (pc1 := 20) rfl d4_20 (pcT := 65) (pcN := 23) (by decide) (by decide) rfl (fun hc20 => ?_) (fun hc20 => absurd hc20 hle)
  refine g_aloadN C X8 d4_65 (pc' := 66) rfl rfl rfl ?_
  refine g_getF C X8 (w_29 hw) Via.refl e8 f6 d4_66 (pc' := 69) rfl (fun T9 X9 e9 => ?_)
  refine g_ifnullY C X9 d4_69 (pc' := 80) (by decide) (by decide) ?_
  exact g_retV C X9 K d4_80 (by decide) (by decide) e9 ⟨rfl, N2, K2, f3, f4, f5, f6⟩
theorem d4_72 : decode prog_1_method_4_code 72 = .ok (.aload_n 0, 1) := by decide +kernel
theorem d4_73 : decode prog_1_method_4_code 73 = .ok (.getfield 24, 3) := by decide +kernel
theorem d4_76 : decode prog_1_method_4_code 76 = .ok (.lload_n 1, 1) := by decide +kernel
theorem d4_77 : decode prog_1_method_4_code 77 = .ok (.invokevirtual 62, 3) := by decide +kernel
theorem w_35 {Z : State} {a0 : Array Value} (hw : ∀ d ∈ tables_1, d.before a0 Z = true) : Jvm.Cond.before (Jvm.Cond.code ({ cls := "com/example/hanko/hanko/access/Budget", name := "charge", desc := "(J)V" } : Jvm.MethodName) prog_1_method_4_code (3 : Nat) (Option.none : Option Jvm.ClassFile.FieldType)) a0 Z = true := hw _ (List.mem_of_getElem? (i := 35) rfl)
theorem w_48 {Z : State} {a0 : Array Value} (hw : ∀ d ∈ tables_1, d.before a0 Z = true) : Jvm.Cond.before (Jvm.Cond.methodLink "com/example/hanko/hanko/access/Budget" (62 : Nat) ({ cls := "com/example/hanko/hanko/access/Budget", name := "charge", desc := "(J)V" } : Jvm.MethodName)) a0 Z = true := hw _ (List.mem_of_getElem? (i := 48) rfl)
theorem pd_1 : parseMethodDescriptor "(J)V" = some ⟨[.long], none⟩ := by decide +kernel
theorem w_34 {Z : State} {a0 : Array Value} (hw : ∀ d ∈ tables_1, d.before a0 Z = true) : Jvm.Cond.before (Jvm.Cond.selects "com/example/hanko/hanko/access/Budget" ({ cls := "com/example/hanko/hanko/access/Budget", name := "charge", desc := "(J)V" } : Jvm.MethodName) ({ cls := "com/example/hanko/hanko/access/Budget", name := "charge", desc := "(J)V" } : Jvm.MethodName)) a0 Z = true := hw _ (List.mem_of_getElem? (i := 34) rfl)
theorem w_32 {Z : State} {a0 : Array Value} (hw : ∀ d ∈ tables_1, d.before a0 Z = true) : Jvm.Cond.before (Jvm.Cond.declares ({ cls := "com/example/hanko/hanko/access/Budget", name := "charge", desc := "(J)V" } : Jvm.MethodName)) a0 Z = true := hw _ (List.mem_of_getElem? (i := 32) rfl)
theorem w_33 {Z : State} {a0 : Array Value} (hw : ∀ d ∈ tables_1, d.before a0 Z = true) : Jvm.Cond.before (Jvm.Cond.instanceMethod ({ cls := "com/example/hanko/hanko/access/Budget", name := "charge", desc := "(J)V" } : Jvm.MethodName)) a0 Z = true := hw _ (List.mem_of_getElem? (i := 33) rfl)
def Q4_e (Z : State) (o1 : Addr) (j1 : Int64) (o2 : Addr) (i1 : Int32) (j2 : Int64) (i2 : Int32) (j3 : Int64) (h0 : Heap) (n0 : Nat) (v : Option Value) (h : Heap) (L : List Loc) : Prop := v = none ∧ Fr n0 L ∧ Keep h0 h [o1, o2] ∧ Exa Z h o1 "com/example/hanko/hanko/access/Budget" ∧ Fld Z h o1 "com/example/hanko/hanko/access/Budget" "maxSteps" "I" (.int i1) ∧ Fld Z h o1 "com/example/hanko/hanko/access/Budget" "steps" "J" (.long (j2 + j1)) ∧ Fld Z h o1 "com/example/hanko/hanko/access/Budget" "enclosing" "Lcom/example/hanko/hanko/access/Budget;" (.ref o2) ∧ Exa Z h o2 "com/example/hanko/hanko/access/Budget" ∧ Fld Z h o2 "com/example/hanko/hanko/access/Budget" "maxSteps" "I" (.int i2) ∧ Fld Z h o2 "com/example/hanko/hanko/access/Budget" "steps" "J" (.long (j3 + j1)) ∧ Fld Z h o2 "com/example/hanko/hanko/access/Budget" "enclosing" "Lcom/example/hanko/hanko/access/Budget;" .null
set_option maxRecDepth 65536 in
set_option maxHeartbeats 40000000 in
theorem rm4_e (l : Launch) (Z : State) (a0 : Array Value) (hw : ∀ d ∈ tables_1, d.before a0 Z = true) (ws : List Jvm.Cond) (o1 : Addr) (j1 : Int64) (o2 : Addr) (i1 : Int32) (j2 : Int64) (i2 : Int32) (j3 : Int64) (h0 : Heap) (n0 : Nat) (Z0 : n0 ≤ h0.size) (F0 : Exa Z h0 o1 "com/example/hanko/hanko/access/Budget") (F1 : Fld Z h0 o1 "com/example/hanko/hanko/access/Budget" "maxSteps" "I" (.int i1)) (F2 : Fld Z h0 o1 "com/example/hanko/hanko/access/Budget" "steps" "J" (.long j2)) (F3 : Fld Z h0 o1 "com/example/hanko/hanko/access/Budget" "enclosing" "Lcom/example/hanko/hanko/access/Budget;" (.ref o2)) (F4 : Exa Z h0 o2 "com/example/hanko/hanko/access/Budget") (F5 : Fld Z h0 o2 "com/example/hanko/hanko/access/Budget" "maxSteps" "I" (.int i2)) (F6 : Fld Z h0 o2 "com/example/hanko/hanko/access/Budget" "steps" "J" (.long j3)) (F7 : Fld Z h0 o2 "com/example/hanko/hanko/access/Budget" "enclosing" "Lcom/example/hanko/hanko/access/Budget;" .null) (gn_o1 : n0 ≤ o1) (gn_o2 : n0 ≤ o2) (hle : ¬ i1.toInt64 < j2 + j1) (hle2 : ¬ i2.toInt64 < j3 + j1) (ne_o1_o2 : o1 ≠ o2) :
    MetFree l (⟨"com/example/hanko/hanko/access/Budget", "charge", "(J)V"⟩ : MethodName) (head1 (Jvm.Cond.code (⟨"com/example/hanko/hanko/access/Budget", "charge", "(J)V"⟩ : MethodName) prog_1_method_4_code 3 none :: ws) ({ frames := 1, cells := 0, slots := 0, locals := 14 } : Room)) (fun a U => a = #[(.ref o1), (.long j1)] ∧ Z.Warmed39 U.vm ∧ U.heap = h0) (fun _ _ _ _ _ => True) (fun _ U o U' => ∃ v L, o = .returned v ∧ Q4_e Z o1 j1 o2 i1 j2 i2 j3 h0 n0 v U'.heap L ∧ FrameEnd U o U' L ({ frames := 1, cells := 0, slots := 0, locals := 14 } : Room).cells ({ frames := 1, cells := 0, slots := 0, locals := 14 } : Room).slots) := by
  refine body_of (y := (⟨"com/example/hanko/hanko/access/Budget", "charge", "(J)V"⟩ : MethodName)) (Q := Q4_e Z o1 j1 o2 i1 j2 i2 j3 h0 n0) (plainFor_of_name pn_1) ?_
  intro p e s m below meth c T0 G C hnm hnamed X0 e0 K
  have N0 := Fr.nil n0
  refine Goes.to (congrArg T0.setTop (ef_4 m o1 j1)) ?_
  have K00 := Keep.refl h0 [o1, o2]
  refine g_aloadN C X0 d4_0 (pc' := 1) rfl rfl rfl ?_
  refine g_dup C X0 d4_1 (pc' := 2) rfl rfl ?_
  refine g_getF C X0 (w_36 hw) Via.refl e0 F2 d4_2 (pc' := 5) rfl (fun T1 X1 e1 => ?_)
  refine g_lloadN C X1 d4_5 (pc' := 6) rfl rfl ?_
  refine g_ladd C X1 d4_6 (pc' := 7) rfl ?_
  refine g_putF C X1 (w_36 hw) Via.refl e1 F2 F0 (Or.inl (w_37 hw)) (w_2 hw) (ty := .long) (by decide) rfl rfl d4_7 (pc' := 10) rfl (fun T2 h2 X2 e2 W2 => ?_)
  have f3 := F0.wr W2
  have f4 := F1.other W2 (Or.inr (slot_ne (Or.inr (w_26 hw)) (Or.inl (w_37 hw)) (by decide) (t := .int) (t' := .long) (by decide) (by decide)))
  have f5 := F2.same W2
  have f6 := F3.other W2 (Or.inr (slot_ne (Or.inr (w_30 hw)) (Or.inl (w_37 hw)) (by decide) (t := (.object "com/example/hanko/hanko/access/Budget")) (t' := .long) (by decide) (by decide)))
  have f7 := F4.wr W2
  have f8 := F5.other W2 (Or.inl (Ne.symm ne_o1_o2))
  have f9 := F6.other W2 (Or.inl (Ne.symm ne_o1_o2))
  have f10 := F7.other W2 (Or.inl (Ne.symm ne_o1_o2))
  have N2 := Fr.snoc X2 N0 gn_o1
  have Z2 := Nat.le_trans Z0 (Nat.le_of_eq W2.size.symm)
  have K2 := K00.wr W2 (Or.inl (List.mem_of_getElem? (i := 0) rfl))
  refine g_aloadN C X2 d4_10 (pc' := 11) rfl rfl rfl ?_
  refine g_getF C X2 (w_36 hw) Via.refl e2 f5 d4_11 (pc' := 14) rfl (fun T11 X11 e11 => ?_)
  refine g_aloadN C X11 d4_14 (pc' := 15) rfl rfl rfl ?_
  refine g_getF C X11 (w_25 hw) Via.refl e11 f4 d4_15 (pc' := 18) rfl (fun T12 X12 e12 => ?_)
  refine g_i2l C X12 d4_18 (pc' := 19) rfl ?_
  refine g_lcmp_le C X12 d4_19 (pc1 := 20) rfl d4_20 (pcT := 65) (pcN := 23) (by decide) (by decide) rfl (fun hc20 => ?_) (fun hc20 => absurd hc20 hle)
  refine g_aloadN C X12 d4_65 (pc' := 66) rfl rfl rfl ?_
  refine g_getF C X12 (w_29 hw) Via.refl e12 f6 d4_66 (pc' := 69) rfl (fun T13 X13 e13 => ?_)
  refine g_ifnullN C X13 d4_69 (pc' := 72) rfl ?_
  refine g_aloadN C X13 d4_72 (pc' := 73) rfl rfl rfl ?_
  refine g_getF C X13 (w_29 hw) Via.refl e13 f6 d4_73 (pc' := 76) rfl (fun T14 X14 e14 => ?_)
  refine g_lloadN C X14 d4_76 (pc' := 77) rfl rfl ?_
  refine g_callV C X14 (w_48 hw) (w_32 hw) (notFace_of_selects (args := #[]) (mvT C.2.1 (w_34 hw))) (w_34 hw) (w_33 hw) (w_35 hw) (w_3 hw) (by decide) f7 d4_77 (rm4_n l Z a0 hw [] o2 j1 i2 j3 h2 n0 Z2 f7 f8 f9 f10 gn_o2 hle2) (by decide) (by decide) rfl pd_1 rfl (argsL := [(.long j1)]) (rest := []) rfl (W := 0) (Nat.le_of_eq rfl) e14 (by decide) (by decide) (pc' := 80) rfl (fun u15 T15 L15 X15 hQ15 => ?_)
  obtain ⟨rfl, Nq15, Kq15, q15_0, q15_1, q15_2, q15_3⟩ := hQ15
  have N15 := Fr.app N2 Nq15
  have f16 := f3.keep Kq15
  have f17 := f4.keep Kq15 (ninS ne_o1_o2 nin0)
  have f18 := f5.keep Kq15 (ninS ne_o1_o2 nin0)
  have f19 := f6.keep Kq15 (ninS ne_o1_o2 nin0)
  have f20 := f7.keep Kq15
  have Z15 := Nat.le_trans Z2 Kq15.1
  have K15 := K2.trans Kq15 (allS (Or.inl (List.mem_of_getElem? (i := 1) rfl)) all0)
  show Goes p.tables e below G (T15.setTop (mkF m 80 #[.val (.ref o1), .val (.long j1), .second] []))
  exact g_retV C X15 K d4_80 (by decide) (by decide) rfl ⟨rfl, N15, K15, f16, f17, f18, f19, q15_0, q15_1, q15_2, q15_3⟩
theorem ef_5 (m : MethodId) (o1 : Addr) : entryFrame m #[(.ref o1)] 1 = mkF m 0 #[.val (.ref o1)] [] := by first | (simp [entryFrame, mkF, argsToLocals, Value.category]; done) | rfl
theorem d5_0 : decode prog_1_method_3_code 0 = .ok (.aload_n 0, 1) := by decide +kernel
theorem d5_1 : decode prog_1_method_3_code 1 = .ok (.getfield 28, 3) := by decide +kernel
theorem d5_4 : decode prog_1_method_3_code 4 = .ok (.lreturn, 1) := by decide +kernel
def Q5 (Z : State) (o1 : Addr) (j1 : Int64) (h0 : Heap) (n0 : Nat) (v : Option Value) (h : Heap) (L : List Loc) : Prop := v = some (.long j1) ∧ Fr n0 L ∧ h = h0
set_option maxRecDepth 65536 in
set_option maxHeartbeats 40000000 in
theorem rm5 (l : Launch) (Z : State) (a0 : Array Value) (hw : ∀ d ∈ tables_1, d.before a0 Z = true) (ws : List Jvm.Cond) (o1 : Addr) (j1 : Int64) (h0 : Heap) (n0 : Nat) (Z0 : n0 ≤ h0.size) (F0 : Fld Z h0 o1 "com/example/hanko/hanko/access/Budget" "steps" "J" (.long j1)) :
    MetFree l (⟨"com/example/hanko/hanko/access/Budget", "taken", "()J"⟩ : MethodName) (head1 (Jvm.Cond.code (⟨"com/example/hanko/hanko/access/Budget", "taken", "()J"⟩ : MethodName) prog_1_method_3_code 1 (some .long) :: ws) ({ frames := 0, cells := 0, slots := 0, locals := 0 } : Room)) (fun a U => a = #[(.ref o1)] ∧ Z.Warmed39 U.vm ∧ U.heap = h0) (fun _ _ _ _ _ => True) (fun _ U o U' => ∃ v L, o = .returned v ∧ Q5 Z o1 j1 h0 n0 v U'.heap L ∧ FrameEnd U o U' L ({ frames := 0, cells := 0, slots := 0, locals := 0 } : Room).cells ({ frames := 0, cells := 0, slots := 0, locals := 0 } : Room).slots) := by
  refine body_of (y := (⟨"com/example/hanko/hanko/access/Budget", "taken", "()J"⟩ : MethodName)) (Q := Q5 Z o1 j1 h0 n0) (plainFor_of_name pn_1) ?_
  intro p e s m below meth c T0 G C hnm hnamed X0 e0 K
  have N0 := Fr.nil n0
  refine Goes.to (congrArg T0.setTop (ef_5 m o1)) ?_
  refine g_aloadN C X0 d5_0 (pc' := 1) rfl rfl rfl ?_
  refine g_getF C X0 (w_36 hw) Via.refl e0 F0 d5_1 (pc' := 4) rfl (fun T1 X1 e1 => ?_)
  exact g_retJ C X1 K d5_4 (by decide) (by decide) e1 ⟨rfl, N0, rfl⟩
theorem own_m {x y : Int64} (h : x &&& 2305843009213693951 = y) : 0 ≤ y.toInt ∧ y.toInt < 2 ^ 61 := by
  have e : (x &&& 2305843009213693951 : Int64).toInt = x.toInt % 2 ^ 61 := Jvm.Kit.i64_mask x 2305843009213693951 (k := 61) (by decide) (by decide)
  rw [h] at e; omega
theorem own_w (x : Int32) : x.toInt64.toInt = x.toInt ∧ -2 ^ 31 ≤ x.toInt ∧ x.toInt < 2 ^ 31 := ⟨Jvm.Kit.i64_of_i32 x, x.le_toInt, x.toInt_lt⟩
theorem own_min (a b : Int64) : (fMin a b).toInt = min a.toInt b.toInt := by
  unfold fMin; split <;> rename_i h <;> rw [Int64.lt_iff_toInt_lt] at h <;> omega
theorem own_d {m : Int32} {r rm d : Int64} (h : r &&& 2305843009213693951 = rm) (hd : m.toInt64 - rm = d) : d.toInt = m.toInt - rm.toInt := by
  have q := own_m h; have w := own_w m
  rw [← hd, Jvm.Kit.i64_sub (by omega) (by omega)]; omega
theorem own_0 (d : Int64) : 0 + d = d := Int64.zero_add d
theorem own_c1 {m : Int32} {r rm d : Int64} (h : r &&& 2305843009213693951 = rm) (hd : m.toInt64 - rm = d) : ¬ m.toInt64 < 0 + d := by
  have q := own_m h; have w := own_w m; have e := own_d h hd
  rw [own_0, Int64.lt_iff_toInt_lt]; omega
theorem own_a {m1 : Int32} {r rm p pm lim a : Int64} (h : r &&& 2305843009213693951 = rm) (hp : p &&& 2305843009213693951 = pm) (hl : fMin m1.toInt64 rm = lim) (ha : lim - pm = a) : lim.toInt = min m1.toInt rm.toInt ∧ a.toInt = lim.toInt - pm.toInt := by
  have q := own_m h; have q2 := own_m hp; have w := own_w m1; have e := own_min m1.toInt64 rm
  rw [hl] at e
  refine ⟨by omega, ?_⟩
  rw [← ha, Jvm.Kit.i64_sub (by omega) (by omega)]
theorem own_c {m1 : Int32} {r rm p pm qq qm lim a k : Int64} (h : r &&& 2305843009213693951 = rm) (hp : p &&& 2305843009213693951 = pm) (hq : qq &&& 2305843009213693951 = qm) (hl : fMin m1.toInt64 rm = lim) (ha : lim - pm = a) (hk : lim - a - qm = k) : k.toInt = pm.toInt - qm.toInt := by
  have q := own_m h; have q2 := own_m hp; have q3 := own_m hq; have w := own_w m1; have e := own_a h hp hl ha
  have s1 : (lim - a).toInt = lim.toInt - a.toInt := Jvm.Kit.i64_sub (by omega) (by omega)
  rw [← hk, Jvm.Kit.i64_sub (by omega) (by omega), s1]; omega
theorem own_c2 {m1 : Int32} {r rm p pm lim a : Int64} (h : r &&& 2305843009213693951 = rm) (hp : p &&& 2305843009213693951 = pm) (hl : fMin m1.toInt64 rm = lim) (ha : lim - pm = a) : ¬ m1.toInt64 < 0 + a := by
  have q := own_m h; have q2 := own_m hp; have w := own_w m1; have e := own_a h hp hl ha
  rw [own_0, Int64.lt_iff_toInt_lt]; omega
theorem own_c2e {m1 m2 : Int32} {r rm p pm lim a d : Int64} (h : r &&& 2305843009213693951 = rm) (hp : p &&& 2305843009213693951 = pm) (hl : fMin m1.toInt64 rm = lim) (ha : lim - pm = a) (hd : m2.toInt64 - rm = d) : ¬ m2.toInt64 < 0 + d + a := by
  have q := own_m h; have q2 := own_m hp; have w := own_w m1; have w2 := own_w m2; have e := own_a h hp hl ha; have f := own_d h hd
  have s1 : (d + a).toInt = d.toInt + a.toInt := Jvm.Kit.i64_add (by omega) (by omega)
  rw [own_0, Int64.lt_iff_toInt_lt, s1]; omega
theorem own_c3 {m1 : Int32} {r rm p pm qq qm lim a k : Int64} (h : r &&& 2305843009213693951 = rm) (hp : p &&& 2305843009213693951 = pm) (hq : qq &&& 2305843009213693951 = qm) (hl : fMin m1.toInt64 rm = lim) (ha : lim - pm = a) (hk : lim - a - qm = k) : ¬ m1.toInt64 < 0 + a + k := by
  have q := own_m h; have q2 := own_m hp; have q3 := own_m hq; have w := own_w m1; have e := own_a h hp hl ha; have f := own_c h hp hq hl ha hk
  have s1 : (a + k).toInt = a.toInt + k.toInt := Jvm.Kit.i64_add (by omega) (by omega)
  rw [own_0, Int64.lt_iff_toInt_lt, s1]; omega
theorem own_c3e {m1 m2 : Int32} {r rm p pm qq qm lim a k d : Int64} (h : r &&& 2305843009213693951 = rm) (hp : p &&& 2305843009213693951 = pm) (hq : qq &&& 2305843009213693951 = qm) (hl : fMin m1.toInt64 rm = lim) (ha : lim - pm = a) (hk : lim - a - qm = k) (hd : m2.toInt64 - rm = d) : ¬ m2.toInt64 < 0 + d + a + k := by
  have q := own_m h; have q2 := own_m hp; have q3 := own_m hq; have w := own_w m1; have w2 := own_w m2; have e := own_a h hp hl ha; have f := own_c h hp hq hl ha hk; have f2 := own_d h hd
  have s1 : (d + a).toInt = d.toInt + a.toInt := Jvm.Kit.i64_add (by omega) (by omega)
  have s2 : (d + a + k).toInt = (d + a).toInt + k.toInt := Jvm.Kit.i64_add (by omega) (by omega)
  rw [own_0, Int64.lt_iff_toInt_lt, s2, s1]; omega
theorem ef_0 (m : MethodId) (p0 : Int32) (p1 : Int32) (p2 : Int64) (p3 : Int64) (p4 : Int64) (p5 : Int32) : entryFrame m #[(.int p0), (.int p1), (.long p2), (.long p3), (.long p4), (.int p5)] maxLocals = mkF m 0 #[.val (.int p0), .val (.int p1), .val (.long p2), .second, .val (.long p3), .second, .val (.long p4), .second, .val (.int p5), .unset, .unset, .unset, .unset, .unset, .unset, .unset, .unset, .unset, .unset, .unset, .unset, .unset, .unset, .unset, .unset, .unset, .unset, .unset, .unset, .unset] [] := by first | (simp [entryFrame, mkF, argsToLocals, Value.category, maxLocals]; done) | rfl
theorem w_0 {Z : State} {a0 : Array Value} (hw : ∀ d ∈ tables_1, d.before a0 Z = true) : Jvm.Cond.before (Jvm.Cond.constantLong "com/example/hanko/hanko/access/BudgetChargePinLaw" (7 : Nat) (2305843009213693951 : Int64)) a0 Z = true := hw _ (List.mem_of_getElem? (i := 0) rfl)
theorem w_1 {Z : State} {a0 : Array Value} (hw : ∀ d ∈ tables_1, d.before a0 Z = true) : Jvm.Cond.before (Jvm.Cond.classLink "com/example/hanko/hanko/access/BudgetChargePinLaw" (9 : Nat) "com/example/hanko/hanko/access/Budget") a0 Z = true := hw _ (List.mem_of_getElem? (i := 1) rfl)
theorem strAtoms0 : ∀ a ∈ Bundle.stringAtoms, a ∈ tables_1 := by decide +kernel
theorem strAtoms {Z : State} {a0 : Array Value} (hw : ∀ d ∈ tables_1, d.before a0 Z = true) : ∀ a ∈ Bundle.stringAtoms, a.before a0 Z = true := fun a ha => hw a (strAtoms0 a ha)
theorem w_14 {Z : State} {a0 : Array Value} (hw : ∀ d ∈ tables_1, d.before a0 Z = true) : Jvm.Cond.before (Jvm.Cond.code ({ cls := "com/example/hanko/hanko/access/Budget", name := "<init>", desc := "(ILjava/lang/String;)V" } : Jvm.MethodName) prog_1_method_1_code (3 : Nat) (Option.none : Option Jvm.ClassFile.FieldType)) a0 Z = true := hw _ (List.mem_of_getElem? (i := 14) rfl)
theorem w_12 {Z : State} {a0 : Array Value} (hw : ∀ d ∈ tables_1, d.before a0 Z = true) : Jvm.Cond.before (Jvm.Cond.methodLink "com/example/hanko/hanko/access/BudgetChargePinLaw" (13 : Nat) ({ cls := "com/example/hanko/hanko/access/Budget", name := "<init>", desc := "(ILjava/lang/String;)V" } : Jvm.MethodName)) a0 Z = true := hw _ (List.mem_of_getElem? (i := 12) rfl)
theorem pd_2 : parseMethodDescriptor "(ILjava/lang/String;)V" = some ⟨[.int, (.object "java/lang/String")], none⟩ := by decide +kernel
theorem w_13 {Z : State} {a0 : Array Value} (hw : ∀ d ∈ tables_1, d.before a0 Z = true) : Jvm.Cond.before (Jvm.Cond.instanceMethod ({ cls := "com/example/hanko/hanko/access/Budget", name := "<init>", desc := "(ILjava/lang/String;)V" } : Jvm.MethodName)) a0 Z = true := hw _ (List.mem_of_getElem? (i := 13) rfl)
theorem w_31 {Z : State} {a0 : Array Value} (hw : ∀ d ∈ tables_1, d.before a0 Z = true) : Jvm.Cond.before (Jvm.Cond.methodLink "com/example/hanko/hanko/access/BudgetChargePinLaw" (16 : Nat) ({ cls := "com/example/hanko/hanko/access/Budget", name := "charge", desc := "(J)V" } : Jvm.MethodName)) a0 Z = true := hw _ (List.mem_of_getElem? (i := 31) rfl)
theorem w_42 {Z : State} {a0 : Array Value} (hw : ∀ d ∈ tables_1, d.before a0 Z = true) : Jvm.Cond.before (Jvm.Cond.code ({ cls := "com/example/hanko/hanko/access/Budget", name := "taken", desc := "()J" } : Jvm.MethodName) prog_1_method_3_code (1 : Nat) (Option.some Jvm.ClassFile.FieldType.long)) a0 Z = true := hw _ (List.mem_of_getElem? (i := 42) rfl)
theorem w_38 {Z : State} {a0 : Array Value} (hw : ∀ d ∈ tables_1, d.before a0 Z = true) : Jvm.Cond.before (Jvm.Cond.methodLink "com/example/hanko/hanko/access/BudgetChargePinLaw" (20 : Nat) ({ cls := "com/example/hanko/hanko/access/Budget", name := "taken", desc := "()J" } : Jvm.MethodName)) a0 Z = true := hw _ (List.mem_of_getElem? (i := 38) rfl)
theorem pd_3 : parseMethodDescriptor "()J" = some ⟨[], some .long⟩ := by decide +kernel
theorem w_41 {Z : State} {a0 : Array Value} (hw : ∀ d ∈ tables_1, d.before a0 Z = true) : Jvm.Cond.before (Jvm.Cond.selects "com/example/hanko/hanko/access/Budget" ({ cls := "com/example/hanko/hanko/access/Budget", name := "taken", desc := "()J" } : Jvm.MethodName) ({ cls := "com/example/hanko/hanko/access/Budget", name := "taken", desc := "()J" } : Jvm.MethodName)) a0 Z = true := hw _ (List.mem_of_getElem? (i := 41) rfl)
theorem w_39 {Z : State} {a0 : Array Value} (hw : ∀ d ∈ tables_1, d.before a0 Z = true) : Jvm.Cond.before (Jvm.Cond.declares ({ cls := "com/example/hanko/hanko/access/Budget", name := "taken", desc := "()J" } : Jvm.MethodName)) a0 Z = true := hw _ (List.mem_of_getElem? (i := 39) rfl)
theorem w_40 {Z : State} {a0 : Array Value} (hw : ∀ d ∈ tables_1, d.before a0 Z = true) : Jvm.Cond.before (Jvm.Cond.instanceMethod ({ cls := "com/example/hanko/hanko/access/Budget", name := "taken", desc := "()J" } : Jvm.MethodName)) a0 Z = true := hw _ (List.mem_of_getElem? (i := 40) rfl)
theorem w_47 {Z : State} {a0 : Array Value} (hw : ∀ d ∈ tables_1, d.before a0 Z = true) : Jvm.Cond.before (Jvm.Cond.code ({ cls := "java/lang/Math", name := "min", desc := "(JJ)J" } : Jvm.MethodName) jdk_29_method_70_code (4 : Nat) (Option.some Jvm.ClassFile.FieldType.long)) a0 Z = true := hw _ (List.mem_of_getElem? (i := 47) rfl)
theorem w_46 {Z : State} {a0 : Array Value} (hw : ∀ d ∈ tables_1, d.before a0 Z = true) : Jvm.Cond.before (Jvm.Cond.initialized "java/lang/Math") a0 Z = true := hw _ (List.mem_of_getElem? (i := 46) rfl)
theorem w_44 {Z : State} {a0 : Array Value} (hw : ∀ d ∈ tables_1, d.before a0 Z = true) : Jvm.Cond.before (Jvm.Cond.methodLink "com/example/hanko/hanko/access/BudgetChargePinLaw" (29 : Nat) ({ cls := "java/lang/Math", name := "min", desc := "(JJ)J" } : Jvm.MethodName)) a0 Z = true := hw _ (List.mem_of_getElem? (i := 44) rfl)
theorem pd_4 : parseMethodDescriptor "(JJ)J" = some ⟨[.long, .long], some .long⟩ := by decide +kernel
theorem w_45 {Z : State} {a0 : Array Value} (hw : ∀ d ∈ tables_1, d.before a0 Z = true) : Jvm.Cond.before (Jvm.Cond.static ({ cls := "java/lang/Math", name := "min", desc := "(JJ)J" } : Jvm.MethodName)) a0 Z = true := hw _ (List.mem_of_getElem? (i := 45) rfl)
theorem w_43 {Z : State} {a0 : Array Value} (hw : ∀ d ∈ tables_1, d.before a0 Z = true) : Jvm.Cond.before (Jvm.Cond.methodLink "com/example/hanko/hanko/access/BudgetChargePinLaw" (24 : Nat) ({ cls := "com/example/hanko/hanko/access/Budget", name := "<init>", desc := "(ILjava/util/function/Supplier;Lcom/example/hanko/hanko/access/Budget;)V" } : Jvm.MethodName)) a0 Z = true := hw _ (List.mem_of_getElem? (i := 43) rfl)
def Q0 (Z : State) (p0 : Int32) (p1 : Int32) (p2 : Int64) (p3 : Int64) (p4 : Int64) (p5 : Int32) (h0 : Heap) (n0 : Nat) (v : Option Value) (h : Heap) (L : List Loc) : Prop := v = some (.int 1) ∧ Fr n0 L
theorem pn_0 : plainName "com/example/hanko/hanko/access/BudgetChargePinLaw" = true := by first | (simp [plainName, overriddenIn]; done) | decide +kernel
set_option maxRecDepth 65536 in
set_option maxHeartbeats 40000000 in
theorem rm0 (l : Launch) (Z : State) (a0 : Array Value) (hw : ∀ d ∈ tables_1, d.before a0 Z = true) (ws : List Jvm.Cond) (p0 : Int32) (p1 : Int32) (p2 : Int64) (p3 : Int64) (p4 : Int64) (p5 : Int32) (h0 : Heap) (n0 : Nat) (Z0 : n0 ≤ h0.size) :
    MetFree l x (head1 (Jvm.Cond.code x code maxLocals ret :: ws) room_1) (fun a U => a = #[(.int p0), (.int p1), (.long p2), (.long p3), (.long p4), (.int p5)] ∧ Z.Warmed39 U.vm ∧ U.heap = h0) (fun _ _ _ _ _ => True) (fun _ U o U' => ∃ v L, o = .returned v ∧ Q0 Z p0 p1 p2 p3 p4 p5 h0 n0 v U'.heap L ∧ ReturnedEndW U o U' L room_1.cells room_1.slots) := by
  refine body_ofW (y := x) (Q := Q0 Z p0 p1 p2 p3 p4 p5 h0 n0) (plainFor_of_name pn_0) ?_
  intro p e s m below meth c T0 G C hnm hnamed X0 e0 hh0 hS0 K
  have N0 := Fr.nil n0
  refine Goes.to (congrArg T0.setTop (ef_0 m p0 p1 p2 p3 p4 p5)) ?_
  refine g_iload C X0 at_0 (pc' := 2) rfl rfl ?_
  refine g_iconst C X0 at_2 (pc' := 3) rfl (v := 1) rfl ?_
  refine g_iand C X0 at_3 (pc' := 4) rfl ?_
  refine g_if_eq C X0 at_4 (pcT := 11) (pcN := 7) (by decide) (by decide) rfl (fun hc4 => ?_) (fun hc4 => ?_)
  · refine g_iconst C X0 at_11 (pc' := 12) rfl (v := 0) rfl ?_
    refine g_istore C X0 at_12 (pc' := 14) rfl (w := (0 : Int32)) rfl (ls' := #[.val (.int p0), .val (.int p1), .val (.long p2), .second, .val (.long p3), .second, .val (.long p4), .second, .val (.int p5), .val (.int (0 : Int32)), .unset, .unset, .unset, .unset, .unset, .unset, .unset, .unset, .unset, .unset, .unset, .unset, .unset, .unset, .unset, .unset, .unset, .unset, .unset, .unset]) rfl ?_
    refine g_lloadN C X0 at_14 (pc' := 15) rfl rfl ?_
    refine g_ldc2 C X0 (w_0 hw) at_15 (pc' := 18) rfl ?_
    refine g_land C X0 at_18 (pc' := 19) rfl ?_
    obtain ⟨v1, hv1⟩ : ∃ z : Int64, (p2 &&& (2305843009213693951 : Int64)) = z := ⟨_, rfl⟩
    refine g_lstore C X0 at_19 (pc' := 21) rfl (w := v1) hv1 (ls' := #[.val (.int p0), .val (.int p1), .val (.long p2), .second, .val (.long p3), .second, .val (.long p4), .second, .val (.int p5), .val (.int (0 : Int32)), .val (.long v1), .second, .unset, .unset, .unset, .unset, .unset, .unset, .unset, .unset, .unset, .unset, .unset, .unset, .unset, .unset, .unset, .unset, .unset, .unset]) rfl ?_
    refine g_lload C X0 at_21 (pc' := 23) rfl rfl ?_
    refine g_ldc2 C X0 (w_0 hw) at_23 (pc' := 26) rfl ?_
    refine g_land C X0 at_26 (pc' := 27) rfl ?_
    obtain ⟨v2, hv2⟩ : ∃ z : Int64, (p3 &&& (2305843009213693951 : Int64)) = z := ⟨_, rfl⟩
    refine g_lstore C X0 at_27 (pc' := 29) rfl (w := v2) hv2 (ls' := #[.val (.int p0), .val (.int p1), .val (.long p2), .second, .val (.long p3), .second, .val (.long p4), .second, .val (.int p5), .val (.int (0 : Int32)), .val (.long v1), .second, .val (.long v2), .second, .unset, .unset, .unset, .unset, .unset, .unset, .unset, .unset, .unset, .unset, .unset, .unset, .unset, .unset, .unset, .unset]) rfl ?_
    refine g_lload C X0 at_29 (pc' := 31) rfl rfl ?_
    refine g_ldc2 C X0 (w_0 hw) at_31 (pc' := 34) rfl ?_
    refine g_land C X0 at_34 (pc' := 35) rfl ?_
    obtain ⟨v3, hv3⟩ : ∃ z : Int64, (p4 &&& (2305843009213693951 : Int64)) = z := ⟨_, rfl⟩
    refine g_lstore C X0 at_35 (pc' := 37) rfl (w := v3) hv3 (ls' := #[.val (.int p0), .val (.int p1), .val (.long p2), .second, .val (.long p3), .second, .val (.long p4), .second, .val (.int p5), .val (.int (0 : Int32)), .val (.long v1), .second, .val (.long v2), .second, .val (.long v3), .second, .unset, .unset, .unset, .unset, .unset, .unset, .unset, .unset, .unset, .unset, .unset, .unset, .unset, .unset]) rfl ?_
    refine g_new C X0 (w_1 hw) (w_2 hw) (w_3 hw) e0 at_37 (pc' := 40) rfl (by decide) (by decide) (fun T4 h4 b4 X4 e4 g4 E4 A4 D4 => ?_)
    have gn_b4 : n0 ≤ b4 := Nat.le_trans Z0 (Nat.le_of_eq g4.symm)
    have Z4 := Nat.le_trans Z0 E4.1
    have hk4 := Nat.le_trans (Nat.zero_le _) E4.1
    have f5 : Fld Z h4 b4 "com/example/hanko/hanko/access/Budget" "maxSteps" "I" (.int (0 : Int32)) := D4 (Or.inr (w_26 hw)) (ty := .int) (by decide)
    have f6 : Fld Z h4 b4 "com/example/hanko/hanko/access/Budget" "refusal" "Ljava/util/function/Supplier;" .null := D4 (Or.inr (w_28 hw)) (ty := (.object "java/util/function/Supplier")) (by decide)
    have f7 : Fld Z h4 b4 "com/example/hanko/hanko/access/Budget" "enclosing" "Lcom/example/hanko/hanko/access/Budget;" .null := D4 (Or.inr (w_30 hw)) (ty := (.object "com/example/hanko/hanko/access/Budget")) (by decide)
    have f8 : Fld Z h4 b4 "com/example/hanko/hanko/access/Budget" "steps" "J" (.long (0 : Int64)) := D4 (Or.inl (w_37 hw)) (ty := .long) (by decide)
    refine g_dup C X4 at_40 (pc' := 41) rfl rfl ?_
    refine g_iloadN C X4 at_41 (pc' := 42) rfl rfl ?_
    refine g_ldcS C X4 (n := 4) (hw _ (List.mem_of_getElem? (i := 4) rfl)) (strAtoms hw) e4 hS0 hk4 at_42 (pc' := 44) rfl (by decide) (by decide) (by decide) (by decide) (fun b9 T9 h9 k9 C9 X9 e9 E9 hS9 hk9 => ?_)
    have f10 := A4.ext E9
    have f11 := f5.ext E9
    have f12 := f6.ext E9
    have f13 := f7.ext E9
    have f14 := f8.ext E9
    have Z9 := Nat.le_trans Z4 E9.1
    refine g_callI C9 X9 rfl (w_12 hw) (w_13 hw) (w_3 hw) (w_14 hw) (by decide) at_44 (rm1 l Z a0 hw [] b4 p1 b9 h9 n0 Z9 f10 f11 f12 f13 f14 gn_b4) (by decide) (by decide) rfl pd_2 rfl (argsL := [(.int p1), (.ref b9)]) (rest := [(.ref b4)]) rfl (W := 1) (Nat.le_of_eq rfl) e9 (by decide) (by decide) (pc' := 47) rfl (fun u15 T15 L15 X15 hQ15 => ?_)
    obtain ⟨rfl, Nq15, Kq15, q15_0, q15_1, q15_2, q15_3⟩ := hQ15
    have N15 := Fr.app N0 Nq15
    have f16 := f10.keep Kq15
    have Z15 := Nat.le_trans Z9 Kq15.1
    have hk15 := Nat.le_trans hk9 Kq15.1
    show Goes p.tables e below G (T15.setTop (mkF m 47 #[.val (.int p0), .val (.int p1), .val (.long p2), .second, .val (.long p3), .second, .val (.long p4), .second, .val (.int p5), .val (.int (0 : Int32)), .val (.long v1), .second, .val (.long v2), .second, .val (.long v3), .second, .unset, .unset, .unset, .unset, .unset, .unset, .unset, .unset, .unset, .unset, .unset, .unset, .unset, .unset] [(.ref b4)]))
    refine g_astore C9 X15 at_47 (pc' := 49) rfl rfl (ls' := #[.val (.int p0), .val (.int p1), .val (.long p2), .second, .val (.long p3), .second, .val (.long p4), .second, .val (.int p5), .val (.int (0 : Int32)), .val (.long v1), .second, .val (.long v2), .second, .val (.long v3), .second, .val (.ref b4), .unset, .unset, .unset, .unset, .unset, .unset, .unset, .unset, .unset, .unset, .unset, .unset, .unset]) rfl ?_
    refine g_iloadN C9 X15 at_49 (pc' := 50) rfl rfl ?_
    refine g_i2l C9 X15 at_50 (pc' := 51) rfl ?_
    refine g_lload C9 X15 at_51 (pc' := 53) rfl rfl ?_
    refine g_lsub C9 X15 at_53 (pc' := 54) rfl ?_
    obtain ⟨v17, hv17⟩ : ∃ z : Int64, (p1.toInt64 - v1) = z := ⟨_, rfl⟩
    refine g_lstore C9 X15 at_54 (pc' := 56) rfl (w := v17) hv17 (ls' := #[.val (.int p0), .val (.int p1), .val (.long p2), .second, .val (.long p3), .second, .val (.long p4), .second, .val (.int p5), .val (.int (0 : Int32)), .val (.long v1), .second, .val (.long v2), .second, .val (.long v3), .second, .val (.ref b4), .val (.long v17), .second, .unset, .unset, .unset, .unset, .unset, .unset, .unset, .unset, .unset, .unset, .unset]) rfl ?_
    refine g_aload C9 X15 at_56 (pc' := 58) rfl rfl rfl ?_
    refine g_lload C9 X15 at_58 (pc' := 60) rfl rfl ?_
    refine g_callV C9 X15 (w_31 hw) (w_32 hw) (notFace_of_selects (args := #[]) (mvT C9.2.1 (w_34 hw))) (w_34 hw) (w_33 hw) (w_35 hw) (w_3 hw) (by decide) q15_0 at_60 (rm4_n l Z a0 hw [] b4 v17 p1 (0 : Int64) T15.heap n0 Z15 q15_0 q15_1 q15_2 q15_3 gn_b4 (own_c1 hv1 hv17)) (by decide) (by decide) rfl pd_1 rfl (argsL := [(.long v17)]) (rest := []) rfl (W := 0) (Nat.le_of_eq rfl) rfl (by decide) (by decide) (pc' := 63) rfl (fun u18 T18 L18 X18 hQ18 => ?_)
    obtain ⟨rfl, Nq18, Kq18, q18_0, q18_1, q18_2, q18_3⟩ := hQ18
    have N18 := Fr.app N15 Nq18
    have f19 := q15_0.keep Kq18
    have Z18 := Nat.le_trans Z15 Kq18.1
    have hk18 := Nat.le_trans hk15 Kq18.1
    show Goes p.tables e below G (T18.setTop (mkF m 63 #[.val (.int p0), .val (.int p1), .val (.long p2), .second, .val (.long p3), .second, .val (.long p4), .second, .val (.int p5), .val (.int (0 : Int32)), .val (.long v1), .second, .val (.long v2), .second, .val (.long v3), .second, .val (.ref b4), .val (.long v17), .second, .unset, .unset, .unset, .unset, .unset, .unset, .unset, .unset, .unset, .unset, .unset] []))
    refine g_aload C9 X18 at_63 (pc' := 65) rfl rfl rfl ?_
    refine g_callV C9 X18 (w_38 hw) (w_39 hw) (notFace_of_selects (args := #[]) (mvT C9.2.1 (w_41 hw))) (w_41 hw) (w_40 hw) (w_42 hw) (w_3 hw) (by decide) q18_0 at_65 (rm5 l Z a0 hw [] b4 ((0 : Int64) + v17) T18.heap n0 Z18 q18_2) (by decide) (by decide) rfl pd_3 rfl (argsL := []) (rest := []) rfl (W := 0) (Nat.le_of_eq rfl) rfl (by decide) (by decide) (pc' := 68) rfl (fun u20 T20 L20 X20 hQ20 => ?_)
    obtain ⟨rfl, Nq20, eq20⟩ := hQ20
    have N20 := Fr.app N18 Nq20
    obtain ⟨r20, hr20⟩ : ∃ z : Int64, ((0 : Int64) + v17) = z := ⟨_, rfl⟩
    rw [hr20]
    show Goes p.tables e below G (T20.setTop (mkF m 68 #[.val (.int p0), .val (.int p1), .val (.long p2), .second, .val (.long p3), .second, .val (.long p4), .second, .val (.int p5), .val (.int (0 : Int32)), .val (.long v1), .second, .val (.long v2), .second, .val (.long v3), .second, .val (.ref b4), .val (.long v17), .second, .unset, .unset, .unset, .unset, .unset, .unset, .unset, .unset, .unset, .unset, .unset] [(.long r20)]))
    refine g_lload C9 X20 at_68 (pc' := 70) rfl rfl ?_
    refine g_lcmp_eq C9 X20 at_70 (pc1 := 71) rfl at_71 (pcT := 76) (pcN := 74) (by decide) (by decide) rfl (fun hc71 => ?_) (fun hc71 => absurd (by subst_vars; simp [Int64.add_assoc]) hc71)
    refine g_iload C9 X20 at_76 (pc' := 78) rfl rfl ?_
    refine g_if_eq C9 X20 at_78 (pcT := 95) (pcN := 81) (by decide) (by decide) rfl (fun hc78 => ?_) (fun hc78 => absurd hc78 (by decide))
    refine g_new C9 X20 (w_1 hw) (w_2 hw) (w_3 hw) eq20 at_95 (pc' := 98) rfl (by decide) (by decide) (fun T21 h21 b21 X21 e21 g21 E21 A21 D21 => ?_)
    have n22 : b4 ≠ b21 := Nat.ne_of_lt (Nat.lt_of_lt_of_eq q18_0.lt g21.symm)
    have f23 := q18_0.ext E21
    have f24 := q18_1.ext E21
    have f25 := q18_2.ext E21
    have f26 := q18_3.ext E21
    have gn_b21 : n0 ≤ b21 := Nat.le_trans Z18 (Nat.le_of_eq g21.symm)
    have Z21 := Nat.le_trans Z18 E21.1
    have hk21 := Nat.le_trans hk18 E21.1
    have f27 : Fld Z h21 b21 "com/example/hanko/hanko/access/Budget" "maxSteps" "I" (.int (0 : Int32)) := D21 (Or.inr (w_26 hw)) (ty := .int) (by decide)
    have f28 : Fld Z h21 b21 "com/example/hanko/hanko/access/Budget" "refusal" "Ljava/util/function/Supplier;" .null := D21 (Or.inr (w_28 hw)) (ty := (.object "java/util/function/Supplier")) (by decide)
    have f29 : Fld Z h21 b21 "com/example/hanko/hanko/access/Budget" "enclosing" "Lcom/example/hanko/hanko/access/Budget;" .null := D21 (Or.inr (w_30 hw)) (ty := (.object "com/example/hanko/hanko/access/Budget")) (by decide)
    have f30 : Fld Z h21 b21 "com/example/hanko/hanko/access/Budget" "steps" "J" (.long (0 : Int64)) := D21 (Or.inl (w_37 hw)) (ty := .long) (by decide)
    refine g_dup C9 X21 at_98 (pc' := 99) rfl rfl ?_
    refine g_iloadN C9 X21 at_99 (pc' := 100) rfl rfl ?_
    refine g_ldcS C9 X21 (n := 4) (hw _ (List.mem_of_getElem? (i := 49) rfl)) (strAtoms hw) e21 hS9 hk21 at_100 (pc' := 102) rfl (by decide) (by decide) (by decide) (by decide) (fun b31 T31 h31 k31 C31 X31 e31 E31 hS31 hk31 => ?_)
    have f32 := f23.ext E31
    have f33 := f24.ext E31
    have f34 := f25.ext E31
    have f35 := f26.ext E31
    have f36 := A21.ext E31
    have f37 := f27.ext E31
    have f38 := f28.ext E31
    have f39 := f29.ext E31
    have f40 := f30.ext E31
    have Z31 := Nat.le_trans Z21 E31.1
    refine g_callI C31 X31 rfl (w_12 hw) (w_13 hw) (w_3 hw) (w_14 hw) (by decide) at_102 (rm1 l Z a0 hw [] b21 p0 b31 h31 n0 Z31 f36 f37 f38 f39 f40 gn_b21) (by decide) (by decide) rfl pd_2 rfl (argsL := [(.int p0), (.ref b31)]) (rest := [(.ref b21)]) rfl (W := 1) (Nat.le_of_eq rfl) e31 (by decide) (by decide) (pc' := 105) rfl (fun u41 T41 L41 X41 hQ41 => ?_)
    obtain ⟨rfl, Nq41, Kq41, q41_0, q41_1, q41_2, q41_3⟩ := hQ41
    have N41 := Fr.app N20 Nq41
    have f42 := f32.keep Kq41
    have f43 := f33.keep Kq41 (ninS n22 nin0)
    have f44 := f34.keep Kq41 (ninS n22 nin0)
    have f45 := f35.keep Kq41 (ninS n22 nin0)
    have f46 := f36.keep Kq41
    have Z41 := Nat.le_trans Z31 Kq41.1
    have hk41 := Nat.le_trans hk31 Kq41.1
    show Goes p.tables e below G (T41.setTop (mkF m 105 #[.val (.int p0), .val (.int p1), .val (.long p2), .second, .val (.long p3), .second, .val (.long p4), .second, .val (.int p5), .val (.int (0 : Int32)), .val (.long v1), .second, .val (.long v2), .second, .val (.long v3), .second, .val (.ref b4), .val (.long v17), .second, .unset, .unset, .unset, .unset, .unset, .unset, .unset, .unset, .unset, .unset, .unset] [(.ref b21)]))
    refine g_astore C31 X41 at_105 (pc' := 107) rfl rfl (ls' := #[.val (.int p0), .val (.int p1), .val (.long p2), .second, .val (.long p3), .second, .val (.long p4), .second, .val (.int p5), .val (.int (0 : Int32)), .val (.long v1), .second, .val (.long v2), .second, .val (.long v3), .second, .val (.ref b4), .val (.long v17), .second, .val (.ref b21), .unset, .unset, .unset, .unset, .unset, .unset, .unset, .unset, .unset, .unset]) rfl ?_
    refine g_iloadN C31 X41 at_107 (pc' := 108) rfl rfl ?_
    refine g_i2l C31 X41 at_108 (pc' := 109) rfl ?_
    refine g_lload C31 X41 at_109 (pc' := 111) rfl rfl ?_
    refine g_callS C31 X41 (w_44 hw) (w_45 hw) (w_46 hw) (w_47 hw) (by decide) at_111 (rm6 l Z a0 hw [] p0.toInt64 v1 T41.heap n0 Z41) (by decide) (by decide) rfl pd_4 rfl (argsL := [(.long p0.toInt64), (.long v1)]) (rest := []) rfl (W := 0) (Nat.le_of_eq rfl) rfl (by decide) (by decide) (pc' := 114) rfl (fun u47 T47 L47 X47 hQ47 => ?_)
    obtain ⟨rfl, Nq47, eq47⟩ := hQ47
    have N47 := Fr.app N41 Nq47
    obtain ⟨r47, hr47⟩ : ∃ z : Int64, fMin p0.toInt64 v1 = z := ⟨_, rfl⟩
    rw [hr47]
    show Goes p.tables e below G (T47.setTop (mkF m 114 #[.val (.int p0), .val (.int p1), .val (.long p2), .second, .val (.long p3), .second, .val (.long p4), .second, .val (.int p5), .val (.int (0 : Int32)), .val (.long v1), .second, .val (.long v2), .second, .val (.long v3), .second, .val (.ref b4), .val (.long v17), .second, .val (.ref b21), .unset, .unset, .unset, .unset, .unset, .unset, .unset, .unset, .unset, .unset] [(.long r47)]))
    refine g_lstore C31 X47 at_114 (pc' := 116) rfl (w := r47) rfl (ls' := #[.val (.int p0), .val (.int p1), .val (.long p2), .second, .val (.long p3), .second, .val (.long p4), .second, .val (.int p5), .val (.int (0 : Int32)), .val (.long v1), .second, .val (.long v2), .second, .val (.long v3), .second, .val (.ref b4), .val (.long v17), .second, .val (.ref b21), .val (.long r47), .second, .unset, .unset, .unset, .unset, .unset, .unset, .unset, .unset]) rfl ?_
    refine g_lload C31 X47 at_116 (pc' := 118) rfl rfl ?_
    refine g_lload C31 X47 at_118 (pc' := 120) rfl rfl ?_
    refine g_lsub C31 X47 at_120 (pc' := 121) rfl ?_
    obtain ⟨v48, hv48⟩ : ∃ z : Int64, (r47 - v2) = z := ⟨_, rfl⟩
    refine g_lstore C31 X47 at_121 (pc' := 123) rfl (w := v48) hv48 (ls' := #[.val (.int p0), .val (.int p1), .val (.long p2), .second, .val (.long p3), .second, .val (.long p4), .second, .val (.int p5), .val (.int (0 : Int32)), .val (.long v1), .second, .val (.long v2), .second, .val (.long v3), .second, .val (.ref b4), .val (.long v17), .second, .val (.ref b21), .val (.long r47), .second, .val (.long v48), .second, .unset, .unset, .unset, .unset, .unset, .unset]) rfl ?_
    refine g_lload C31 X47 at_123 (pc' := 125) rfl rfl ?_
    refine g_lload C31 X47 at_125 (pc' := 127) rfl rfl ?_
    refine g_lsub C31 X47 at_127 (pc' := 128) rfl ?_
    refine g_lload C31 X47 at_128 (pc' := 130) rfl rfl ?_
    refine g_lsub C31 X47 at_130 (pc' := 131) rfl ?_
    obtain ⟨v49, hv49⟩ : ∃ z : Int64, ((r47 - v48) - v3) = z := ⟨_, rfl⟩
    refine g_lstore C31 X47 at_131 (pc' := 133) rfl (w := v49) hv49 (ls' := #[.val (.int p0), .val (.int p1), .val (.long p2), .second, .val (.long p3), .second, .val (.long p4), .second, .val (.int p5), .val (.int (0 : Int32)), .val (.long v1), .second, .val (.long v2), .second, .val (.long v3), .second, .val (.ref b4), .val (.long v17), .second, .val (.ref b21), .val (.long r47), .second, .val (.long v48), .second, .val (.long v49), .second, .unset, .unset, .unset, .unset]) rfl ?_
    refine g_aload C31 X47 at_133 (pc' := 135) rfl rfl rfl ?_
    refine g_lload C31 X47 at_135 (pc' := 137) rfl rfl ?_
    refine g_callV C31 X47 (w_31 hw) (w_32 hw) (notFace_of_selects (args := #[]) (mvT C31.2.1 (w_34 hw))) (w_34 hw) (w_33 hw) (w_35 hw) (w_3 hw) (by decide) q41_0 at_137 (rm4_n l Z a0 hw [] b21 v48 p0 (0 : Int64) T41.heap n0 Z41 q41_0 q41_1 q41_2 q41_3 gn_b21 (own_c2 hv1 hv2 hr47 hv48)) (by decide) (by decide) rfl pd_1 rfl (argsL := [(.long v48)]) (rest := []) rfl (W := 0) (Nat.le_of_eq rfl) eq47 (by decide) (by decide) (pc' := 140) rfl (fun u50 T50 L50 X50 hQ50 => ?_)
    obtain ⟨rfl, Nq50, Kq50, q50_0, q50_1, q50_2, q50_3⟩ := hQ50
    have N50 := Fr.app N47 Nq50
    have f51 := f42.keep Kq50
    have f52 := f43.keep Kq50 (ninS n22 nin0)
    have f53 := f44.keep Kq50 (ninS n22 nin0)
    have f54 := f45.keep Kq50 (ninS n22 nin0)
    have f55 := q41_0.keep Kq50
    have Z50 := Nat.le_trans Z41 Kq50.1
    have hk50 := Nat.le_trans hk41 Kq50.1
    show Goes p.tables e below G (T50.setTop (mkF m 140 #[.val (.int p0), .val (.int p1), .val (.long p2), .second, .val (.long p3), .second, .val (.long p4), .second, .val (.int p5), .val (.int (0 : Int32)), .val (.long v1), .second, .val (.long v2), .second, .val (.long v3), .second, .val (.ref b4), .val (.long v17), .second, .val (.ref b21), .val (.long r47), .second, .val (.long v48), .second, .val (.long v49), .second, .unset, .unset, .unset, .unset] []))
    refine g_aload C31 X50 at_140 (pc' := 142) rfl rfl rfl ?_
    refine g_callV C31 X50 (w_38 hw) (w_39 hw) (notFace_of_selects (args := #[]) (mvT C31.2.1 (w_41 hw))) (w_41 hw) (w_40 hw) (w_42 hw) (w_3 hw) (by decide) q50_0 at_142 (rm5 l Z a0 hw [] b21 ((0 : Int64) + v48) T50.heap n0 Z50 q50_2) (by decide) (by decide) rfl pd_3 rfl (argsL := []) (rest := []) rfl (W := 0) (Nat.le_of_eq rfl) rfl (by decide) (by decide) (pc' := 145) rfl (fun u56 T56 L56 X56 hQ56 => ?_)
    obtain ⟨rfl, Nq56, eq56⟩ := hQ56
    have N56 := Fr.app N50 Nq56
    obtain ⟨r56, hr56⟩ : ∃ z : Int64, ((0 : Int64) + v48) = z := ⟨_, rfl⟩
    rw [hr56]
    show Goes p.tables e below G (T56.setTop (mkF m 145 #[.val (.int p0), .val (.int p1), .val (.long p2), .second, .val (.long p3), .second, .val (.long p4), .second, .val (.int p5), .val (.int (0 : Int32)), .val (.long v1), .second, .val (.long v2), .second, .val (.long v3), .second, .val (.ref b4), .val (.long v17), .second, .val (.ref b21), .val (.long r47), .second, .val (.long v48), .second, .val (.long v49), .second, .unset, .unset, .unset, .unset] [(.long r56)]))
    refine g_lload C31 X56 at_145 (pc' := 147) rfl rfl ?_
    refine g_lcmp_ne C31 X56 at_147 (pc1 := 148) rfl at_148 (pcT := 179) (pcN := 151) (by decide) (by decide) rfl (fun hc148 => absurd (by subst_vars; simp [Int64.add_assoc]) hc148) (fun hc148 => ?_)
    refine g_aload C31 X56 at_151 (pc' := 153) rfl rfl rfl ?_
    refine g_callV C31 X56 (w_38 hw) (w_39 hw) (notFace_of_selects (args := #[]) (mvT C31.2.1 (w_41 hw))) (w_41 hw) (w_40 hw) (w_42 hw) (w_3 hw) (by decide) f51 at_153 (rm5 l Z a0 hw [] b4 ((0 : Int64) + v17) T50.heap n0 Z50 f53) (by decide) (by decide) rfl pd_3 rfl (argsL := []) (rest := []) rfl (W := 0) (Nat.le_of_eq rfl) eq56 (by decide) (by decide) (pc' := 156) rfl (fun u57 T57 L57 X57 hQ57 => ?_)
    obtain ⟨rfl, Nq57, eq57⟩ := hQ57
    have N57 := Fr.app N56 Nq57
    obtain ⟨r57, hr57⟩ : ∃ z : Int64, ((0 : Int64) + v17) = z := ⟨_, rfl⟩
    rw [hr57]
    show Goes p.tables e below G (T57.setTop (mkF m 156 #[.val (.int p0), .val (.int p1), .val (.long p2), .second, .val (.long p3), .second, .val (.long p4), .second, .val (.int p5), .val (.int (0 : Int32)), .val (.long v1), .second, .val (.long v2), .second, .val (.long v3), .second, .val (.ref b4), .val (.long v17), .second, .val (.ref b21), .val (.long r47), .second, .val (.long v48), .second, .val (.long v49), .second, .unset, .unset, .unset, .unset] [(.long r57)]))
    refine g_iload C31 X57 at_156 (pc' := 158) rfl rfl ?_
    refine g_if_eq C31 X57 at_158 (pcT := 169) (pcN := 161) (by decide) (by decide) rfl (fun hc158 => ?_) (fun hc158 => absurd hc158 (by decide))
    refine g_lload C31 X57 at_169 (pc' := 171) rfl rfl ?_
    refine g_lcmp_ne C31 X57 at_171 (pc1 := 172) rfl at_172 (pcT := 179) (pcN := 175) (by decide) (by decide) rfl (fun hc172 => absurd (by subst_vars; simp [Int64.add_assoc]) hc172) (fun hc172 => ?_)
    refine g_iconst C31 X57 at_175 (pc' := 176) rfl (v := 1) rfl ?_
    refine g_goto C31 X57 at_176 (pc' := 180) (by decide) (by decide) ?_
    refine g_istore C31 X57 at_180 (pc' := 182) rfl (w := (1 : Int32)) rfl (ls' := #[.val (.int p0), .val (.int p1), .val (.long p2), .second, .val (.long p3), .second, .val (.long p4), .second, .val (.int p5), .val (.int (0 : Int32)), .val (.long v1), .second, .val (.long v2), .second, .val (.long v3), .second, .val (.ref b4), .val (.long v17), .second, .val (.ref b21), .val (.long r47), .second, .val (.long v48), .second, .val (.long v49), .second, .val (.int (1 : Int32)), .unset, .unset, .unset]) rfl ?_
    refine g_aload C31 X57 at_182 (pc' := 184) rfl rfl rfl ?_
    refine g_lload C31 X57 at_184 (pc' := 186) rfl rfl ?_
    refine g_callV C31 X57 (w_31 hw) (w_32 hw) (notFace_of_selects (args := #[]) (mvT C31.2.1 (w_34 hw))) (w_34 hw) (w_33 hw) (w_35 hw) (w_3 hw) (by decide) q50_0 at_186 (rm4_n l Z a0 hw [] b21 v49 p0 ((0 : Int64) + v48) T50.heap n0 Z50 q50_0 q50_1 q50_2 q50_3 gn_b21 (own_c3 hv1 hv2 hv3 hr47 hv48 hv49)) (by decide) (by decide) rfl pd_1 rfl (argsL := [(.long v49)]) (rest := []) rfl (W := 0) (Nat.le_of_eq rfl) eq57 (by decide) (by decide) (pc' := 189) rfl (fun u58 T58 L58 X58 hQ58 => ?_)
    obtain ⟨rfl, Nq58, Kq58, q58_0, q58_1, q58_2, q58_3⟩ := hQ58
    have N58 := Fr.app N57 Nq58
    have f59 := f51.keep Kq58
    have f60 := f52.keep Kq58 (ninS n22 nin0)
    have f61 := f53.keep Kq58 (ninS n22 nin0)
    have f62 := f54.keep Kq58 (ninS n22 nin0)
    have f63 := q50_0.keep Kq58
    have Z58 := Nat.le_trans Z50 Kq58.1
    have hk58 := Nat.le_trans hk50 Kq58.1
    show Goes p.tables e below G (T58.setTop (mkF m 189 #[.val (.int p0), .val (.int p1), .val (.long p2), .second, .val (.long p3), .second, .val (.long p4), .second, .val (.int p5), .val (.int (0 : Int32)), .val (.long v1), .second, .val (.long v2), .second, .val (.long v3), .second, .val (.ref b4), .val (.long v17), .second, .val (.ref b21), .val (.long r47), .second, .val (.long v48), .second, .val (.long v49), .second, .val (.int (1 : Int32)), .unset, .unset, .unset] []))
    refine g_lload C31 X58 at_189 (pc' := 191) rfl rfl ?_
    refine g_lload C31 X58 at_191 (pc' := 193) rfl rfl ?_
    refine g_ladd C31 X58 at_193 (pc' := 194) rfl ?_
    obtain ⟨v64, hv64⟩ : ∃ z : Int64, (v48 + v49) = z := ⟨_, rfl⟩
    refine g_lstore C31 X58 at_194 (pc' := 196) rfl (w := v64) hv64 (ls' := #[.val (.int p0), .val (.int p1), .val (.long p2), .second, .val (.long p3), .second, .val (.long p4), .second, .val (.int p5), .val (.int (0 : Int32)), .val (.long v1), .second, .val (.long v2), .second, .val (.long v3), .second, .val (.ref b4), .val (.long v17), .second, .val (.ref b21), .val (.long r47), .second, .val (.long v48), .second, .val (.long v49), .second, .val (.int (1 : Int32)), .val (.long v64), .second, .unset]) rfl ?_
    refine g_aload C31 X58 at_196 (pc' := 198) rfl rfl rfl ?_
    refine g_callV C31 X58 (w_38 hw) (w_39 hw) (notFace_of_selects (args := #[]) (mvT C31.2.1 (w_41 hw))) (w_41 hw) (w_40 hw) (w_42 hw) (w_3 hw) (by decide) q58_0 at_198 (rm5 l Z a0 hw [] b21 (((0 : Int64) + v48) + v49) T58.heap n0 Z58 q58_2) (by decide) (by decide) rfl pd_3 rfl (argsL := []) (rest := []) rfl (W := 0) (Nat.le_of_eq rfl) rfl (by decide) (by decide) (pc' := 201) rfl (fun u65 T65 L65 X65 hQ65 => ?_)
    obtain ⟨rfl, Nq65, eq65⟩ := hQ65
    have N65 := Fr.app N58 Nq65
    obtain ⟨r65, hr65⟩ : ∃ z : Int64, (((0 : Int64) + v48) + v49) = z := ⟨_, rfl⟩
    rw [hr65]
    show Goes p.tables e below G (T65.setTop (mkF m 201 #[.val (.int p0), .val (.int p1), .val (.long p2), .second, .val (.long p3), .second, .val (.long p4), .second, .val (.int p5), .val (.int (0 : Int32)), .val (.long v1), .second, .val (.long v2), .second, .val (.long v3), .second, .val (.ref b4), .val (.long v17), .second, .val (.ref b21), .val (.long r47), .second, .val (.long v48), .second, .val (.long v49), .second, .val (.int (1 : Int32)), .val (.long v64), .second, .unset] [(.long r65)]))
    refine g_lload C31 X65 at_201 (pc' := 203) rfl rfl ?_
    refine g_lcmp_ne C31 X65 at_203 (pc1 := 204) rfl at_204 (pcT := 235) (pcN := 207) (by decide) (by decide) rfl (fun hc204 => absurd (by subst_vars; simp [Int64.add_assoc]) hc204) (fun hc204 => ?_)
    refine g_aload C31 X65 at_207 (pc' := 209) rfl rfl rfl ?_
    refine g_callV C31 X65 (w_38 hw) (w_39 hw) (notFace_of_selects (args := #[]) (mvT C31.2.1 (w_41 hw))) (w_41 hw) (w_40 hw) (w_42 hw) (w_3 hw) (by decide) f59 at_209 (rm5 l Z a0 hw [] b4 ((0 : Int64) + v17) T58.heap n0 Z58 f61) (by decide) (by decide) rfl pd_3 rfl (argsL := []) (rest := []) rfl (W := 0) (Nat.le_of_eq rfl) eq65 (by decide) (by decide) (pc' := 212) rfl (fun u66 T66 L66 X66 hQ66 => ?_)
    obtain ⟨rfl, Nq66, eq66⟩ := hQ66
    have N66 := Fr.app N65 Nq66
    obtain ⟨r66, hr66⟩ : ∃ z : Int64, ((0 : Int64) + v17) = z := ⟨_, rfl⟩
    rw [hr66]
    show Goes p.tables e below G (T66.setTop (mkF m 212 #[.val (.int p0), .val (.int p1), .val (.long p2), .second, .val (.long p3), .second, .val (.long p4), .second, .val (.int p5), .val (.int (0 : Int32)), .val (.long v1), .second, .val (.long v2), .second, .val (.long v3), .second, .val (.ref b4), .val (.long v17), .second, .val (.ref b21), .val (.long r47), .second, .val (.long v48), .second, .val (.long v49), .second, .val (.int (1 : Int32)), .val (.long v64), .second, .unset] [(.long r66)]))
    refine g_iload C31 X66 at_212 (pc' := 214) rfl rfl ?_
    refine g_if_eq C31 X66 at_214 (pcT := 225) (pcN := 217) (by decide) (by decide) rfl (fun hc214 => ?_) (fun hc214 => absurd hc214 (by decide))
    refine g_lload C31 X66 at_225 (pc' := 227) rfl rfl ?_
    refine g_lcmp_ne C31 X66 at_227 (pc1 := 228) rfl at_228 (pcT := 235) (pcN := 231) (by decide) (by decide) rfl (fun hc228 => absurd (by subst_vars; simp [Int64.add_assoc]) hc228) (fun hc228 => ?_)
    refine g_iconst C31 X66 at_231 (pc' := 232) rfl (v := 1) rfl ?_
    refine g_goto C31 X66 at_232 (pc' := 236) (by decide) (by decide) ?_
    refine g_istore C31 X66 at_236 (pc' := 238) rfl (w := (1 : Int32)) rfl (ls' := #[.val (.int p0), .val (.int p1), .val (.long p2), .second, .val (.long p3), .second, .val (.long p4), .second, .val (.int p5), .val (.int (0 : Int32)), .val (.long v1), .second, .val (.long v2), .second, .val (.long v3), .second, .val (.ref b4), .val (.long v17), .second, .val (.ref b21), .val (.long r47), .second, .val (.long v48), .second, .val (.long v49), .second, .val (.int (1 : Int32)), .val (.long v64), .second, .val (.int (1 : Int32))]) rfl ?_
    refine g_iload C31 X66 at_238 (pc' := 240) rfl rfl ?_
    refine g_if_eq C31 X66 at_240 (pcT := 252) (pcN := 243) (by decide) (by decide) rfl (fun hc240 => absurd hc240 (by decide)) (fun hc240 => ?_)
    refine g_iload C31 X66 at_243 (pc' := 245) rfl rfl ?_
    refine g_if_eq C31 X66 at_245 (pcT := 252) (pcN := 248) (by decide) (by decide) rfl (fun hc245 => absurd hc245 (by decide)) (fun hc245 => ?_)
    refine g_iconst C31 X66 at_248 (pc' := 249) rfl (v := 1) rfl ?_
    refine g_goto C31 X66 at_249 (pc' := 253) (by decide) (by decide) ?_
    exact g_retNW C31 X66 K hS31 hk58 (by simp) at_253 (by decide) (by decide) eq66 ⟨rfl, N66⟩
  · refine g_iconst C X0 at_7 (pc' := 8) rfl (v := 1) rfl ?_
    refine g_goto C X0 at_8 (pc' := 12) (by decide) (by decide) ?_
    refine g_istore C X0 at_12 (pc' := 14) rfl (w := (1 : Int32)) rfl (ls' := #[.val (.int p0), .val (.int p1), .val (.long p2), .second, .val (.long p3), .second, .val (.long p4), .second, .val (.int p5), .val (.int (1 : Int32)), .unset, .unset, .unset, .unset, .unset, .unset, .unset, .unset, .unset, .unset, .unset, .unset, .unset, .unset, .unset, .unset, .unset, .unset, .unset, .unset]) rfl ?_
    refine g_lloadN C X0 at_14 (pc' := 15) rfl rfl ?_
    refine g_ldc2 C X0 (w_0 hw) at_15 (pc' := 18) rfl ?_
    refine g_land C X0 at_18 (pc' := 19) rfl ?_
    obtain ⟨v67, hv67⟩ : ∃ z : Int64, (p2 &&& (2305843009213693951 : Int64)) = z := ⟨_, rfl⟩
    refine g_lstore C X0 at_19 (pc' := 21) rfl (w := v67) hv67 (ls' := #[.val (.int p0), .val (.int p1), .val (.long p2), .second, .val (.long p3), .second, .val (.long p4), .second, .val (.int p5), .val (.int (1 : Int32)), .val (.long v67), .second, .unset, .unset, .unset, .unset, .unset, .unset, .unset, .unset, .unset, .unset, .unset, .unset, .unset, .unset, .unset, .unset, .unset, .unset]) rfl ?_
    refine g_lload C X0 at_21 (pc' := 23) rfl rfl ?_
    refine g_ldc2 C X0 (w_0 hw) at_23 (pc' := 26) rfl ?_
    refine g_land C X0 at_26 (pc' := 27) rfl ?_
    obtain ⟨v68, hv68⟩ : ∃ z : Int64, (p3 &&& (2305843009213693951 : Int64)) = z := ⟨_, rfl⟩
    refine g_lstore C X0 at_27 (pc' := 29) rfl (w := v68) hv68 (ls' := #[.val (.int p0), .val (.int p1), .val (.long p2), .second, .val (.long p3), .second, .val (.long p4), .second, .val (.int p5), .val (.int (1 : Int32)), .val (.long v67), .second, .val (.long v68), .second, .unset, .unset, .unset, .unset, .unset, .unset, .unset, .unset, .unset, .unset, .unset, .unset, .unset, .unset, .unset, .unset]) rfl ?_
    refine g_lload C X0 at_29 (pc' := 31) rfl rfl ?_
    refine g_ldc2 C X0 (w_0 hw) at_31 (pc' := 34) rfl ?_
    refine g_land C X0 at_34 (pc' := 35) rfl ?_
    obtain ⟨v69, hv69⟩ : ∃ z : Int64, (p4 &&& (2305843009213693951 : Int64)) = z := ⟨_, rfl⟩
    refine g_lstore C X0 at_35 (pc' := 37) rfl (w := v69) hv69 (ls' := #[.val (.int p0), .val (.int p1), .val (.long p2), .second, .val (.long p3), .second, .val (.long p4), .second, .val (.int p5), .val (.int (1 : Int32)), .val (.long v67), .second, .val (.long v68), .second, .val (.long v69), .second, .unset, .unset, .unset, .unset, .unset, .unset, .unset, .unset, .unset, .unset, .unset, .unset, .unset, .unset]) rfl ?_
    refine g_new C X0 (w_1 hw) (w_2 hw) (w_3 hw) e0 at_37 (pc' := 40) rfl (by decide) (by decide) (fun T70 h70 b70 X70 e70 g70 E70 A70 D70 => ?_)
    have gn_b70 : n0 ≤ b70 := Nat.le_trans Z0 (Nat.le_of_eq g70.symm)
    have Z70 := Nat.le_trans Z0 E70.1
    have hk70 := Nat.le_trans (Nat.zero_le _) E70.1
    have f71 : Fld Z h70 b70 "com/example/hanko/hanko/access/Budget" "maxSteps" "I" (.int (0 : Int32)) := D70 (Or.inr (w_26 hw)) (ty := .int) (by decide)
    have f72 : Fld Z h70 b70 "com/example/hanko/hanko/access/Budget" "refusal" "Ljava/util/function/Supplier;" .null := D70 (Or.inr (w_28 hw)) (ty := (.object "java/util/function/Supplier")) (by decide)
    have f73 : Fld Z h70 b70 "com/example/hanko/hanko/access/Budget" "enclosing" "Lcom/example/hanko/hanko/access/Budget;" .null := D70 (Or.inr (w_30 hw)) (ty := (.object "com/example/hanko/hanko/access/Budget")) (by decide)
    have f74 : Fld Z h70 b70 "com/example/hanko/hanko/access/Budget" "steps" "J" (.long (0 : Int64)) := D70 (Or.inl (w_37 hw)) (ty := .long) (by decide)
    refine g_dup C X70 at_40 (pc' := 41) rfl rfl ?_
    refine g_iloadN C X70 at_41 (pc' := 42) rfl rfl ?_
    refine g_ldcS C X70 (n := 4) (hw _ (List.mem_of_getElem? (i := 4) rfl)) (strAtoms hw) e70 hS0 hk70 at_42 (pc' := 44) rfl (by decide) (by decide) (by decide) (by decide) (fun b75 T75 h75 k75 C75 X75 e75 E75 hS75 hk75 => ?_)
    have f76 := A70.ext E75
    have f77 := f71.ext E75
    have f78 := f72.ext E75
    have f79 := f73.ext E75
    have f80 := f74.ext E75
    have Z75 := Nat.le_trans Z70 E75.1
    refine g_callI C75 X75 rfl (w_12 hw) (w_13 hw) (w_3 hw) (w_14 hw) (by decide) at_44 (rm1 l Z a0 hw [] b70 p1 b75 h75 n0 Z75 f76 f77 f78 f79 f80 gn_b70) (by decide) (by decide) rfl pd_2 rfl (argsL := [(.int p1), (.ref b75)]) (rest := [(.ref b70)]) rfl (W := 1) (Nat.le_of_eq rfl) e75 (by decide) (by decide) (pc' := 47) rfl (fun u81 T81 L81 X81 hQ81 => ?_)
    obtain ⟨rfl, Nq81, Kq81, q81_0, q81_1, q81_2, q81_3⟩ := hQ81
    have N81 := Fr.app N0 Nq81
    have f82 := f76.keep Kq81
    have Z81 := Nat.le_trans Z75 Kq81.1
    have hk81 := Nat.le_trans hk75 Kq81.1
    show Goes p.tables e below G (T81.setTop (mkF m 47 #[.val (.int p0), .val (.int p1), .val (.long p2), .second, .val (.long p3), .second, .val (.long p4), .second, .val (.int p5), .val (.int (1 : Int32)), .val (.long v67), .second, .val (.long v68), .second, .val (.long v69), .second, .unset, .unset, .unset, .unset, .unset, .unset, .unset, .unset, .unset, .unset, .unset, .unset, .unset, .unset] [(.ref b70)]))
    refine g_astore C75 X81 at_47 (pc' := 49) rfl rfl (ls' := #[.val (.int p0), .val (.int p1), .val (.long p2), .second, .val (.long p3), .second, .val (.long p4), .second, .val (.int p5), .val (.int (1 : Int32)), .val (.long v67), .second, .val (.long v68), .second, .val (.long v69), .second, .val (.ref b70), .unset, .unset, .unset, .unset, .unset, .unset, .unset, .unset, .unset, .unset, .unset, .unset, .unset]) rfl ?_
    refine g_iloadN C75 X81 at_49 (pc' := 50) rfl rfl ?_
    refine g_i2l C75 X81 at_50 (pc' := 51) rfl ?_
    refine g_lload C75 X81 at_51 (pc' := 53) rfl rfl ?_
    refine g_lsub C75 X81 at_53 (pc' := 54) rfl ?_
    obtain ⟨v83, hv83⟩ : ∃ z : Int64, (p1.toInt64 - v67) = z := ⟨_, rfl⟩
    refine g_lstore C75 X81 at_54 (pc' := 56) rfl (w := v83) hv83 (ls' := #[.val (.int p0), .val (.int p1), .val (.long p2), .second, .val (.long p3), .second, .val (.long p4), .second, .val (.int p5), .val (.int (1 : Int32)), .val (.long v67), .second, .val (.long v68), .second, .val (.long v69), .second, .val (.ref b70), .val (.long v83), .second, .unset, .unset, .unset, .unset, .unset, .unset, .unset, .unset, .unset, .unset, .unset]) rfl ?_
    refine g_aload C75 X81 at_56 (pc' := 58) rfl rfl rfl ?_
    refine g_lload C75 X81 at_58 (pc' := 60) rfl rfl ?_
    refine g_callV C75 X81 (w_31 hw) (w_32 hw) (notFace_of_selects (args := #[]) (mvT C75.2.1 (w_34 hw))) (w_34 hw) (w_33 hw) (w_35 hw) (w_3 hw) (by decide) q81_0 at_60 (rm4_n l Z a0 hw [] b70 v83 p1 (0 : Int64) T81.heap n0 Z81 q81_0 q81_1 q81_2 q81_3 gn_b70 (own_c1 hv67 hv83)) (by decide) (by decide) rfl pd_1 rfl (argsL := [(.long v83)]) (rest := []) rfl (W := 0) (Nat.le_of_eq rfl) rfl (by decide) (by decide) (pc' := 63) rfl (fun u84 T84 L84 X84 hQ84 => ?_)
    obtain ⟨rfl, Nq84, Kq84, q84_0, q84_1, q84_2, q84_3⟩ := hQ84
    have N84 := Fr.app N81 Nq84
    have f85 := q81_0.keep Kq84
    have Z84 := Nat.le_trans Z81 Kq84.1
    have hk84 := Nat.le_trans hk81 Kq84.1
    show Goes p.tables e below G (T84.setTop (mkF m 63 #[.val (.int p0), .val (.int p1), .val (.long p2), .second, .val (.long p3), .second, .val (.long p4), .second, .val (.int p5), .val (.int (1 : Int32)), .val (.long v67), .second, .val (.long v68), .second, .val (.long v69), .second, .val (.ref b70), .val (.long v83), .second, .unset, .unset, .unset, .unset, .unset, .unset, .unset, .unset, .unset, .unset, .unset] []))
    refine g_aload C75 X84 at_63 (pc' := 65) rfl rfl rfl ?_
    refine g_callV C75 X84 (w_38 hw) (w_39 hw) (notFace_of_selects (args := #[]) (mvT C75.2.1 (w_41 hw))) (w_41 hw) (w_40 hw) (w_42 hw) (w_3 hw) (by decide) q84_0 at_65 (rm5 l Z a0 hw [] b70 ((0 : Int64) + v83) T84.heap n0 Z84 q84_2) (by decide) (by decide) rfl pd_3 rfl (argsL := []) (rest := []) rfl (W := 0) (Nat.le_of_eq rfl) rfl (by decide) (by decide) (pc' := 68) rfl (fun u86 T86 L86 X86 hQ86 => ?_)
    obtain ⟨rfl, Nq86, eq86⟩ := hQ86
    have N86 := Fr.app N84 Nq86
    obtain ⟨r86, hr86⟩ : ∃ z : Int64, ((0 : Int64) + v83) = z := ⟨_, rfl⟩
    rw [hr86]
    show Goes p.tables e below G (T86.setTop (mkF m 68 #[.val (.int p0), .val (.int p1), .val (.long p2), .second, .val (.long p3), .second, .val (.long p4), .second, .val (.int p5), .val (.int (1 : Int32)), .val (.long v67), .second, .val (.long v68), .second, .val (.long v69), .second, .val (.ref b70), .val (.long v83), .second, .unset, .unset, .unset, .unset, .unset, .unset, .unset, .unset, .unset, .unset, .unset] [(.long r86)]))
    refine g_lload C75 X86 at_68 (pc' := 70) rfl rfl ?_
    refine g_lcmp_eq C75 X86 at_70 (pc1 := 71) rfl at_71 (pcT := 76) (pcN := 74) (by decide) (by decide) rfl (fun hc71 => ?_) (fun hc71 => absurd (by subst_vars; simp [Int64.add_assoc]) hc71)
    refine g_iload C75 X86 at_76 (pc' := 78) rfl rfl ?_
    refine g_if_eq C75 X86 at_78 (pcT := 95) (pcN := 81) (by decide) (by decide) rfl (fun hc78 => absurd hc78 (by decide)) (fun hc78 => ?_)
    refine g_new C75 X86 (w_1 hw) (w_2 hw) (w_3 hw) eq86 at_81 (pc' := 84) rfl (by decide) (by decide) (fun T87 h87 b87 X87 e87 g87 E87 A87 D87 => ?_)
    have n88 : b70 ≠ b87 := Nat.ne_of_lt (Nat.lt_of_lt_of_eq q84_0.lt g87.symm)
    have f89 := q84_0.ext E87
    have f90 := q84_1.ext E87
    have f91 := q84_2.ext E87
    have f92 := q84_3.ext E87
    have gn_b87 : n0 ≤ b87 := Nat.le_trans Z84 (Nat.le_of_eq g87.symm)
    have Z87 := Nat.le_trans Z84 E87.1
    have hk87 := Nat.le_trans hk84 E87.1
    have f93 : Fld Z h87 b87 "com/example/hanko/hanko/access/Budget" "maxSteps" "I" (.int (0 : Int32)) := D87 (Or.inr (w_26 hw)) (ty := .int) (by decide)
    have f94 : Fld Z h87 b87 "com/example/hanko/hanko/access/Budget" "refusal" "Ljava/util/function/Supplier;" .null := D87 (Or.inr (w_28 hw)) (ty := (.object "java/util/function/Supplier")) (by decide)
    have f95 : Fld Z h87 b87 "com/example/hanko/hanko/access/Budget" "enclosing" "Lcom/example/hanko/hanko/access/Budget;" .null := D87 (Or.inr (w_30 hw)) (ty := (.object "com/example/hanko/hanko/access/Budget")) (by decide)
    have f96 : Fld Z h87 b87 "com/example/hanko/hanko/access/Budget" "steps" "J" (.long (0 : Int64)) := D87 (Or.inl (w_37 hw)) (ty := .long) (by decide)
    refine g_dup C75 X87 at_84 (pc' := 85) rfl rfl ?_
    refine g_iloadN C75 X87 at_85 (pc' := 86) rfl rfl ?_
    refine g_aconstNull C75 X87 at_86 (pc' := 87) rfl ?_
    refine g_aload C75 X87 at_87 (pc' := 89) rfl rfl rfl ?_
    refine g_callI C75 X87 rfl (w_43 hw) (w_20 hw) (w_3 hw) (w_21 hw) (by decide) at_89 (rm2_b l Z a0 hw [] b87 p0 b70 h87 n0 Z87 A87 f93 f94 f95 f96 gn_b87) (by decide) (by decide) rfl pd_0 rfl (argsL := [(.int p0), .null, (.ref b70)]) (rest := [(.ref b87)]) rfl (W := 1) (Nat.le_of_eq rfl) e87 (by decide) (by decide) (pc' := 92) rfl (fun u97 T97 L97 X97 hQ97 => ?_)
    obtain ⟨rfl, Nq97, Kq97, q97_0, q97_1, q97_2, q97_3⟩ := hQ97
    have N97 := Fr.app N86 Nq97
    have f98 := f89.keep Kq97
    have f99 := f90.keep Kq97 (ninS n88 nin0)
    have f100 := f91.keep Kq97 (ninS n88 nin0)
    have f101 := f92.keep Kq97 (ninS n88 nin0)
    have f102 := A87.keep Kq97
    have Z97 := Nat.le_trans Z87 Kq97.1
    have hk97 := Nat.le_trans hk87 Kq97.1
    show Goes p.tables e below G (T97.setTop (mkF m 92 #[.val (.int p0), .val (.int p1), .val (.long p2), .second, .val (.long p3), .second, .val (.long p4), .second, .val (.int p5), .val (.int (1 : Int32)), .val (.long v67), .second, .val (.long v68), .second, .val (.long v69), .second, .val (.ref b70), .val (.long v83), .second, .unset, .unset, .unset, .unset, .unset, .unset, .unset, .unset, .unset, .unset, .unset] [(.ref b87)]))
    refine g_goto C75 X97 at_92 (pc' := 105) (by decide) (by decide) ?_
    refine g_astore C75 X97 at_105 (pc' := 107) rfl rfl (ls' := #[.val (.int p0), .val (.int p1), .val (.long p2), .second, .val (.long p3), .second, .val (.long p4), .second, .val (.int p5), .val (.int (1 : Int32)), .val (.long v67), .second, .val (.long v68), .second, .val (.long v69), .second, .val (.ref b70), .val (.long v83), .second, .val (.ref b87), .unset, .unset, .unset, .unset, .unset, .unset, .unset, .unset, .unset, .unset]) rfl ?_
    refine g_iloadN C75 X97 at_107 (pc' := 108) rfl rfl ?_
    refine g_i2l C75 X97 at_108 (pc' := 109) rfl ?_
    refine g_lload C75 X97 at_109 (pc' := 111) rfl rfl ?_
    refine g_callS C75 X97 (w_44 hw) (w_45 hw) (w_46 hw) (w_47 hw) (by decide) at_111 (rm6 l Z a0 hw [] p0.toInt64 v67 T97.heap n0 Z97) (by decide) (by decide) rfl pd_4 rfl (argsL := [(.long p0.toInt64), (.long v67)]) (rest := []) rfl (W := 0) (Nat.le_of_eq rfl) rfl (by decide) (by decide) (pc' := 114) rfl (fun u103 T103 L103 X103 hQ103 => ?_)
    obtain ⟨rfl, Nq103, eq103⟩ := hQ103
    have N103 := Fr.app N97 Nq103
    obtain ⟨r103, hr103⟩ : ∃ z : Int64, fMin p0.toInt64 v67 = z := ⟨_, rfl⟩
    rw [hr103]
    show Goes p.tables e below G (T103.setTop (mkF m 114 #[.val (.int p0), .val (.int p1), .val (.long p2), .second, .val (.long p3), .second, .val (.long p4), .second, .val (.int p5), .val (.int (1 : Int32)), .val (.long v67), .second, .val (.long v68), .second, .val (.long v69), .second, .val (.ref b70), .val (.long v83), .second, .val (.ref b87), .unset, .unset, .unset, .unset, .unset, .unset, .unset, .unset, .unset, .unset] [(.long r103)]))
    refine g_lstore C75 X103 at_114 (pc' := 116) rfl (w := r103) rfl (ls' := #[.val (.int p0), .val (.int p1), .val (.long p2), .second, .val (.long p3), .second, .val (.long p4), .second, .val (.int p5), .val (.int (1 : Int32)), .val (.long v67), .second, .val (.long v68), .second, .val (.long v69), .second, .val (.ref b70), .val (.long v83), .second, .val (.ref b87), .val (.long r103), .second, .unset, .unset, .unset, .unset, .unset, .unset, .unset, .unset]) rfl ?_
    refine g_lload C75 X103 at_116 (pc' := 118) rfl rfl ?_
    refine g_lload C75 X103 at_118 (pc' := 120) rfl rfl ?_
    refine g_lsub C75 X103 at_120 (pc' := 121) rfl ?_
    obtain ⟨v104, hv104⟩ : ∃ z : Int64, (r103 - v68) = z := ⟨_, rfl⟩
    refine g_lstore C75 X103 at_121 (pc' := 123) rfl (w := v104) hv104 (ls' := #[.val (.int p0), .val (.int p1), .val (.long p2), .second, .val (.long p3), .second, .val (.long p4), .second, .val (.int p5), .val (.int (1 : Int32)), .val (.long v67), .second, .val (.long v68), .second, .val (.long v69), .second, .val (.ref b70), .val (.long v83), .second, .val (.ref b87), .val (.long r103), .second, .val (.long v104), .second, .unset, .unset, .unset, .unset, .unset, .unset]) rfl ?_
    refine g_lload C75 X103 at_123 (pc' := 125) rfl rfl ?_
    refine g_lload C75 X103 at_125 (pc' := 127) rfl rfl ?_
    refine g_lsub C75 X103 at_127 (pc' := 128) rfl ?_
    refine g_lload C75 X103 at_128 (pc' := 130) rfl rfl ?_
    refine g_lsub C75 X103 at_130 (pc' := 131) rfl ?_
    obtain ⟨v105, hv105⟩ : ∃ z : Int64, ((r103 - v104) - v69) = z := ⟨_, rfl⟩
    refine g_lstore C75 X103 at_131 (pc' := 133) rfl (w := v105) hv105 (ls' := #[.val (.int p0), .val (.int p1), .val (.long p2), .second, .val (.long p3), .second, .val (.long p4), .second, .val (.int p5), .val (.int (1 : Int32)), .val (.long v67), .second, .val (.long v68), .second, .val (.long v69), .second, .val (.ref b70), .val (.long v83), .second, .val (.ref b87), .val (.long r103), .second, .val (.long v104), .second, .val (.long v105), .second, .unset, .unset, .unset, .unset]) rfl ?_
    refine g_aload C75 X103 at_133 (pc' := 135) rfl rfl rfl ?_
    refine g_lload C75 X103 at_135 (pc' := 137) rfl rfl ?_
    refine g_callV C75 X103 (w_31 hw) (w_32 hw) (notFace_of_selects (args := #[]) (mvT C75.2.1 (w_34 hw))) (w_34 hw) (w_33 hw) (w_35 hw) (w_3 hw) (by decide) q97_0 at_137 (rm4_e l Z a0 hw [] b87 v104 b70 p0 (0 : Int64) p1 ((0 : Int64) + v83) T97.heap n0 Z97 q97_0 q97_1 q97_2 q97_3 f98 f99 f100 f101 gn_b87 gn_b70 (own_c2 hv67 hv68 hr103 hv104) (own_c2e hv67 hv68 hr103 hv104 hv83) (Ne.symm n88)) (by decide) (by decide) rfl pd_1 rfl (argsL := [(.long v104)]) (rest := []) rfl (W := 0) (Nat.le_of_eq rfl) eq103 (by decide) (by decide) (pc' := 140) rfl (fun u106 T106 L106 X106 hQ106 => ?_)
    obtain ⟨rfl, Nq106, Kq106, q106_0, q106_1, q106_2, q106_3, q106_4, q106_5, q106_6, q106_7⟩ := hQ106
    have N106 := Fr.app N103 Nq106
    have f107 := f98.keep Kq106
    have f108 := q97_0.keep Kq106
    have Z106 := Nat.le_trans Z97 Kq106.1
    have hk106 := Nat.le_trans hk97 Kq106.1
    show Goes p.tables e below G (T106.setTop (mkF m 140 #[.val (.int p0), .val (.int p1), .val (.long p2), .second, .val (.long p3), .second, .val (.long p4), .second, .val (.int p5), .val (.int (1 : Int32)), .val (.long v67), .second, .val (.long v68), .second, .val (.long v69), .second, .val (.ref b70), .val (.long v83), .second, .val (.ref b87), .val (.long r103), .second, .val (.long v104), .second, .val (.long v105), .second, .unset, .unset, .unset, .unset] []))
    refine g_aload C75 X106 at_140 (pc' := 142) rfl rfl rfl ?_
    refine g_callV C75 X106 (w_38 hw) (w_39 hw) (notFace_of_selects (args := #[]) (mvT C75.2.1 (w_41 hw))) (w_41 hw) (w_40 hw) (w_42 hw) (w_3 hw) (by decide) q106_0 at_142 (rm5 l Z a0 hw [] b87 ((0 : Int64) + v104) T106.heap n0 Z106 q106_2) (by decide) (by decide) rfl pd_3 rfl (argsL := []) (rest := []) rfl (W := 0) (Nat.le_of_eq rfl) rfl (by decide) (by decide) (pc' := 145) rfl (fun u109 T109 L109 X109 hQ109 => ?_)
    obtain ⟨rfl, Nq109, eq109⟩ := hQ109
    have N109 := Fr.app N106 Nq109
    obtain ⟨r109, hr109⟩ : ∃ z : Int64, ((0 : Int64) + v104) = z := ⟨_, rfl⟩
    rw [hr109]
    show Goes p.tables e below G (T109.setTop (mkF m 145 #[.val (.int p0), .val (.int p1), .val (.long p2), .second, .val (.long p3), .second, .val (.long p4), .second, .val (.int p5), .val (.int (1 : Int32)), .val (.long v67), .second, .val (.long v68), .second, .val (.long v69), .second, .val (.ref b70), .val (.long v83), .second, .val (.ref b87), .val (.long r103), .second, .val (.long v104), .second, .val (.long v105), .second, .unset, .unset, .unset, .unset] [(.long r109)]))
    refine g_lload C75 X109 at_145 (pc' := 147) rfl rfl ?_
    refine g_lcmp_ne C75 X109 at_147 (pc1 := 148) rfl at_148 (pcT := 179) (pcN := 151) (by decide) (by decide) rfl (fun hc148 => absurd (by subst_vars; simp [Int64.add_assoc]) hc148) (fun hc148 => ?_)
    refine g_aload C75 X109 at_151 (pc' := 153) rfl rfl rfl ?_
    refine g_callV C75 X109 (w_38 hw) (w_39 hw) (notFace_of_selects (args := #[]) (mvT C75.2.1 (w_41 hw))) (w_41 hw) (w_40 hw) (w_42 hw) (w_3 hw) (by decide) q106_4 at_153 (rm5 l Z a0 hw [] b70 (((0 : Int64) + v83) + v104) T106.heap n0 Z106 q106_6) (by decide) (by decide) rfl pd_3 rfl (argsL := []) (rest := []) rfl (W := 0) (Nat.le_of_eq rfl) eq109 (by decide) (by decide) (pc' := 156) rfl (fun u110 T110 L110 X110 hQ110 => ?_)
    obtain ⟨rfl, Nq110, eq110⟩ := hQ110
    have N110 := Fr.app N109 Nq110
    obtain ⟨r110, hr110⟩ : ∃ z : Int64, (((0 : Int64) + v83) + v104) = z := ⟨_, rfl⟩
    rw [hr110]
    show Goes p.tables e below G (T110.setTop (mkF m 156 #[.val (.int p0), .val (.int p1), .val (.long p2), .second, .val (.long p3), .second, .val (.long p4), .second, .val (.int p5), .val (.int (1 : Int32)), .val (.long v67), .second, .val (.long v68), .second, .val (.long v69), .second, .val (.ref b70), .val (.long v83), .second, .val (.ref b87), .val (.long r103), .second, .val (.long v104), .second, .val (.long v105), .second, .unset, .unset, .unset, .unset] [(.long r110)]))
    refine g_iload C75 X110 at_156 (pc' := 158) rfl rfl ?_
    refine g_if_eq C75 X110 at_158 (pcT := 169) (pcN := 161) (by decide) (by decide) rfl (fun hc158 => absurd hc158 (by decide)) (fun hc158 => ?_)
    refine g_lload C75 X110 at_161 (pc' := 163) rfl rfl ?_
    refine g_lload C75 X110 at_163 (pc' := 165) rfl rfl ?_
    refine g_ladd C75 X110 at_165 (pc' := 166) rfl ?_
    refine g_goto C75 X110 at_166 (pc' := 171) (by decide) (by decide) ?_
    refine g_lcmp_ne C75 X110 at_171 (pc1 := 172) rfl at_172 (pcT := 179) (pcN := 175) (by decide) (by decide) rfl (fun hc172 => absurd (by subst_vars; simp [Int64.add_assoc]) hc172) (fun hc172 => ?_)
    refine g_iconst C75 X110 at_175 (pc' := 176) rfl (v := 1) rfl ?_
    refine g_goto C75 X110 at_176 (pc' := 180) (by decide) (by decide) ?_
    refine g_istore C75 X110 at_180 (pc' := 182) rfl (w := (1 : Int32)) rfl (ls' := #[.val (.int p0), .val (.int p1), .val (.long p2), .second, .val (.long p3), .second, .val (.long p4), .second, .val (.int p5), .val (.int (1 : Int32)), .val (.long v67), .second, .val (.long v68), .second, .val (.long v69), .second, .val (.ref b70), .val (.long v83), .second, .val (.ref b87), .val (.long r103), .second, .val (.long v104), .second, .val (.long v105), .second, .val (.int (1 : Int32)), .unset, .unset, .unset]) rfl ?_
    refine g_aload C75 X110 at_182 (pc' := 184) rfl rfl rfl ?_
    refine g_lload C75 X110 at_184 (pc' := 186) rfl rfl ?_
    refine g_callV C75 X110 (w_31 hw) (w_32 hw) (notFace_of_selects (args := #[]) (mvT C75.2.1 (w_34 hw))) (w_34 hw) (w_33 hw) (w_35 hw) (w_3 hw) (by decide) q106_0 at_186 (rm4_e l Z a0 hw [] b87 v105 b70 p0 ((0 : Int64) + v104) p1 (((0 : Int64) + v83) + v104) T106.heap n0 Z106 q106_0 q106_1 q106_2 q106_3 q106_4 q106_5 q106_6 q106_7 gn_b87 gn_b70 (own_c3 hv67 hv68 hv69 hr103 hv104 hv105) (own_c3e hv67 hv68 hv69 hr103 hv104 hv105 hv83) (Ne.symm n88)) (by decide) (by decide) rfl pd_1 rfl (argsL := [(.long v105)]) (rest := []) rfl (W := 0) (Nat.le_of_eq rfl) eq110 (by decide) (by decide) (pc' := 189) rfl (fun u111 T111 L111 X111 hQ111 => ?_)
    obtain ⟨rfl, Nq111, Kq111, q111_0, q111_1, q111_2, q111_3, q111_4, q111_5, q111_6, q111_7⟩ := hQ111
    have N111 := Fr.app N110 Nq111
    have f112 := q106_4.keep Kq111
    have f113 := q106_0.keep Kq111
    have Z111 := Nat.le_trans Z106 Kq111.1
    have hk111 := Nat.le_trans hk106 Kq111.1
    show Goes p.tables e below G (T111.setTop (mkF m 189 #[.val (.int p0), .val (.int p1), .val (.long p2), .second, .val (.long p3), .second, .val (.long p4), .second, .val (.int p5), .val (.int (1 : Int32)), .val (.long v67), .second, .val (.long v68), .second, .val (.long v69), .second, .val (.ref b70), .val (.long v83), .second, .val (.ref b87), .val (.long r103), .second, .val (.long v104), .second, .val (.long v105), .second, .val (.int (1 : Int32)), .unset, .unset, .unset] []))
    refine g_lload C75 X111 at_189 (pc' := 191) rfl rfl ?_
    refine g_lload C75 X111 at_191 (pc' := 193) rfl rfl ?_
    refine g_ladd C75 X111 at_193 (pc' := 194) rfl ?_
    obtain ⟨v114, hv114⟩ : ∃ z : Int64, (v104 + v105) = z := ⟨_, rfl⟩
    refine g_lstore C75 X111 at_194 (pc' := 196) rfl (w := v114) hv114 (ls' := #[.val (.int p0), .val (.int p1), .val (.long p2), .second, .val (.long p3), .second, .val (.long p4), .second, .val (.int p5), .val (.int (1 : Int32)), .val (.long v67), .second, .val (.long v68), .second, .val (.long v69), .second, .val (.ref b70), .val (.long v83), .second, .val (.ref b87), .val (.long r103), .second, .val (.long v104), .second, .val (.long v105), .second, .val (.int (1 : Int32)), .val (.long v114), .second, .unset]) rfl ?_
    refine g_aload C75 X111 at_196 (pc' := 198) rfl rfl rfl ?_
    refine g_callV C75 X111 (w_38 hw) (w_39 hw) (notFace_of_selects (args := #[]) (mvT C75.2.1 (w_41 hw))) (w_41 hw) (w_40 hw) (w_42 hw) (w_3 hw) (by decide) q111_0 at_198 (rm5 l Z a0 hw [] b87 (((0 : Int64) + v104) + v105) T111.heap n0 Z111 q111_2) (by decide) (by decide) rfl pd_3 rfl (argsL := []) (rest := []) rfl (W := 0) (Nat.le_of_eq rfl) rfl (by decide) (by decide) (pc' := 201) rfl (fun u115 T115 L115 X115 hQ115 => ?_)
    obtain ⟨rfl, Nq115, eq115⟩ := hQ115
    have N115 := Fr.app N111 Nq115
    obtain ⟨r115, hr115⟩ : ∃ z : Int64, (((0 : Int64) + v104) + v105) = z := ⟨_, rfl⟩
    rw [hr115]
    show Goes p.tables e below G (T115.setTop (mkF m 201 #[.val (.int p0), .val (.int p1), .val (.long p2), .second, .val (.long p3), .second, .val (.long p4), .second, .val (.int p5), .val (.int (1 : Int32)), .val (.long v67), .second, .val (.long v68), .second, .val (.long v69), .second, .val (.ref b70), .val (.long v83), .second, .val (.ref b87), .val (.long r103), .second, .val (.long v104), .second, .val (.long v105), .second, .val (.int (1 : Int32)), .val (.long v114), .second, .unset] [(.long r115)]))
    refine g_lload C75 X115 at_201 (pc' := 203) rfl rfl ?_
    refine g_lcmp_ne C75 X115 at_203 (pc1 := 204) rfl at_204 (pcT := 235) (pcN := 207) (by decide) (by decide) rfl (fun hc204 => absurd (by subst_vars; simp [Int64.add_assoc]) hc204) (fun hc204 => ?_)
    refine g_aload C75 X115 at_207 (pc' := 209) rfl rfl rfl ?_
    refine g_callV C75 X115 (w_38 hw) (w_39 hw) (notFace_of_selects (args := #[]) (mvT C75.2.1 (w_41 hw))) (w_41 hw) (w_40 hw) (w_42 hw) (w_3 hw) (by decide) q111_4 at_209 (rm5 l Z a0 hw [] b70 ((((0 : Int64) + v83) + v104) + v105) T111.heap n0 Z111 q111_6) (by decide) (by decide) rfl pd_3 rfl (argsL := []) (rest := []) rfl (W := 0) (Nat.le_of_eq rfl) eq115 (by decide) (by decide) (pc' := 212) rfl (fun u116 T116 L116 X116 hQ116 => ?_)
    obtain ⟨rfl, Nq116, eq116⟩ := hQ116
    have N116 := Fr.app N115 Nq116
    obtain ⟨r116, hr116⟩ : ∃ z : Int64, ((((0 : Int64) + v83) + v104) + v105) = z := ⟨_, rfl⟩
    rw [hr116]
    show Goes p.tables e below G (T116.setTop (mkF m 212 #[.val (.int p0), .val (.int p1), .val (.long p2), .second, .val (.long p3), .second, .val (.long p4), .second, .val (.int p5), .val (.int (1 : Int32)), .val (.long v67), .second, .val (.long v68), .second, .val (.long v69), .second, .val (.ref b70), .val (.long v83), .second, .val (.ref b87), .val (.long r103), .second, .val (.long v104), .second, .val (.long v105), .second, .val (.int (1 : Int32)), .val (.long v114), .second, .unset] [(.long r116)]))
    refine g_iload C75 X116 at_212 (pc' := 214) rfl rfl ?_
    refine g_if_eq C75 X116 at_214 (pcT := 225) (pcN := 217) (by decide) (by decide) rfl (fun hc214 => absurd hc214 (by decide)) (fun hc214 => ?_)
    refine g_lload C75 X116 at_217 (pc' := 219) rfl rfl ?_
    refine g_lload C75 X116 at_219 (pc' := 221) rfl rfl ?_
    refine g_ladd C75 X116 at_221 (pc' := 222) rfl ?_
    refine g_goto C75 X116 at_222 (pc' := 227) (by decide) (by decide) ?_
    refine g_lcmp_ne C75 X116 at_227 (pc1 := 228) rfl at_228 (pcT := 235) (pcN := 231) (by decide) (by decide) rfl (fun hc228 => absurd (by subst_vars; simp [Int64.add_assoc]) hc228) (fun hc228 => ?_)
    refine g_iconst C75 X116 at_231 (pc' := 232) rfl (v := 1) rfl ?_
    refine g_goto C75 X116 at_232 (pc' := 236) (by decide) (by decide) ?_
    refine g_istore C75 X116 at_236 (pc' := 238) rfl (w := (1 : Int32)) rfl (ls' := #[.val (.int p0), .val (.int p1), .val (.long p2), .second, .val (.long p3), .second, .val (.long p4), .second, .val (.int p5), .val (.int (1 : Int32)), .val (.long v67), .second, .val (.long v68), .second, .val (.long v69), .second, .val (.ref b70), .val (.long v83), .second, .val (.ref b87), .val (.long r103), .second, .val (.long v104), .second, .val (.long v105), .second, .val (.int (1 : Int32)), .val (.long v114), .second, .val (.int (1 : Int32))]) rfl ?_
    refine g_iload C75 X116 at_238 (pc' := 240) rfl rfl ?_
    refine g_if_eq C75 X116 at_240 (pcT := 252) (pcN := 243) (by decide) (by decide) rfl (fun hc240 => absurd hc240 (by decide)) (fun hc240 => ?_)
    refine g_iload C75 X116 at_243 (pc' := 245) rfl rfl ?_
    refine g_if_eq C75 X116 at_245 (pcT := 252) (pcN := 248) (by decide) (by decide) rfl (fun hc245 => absurd hc245 (by decide)) (fun hc245 => ?_)
    refine g_iconst C75 X116 at_248 (pc' := 249) rfl (v := 1) rfl ?_
    refine g_goto C75 X116 at_249 (pc' := 253) (by decide) (by decide) ?_
    exact g_retNW C75 X116 K hS75 hk111 (by simp) at_253 (by decide) (by decide) eq116 ⟨rfl, N116⟩
set_option maxRecDepth 65536 in
set_option maxHeartbeats 40000000 in
theorem comes_1 {Post : Tables → Env → Array Value → State → Outcome → State → Prop} (hpost : ∀ tb e args s v u, (limb_1_1.after args s (.returned v) u = true ∧ limb_1_2.after args s (.returned v) u = true ∧ True) → ReturnedEndW s (.returned v) u (Jvm.fieldLocs frame_1_writes args s ++ Jvm.arrayLocs frame_1_arrays args s ++ Jvm.staticLocs frame_1_statics s) 24 2176 → Post tb e args s (.returned v) u) :
    ArmFor flags0 classFile x code maxLocals ret World_1 tables_1 room_1 Calls_1 rest_1 Pre_1 Post := by
  intro l hfl _ _ p e ha hc hk s m args below hf hA hF happ hP
  obtain ⟨hcalls, hrest, hpre⟩ := hP
  obtain ⟨-, -, -, hnamed, -, -, -, hat⟩ := (Spec.applies_iff hf).mp happ
  obtain ⟨hg, hn⟩ := and_e (Cond.before_iff.mp (show (Jvm.Cond.and given_1 narrow_1).before args s = true from hpre))
  obtain ⟨gc, g0⟩ := and_e hg
  obtain ⟨k0, g1⟩ := and_e g0
  obtain ⟨k1, g2⟩ := and_e g1
  obtain ⟨k2, g3⟩ := and_e g2
  obtain ⟨k3, g4⟩ := and_e g3
  obtain ⟨k4, g5⟩ := and_e g4
  have k5 := g5
  obtain ⟨w0, w1, w2, w3, w4, w5, rfl⟩ : ∃ w0 w1 w2 w3 w4 w5 : Value, args = #[w0, w1, w2, w3, w4, w5] := by
    have hs : args.size = 6 := by simpa [Cond.value, given_1] using gc
    obtain ⟨L⟩ := args
    match L, hs with
    | [w0, w1, w2, w3, w4, w5], _ => exact ⟨w0, w1, w2, w3, w4, w5, rfl⟩
  have hw := fun d (hd : d ∈ tables_1) => atoms_spec (ws := Jvm.Cond.code x code maxLocals ret :: tables_1) hat d (List.mem_cons_of_mem _ hd)
  obtain ⟨i0, ei0⟩ := is_v k0
  obtain rfl : w0 = (.int i0) := Option.some.inj ei0
  obtain ⟨i1, ei1⟩ := is_v k1
  obtain rfl : w1 = (.int i1) := Option.some.inj ei1
  obtain ⟨i2, ei2⟩ := isL_v k2
  obtain rfl : w2 = (.long i2) := Option.some.inj ei2
  obtain ⟨i3, ei3⟩ := isL_v k3
  obtain rfl : w3 = (.long i3) := Option.some.inj ei3
  obtain ⟨i4, ei4⟩ := isL_v k4
  obtain rfl : w4 = (.long i4) := Option.some.inj ei4
  obtain ⟨i5, ei5⟩ := is_v k5
  obtain rfl : w5 = (.int i5) := Option.some.inj ei5
  obtain ⟨n, o, h1, h2, h3, _, L, rfl, ⟨rfl, N⟩, hq⟩ := rm0 l s _ hw tables_1 i0 i1 i2 i3 i4 i5  s.heap s.heap.size (Nat.le_refl _) p e ha hc hk s m _ below hf ((Spec.applies_iff_loose hf).mp happ).1 ⟨rfl, State.Warmed39.refl s, rfl⟩ trivial
  refine ⟨n, _, h1, h2, h3, hpost _ _ _ _ _ _ ⟨Cond.after_iff.mpr rfl, Cond.after_iff.mpr (eq_i res_at (Term.int_eval (1)) rfl), trivial⟩ ⟨hq.1, hq.2.1, hq.2.2.1, (hq.2.2.2.sift fun y hy => Or.inr (N y hy)).mono (by decide) (by decide)⟩⟩
theorem main_1_1 : Claimed_1_1 := comes_1 fun _ _ _ _ _ _ h hF => ⟨h.1, hF⟩
theorem main_1_2 : Claimed_1_2 := comes_1 fun _ _ _ _ _ _ h hF => ⟨h.2.1, hF⟩
end Jvm.Pilot.@@N@@
namespace Jvm.Pilot.@@N@@
open Jvm Jvm.ClassFile Sem Op Lib Jvm.Free Jvm.Stand Jvm.Pilot.@@N@@.Jvm.D
/-! MADE BY PROGRAM (witnessworld.py) out of the Statement's table words and the real class files: 17 classes; the members and pool entries that the words name. The judged class is class 1, her method 1. -/
namespace start1
open Jvm.ClassFile
def u (s : String) : CpInfo := .utf8 (stringToUtf16 s)
/-- a pool by its gaps: so many unusable entries, then the entry; so many at the end -/
def gap : Nat → List CpInfo → List CpInfo
  | 0, r => r
  | n + 1, r => .unusable :: gap n r
def poolList (es : List (Nat × CpInfo)) (last : Nat) : List CpInfo := es.foldr (fun e r => gap e.1 (e.2 :: r)) (gap last [])
def pool (es : List (Nat × CpInfo)) (last : Nat) : Array CpInfo := ⟨poolList es last⟩
def fileOf (pool : Array CpInfo) (this : Nat) (attrs : Array Attribute := #[]) (ms : Array MethodInfo := #[]) (fl : Nat := 33) (sup : Nat := 0) (ifs : Array Nat := #[]) (fds : Array FieldInfo := #[]) : ClassFile where
  minorVersion := 0
  majorVersion := 65
  constantPool := pool
  accessFlags := fl
  thisClass := this
  superClass := sup
  interfaces := ifs
  fields := fds
  methods := ms
  attributes := attrs
def plain (name : String) (sup : Option ClassId) : Class where
  name := name
  kind := .ordinary
  loader := none
  accessFlags := 33
  super := sup
  interfaces := #[]
  cf := none
  fields := #[]
  methods := #[]
  instanceTypes := #[]
  staticTypes := #[]
  resolved := #[]
  callSites := []
  init := .initialized
  statics := none
  mirror := none

def pool0 : Array CpInfo := pool [(5, u "<init>"), (0, u "()V"), (1, .class_ 10), (1, u "java/lang/Object")] 113

def k0c0 : Code := { maxStack := 0, maxLocals := 1, code := object_method_1_code, exceptionTable := #[], attributes := #[] }
def k0m0 : Method := { name := "<init>", desc := "()V", sig := { parameters := [], returnType := none }, accessFlags := 1, code := some k0c0 }
/-- java/lang/Object -/
def k0 : Class := { plain "java/lang/Object" none with
  accessFlags := 33
  interfaces := #[]
  cf := some (fileOf pool0 8 #[] #[{ accessFlags := 1, nameIndex := 5, descriptorIndex := 6, attributes := #[] }] 33 0 #[] #[])
  fields := #[]
  methods := #[k0m0]
  instanceTypes := #[]
  staticTypes := #[]
  resolved := Array.replicate 124 none
  statics := none }

def pool1 : Array CpInfo := pool [(2, .class_ 4), (1, u "java/lang/Object"), (0, u "<init>"), (0, u "()V"), (0, .long 2305843009213693951), (1, .class_ 10), (0, u "com/example/hanko/hanko/access/Budget"), (0, .string 12), (0, u "o"), (0, .methodref 9 14), (0, .nameAndType 5 15), (0, u "(ILjava/lang/String;)V"), (0, .methodref 9 17), (0, .nameAndType 18 19), (0, u "charge"), (0, u "(J)V"), (0, .methodref 9 21), (0, .nameAndType 22 23), (0, u "taken"), (0, u "()J"), (0, .methodref 9 25), (0, .nameAndType 5 26), (0, u "(ILjava/util/function/Supplier;Lcom/example/hanko/hanko/access/Budget;)V"), (0, .string 28), (0, u "i"), (0, .methodref 30 31), (0, .class_ 32), (0, .nameAndType 33 34), (0, u "java/lang/Math"), (0, u "min"), (0, u "(JJ)J"), (0, .class_ 36), (0, u "com/example/hanko/hanko/access/BudgetChargePinLaw"), (2, u "law"), (0, u "(IIJJJI)Z")] 3

def k1m0 : Method := { name := "<init>", desc := "()V", sig := { parameters := [], returnType := none }, accessFlags := 1, code := none }
def k1c1 : Code := { maxStack := 6, maxLocals := 30, code := code, exceptionTable := #[], attributes := #[] }
def k1m1 : Method := { name := "law", desc := "(IIJJJI)Z", sig := { parameters := [.int, .int, .long, .long, .long, .int], returnType := some .boolean }, accessFlags := 9, code := some k1c1 }
/-- com/example/hanko/hanko/access/BudgetChargePinLaw -/
def k1 : Class := { plain "com/example/hanko/hanko/access/BudgetChargePinLaw" (some 0) with
  accessFlags := 49
  interfaces := #[]
  cf := some (fileOf pool1 35 #[] #[{ accessFlags := 1, nameIndex := 5, descriptorIndex := 6, attributes := #[] }, { accessFlags := 9, nameIndex := 39, descriptorIndex := 40, attributes := #[] }] 49 2 #[] #[])
  fields := #[]
  methods := #[k1m0, k1m1]
  instanceTypes := #[]
  staticTypes := #[]
  resolved := Array.replicate 44 none
  statics := none }

def pool2 : Array CpInfo := pool [(1, .invokeDynamic 0 2), (0, .nameAndType 3 4), (0, u "get"), (0, u "(Ljava/lang/String;)Ljava/util/function/Supplier;"), (0, .methodref 6 7), (0, .class_ 8), (0, .nameAndType 9 10), (0, u "com/example/hanko/hanko/access/Budget"), (0, u "<init>"), (0, u "(ILjava/util/function/Supplier;Lcom/example/hanko/hanko/access/Budget;)V"), (0, .methodref 12 13), (0, .class_ 14), (0, .nameAndType 9 15), (0, u "java/lang/Object"), (0, u "()V"), (0, .fieldref 6 17), (0, .nameAndType 18 19), (0, u "maxSteps"), (0, u "I"), (0, .fieldref 6 21), (0, .nameAndType 22 23), (0, u "refusal"), (0, u "Ljava/util/function/Supplier;"), (0, .fieldref 6 25), (0, .nameAndType 26 27), (0, u "enclosing"), (0, u "Lcom/example/hanko/hanko/access/Budget;"), (0, .fieldref 6 29), (0, .nameAndType 30 31), (0, u "steps"), (0, u "J"), (14, u "()Ljava/lang/Object;"), (15, .methodref 6 63), (0, .nameAndType 64 65), (0, u "charge"), (0, u "(J)V"), (2, u "(ILjava/lang/String;)V"), (3, u "taken"), (0, u "()J"), (1, u "lambda$new$0"), (0, u "(Ljava/lang/String;)Ljava/lang/String;"), (3, .methodType 46), (0, .methodHandle 6 82), (0, .methodref 6 83), (0, .nameAndType 75 76), (0, .methodType 85), (0, u "()Ljava/lang/String;"), (0, .methodHandle 6 87), (0, .methodref 88 89), (0, .class_ 90), (0, .nameAndType 91 92), (0, u "java/lang/invoke/LambdaMetafactory"), (0, u "metafactory"), (0, u "(Ljava/lang/invoke/MethodHandles$Lookup;Ljava/lang/String;Ljava/lang/invoke/MethodType;Ljava/lang/invoke/MethodType;Ljava/lang/invoke/MethodHandle;Ljava/lang/invoke/MethodType;)Ljava/lang/invoke/CallSite;")] 6

def k2c0 : Code := { maxStack := 4, maxLocals := 3, code := prog_1_method_1_code, exceptionTable := #[], attributes := #[] }
def k2m0 : Method := { name := "<init>", desc := "(ILjava/lang/String;)V", sig := { parameters := [.int, (.object "java/lang/String")], returnType := none }, accessFlags := 0, code := some k2c0 }
def k2c1 : Code := { maxStack := 2, maxLocals := 4, code := prog_1_method_2_code, exceptionTable := #[], attributes := #[] }
def k2m1 : Method := { name := "<init>", desc := "(ILjava/util/function/Supplier;Lcom/example/hanko/hanko/access/Budget;)V", sig := { parameters := [.int, (.object "java/util/function/Supplier"), (.object "com/example/hanko/hanko/access/Budget")], returnType := none }, accessFlags := 0, code := some k2c1 }
def k2c2 : Code := { maxStack := 2, maxLocals := 1, code := prog_1_method_3_code, exceptionTable := #[], attributes := #[] }
def k2m2 : Method := { name := "taken", desc := "()J", sig := { parameters := [], returnType := some .long }, accessFlags := 0, code := some k2c2 }
def k2c3 : Code := { maxStack := 8, maxLocals := 3, code := prog_1_method_4_code, exceptionTable := #[], attributes := #[] }
def k2m3 : Method := { name := "charge", desc := "(J)V", sig := { parameters := [.long], returnType := none }, accessFlags := 0, code := some k2c3 }
def k2c4 : Code := { maxStack := 1, maxLocals := 1, code := ⟨#[0x2a, 0xb0]⟩, exceptionTable := #[], attributes := #[] }
def k2m4 : Method := { name := "lambda$new$0", desc := "(Ljava/lang/String;)Ljava/lang/String;", sig := { parameters := [(.object "java/lang/String")], returnType := some (.object "java/lang/String") }, accessFlags := 4106, code := some k2c4 }
/-- com/example/hanko/hanko/access/Budget -/
def k2 : Class := { plain "com/example/hanko/hanko/access/Budget" (some 0) with
  accessFlags := 32
  interfaces := #[]
  cf := some (fileOf pool2 6 #[.bootstrapMethods #[⟨86, #[80, 81, 84]⟩]] #[{ accessFlags := 0, nameIndex := 9, descriptorIndex := 68, attributes := #[] }, { accessFlags := 0, nameIndex := 9, descriptorIndex := 10, attributes := #[] }, { accessFlags := 0, nameIndex := 72, descriptorIndex := 73, attributes := #[] }, { accessFlags := 0, nameIndex := 64, descriptorIndex := 65, attributes := #[] }, { accessFlags := 4106, nameIndex := 75, descriptorIndex := 76, attributes := #[] }] 32 12 #[] #[{ accessFlags := 18, nameIndex := 18, descriptorIndex := 19, attributes := #[] }, { accessFlags := 18, nameIndex := 22, descriptorIndex := 23, attributes := #[] }, { accessFlags := 18, nameIndex := 26, descriptorIndex := 27, attributes := #[] }, { accessFlags := 2, nameIndex := 30, descriptorIndex := 31, attributes := #[] }])
  fields := #[{ name := "maxSteps", type := .int, accessFlags := 18, slot := 0, constantValue := 0 }, { name := "refusal", type := (.object "java/util/function/Supplier"), accessFlags := 18, slot := 1, constantValue := 0 }, { name := "enclosing", type := (.object "com/example/hanko/hanko/access/Budget"), accessFlags := 18, slot := 2, constantValue := 0 }, { name := "steps", type := .long, accessFlags := 2, slot := 3, constantValue := 0 }]
  methods := #[k2m0, k2m1, k2m2, k2m3, k2m4]
  instanceTypes := #[.int, (.object "java/util/function/Supplier"), (.object "com/example/hanko/hanko/access/Budget"), .long]
  staticTypes := #[]
  resolved := Array.replicate 99 none
  callSites := [(0, 3, .makes 16)]
  statics := none }

def pool3 : Array CpInfo := pool [(1, .class_ 2), (0, u "java/io/Serializable"), (0, .class_ 4), (0, u "java/lang/Object")] 2

/-- java/io/Serializable -/
def k3 : Class := { plain "java/io/Serializable" (some 0) with
  accessFlags := 1537
  interfaces := #[]
  cf := some (fileOf pool3 1 #[] #[] 1537 3 #[] #[])
  fields := #[]
  methods := #[]
  instanceTypes := #[]
  staticTypes := #[]
  resolved := Array.replicate 7 none
  statics := none }

def pool4 : Array CpInfo := pool [(1, .class_ 2), (0, u "java/lang/Comparable"), (0, .class_ 4), (0, u "java/lang/Object")] 7

/-- java/lang/Comparable -/
def k4 : Class := { plain "java/lang/Comparable" (some 0) with
  accessFlags := 1537
  interfaces := #[]
  cf := some (fileOf pool4 1 #[] #[] 1537 3 #[] #[])
  fields := #[]
  methods := #[]
  instanceTypes := #[]
  staticTypes := #[]
  resolved := Array.replicate 12 none
  statics := none }

def pool5 : Array CpInfo := pool [(2, .class_ 4), (1, u "java/lang/CharSequence"), (42, .class_ 48), (0, u "java/lang/CharSequence$1CodePointIterator"), (10, .class_ 60), (0, u "java/lang/CharSequence$1CharIterator"), (5, .class_ 67), (0, u "java/lang/Object")] 63

/-- java/lang/CharSequence -/
def k5 : Class := { plain "java/lang/CharSequence" (some 0) with
  accessFlags := 1537
  interfaces := #[]
  cf := some (fileOf pool5 2 #[.nestMembers #[47, 59]] #[] 1537 66 #[] #[])
  fields := #[]
  methods := #[]
  instanceTypes := #[]
  staticTypes := #[]
  resolved := Array.replicate 131 none
  statics := none }

def pool6 : Array CpInfo := pool [(1, .class_ 2), (0, u "java/lang/constant/Constable"), (0, .class_ 4), (0, u "java/lang/Object")] 6

/-- java/lang/constant/Constable -/
def k6 : Class := { plain "java/lang/constant/Constable" (some 0) with
  accessFlags := 1537
  interfaces := #[]
  cf := some (fileOf pool6 1 #[] #[] 1537 3 #[] #[])
  fields := #[]
  methods := #[]
  instanceTypes := #[]
  staticTypes := #[]
  resolved := Array.replicate 11 none
  statics := none }

def pool7 : Array CpInfo := pool [(1, .class_ 2), (0, u "java/lang/constant/ConstantDesc"), (0, .class_ 4), (0, u "java/lang/Object")] 32

/-- java/lang/constant/ConstantDesc -/
def k7 : Class := { plain "java/lang/constant/ConstantDesc" (some 0) with
  accessFlags := 1537
  interfaces := #[]
  cf := some (fileOf pool7 1 #[] #[] 1537 3 #[] #[])
  fields := #[]
  methods := #[]
  instanceTypes := #[]
  staticTypes := #[]
  resolved := Array.replicate 37 none
  statics := none }

def pool8 : Array CpInfo := pool [(2, .class_ 4), (1, u "java/lang/Object"), (0, u "<init>"), (0, u "()V"), (3, .class_ 12), (1, u "java/lang/String"), (0, u "value"), (0, u "[B"), (2, u "coder"), (0, u "B"), (2, u "hash"), (0, u "I"), (2, u "hashIsZero"), (0, u "Z"), (13, u "COMPACT_STRINGS"), (534, .class_ 576), (0, u "java/lang/CharSequence"), (22, u "CASE_INSENSITIVE_ORDER"), (0, u "Ljava/util/Comparator;"), (500, u "serialPersistentFields"), (0, u "[Ljava/io/ObjectStreamField;"), (0, .class_ 1104), (0, u "java/lang/String$CaseInsensitiveComparator"), (1, .class_ 1107), (0, u "java/io/Serializable"), (0, .class_ 1109), (0, u "java/lang/Comparable"), (0, .class_ 1111), (0, u "java/lang/constant/Constable"), (0, .class_ 1113), (0, u "java/lang/constant/ConstantDesc"), (2, u "serialVersionUID"), (0, u "J"), (3, u "REPL"), (0, u "C"), (2, u "LATIN1"), (1, u "UTF16")] 323

def k8m0 : Method := { name := "<init>", desc := "()V", sig := { parameters := [], returnType := none }, accessFlags := 1, code := none }
/-- java/lang/String -/
def k8 : Class := { plain "java/lang/String" (some 0) with
  accessFlags := 49
  interfaces := #[3, 4, 5, 6, 7]
  cf := some (fileOf pool8 10 #[.nestMembers #[1103]] #[{ accessFlags := 1, nameIndex := 5, descriptorIndex := 6, attributes := #[] }] 49 2 #[1106, 1108, 575, 1110, 1112] #[{ accessFlags := 18, nameIndex := 13, descriptorIndex := 14, attributes := #[] }, { accessFlags := 18, nameIndex := 17, descriptorIndex := 18, attributes := #[] }, { accessFlags := 2, nameIndex := 21, descriptorIndex := 22, attributes := #[] }, { accessFlags := 2, nameIndex := 25, descriptorIndex := 26, attributes := #[] }, { accessFlags := 26, nameIndex := 1116, descriptorIndex := 1117, attributes := #[] }, { accessFlags := 24, nameIndex := 40, descriptorIndex := 26, attributes := #[] }, { accessFlags := 26, nameIndex := 1101, descriptorIndex := 1102, attributes := #[] }, { accessFlags := 26, nameIndex := 1121, descriptorIndex := 1122, attributes := #[] }, { accessFlags := 25, nameIndex := 599, descriptorIndex := 600, attributes := #[] }, { accessFlags := 24, nameIndex := 1125, descriptorIndex := 18, attributes := #[] }, { accessFlags := 24, nameIndex := 1127, descriptorIndex := 18, attributes := #[] }])
  fields := #[{ name := "value", type := (.array .byte), accessFlags := 18, slot := 0, constantValue := 0 }, { name := "coder", type := .byte, accessFlags := 18, slot := 1, constantValue := 0 }, { name := "hash", type := .int, accessFlags := 2, slot := 2, constantValue := 0 }, { name := "hashIsZero", type := .boolean, accessFlags := 2, slot := 3, constantValue := 0 }, { name := "serialVersionUID", type := .long, accessFlags := 26, slot := 0, constantValue := 0 }, { name := "COMPACT_STRINGS", type := .boolean, accessFlags := 24, slot := 1, constantValue := 0 }, { name := "serialPersistentFields", type := (.array (.object "java/io/ObjectStreamField")), accessFlags := 26, slot := 2, constantValue := 0 }, { name := "REPL", type := .char, accessFlags := 26, slot := 3, constantValue := 0 }, { name := "CASE_INSENSITIVE_ORDER", type := (.object "java/util/Comparator"), accessFlags := 25, slot := 4, constantValue := 0 }, { name := "LATIN1", type := .byte, accessFlags := 24, slot := 5, constantValue := 0 }, { name := "UTF16", type := .byte, accessFlags := 24, slot := 6, constantValue := 0 }]
  methods := #[k8m0]
  instanceTypes := #[(.array .byte), .byte, .int, .boolean]
  staticTypes := #[.long, .boolean, (.array (.object "java/io/ObjectStreamField")), .char, (.object "java/util/Comparator"), .byte, .byte]
  resolved := Array.replicate 1451 none
  statics := none }

def pool9 : Array CpInfo := pool [(1, .class_ 2), (0, u "java/util/function/Supplier"), (0, .class_ 4), (0, u "java/lang/Object"), (0, u "get"), (0, u "()Ljava/lang/Object;")] 7

def k9m0 : Method := { name := "get", desc := "()Ljava/lang/Object;", sig := { parameters := [], returnType := some (.object "java/lang/Object") }, accessFlags := 1025, code := none }
/-- java/util/function/Supplier -/
def k9 : Class := { plain "java/util/function/Supplier" (some 0) with
  accessFlags := 1537
  interfaces := #[]
  cf := some (fileOf pool9 1 #[] #[{ accessFlags := 1025, nameIndex := 5, descriptorIndex := 6, attributes := #[] }] 1537 3 #[] #[])
  fields := #[]
  methods := #[k9m0]
  instanceTypes := #[]
  staticTypes := #[]
  resolved := Array.replicate 14 none
  statics := none }

def pool10 : Array CpInfo := pool [(1, .class_ 2), (0, u "java/lang/Math"), (1, .class_ 6), (1, u "java/lang/Object"), (0, u "<init>"), (0, u "()V"), (89, .class_ 100), (1, u "java/lang/Math$RandomNumberGeneratorHolder"), (20, u "(JJ)J"), (50, u "negativeZeroFloatBits"), (0, u "J"), (2, u "negativeZeroDoubleBits"), (24, u "min"), (43, u "$assertionsDisabled"), (0, u "Z"), (91, u "twoToTheDoubleScaleDown"), (0, u "D"), (4, u "twoToTheDoubleScaleUp"), (9, u "E"), (3, u "PI"), (2, u "TAU"), (2, u "DEGREES_TO_RADIANS"), (0, u "RADIANS_TO_DEGREES")] 94

def k10m0 : Method := { name := "<init>", desc := "()V", sig := { parameters := [], returnType := none }, accessFlags := 2, code := none }
def k10c1 : Code := { maxStack := 4, maxLocals := 4, code := jdk_29_method_70_code, exceptionTable := #[], attributes := #[] }
def k10m1 : Method := { name := "min", desc := "(JJ)J", sig := { parameters := [.long, .long], returnType := some .long }, accessFlags := 9, code := some k10c1 }
/-- java/lang/Math -/
def k10 : Class := { plain "java/lang/Math" (some 0) with
  accessFlags := 49
  interfaces := #[]
  cf := some (fileOf pool10 1 #[.nestMembers #[98]] #[{ accessFlags := 2, nameIndex := 7, descriptorIndex := 8, attributes := #[] }, { accessFlags := 9, nameIndex := 201, descriptorIndex := 121, attributes := #[] }] 49 4 #[] #[{ accessFlags := 25, nameIndex := 354, descriptorIndex := 339, attributes := #[] }, { accessFlags := 25, nameIndex := 358, descriptorIndex := 339, attributes := #[] }, { accessFlags := 25, nameIndex := 361, descriptorIndex := 339, attributes := #[] }, { accessFlags := 26, nameIndex := 364, descriptorIndex := 339, attributes := #[] }, { accessFlags := 26, nameIndex := 365, descriptorIndex := 339, attributes := #[] }, { accessFlags := 26, nameIndex := 172, descriptorIndex := 173, attributes := #[] }, { accessFlags := 26, nameIndex := 176, descriptorIndex := 173, attributes := #[] }, { accessFlags := 8, nameIndex := 344, descriptorIndex := 339, attributes := #[] }, { accessFlags := 8, nameIndex := 338, descriptorIndex := 339, attributes := #[] }, { accessFlags := 4120, nameIndex := 245, descriptorIndex := 246, attributes := #[] }])
  fields := #[{ name := "E", type := .double, accessFlags := 25, slot := 0, constantValue := 0 }, { name := "PI", type := .double, accessFlags := 25, slot := 1, constantValue := 0 }, { name := "TAU", type := .double, accessFlags := 25, slot := 2, constantValue := 0 }, { name := "DEGREES_TO_RADIANS", type := .double, accessFlags := 26, slot := 3, constantValue := 0 }, { name := "RADIANS_TO_DEGREES", type := .double, accessFlags := 26, slot := 4, constantValue := 0 }, { name := "negativeZeroFloatBits", type := .long, accessFlags := 26, slot := 5, constantValue := 0 }, { name := "negativeZeroDoubleBits", type := .long, accessFlags := 26, slot := 6, constantValue := 0 }, { name := "twoToTheDoubleScaleUp", type := .double, accessFlags := 8, slot := 7, constantValue := 0 }, { name := "twoToTheDoubleScaleDown", type := .double, accessFlags := 8, slot := 8, constantValue := 0 }, { name := "$assertionsDisabled", type := .boolean, accessFlags := 4120, slot := 9, constantValue := 0 }]
  methods := #[k10m0, k10m1]
  instanceTypes := #[]
  staticTypes := #[.double, .double, .double, .double, .double, .long, .long, .double, .double, .boolean]
  resolved := Array.replicate 460 none
  statics := none }

def pool11 : Array CpInfo := pool [(1, u "java/lang/Cloneable"), (0, .class_ 1), (0, u "java/lang/Object"), (0, .class_ 3)] 3

/-- java/lang/Cloneable -/
def k11 : Class := { plain "java/lang/Cloneable" (some 0) with
  accessFlags := 1537
  interfaces := #[]
  cf := some (fileOf pool11 2 #[] #[] 1537 4 #[] #[])
  fields := #[]
  methods := #[]
  instanceTypes := #[]
  staticTypes := #[]
  resolved := Array.replicate 8 none
  statics := none }

/-- the primitive byte -/
def k12 : Class := { plain "byte" none with kind := .primitive 'B', accessFlags := 0x411 }
/-- [B -/
def k13 : Class := { plain "[B" (some 0) with kind := .array 12 .byte, interfaces := #[11, 3], accessFlags := 1041 }

/-- the primitive int -/
def k14 : Class := { plain "int" none with kind := .primitive 'I', accessFlags := 0x411 }
/-- [I -/
def k15 : Class := { plain "[I" (some 0) with kind := .array 14 .int, interfaces := #[11, 3], accessFlags := 1041 }

def classes0 : Array Class := #[k0, k1, k2, k3, k4, k5, k6, k7, k8, k9, k10, k11, k12, k13, k14, k15]
/-- the class that the rule has made for the site at 3 of com/example/hanko/hanko/access/Budget.<init> -/
def k16 : Class := Jvm.LamKit.madeRec { classes := classes0 } "com/example/hanko/hanko/access/Budget" (Jvm.Lambda.Shape.mk "java/util/function/Supplier" "get" (Jvm.ClassFile.MethodDescriptor.mk ([] : List Jvm.ClassFile.FieldType) (Option.some (Jvm.ClassFile.FieldType.object "java/lang/Object"))) ([(Jvm.ClassFile.FieldType.object "java/lang/String")] : List Jvm.ClassFile.FieldType) (6 : Nat) "com/example/hanko/hanko/access/Budget" "lambda$new$0" (Jvm.ClassFile.MethodDescriptor.mk ([(Jvm.ClassFile.FieldType.object "java/lang/String")] : List Jvm.ClassFile.FieldType) (Option.some (Jvm.ClassFile.FieldType.object "java/lang/String"))) false (Jvm.ClassFile.MethodDescriptor.mk ([] : List Jvm.ClassFile.FieldType) (Option.some (Jvm.ClassFile.FieldType.object "java/lang/String")))) 16

def heap : Heap := #[]
def classes : Array Class := #[k0, k1, k2, k3, k4, k5, k6, k7, k8, k9, k10, k11, k12, k13, k14, k15, k16]
def interned : List (Array UInt16 × Addr) := []
def slotsUsed : Nat := 0
def theMethod : MethodId := ⟨1, 1⟩
def args0 : Array Value := #[.int 5, .int 3, .long 7, .long 1, .long 2, .int 1]
def aboutOver (below : List Frame) : State where
  vm := { classes := classes, interned := interned.toArray }
  heap := heap
  slotsUsed := slotsUsed
  threads := #[{ frames := .invoking theMethod args0 :: below }]
def below0 : List Frame := [.native { method := ⟨0, 0⟩, args := #[] }]
def about1 : State := aboutOver below0
def p0 : Program := .bare "" "" ""
def e0 : Env := launch0.env 0 0 0
theorem w_frames : about1.frames = Frame.invoking theMethod args0 :: below0 := rfl
set_option maxRecDepth 65536 in
theorem w_args : argsFit about1.vm theMethod args0 = true := by decide +kernel
set_option maxRecDepth 65536 in
theorem w_heap : heapFits about1 = true := by decide +kernel
set_option maxRecDepth 65536 in
theorem w_runnable : about1.curStatus? = some .runnable := by decide +kernel
set_option maxRecDepth 65536 in
theorem w_alone : about1.alone = true := by decide +kernel
set_option maxRecDepth 65536 in
theorem w_named : about1.methodNamed? x = some theMethod := by decide +kernel
set_option maxRecDepth 65536 in
theorem w_hears : about1.hears theMethod below0 = true := by decide +kernel
set_option maxRecDepth 65536 in
theorem w_ripe : about1.ripe theMethod args0 below0 = true := by decide +kernel
theorem w_running : about1.status = .running := rfl
set_option maxRecDepth 65536 in
theorem w_room : about1.hasRoom e0.platform room_1 = true :=
  launch0.hasRoom_least _ room_1 (by decide +kernel) (by decide +kernel) (by decide +kernel) (by decide +kernel) (by decide +kernel) (by decide +kernel)
theorem allAtoms_all (ts : List Jvm.Cond) (a : Array Jvm.Value) (st : Jvm.State) : (allAtoms ts).before a st = ts.all (fun c => c.before a st) := by
  induction ts with
  | nil => rfl
  | cons c t ih =>
    show (Jvm.Cond.and c (allAtoms t)).before a st = _
    rw [Jvm.Cond.before_and, ih, List.all_cons]
def words1 : List Jvm.Cond := Jvm.Cond.code x code maxLocals ret :: tables_1
/-- a 'code' word, met by the world's own term for the bytes: nothing is compared byte by byte -/
theorem code_word {y : MethodName} {bytes : ByteArray} {mx : Nat} {rt : Option FieldType} {a : Array Value} {s : State} {m : MethodId} {meth : Method} {c : Code} (h1 : s.methodNamed? y = some m) (h2 : s.vm.method? m = some meth) (h3 : meth.code = some c) (h4 : c.code = bytes)
    (h5 : (c.maxLocals == mx && c.exceptionTable.isEmpty && decide (c.maxStack ≤ mostOperands) && decide (meth.sig.returnType = rt) && !meth.locks && decide (parseMethodDescriptor y.desc = some meth.sig)) = true) : (Jvm.Cond.code y bytes mx rt).before a s = true := by
  simp only [Bool.and_eq_true, beq_iff_eq, Bool.not_eq_true', decide_eq_true_eq] at h5
  obtain ⟨⟨⟨⟨⟨g1, g2⟩, g3⟩, g4⟩, g5⟩, g6⟩ := h5
  simp [Cond.before, Cond.holds, Cond.value, h1, h2, h3, h4, g1, g2, g3, g4, g5, g6]
def isCode : Jvm.Cond → Bool
  | .code _ _ _ _ => true
  | _ => false
theorem all_split {L : List Jvm.Cond} {P : Jvm.Cond → Bool} (h1 : L.all (fun c => isCode c || P c) = true) (h2 : ∀ c ∈ L.filter isCode, P c = true) : L.all P = true := by
  refine List.all_eq_true.mpr fun c hc => ?_
  have h := List.all_eq_true.mp h1 c hc
  rcases Bool.eq_false_or_eq_true (isCode c) with hi | hi
  · exact h2 c (List.mem_filter.mpr ⟨hc, hi⟩)
  · simpa [hi] using h
set_option maxRecDepth 65536 in
theorem w_c0 : (Jvm.Cond.code x code maxLocals ret).before args0 about1 = true := code_word (m := ⟨1, 1⟩) (meth := k1m1) (c := k1c1) (by decide +kernel) rfl rfl rfl (by decide +kernel)
set_option maxRecDepth 65536 in
theorem w_c1 : (Jvm.Cond.code ({ cls := "com/example/hanko/hanko/access/Budget", name := "<init>", desc := "(ILjava/lang/String;)V" } : Jvm.MethodName) prog_1_method_1_code (3 : Nat) (Option.none : Option Jvm.ClassFile.FieldType)).before args0 about1 = true := code_word (m := ⟨2, 0⟩) (meth := k2m0) (c := k2c0) (by decide +kernel) rfl rfl rfl (by decide +kernel)
set_option maxRecDepth 65536 in
theorem w_c2 : (Jvm.Cond.code ({ cls := "com/example/hanko/hanko/access/Budget", name := "<init>", desc := "(ILjava/util/function/Supplier;Lcom/example/hanko/hanko/access/Budget;)V" } : Jvm.MethodName) prog_1_method_2_code (4 : Nat) (Option.none : Option Jvm.ClassFile.FieldType)).before args0 about1 = true := code_word (m := ⟨2, 1⟩) (meth := k2m1) (c := k2c1) (by decide +kernel) rfl rfl rfl (by decide +kernel)
set_option maxRecDepth 65536 in
theorem w_c3 : (Jvm.Cond.code ({ cls := "java/lang/Object", name := "<init>", desc := "()V" } : Jvm.MethodName) object_method_1_code (1 : Nat) (Option.none : Option Jvm.ClassFile.FieldType)).before args0 about1 = true := code_word (m := ⟨0, 0⟩) (meth := k0m0) (c := k0c0) (by decide +kernel) rfl rfl rfl (by decide +kernel)
set_option maxRecDepth 65536 in
theorem w_c4 : (Jvm.Cond.code ({ cls := "com/example/hanko/hanko/access/Budget", name := "charge", desc := "(J)V" } : Jvm.MethodName) prog_1_method_4_code (3 : Nat) (Option.none : Option Jvm.ClassFile.FieldType)).before args0 about1 = true := code_word (m := ⟨2, 3⟩) (meth := k2m3) (c := k2c3) (by decide +kernel) rfl rfl rfl (by decide +kernel)
set_option maxRecDepth 65536 in
theorem w_c5 : (Jvm.Cond.code ({ cls := "com/example/hanko/hanko/access/Budget", name := "taken", desc := "()J" } : Jvm.MethodName) prog_1_method_3_code (1 : Nat) (Option.some Jvm.ClassFile.FieldType.long)).before args0 about1 = true := code_word (m := ⟨2, 2⟩) (meth := k2m2) (c := k2c2) (by decide +kernel) rfl rfl rfl (by decide +kernel)
set_option maxRecDepth 65536 in
theorem w_c6 : (Jvm.Cond.code ({ cls := "java/lang/Math", name := "min", desc := "(JJ)J" } : Jvm.MethodName) jdk_29_method_70_code (4 : Nat) (Option.some Jvm.ClassFile.FieldType.long)).before args0 about1 = true := code_word (m := ⟨10, 1⟩) (meth := k10m1) (c := k10c1) (by decide +kernel) rfl rfl rfl (by decide +kernel)
def codes1 : List Jvm.Cond := [Jvm.Cond.code x code maxLocals ret, Jvm.Cond.code ({ cls := "com/example/hanko/hanko/access/Budget", name := "<init>", desc := "(ILjava/lang/String;)V" } : Jvm.MethodName) prog_1_method_1_code (3 : Nat) (Option.none : Option Jvm.ClassFile.FieldType), Jvm.Cond.code ({ cls := "com/example/hanko/hanko/access/Budget", name := "<init>", desc := "(ILjava/util/function/Supplier;Lcom/example/hanko/hanko/access/Budget;)V" } : Jvm.MethodName) prog_1_method_2_code (4 : Nat) (Option.none : Option Jvm.ClassFile.FieldType), Jvm.Cond.code ({ cls := "java/lang/Object", name := "<init>", desc := "()V" } : Jvm.MethodName) object_method_1_code (1 : Nat) (Option.none : Option Jvm.ClassFile.FieldType), Jvm.Cond.code ({ cls := "com/example/hanko/hanko/access/Budget", name := "charge", desc := "(J)V" } : Jvm.MethodName) prog_1_method_4_code (3 : Nat) (Option.none : Option Jvm.ClassFile.FieldType), Jvm.Cond.code ({ cls := "com/example/hanko/hanko/access/Budget", name := "taken", desc := "()J" } : Jvm.MethodName) prog_1_method_3_code (1 : Nat) (Option.some Jvm.ClassFile.FieldType.long), Jvm.Cond.code ({ cls := "java/lang/Math", name := "min", desc := "(JJ)J" } : Jvm.MethodName) jdk_29_method_70_code (4 : Nat) (Option.some Jvm.ClassFile.FieldType.long)]
set_option maxRecDepth 65536 in
theorem codes_eq : words1.filter isCode = codes1 := rfl
theorem w_codes : ∀ c ∈ words1.filter isCode, c.before args0 about1 = true := by
  rw [codes_eq]
  intro c hc
  simp only [codes1, List.mem_cons, List.not_mem_nil, or_false] at hc
  rcases hc with rfl | rfl | rfl | rfl | rfl | rfl | rfl
  · exact w_c0
  · exact w_c1
  · exact w_c2
  · exact w_c3
  · exact w_c4
  · exact w_c5
  · exact w_c6
set_option maxRecDepth 65536 in
theorem w_t1 : (words1.take 24).all (fun c => isCode c || c.before args0 about1) = true := by decide +kernel
set_option maxRecDepth 65536 in
theorem w_t2 : ((words1.drop 24).take 24).all (fun c => isCode c || c.before args0 about1) = true := by decide +kernel
set_option maxRecDepth 65536 in
theorem w_t3 : ((words1.drop 24).drop 24).all (fun c => isCode c || c.before args0 about1) = true := by decide +kernel
theorem w_tables : (allAtoms (Jvm.Cond.code x code maxLocals ret :: tables_1)).before args0 about1 = true := by
  rw [allAtoms_all]
  show words1.all (fun c => c.before args0 about1) = true
  refine all_split ?_ w_codes
  rw [← List.take_append_drop 24 words1, List.all_append, w_t1, ← List.take_append_drop 24 (words1.drop 24), List.all_append, w_t2, w_t3]
  rfl
set_option maxRecDepth 65536 in
theorem w_case : (Jvm.Cond.and given_1 narrow_1).before args0 about1 = true := by decide +kernel
theorem w_applies : (headSpec (Jvm.Cond.code x code maxLocals ret :: tables_1) room_1).applies x e0.platform about1 = true :=
  (Spec.applies_iff w_frames).mpr ⟨w_running, w_runnable, w_alone, w_named, w_hears, w_ripe, w_room, w_tables⟩
theorem atStart : AtStart classFile x code maxLocals ret World_1 tables_1 room_1 Calls_1 rest_1 Pre_1 launch0 p0 e0 about1 theMethod args0 below0 :=
  ⟨lists_1, trivial, launch0.admits_env _ _ _, launch0.least_env, fairChoices_fair.cas, fairChoices_fair.clock, w_frames, w_args, w_heap, w_applies, trivial, trivial, w_case⟩
end start1
theorem witness_1 : WitnessClaimed_1 := ⟨start1.p0, start1.e0, start1.about1, start1.theMethod, start1.args0, start1.below0, start1.atStart⟩
end Jvm.Pilot.@@N@@
