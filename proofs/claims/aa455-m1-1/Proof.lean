import JvmDerived
import JvmDerived.Pilot.@@N@@Statement
import JvmDerived.Pilot.@@N@@Code
set_option linter.unusedVariables false
set_option linter.unusedSimpArgs false
@@BLOCK:NumsL.lean.txt@@
namespace Jvm.Own
open Sem ClassFile Op Lib Jvm.Stand Jvm.Free Jvm.LawKit Jvm.RoadKit
/-- from the state A the run comes to an end that meets G -/
def Goes (tb : Tables) (e : Env) (below : List Frame) (G : Outcome → State → Prop) (A : State) : Prop := ∃ s₂ o, Steps tb e below A s₂ ∧ s₂.status = .running ∧ Ended s₂ below o ∧ G o s₂
/-- what a body's walk may lean on throughout -/
def Ctx (p : Program) (Z s : State) (m : MethodId) (meth : Method) (c : Code) (bs : ByteArray) (own : String) (maxL : Nat) (ret : Option FieldType) : Prop :=
  p.tables.exec = Jvm.exec ∧ Z.Warmed39 s.vm ∧ c.code = bs ∧ c.maxLocals = maxL ∧ s.vm.findClass own = some m.cls ∧ meth.sig.returnType = ret ∧ meth.locks = false
section Kit
variable {p : Program} {l : Launch} {e : Env} {R : Room} {s : State} {m : MethodId} {args : Array Value} {below : List Frame} {meth : Method} {c : Code} {T : State} {locs : List Loc} {cells slots : Nat} {Z : State} {a0 : Array Value} {h : Heap} {G : Outcome → State → Prop} {bs : ByteArray} {own : String} {maxL : Nat} {ret : Option FieldType}
theorem Goes.on {tb : Tables} {A B : State} (k : ∀ t, Steps tb e below B t → Steps tb e below A t) (h : Goes tb e below G B) : Goes tb e below G A := by
  obtain ⟨s2, o, h1, h2⟩ := h
  exact ⟨s2, o, k _ h1, h2⟩
theorem Goes.to {tb : Tables} {A B : State} (q : A = B) (h : Goes tb e below G B) : Goes tb e below G A := q ▸ h
theorem body_of {y : MethodName} {bytes : ByteArray} {ws : List Cond} {as' : Array Value} {h0 : Heap} {Q : Option Value → Heap → List Loc → Prop} (hplain : plainFor y = true)
    (H : ∀ p e s m below meth c s₁ G, Ctx p Z s m meth c bytes y.cls maxL ret → meth.name = y.name → Stand p l e R s m as' below meth c s₁ [] 0 0 → s₁.heap = h0 →
      (∀ (v : Option Value) (L : List Loc) (T' : State), Q v T'.heap L → s.WarmedH T'.vm → s.sameButNew ({ T' with vm := s.vm } : State) L R.cells R.slots → G (.returned v) T') →
      Goes p.tables e below G (s₁.setTop (entryFrame m as' maxL))) :
    MetFree l y (head1 (Cond.code y bytes maxL ret :: ws) R) (fun a U => a = as' ∧ Z.Warmed39 U.vm ∧ U.heap = h0) (fun _ _ _ _ _ => True) (fun _ U o U' => ∃ v L, o = .returned v ∧ Q v U'.heap L ∧ FrameEnd U o U' L R.cells R.slots) := by
  refine MetFree.of_bodySF hplain hisR ?_
  intro p e s m args below meth c s₁ Bd hml0 hP hK
  obtain ⟨rfl, hZ, hh⟩ := hP
  exact H p e s m below meth c s₁ _ ⟨Bd.exec, hZ, Bd.bytes, hml0, findClass_of_methodNamed Bd.named, Bd.returns, BodyLoose.notSynchronized Bd⟩ (name_of_methodNamed Bd.named Bd.method).1 (Stand.of_body Bd) (by rw [← hh, Bd.state]; rfl)
    (fun v L T' hQ hW hS => ⟨v, L, rfl, hQ, ⟨_, rfl⟩, hW, hS⟩)

theorem g_iloadN (C : Ctx p Z s m meth c bs own maxL ret) (X : Stand p l e R s m args below meth c T locs cells slots) {pc pc' : Nat} {ls : Array Slot} {st : List Value} {k : Fin 4} {v : Int32} (hd : decode bs pc = .ok (.iload_n k, 1)) (hp : pc + 1 = pc') (hl : ls[k.val]? = some (.val (.int v)))
    (k : Goes p.tables e below G (T.setTop (mkF m pc' ls (.int v :: st)))) : Goes p.tables e below G (T.setTop (mkF m pc ls st)) := by
  subst hp
  exact Goes.on (fun _ k => XS.iloadN X.here C.1 rfl (hb C.2.2.1 hd) hl k) k
theorem g_iload (C : Ctx p Z s m meth c bs own maxL ret) (X : Stand p l e R s m args below meth c T locs cells slots) {pc pc' : Nat} {ls : Array Slot} {st : List Value} {k : Nat} {v : Int32} (hd : decode bs pc = .ok (.iload k, 2)) (hp : pc + 2 = pc') (hl : ls[k]? = some (.val (.int v)))
    (k : Goes p.tables e below G (T.setTop (mkF m pc' ls (.int v :: st)))) : Goes p.tables e below G (T.setTop (mkF m pc ls st)) := by
  subst hp
  exact Goes.on (fun _ k => XS.iload X.here C.1 rfl (hb C.2.2.1 hd) hl k) k
theorem g_istoreN (C : Ctx p Z s m meth c bs own maxL ret) (X : Stand p l e R s m args below meth c T locs cells slots) {pc pc' : Nat} {ls ls' : Array Slot} {st : List Value} {k : Fin 4} {v w : Int32} (hd : decode bs pc = .ok (.istore_n k, 1)) (hp : pc + 1 = pc') (hv : v = w) (hl : storeLocals ls k.val (.int w) = some ls')
    (k : Goes p.tables e below G (T.setTop (mkF m pc' ls' st))) : Goes p.tables e below G (T.setTop (mkF m pc ls (.int v :: st))) := by
  subst hp hv
  exact Goes.on (fun _ k => XS.istoreN X.here C.1 rfl (hb C.2.2.1 hd) rfl hl k) k
theorem g_istore (C : Ctx p Z s m meth c bs own maxL ret) (X : Stand p l e R s m args below meth c T locs cells slots) {pc pc' : Nat} {ls ls' : Array Slot} {st : List Value} {k : Nat} {v w : Int32} (hd : decode bs pc = .ok (.istore k, 2)) (hp : pc + 2 = pc') (hv : v = w) (hl : storeLocals ls k (.int w) = some ls')
    (k : Goes p.tables e below G (T.setTop (mkF m pc' ls' st))) : Goes p.tables e below G (T.setTop (mkF m pc ls (.int v :: st))) := by
  subst hp hv
  exact Goes.on (fun _ k => XS.istore X.here C.1 rfl (hb C.2.2.1 hd) rfl hl k) k
theorem g_lloadN (C : Ctx p Z s m meth c bs own maxL ret) (X : Stand p l e R s m args below meth c T locs cells slots) {pc pc' : Nat} {ls : Array Slot} {st : List Value} {k : Fin 4} {v : Int64} (hd : decode bs pc = .ok (.lload_n k, 1)) (hp : pc + 1 = pc') (hl : ls[k.val]? = some (.val (.long v)))
    (k : Goes p.tables e below G (T.setTop (mkF m pc' ls (.long v :: st)))) : Goes p.tables e below G (T.setTop (mkF m pc ls st)) := by
  subst hp
  exact Goes.on (fun _ k => XT.lloadN X.here C.1 rfl (hb C.2.2.1 hd) hl k) k
theorem g_lload (C : Ctx p Z s m meth c bs own maxL ret) (X : Stand p l e R s m args below meth c T locs cells slots) {pc pc' : Nat} {ls : Array Slot} {st : List Value} {k : Nat} {v : Int64} (hd : decode bs pc = .ok (.lload k, 2)) (hp : pc + 2 = pc') (hl : ls[k]? = some (.val (.long v)))
    (k : Goes p.tables e below G (T.setTop (mkF m pc' ls (.long v :: st)))) : Goes p.tables e below G (T.setTop (mkF m pc ls st)) := by
  subst hp
  exact Goes.on (fun _ k => XT.lload X.here C.1 rfl (hb C.2.2.1 hd) hl k) k
theorem g_lstoreN (C : Ctx p Z s m meth c bs own maxL ret) (X : Stand p l e R s m args below meth c T locs cells slots) {pc pc' : Nat} {ls ls' : Array Slot} {st : List Value} {k : Fin 4} {v w : Int64} (hd : decode bs pc = .ok (.lstore_n k, 1)) (hp : pc + 1 = pc') (hv : v = w) (hl : storeLocals ls k.val (.long w) = some ls')
    (k : Goes p.tables e below G (T.setTop (mkF m pc' ls' st))) : Goes p.tables e below G (T.setTop (mkF m pc ls (.long v :: st))) := by
  subst hp hv
  exact Goes.on (fun _ k => XT.lstoreN X.here C.1 rfl (hb C.2.2.1 hd) rfl hl k) k
theorem g_lstore (C : Ctx p Z s m meth c bs own maxL ret) (X : Stand p l e R s m args below meth c T locs cells slots) {pc pc' : Nat} {ls ls' : Array Slot} {st : List Value} {k : Nat} {v w : Int64} (hd : decode bs pc = .ok (.lstore k, 2)) (hp : pc + 2 = pc') (hv : v = w) (hl : storeLocals ls k (.long w) = some ls')
    (k : Goes p.tables e below G (T.setTop (mkF m pc' ls' st))) : Goes p.tables e below G (T.setTop (mkF m pc ls (.long v :: st))) := by
  subst hp hv
  exact Goes.on (fun _ k => XT.lstore X.here C.1 rfl (hb C.2.2.1 hd) rfl hl k) k
theorem g_aloadN (C : Ctx p Z s m meth c bs own maxL ret) (X : Stand p l e R s m args below meth c T locs cells slots) {pc pc' : Nat} {ls : Array Slot} {st : List Value} {k : Fin 4} {v : Value} (hd : decode bs pc = .ok (.aload_n k, 1)) (hp : pc + 1 = pc') (hl : ls[k.val]? = some (.val v)) (hv : v.isRef = true)
    (k : Goes p.tables e below G (T.setTop (mkF m pc' ls (v :: st)))) : Goes p.tables e below G (T.setTop (mkF m pc ls st)) := by
  subst hp
  exact Goes.on (fun _ k => XS.aloadN X.here C.1 rfl (hb C.2.2.1 hd) hl hv k) k
theorem g_aload (C : Ctx p Z s m meth c bs own maxL ret) (X : Stand p l e R s m args below meth c T locs cells slots) {pc pc' : Nat} {ls : Array Slot} {st : List Value} {k : Nat} {v : Value} (hd : decode bs pc = .ok (.aload k, 2)) (hp : pc + 2 = pc') (hl : ls[k]? = some (.val v)) (hv : v.isRef = true)
    (k : Goes p.tables e below G (T.setTop (mkF m pc' ls (v :: st)))) : Goes p.tables e below G (T.setTop (mkF m pc ls st)) := by
  subst hp
  exact Goes.on (fun _ k => XS.aload X.here C.1 rfl (hb C.2.2.1 hd) hl hv k) k
theorem g_astoreN (C : Ctx p Z s m meth c bs own maxL ret) (X : Stand p l e R s m args below meth c T locs cells slots) {pc pc' : Nat} {ls ls' : Array Slot} {st : List Value} {k : Fin 4} {v : Value} (hd : decode bs pc = .ok (.astore_n k, 1)) (hp : pc + 1 = pc') (hv : v.isRef = true) (hl : storeLocals ls k.val v = some ls')
    (k : Goes p.tables e below G (T.setTop (mkF m pc' ls' st))) : Goes p.tables e below G (T.setTop (mkF m pc ls (v :: st))) := by
  subst hp
  exact Goes.on (fun _ k => XS.astoreN X.here C.1 rfl (hb C.2.2.1 hd) rfl hv hl k) k
theorem g_astore (C : Ctx p Z s m meth c bs own maxL ret) (X : Stand p l e R s m args below meth c T locs cells slots) {pc pc' : Nat} {ls ls' : Array Slot} {st : List Value} {k : Nat} {v : Value} (hd : decode bs pc = .ok (.astore k, 2)) (hp : pc + 2 = pc') (hv : v.isRef = true) (hl : storeLocals ls k v = some ls')
    (k : Goes p.tables e below G (T.setTop (mkF m pc' ls' st))) : Goes p.tables e below G (T.setTop (mkF m pc ls (v :: st))) := by
  subst hp
  exact Goes.on (fun _ k => XS.astore X.here C.1 rfl (hb C.2.2.1 hd) rfl hv hl k) k
theorem g_iconst (C : Ctx p Z s m meth c bs own maxL ret) (X : Stand p l e R s m args below meth c T locs cells slots) {pc pc' : Nat} {ls : Array Slot} {st : List Value} {i : Int} {v : Int32} (hd : decode bs pc = .ok (.iconst i, 1)) (hp : pc + 1 = pc') (hv : Int32.ofInt i = v)
    (k : Goes p.tables e below G (T.setTop (mkF m pc' ls (.int v :: st)))) : Goes p.tables e below G (T.setTop (mkF m pc ls st)) := by
  subst hp hv
  exact Goes.on (fun _ k => XS.iconst X.here C.1 rfl (hb C.2.2.1 hd) k) k
theorem g_bipush (C : Ctx p Z s m meth c bs own maxL ret) (X : Stand p l e R s m args below meth c T locs cells slots) {pc pc' : Nat} {ls : Array Slot} {st : List Value} {i : Int} {v : Int32} (hd : decode bs pc = .ok (.bipush i, 2)) (hp : pc + 2 = pc') (hv : (Int8.ofInt i).toInt32 = v)
    (k : Goes p.tables e below G (T.setTop (mkF m pc' ls (.int v :: st)))) : Goes p.tables e below G (T.setTop (mkF m pc ls st)) := by
  subst hp hv
  exact Goes.on (fun _ k => XS.bipush X.here C.1 rfl (hb C.2.2.1 hd) k) k
theorem g_sipush (C : Ctx p Z s m meth c bs own maxL ret) (X : Stand p l e R s m args below meth c T locs cells slots) {pc pc' : Nat} {ls : Array Slot} {st : List Value} {i : Int} {v : Int32} (hd : decode bs pc = .ok (.sipush i, 3)) (hp : pc + 3 = pc') (hv : (Int16.ofInt i).toInt32 = v)
    (k : Goes p.tables e below G (T.setTop (mkF m pc' ls (.int v :: st)))) : Goes p.tables e below G (T.setTop (mkF m pc ls st)) := by
  subst hp hv
  exact Goes.on (fun _ k => XS.sipush X.here C.1 rfl (hb C.2.2.1 hd) k) k
theorem g_lconst (C : Ctx p Z s m meth c bs own maxL ret) (X : Stand p l e R s m args below meth c T locs cells slots) {pc pc' : Nat} {ls : Array Slot} {st : List Value} {i : Fin 2} {v : Int64} (hd : decode bs pc = .ok (.lconst i, 1)) (hp : pc + 1 = pc') (hv : Int64.ofNat i = v)
    (k : Goes p.tables e below G (T.setTop (mkF m pc' ls (.long v :: st)))) : Goes p.tables e below G (T.setTop (mkF m pc ls st)) := by
  subst hp hv
  exact Goes.on (fun _ k => XT.lconst X.here C.1 rfl (hb C.2.2.1 hd) k) k
theorem g_aconstNull (C : Ctx p Z s m meth c bs own maxL ret) (X : Stand p l e R s m args below meth c T locs cells slots) {pc pc' : Nat} {ls : Array Slot} {st : List Value}  (hd : decode bs pc = .ok (.aconst_null, 1)) (hp : pc + 1 = pc')
    (k : Goes p.tables e below G (T.setTop (mkF m pc' ls (.null :: st)))) : Goes p.tables e below G (T.setTop (mkF m pc ls st)) := by
  subst hp
  exact Goes.on (fun _ k => XS.aconstNull X.here C.1 rfl (hb C.2.2.1 hd) k) k
theorem g_iadd (C : Ctx p Z s m meth c bs own maxL ret) (X : Stand p l e R s m args below meth c T locs cells slots) {pc pc' : Nat} {ls : Array Slot} {st : List Value} {x y : Int32} (hd : decode bs pc = .ok (.iadd, 1)) (hp : pc + 1 = pc')
    (k : Goes p.tables e below G (T.setTop (mkF m pc' ls (.int (x + y) :: st)))) : Goes p.tables e below G (T.setTop (mkF m pc ls (.int y :: .int x :: st))) := by
  subst hp
  exact Goes.on (fun _ k => XS.iadd X.here C.1 rfl (hb C.2.2.1 hd) rfl k) k
theorem g_isub (C : Ctx p Z s m meth c bs own maxL ret) (X : Stand p l e R s m args below meth c T locs cells slots) {pc pc' : Nat} {ls : Array Slot} {st : List Value} {x y : Int32} (hd : decode bs pc = .ok (.isub, 1)) (hp : pc + 1 = pc')
    (k : Goes p.tables e below G (T.setTop (mkF m pc' ls (.int (x - y) :: st)))) : Goes p.tables e below G (T.setTop (mkF m pc ls (.int y :: .int x :: st))) := by
  subst hp
  exact Goes.on (fun _ k => XS.isub X.here C.1 rfl (hb C.2.2.1 hd) rfl k) k
theorem g_imul (C : Ctx p Z s m meth c bs own maxL ret) (X : Stand p l e R s m args below meth c T locs cells slots) {pc pc' : Nat} {ls : Array Slot} {st : List Value} {x y : Int32} (hd : decode bs pc = .ok (.imul, 1)) (hp : pc + 1 = pc')
    (k : Goes p.tables e below G (T.setTop (mkF m pc' ls (.int (x * y) :: st)))) : Goes p.tables e below G (T.setTop (mkF m pc ls (.int y :: .int x :: st))) := by
  subst hp
  exact Goes.on (fun _ k => XS.imul X.here C.1 rfl (hb C.2.2.1 hd) rfl k) k
theorem g_iand (C : Ctx p Z s m meth c bs own maxL ret) (X : Stand p l e R s m args below meth c T locs cells slots) {pc pc' : Nat} {ls : Array Slot} {st : List Value} {x y : Int32} (hd : decode bs pc = .ok (.iand, 1)) (hp : pc + 1 = pc')
    (k : Goes p.tables e below G (T.setTop (mkF m pc' ls (.int (x &&& y) :: st)))) : Goes p.tables e below G (T.setTop (mkF m pc ls (.int y :: .int x :: st))) := by
  subst hp
  exact Goes.on (fun _ k => XS.iand X.here C.1 rfl (hb C.2.2.1 hd) rfl k) k
theorem g_ior (C : Ctx p Z s m meth c bs own maxL ret) (X : Stand p l e R s m args below meth c T locs cells slots) {pc pc' : Nat} {ls : Array Slot} {st : List Value} {x y : Int32} (hd : decode bs pc = .ok (.ior, 1)) (hp : pc + 1 = pc')
    (k : Goes p.tables e below G (T.setTop (mkF m pc' ls (.int (x ||| y) :: st)))) : Goes p.tables e below G (T.setTop (mkF m pc ls (.int y :: .int x :: st))) := by
  subst hp
  exact Goes.on (fun _ k => XT.ior X.here C.1 rfl (hb C.2.2.1 hd) rfl k) k
theorem g_ixor (C : Ctx p Z s m meth c bs own maxL ret) (X : Stand p l e R s m args below meth c T locs cells slots) {pc pc' : Nat} {ls : Array Slot} {st : List Value} {x y : Int32} (hd : decode bs pc = .ok (.ixor, 1)) (hp : pc + 1 = pc')
    (k : Goes p.tables e below G (T.setTop (mkF m pc' ls (.int (x ^^^ y) :: st)))) : Goes p.tables e below G (T.setTop (mkF m pc ls (.int y :: .int x :: st))) := by
  subst hp
  exact Goes.on (fun _ k => XT.ixor X.here C.1 rfl (hb C.2.2.1 hd) rfl k) k
theorem g_ishl (C : Ctx p Z s m meth c bs own maxL ret) (X : Stand p l e R s m args below meth c T locs cells slots) {pc pc' : Nat} {ls : Array Slot} {st : List Value} {x y : Int32} (hd : decode bs pc = .ok (.ishl, 1)) (hp : pc + 1 = pc')
    (k : Goes p.tables e below G (T.setTop (mkF m pc' ls (.int (x <<< (y &&& 31)) :: st)))) : Goes p.tables e below G (T.setTop (mkF m pc ls (.int y :: .int x :: st))) := by
  subst hp
  exact Goes.on (fun _ k => XT.ishl X.here C.1 rfl (hb C.2.2.1 hd) rfl k) k
theorem g_ishr (C : Ctx p Z s m meth c bs own maxL ret) (X : Stand p l e R s m args below meth c T locs cells slots) {pc pc' : Nat} {ls : Array Slot} {st : List Value} {x y : Int32} (hd : decode bs pc = .ok (.ishr, 1)) (hp : pc + 1 = pc')
    (k : Goes p.tables e below G (T.setTop (mkF m pc' ls (.int (x >>> (y &&& 31)) :: st)))) : Goes p.tables e below G (T.setTop (mkF m pc ls (.int y :: .int x :: st))) := by
  subst hp
  exact Goes.on (fun _ k => XT.ishr X.here C.1 rfl (hb C.2.2.1 hd) rfl k) k
theorem g_iushr (C : Ctx p Z s m meth c bs own maxL ret) (X : Stand p l e R s m args below meth c T locs cells slots) {pc pc' : Nat} {ls : Array Slot} {st : List Value} {x y : Int32} (hd : decode bs pc = .ok (.iushr, 1)) (hp : pc + 1 = pc')
    (k : Goes p.tables e below G (T.setTop (mkF m pc' ls (.int (XT.ushr x y) :: st)))) : Goes p.tables e below G (T.setTop (mkF m pc ls (.int y :: .int x :: st))) := by
  subst hp
  exact Goes.on (fun _ k => XT.iushr X.here C.1 rfl (hb C.2.2.1 hd) rfl k) k
theorem g_ladd (C : Ctx p Z s m meth c bs own maxL ret) (X : Stand p l e R s m args below meth c T locs cells slots) {pc pc' : Nat} {ls : Array Slot} {st : List Value} {x y : Int64} (hd : decode bs pc = .ok (.ladd, 1)) (hp : pc + 1 = pc')
    (k : Goes p.tables e below G (T.setTop (mkF m pc' ls (.long (x + y) :: st)))) : Goes p.tables e below G (T.setTop (mkF m pc ls (.long y :: .long x :: st))) := by
  subst hp
  exact Goes.on (fun _ k => XT.ladd X.here C.1 rfl (hb C.2.2.1 hd) rfl k) k
theorem g_lsub (C : Ctx p Z s m meth c bs own maxL ret) (X : Stand p l e R s m args below meth c T locs cells slots) {pc pc' : Nat} {ls : Array Slot} {st : List Value} {x y : Int64} (hd : decode bs pc = .ok (.lsub, 1)) (hp : pc + 1 = pc')
    (k : Goes p.tables e below G (T.setTop (mkF m pc' ls (.long (x - y) :: st)))) : Goes p.tables e below G (T.setTop (mkF m pc ls (.long y :: .long x :: st))) := by
  subst hp
  exact Goes.on (fun _ k => XT.lsub X.here C.1 rfl (hb C.2.2.1 hd) rfl k) k
theorem g_lmul (C : Ctx p Z s m meth c bs own maxL ret) (X : Stand p l e R s m args below meth c T locs cells slots) {pc pc' : Nat} {ls : Array Slot} {st : List Value} {x y : Int64} (hd : decode bs pc = .ok (.lmul, 1)) (hp : pc + 1 = pc')
    (k : Goes p.tables e below G (T.setTop (mkF m pc' ls (.long (x * y) :: st)))) : Goes p.tables e below G (T.setTop (mkF m pc ls (.long y :: .long x :: st))) := by
  subst hp
  exact Goes.on (fun _ k => XT.lmul X.here C.1 rfl (hb C.2.2.1 hd) rfl k) k
theorem g_land (C : Ctx p Z s m meth c bs own maxL ret) (X : Stand p l e R s m args below meth c T locs cells slots) {pc pc' : Nat} {ls : Array Slot} {st : List Value} {x y : Int64} (hd : decode bs pc = .ok (.land, 1)) (hp : pc + 1 = pc')
    (k : Goes p.tables e below G (T.setTop (mkF m pc' ls (.long (x &&& y) :: st)))) : Goes p.tables e below G (T.setTop (mkF m pc ls (.long y :: .long x :: st))) := by
  subst hp
  exact Goes.on (fun _ k => XT.land X.here C.1 rfl (hb C.2.2.1 hd) rfl k) k
theorem g_lor (C : Ctx p Z s m meth c bs own maxL ret) (X : Stand p l e R s m args below meth c T locs cells slots) {pc pc' : Nat} {ls : Array Slot} {st : List Value} {x y : Int64} (hd : decode bs pc = .ok (.lor, 1)) (hp : pc + 1 = pc')
    (k : Goes p.tables e below G (T.setTop (mkF m pc' ls (.long (x ||| y) :: st)))) : Goes p.tables e below G (T.setTop (mkF m pc ls (.long y :: .long x :: st))) := by
  subst hp
  exact Goes.on (fun _ k => XT.lor X.here C.1 rfl (hb C.2.2.1 hd) rfl k) k
theorem g_lxor (C : Ctx p Z s m meth c bs own maxL ret) (X : Stand p l e R s m args below meth c T locs cells slots) {pc pc' : Nat} {ls : Array Slot} {st : List Value} {x y : Int64} (hd : decode bs pc = .ok (.lxor, 1)) (hp : pc + 1 = pc')
    (k : Goes p.tables e below G (T.setTop (mkF m pc' ls (.long (x ^^^ y) :: st)))) : Goes p.tables e below G (T.setTop (mkF m pc ls (.long y :: .long x :: st))) := by
  subst hp
  exact Goes.on (fun _ k => XT.lxor X.here C.1 rfl (hb C.2.2.1 hd) rfl k) k
theorem g_lshl (C : Ctx p Z s m meth c bs own maxL ret) (X : Stand p l e R s m args below meth c T locs cells slots) {pc pc' : Nat} {ls : Array Slot} {st : List Value} {x : Int64} {y : Int32} (hd : decode bs pc = .ok (.lshl, 1)) (hp : pc + 1 = pc')
    (k : Goes p.tables e below G (T.setTop (mkF m pc' ls (.long (x <<< (y.toInt64 &&& 63)) :: st)))) : Goes p.tables e below G (T.setTop (mkF m pc ls (.int y :: .long x :: st))) := by
  subst hp
  exact Goes.on (fun _ k => XT.lshl X.here C.1 rfl (hb C.2.2.1 hd) rfl k) k
theorem g_lshr (C : Ctx p Z s m meth c bs own maxL ret) (X : Stand p l e R s m args below meth c T locs cells slots) {pc pc' : Nat} {ls : Array Slot} {st : List Value} {x : Int64} {y : Int32} (hd : decode bs pc = .ok (.lshr, 1)) (hp : pc + 1 = pc')
    (k : Goes p.tables e below G (T.setTop (mkF m pc' ls (.long (x >>> (y.toInt64 &&& 63)) :: st)))) : Goes p.tables e below G (T.setTop (mkF m pc ls (.int y :: .long x :: st))) := by
  subst hp
  exact Goes.on (fun _ k => XT.lshr X.here C.1 rfl (hb C.2.2.1 hd) rfl k) k
theorem g_lushr (C : Ctx p Z s m meth c bs own maxL ret) (X : Stand p l e R s m args below meth c T locs cells slots) {pc pc' : Nat} {ls : Array Slot} {st : List Value} {x : Int64} {y : Int32} (hd : decode bs pc = .ok (.lushr, 1)) (hp : pc + 1 = pc')
    (k : Goes p.tables e below G (T.setTop (mkF m pc' ls (.long (XT.ushrL x y) :: st)))) : Goes p.tables e below G (T.setTop (mkF m pc ls (.int y :: .long x :: st))) := by
  subst hp
  exact Goes.on (fun _ k => XT.lushr X.here C.1 rfl (hb C.2.2.1 hd) rfl k) k
theorem g_idiv (C : Ctx p Z s m meth c bs own maxL ret) (X : Stand p l e R s m args below meth c T locs cells slots) {pc pc' : Nat} {ls : Array Slot} {st : List Value} {x y : Int32} (hd : decode bs pc = .ok (.idiv, 1)) (hp : pc + 1 = pc') (hy : y ≠ 0)
    (k : Goes p.tables e below G (T.setTop (mkF m pc' ls (.int (x / y) :: st)))) : Goes p.tables e below G (T.setTop (mkF m pc ls (.int y :: .int x :: st))) := by
  subst hp
  exact Goes.on (fun _ k => XS.idiv X.here C.1 rfl (hb C.2.2.1 hd) rfl hy k) k
theorem g_ldiv (C : Ctx p Z s m meth c bs own maxL ret) (X : Stand p l e R s m args below meth c T locs cells slots) {pc pc' : Nat} {ls : Array Slot} {st : List Value} {x y : Int64} (hd : decode bs pc = .ok (.ldiv, 1)) (hp : pc + 1 = pc') (hy : y ≠ 0)
    (k : Goes p.tables e below G (T.setTop (mkF m pc' ls (.long (x / y) :: st)))) : Goes p.tables e below G (T.setTop (mkF m pc ls (.long y :: .long x :: st))) := by
  subst hp
  exact Goes.on (fun _ k => XT.ldiv X.here C.1 rfl (hb C.2.2.1 hd) rfl hy k) k
theorem g_irem (C : Ctx p Z s m meth c bs own maxL ret) (X : Stand p l e R s m args below meth c T locs cells slots) {pc pc' : Nat} {ls : Array Slot} {st : List Value} {x y : Int32} (hd : decode bs pc = .ok (.irem, 1)) (hp : pc + 1 = pc') (hy : y ≠ 0)
    (k : Goes p.tables e below G (T.setTop (mkF m pc' ls (.int (x % y) :: st)))) : Goes p.tables e below G (T.setTop (mkF m pc ls (.int y :: .int x :: st))) := by
  subst hp
  exact Goes.on (fun _ k => iremM X C.1 rfl (hb C.2.2.1 hd) rfl hy k) k
theorem g_lrem (C : Ctx p Z s m meth c bs own maxL ret) (X : Stand p l e R s m args below meth c T locs cells slots) {pc pc' : Nat} {ls : Array Slot} {st : List Value} {x y : Int64} (hd : decode bs pc = .ok (.lrem, 1)) (hp : pc + 1 = pc') (hy : y ≠ 0)
    (k : Goes p.tables e below G (T.setTop (mkF m pc' ls (.long (x - (x / y) * y) :: st)))) : Goes p.tables e below G (T.setTop (mkF m pc ls (.long y :: .long x :: st))) := by
  subst hp
  exact Goes.on (fun _ k => XT.lrem X.here C.1 rfl (hb C.2.2.1 hd) rfl hy k) k
theorem g_ineg (C : Ctx p Z s m meth c bs own maxL ret) (X : Stand p l e R s m args below meth c T locs cells slots) {pc pc' : Nat} {ls : Array Slot} {st : List Value} {x : Int32} (hd : decode bs pc = .ok (.ineg, 1)) (hp : pc + 1 = pc')
    (k : Goes p.tables e below G (T.setTop (mkF m pc' ls (.int (-x) :: st)))) : Goes p.tables e below G (T.setTop (mkF m pc ls (.int x :: st))) := by
  subst hp
  exact Goes.on (fun _ k => XS.ineg X.here C.1 rfl (hb C.2.2.1 hd) rfl k) k
theorem g_lneg (C : Ctx p Z s m meth c bs own maxL ret) (X : Stand p l e R s m args below meth c T locs cells slots) {pc pc' : Nat} {ls : Array Slot} {st : List Value} {x : Int64} (hd : decode bs pc = .ok (.lneg, 1)) (hp : pc + 1 = pc')
    (k : Goes p.tables e below G (T.setTop (mkF m pc' ls (.long (-x) :: st)))) : Goes p.tables e below G (T.setTop (mkF m pc ls (.long x :: st))) := by
  subst hp
  exact Goes.on (fun _ k => XT.lneg X.here C.1 rfl (hb C.2.2.1 hd) rfl k) k
theorem g_i2l (C : Ctx p Z s m meth c bs own maxL ret) (X : Stand p l e R s m args below meth c T locs cells slots) {pc pc' : Nat} {ls : Array Slot} {st : List Value} {x : Int32} (hd : decode bs pc = .ok (.i2l, 1)) (hp : pc + 1 = pc')
    (k : Goes p.tables e below G (T.setTop (mkF m pc' ls (.long x.toInt64 :: st)))) : Goes p.tables e below G (T.setTop (mkF m pc ls (.int x :: st))) := by
  subst hp
  exact Goes.on (fun _ k => XT.i2l X.here C.1 rfl (hb C.2.2.1 hd) rfl k) k
theorem g_l2i (C : Ctx p Z s m meth c bs own maxL ret) (X : Stand p l e R s m args below meth c T locs cells slots) {pc pc' : Nat} {ls : Array Slot} {st : List Value} {x : Int64} (hd : decode bs pc = .ok (.l2i, 1)) (hp : pc + 1 = pc')
    (k : Goes p.tables e below G (T.setTop (mkF m pc' ls (.int x.toInt32 :: st)))) : Goes p.tables e below G (T.setTop (mkF m pc ls (.long x :: st))) := by
  subst hp
  exact Goes.on (fun _ k => XT.l2i X.here C.1 rfl (hb C.2.2.1 hd) rfl k) k
theorem g_i2c (C : Ctx p Z s m meth c bs own maxL ret) (X : Stand p l e R s m args below meth c T locs cells slots) {pc pc' : Nat} {ls : Array Slot} {st : List Value} {x : Int32} (hd : decode bs pc = .ok (.i2c, 1)) (hp : pc + 1 = pc')
    (k : Goes p.tables e below G (T.setTop (mkF m pc' ls (.int x.toUInt32.toUInt16.toUInt32.toInt32 :: st)))) : Goes p.tables e below G (T.setTop (mkF m pc ls (.int x :: st))) := by
  subst hp
  exact Goes.on (fun _ k => XT.i2c X.here C.1 rfl (hb C.2.2.1 hd) rfl k) k
theorem g_i2b (C : Ctx p Z s m meth c bs own maxL ret) (X : Stand p l e R s m args below meth c T locs cells slots) {pc pc' : Nat} {ls : Array Slot} {st : List Value} {x : Int32} (hd : decode bs pc = .ok (.i2b, 1)) (hp : pc + 1 = pc')
    (k : Goes p.tables e below G (T.setTop (mkF m pc' ls (.int x.toInt8.toInt32 :: st)))) : Goes p.tables e below G (T.setTop (mkF m pc ls (.int x :: st))) := by
  subst hp
  exact Goes.on (fun _ k => XT.i2b X.here C.1 rfl (hb C.2.2.1 hd) rfl k) k
theorem g_i2s (C : Ctx p Z s m meth c bs own maxL ret) (X : Stand p l e R s m args below meth c T locs cells slots) {pc pc' : Nat} {ls : Array Slot} {st : List Value} {x : Int32} (hd : decode bs pc = .ok (.i2s, 1)) (hp : pc + 1 = pc')
    (k : Goes p.tables e below G (T.setTop (mkF m pc' ls (.int x.toInt16.toInt32 :: st)))) : Goes p.tables e below G (T.setTop (mkF m pc ls (.int x :: st))) := by
  subst hp
  exact Goes.on (fun _ k => XT.i2s X.here C.1 rfl (hb C.2.2.1 hd) rfl k) k
theorem g_dup (C : Ctx p Z s m meth c bs own maxL ret) (X : Stand p l e R s m args below meth c T locs cells slots) {pc pc' : Nat} {ls : Array Slot} {st : List Value} {x : Value} (hd : decode bs pc = .ok (.dup, 1)) (hp : pc + 1 = pc') (hc : x.category = 1)
    (k : Goes p.tables e below G (T.setTop (mkF m pc' ls (x :: x :: st)))) : Goes p.tables e below G (T.setTop (mkF m pc ls (x :: st))) := by
  subst hp
  exact Goes.on (fun _ k => XS.dup X.here C.1 rfl (hb C.2.2.1 hd) rfl hc k) k
theorem g_dupX1 (C : Ctx p Z s m meth c bs own maxL ret) (X : Stand p l e R s m args below meth c T locs cells slots) {pc pc' : Nat} {ls : Array Slot} {st : List Value} {x y : Value} (hd : decode bs pc = .ok (.dup_x1, 1)) (hp : pc + 1 = pc') (hc : x.category = 1) (hc' : y.category = 1)
    (k : Goes p.tables e below G (T.setTop (mkF m pc' ls (x :: y :: x :: st)))) : Goes p.tables e below G (T.setTop (mkF m pc ls (x :: y :: st))) := by
  subst hp
  exact Goes.on (fun _ k => XT.dupX1 X.here C.1 rfl (hb C.2.2.1 hd) rfl hc hc' k) k
theorem g_dup2 (C : Ctx p Z s m meth c bs own maxL ret) (X : Stand p l e R s m args below meth c T locs cells slots) {pc pc' : Nat} {ls : Array Slot} {st : List Value} {x y : Value} (hd : decode bs pc = .ok (.dup2, 1)) (hp : pc + 1 = pc') (hc : x.category = 1) (hc' : y.category = 1)
    (k : Goes p.tables e below G (T.setTop (mkF m pc' ls (x :: y :: x :: y :: st)))) : Goes p.tables e below G (T.setTop (mkF m pc ls (x :: y :: st))) := by
  subst hp
  exact Goes.on (fun _ k => XT.dup2 X.here C.1 rfl (hb C.2.2.1 hd) rfl hc hc' k) k
theorem g_dup2L (C : Ctx p Z s m meth c bs own maxL ret) (X : Stand p l e R s m args below meth c T locs cells slots) {pc pc' : Nat} {ls : Array Slot} {st : List Value} {x : Int64} (hd : decode bs pc = .ok (.dup2, 1)) (hp : pc + 1 = pc')
    (k : Goes p.tables e below G (T.setTop (mkF m pc' ls (.long x :: .long x :: st)))) : Goes p.tables e below G (T.setTop (mkF m pc ls (.long x :: st))) := by
  subst hp
  exact Goes.on (fun _ k => XT.dup2L X.here C.1 rfl (hb C.2.2.1 hd) rfl k) k
theorem g_pop (C : Ctx p Z s m meth c bs own maxL ret) (X : Stand p l e R s m args below meth c T locs cells slots) {pc pc' : Nat} {ls : Array Slot} {st : List Value} {x : Value} (hd : decode bs pc = .ok (.pop, 1)) (hp : pc + 1 = pc') (hc : x.category = 1)
    (k : Goes p.tables e below G (T.setTop (mkF m pc' ls st))) : Goes p.tables e below G (T.setTop (mkF m pc ls (x :: st))) := by
  subst hp
  exact Goes.on (fun _ k => XT.pop X.here C.1 rfl (hb C.2.2.1 hd) rfl hc k) k
theorem g_iinc (C : Ctx p Z s m meth c bs own maxL ret) (X : Stand p l e R s m args below meth c T locs cells slots) {pc pc' : Nat} {ls ls' : Array Slot} {st : List Value} {k : Nat} {cst : Int} {x w : Int32} (hd : decode bs pc = .ok (.iinc k cst, 3)) (hp : pc + 3 = pc') (hl : ls[k]? = some (.val (.int x))) (hv : x + Int32.ofInt cst = w) (hl' : storeLocals ls k (.int w) = some ls')
    (k : Goes p.tables e below G (T.setTop (mkF m pc' ls' st))) : Goes p.tables e below G (T.setTop (mkF m pc ls st)) := by
  subst hp hv
  exact Goes.on (fun _ k => XS.iinc X.here C.1 rfl (hb C.2.2.1 hd) hl hl' k) k
theorem g_dloadN (C : Ctx p Z s m meth c bs own maxL ret) (X : Stand p l e R s m args below meth c T locs cells slots) {pc pc' : Nat} {ls : Array Slot} {st : List Value} {k : Fin 4} {v : UInt64} (hd : decode bs pc = .ok (.dload_n k, 1)) (hp : pc + 1 = pc') (hl : ls[k.val]? = some (.val (.double v)))
    (k : Goes p.tables e below G (T.setTop (mkF m pc' ls (.double v :: st)))) : Goes p.tables e below G (T.setTop (mkF m pc ls st)) := by
  subst hp
  exact Goes.on (fun _ k => XS.dloadN X.here C.1 rfl (hb C.2.2.1 hd) hl k) k
theorem g_dload (C : Ctx p Z s m meth c bs own maxL ret) (X : Stand p l e R s m args below meth c T locs cells slots) {pc pc' : Nat} {ls : Array Slot} {st : List Value} {k : Nat} {v : UInt64} (hd : decode bs pc = .ok (.dload k, 2)) (hp : pc + 2 = pc') (hl : ls[k]? = some (.val (.double v)))
    (k : Goes p.tables e below G (T.setTop (mkF m pc' ls (.double v :: st)))) : Goes p.tables e below G (T.setTop (mkF m pc ls st)) := by
  subst hp
  exact Goes.on (fun _ k => XS.dload X.here C.1 rfl (hb C.2.2.1 hd) hl k) k
theorem g_dstore (C : Ctx p Z s m meth c bs own maxL ret) (X : Stand p l e R s m args below meth c T locs cells slots) {pc pc' : Nat} {ls ls' : Array Slot} {st : List Value} {k : Nat} {v w : UInt64} (hd : decode bs pc = .ok (.dstore k, 2)) (hp : pc + 2 = pc') (hv : v = w) (hl : storeLocals ls k (.double w) = some ls')
    (k : Goes p.tables e below G (T.setTop (mkF m pc' ls' st))) : Goes p.tables e below G (T.setTop (mkF m pc ls (.double v :: st))) := by
  subst hp hv
  exact Goes.on (fun _ k => XS.dstore X.here C.1 rfl (hb C.2.2.1 hd) rfl hl k) k
theorem g_i2d (C : Ctx p Z s m meth c bs own maxL ret) (X : Stand p l e R s m args below meth c T locs cells slots) {pc pc' : Nat} {ls : Array Slot} {st : List Value} {x : Int32} (hd : decode bs pc = .ok (.i2d, 1)) (hp : pc + 1 = pc')
    (k : Goes p.tables e below G (T.setTop (mkF m pc' ls (.double (FP.i2d x) :: st)))) : Goes p.tables e below G (T.setTop (mkF m pc ls (.int x :: st))) := by
  subst hp
  exact Goes.on (fun _ k => XS.i2dS X.here C.1 rfl (hb C.2.2.1 hd) rfl rfl k) k
theorem g_goto (C : Ctx p Z s m meth c bs own maxL ret) (X : Stand p l e R s m args below meth c T locs cells slots) {pc pc' : Nat} {ls : Array Slot} {st : List Value} {o : Int} (hd : decode bs pc = .ok (.goto o, 3)) (ho : 0 ≤ (pc : Int) + o) (hp : ((pc : Int) + o).toNat = pc')
    (k : Goes p.tables e below G (T.setTop (mkF m pc' ls st))) : Goes p.tables e below G (T.setTop (mkF m pc ls st)) :=
  Goes.on (fun _ k => XS.goto X.here C.1 rfl (pc0 := pc) (pc' := pc') rfl (hb C.2.2.1 hd) ho hp k) k
theorem cmpL_lt (x y : Int64) : XT.cmpL x y < 0 ↔ x < y := by unfold XT.cmpL; split <;> (try split) <;> simp_all [Int64.lt_iff_toInt_lt, ← Int64.toInt_inj] <;> omega
theorem cmpL_gt (x y : Int64) : 0 < XT.cmpL x y ↔ y < x := by unfold XT.cmpL; split <;> (try split) <;> simp_all [Int64.lt_iff_toInt_lt, ← Int64.toInt_inj] <;> omega
theorem cmpL_eq (x y : Int64) : XT.cmpL x y = 0 ↔ x = y := by unfold XT.cmpL; split <;> (try split) <;> simp_all [Int64.lt_iff_toInt_lt, ← Int64.toInt_inj] <;> omega
theorem g_icmp_eq (C : Ctx p Z s m meth c bs own maxL ret) (X : Stand p l e R s m args below meth c T locs cells slots) {pc pcT pcN : Nat} {ls : Array Slot} {st : List Value} {x y : Int32} {o : Int} (hd : decode bs pc = .ok (.if_icmp .eq o, 3)) (ho : 0 ≤ (pc : Int) + o) (hp : ((pc : Int) + o).toNat = pcT) (hq : pc + 3 = pcN)
    (hyes : x = y → Goes p.tables e below G (T.setTop (mkF m pcT ls st))) (hno : ¬ x = y → Goes p.tables e below G (T.setTop (mkF m pcN ls st))) : Goes p.tables e below G (T.setTop (mkF m pc ls (.int y :: .int x :: st))) := by
  subst hq
  by_cases q : x = y
  · exact Goes.on (fun _ k => XS.icmpYes X.here C.1 rfl (pc0 := pc) (pc' := pcT) rfl (hb C.2.2.1 hd) rfl (teq q).1 ho hp k) (hyes q)
  · exact Goes.on (fun _ k => XS.icmpNo X.here C.1 rfl (hb C.2.2.1 hd) rfl (feq q).1 k) (hno q)
theorem g_if_eq (C : Ctx p Z s m meth c bs own maxL ret) (X : Stand p l e R s m args below meth c T locs cells slots) {pc pcT pcN : Nat} {ls : Array Slot} {st : List Value} {x : Int32} {o : Int} (hd : decode bs pc = .ok (.ifCond .eq o, 3)) (ho : 0 ≤ (pc : Int) + o) (hp : ((pc : Int) + o).toNat = pcT) (hq : pc + 3 = pcN)
    (hyes : x = (0 : Int32) → Goes p.tables e below G (T.setTop (mkF m pcT ls st))) (hno : ¬ x = (0 : Int32) → Goes p.tables e below G (T.setTop (mkF m pcN ls st))) : Goes p.tables e below G (T.setTop (mkF m pc ls (.int x :: st))) := by
  subst hq
  by_cases q : x = (0 : Int32)
  · exact Goes.on (fun _ k => XS.ifYes X.here C.1 rfl (pc0 := pc) (pc' := pcT) rfl (hb C.2.2.1 hd) rfl ((if0 _ _).trans (teq q).1) ho hp k) (hyes q)
  · exact Goes.on (fun _ k => XS.ifNo X.here C.1 rfl (hb C.2.2.1 hd) rfl ((if0 _ _).trans (feq q).1) k) (hno q)
theorem g_lcmp_eq (C : Ctx p Z s m meth c bs own maxL ret) (X : Stand p l e R s m args below meth c T locs cells slots) {pc pc1 pcT pcN : Nat} {ls : Array Slot} {st : List Value} {x y : Int64} {o : Int} (hd : decode bs pc = .ok (.lcmp, 1)) (h1 : pc + 1 = pc1) (hd1 : decode bs pc1 = .ok (.ifCond .eq o, 3)) (ho : 0 ≤ (pc1 : Int) + o) (hp : ((pc1 : Int) + o).toNat = pcT) (hq : pc1 + 3 = pcN)
    (hyes : x = y → Goes p.tables e below G (T.setTop (mkF m pcT ls st))) (hno : ¬ x = y → Goes p.tables e below G (T.setTop (mkF m pcN ls st))) : Goes p.tables e below G (T.setTop (mkF m pc ls (.long y :: .long x :: st))) := by
  subst h1
  exact Goes.on (fun _ k => XT.lcmp X.here C.1 rfl (hb C.2.2.1 hd) rfl k) (g_if_eq C X hd1 ho hp hq (fun q => hyes ((cmpL_eq x y).mp q)) (fun q => hno ((not_congr (cmpL_eq x y)).mp q)))
theorem g_icmp_ne (C : Ctx p Z s m meth c bs own maxL ret) (X : Stand p l e R s m args below meth c T locs cells slots) {pc pcT pcN : Nat} {ls : Array Slot} {st : List Value} {x y : Int32} {o : Int} (hd : decode bs pc = .ok (.if_icmp .ne o, 3)) (ho : 0 ≤ (pc : Int) + o) (hp : ((pc : Int) + o).toNat = pcT) (hq : pc + 3 = pcN)
    (hyes : ¬ x = y → Goes p.tables e below G (T.setTop (mkF m pcT ls st))) (hno : x = y → Goes p.tables e below G (T.setTop (mkF m pcN ls st))) : Goes p.tables e below G (T.setTop (mkF m pc ls (.int y :: .int x :: st))) := by
  subst hq
  by_cases q : x = y
  · exact Goes.on (fun _ k => XS.icmpNo X.here C.1 rfl (hb C.2.2.1 hd) rfl (teq q).2 k) (hno q)
  · exact Goes.on (fun _ k => XS.icmpYes X.here C.1 rfl (pc0 := pc) (pc' := pcT) rfl (hb C.2.2.1 hd) rfl (feq q).2 ho hp k) (hyes q)
theorem g_if_ne (C : Ctx p Z s m meth c bs own maxL ret) (X : Stand p l e R s m args below meth c T locs cells slots) {pc pcT pcN : Nat} {ls : Array Slot} {st : List Value} {x : Int32} {o : Int} (hd : decode bs pc = .ok (.ifCond .ne o, 3)) (ho : 0 ≤ (pc : Int) + o) (hp : ((pc : Int) + o).toNat = pcT) (hq : pc + 3 = pcN)
    (hyes : ¬ x = (0 : Int32) → Goes p.tables e below G (T.setTop (mkF m pcT ls st))) (hno : x = (0 : Int32) → Goes p.tables e below G (T.setTop (mkF m pcN ls st))) : Goes p.tables e below G (T.setTop (mkF m pc ls (.int x :: st))) := by
  subst hq
  by_cases q : x = (0 : Int32)
  · exact Goes.on (fun _ k => XS.ifNo X.here C.1 rfl (hb C.2.2.1 hd) rfl ((if0 _ _).trans (teq q).2) k) (hno q)
  · exact Goes.on (fun _ k => XS.ifYes X.here C.1 rfl (pc0 := pc) (pc' := pcT) rfl (hb C.2.2.1 hd) rfl ((if0 _ _).trans (feq q).2) ho hp k) (hyes q)
theorem g_lcmp_ne (C : Ctx p Z s m meth c bs own maxL ret) (X : Stand p l e R s m args below meth c T locs cells slots) {pc pc1 pcT pcN : Nat} {ls : Array Slot} {st : List Value} {x y : Int64} {o : Int} (hd : decode bs pc = .ok (.lcmp, 1)) (h1 : pc + 1 = pc1) (hd1 : decode bs pc1 = .ok (.ifCond .ne o, 3)) (ho : 0 ≤ (pc1 : Int) + o) (hp : ((pc1 : Int) + o).toNat = pcT) (hq : pc1 + 3 = pcN)
    (hyes : ¬ x = y → Goes p.tables e below G (T.setTop (mkF m pcT ls st))) (hno : x = y → Goes p.tables e below G (T.setTop (mkF m pcN ls st))) : Goes p.tables e below G (T.setTop (mkF m pc ls (.long y :: .long x :: st))) := by
  subst h1
  exact Goes.on (fun _ k => XT.lcmp X.here C.1 rfl (hb C.2.2.1 hd) rfl k) (g_if_ne C X hd1 ho hp hq (fun q => hyes ((not_congr (cmpL_eq x y)).mp q)) (fun q => hno ((cmpL_eq x y).mp q)))
theorem g_icmp_lt (C : Ctx p Z s m meth c bs own maxL ret) (X : Stand p l e R s m args below meth c T locs cells slots) {pc pcT pcN : Nat} {ls : Array Slot} {st : List Value} {x y : Int32} {o : Int} (hd : decode bs pc = .ok (.if_icmp .lt o, 3)) (ho : 0 ≤ (pc : Int) + o) (hp : ((pc : Int) + o).toNat = pcT) (hq : pc + 3 = pcN)
    (hyes : x < y → Goes p.tables e below G (T.setTop (mkF m pcT ls st))) (hno : ¬ x < y → Goes p.tables e below G (T.setTop (mkF m pcN ls st))) : Goes p.tables e below G (T.setTop (mkF m pc ls (.int y :: .int x :: st))) := by
  subst hq
  by_cases q : x < y
  · exact Goes.on (fun _ k => XS.icmpYes X.here C.1 rfl (pc0 := pc) (pc' := pcT) rfl (hb C.2.2.1 hd) rfl (tlt q).1 ho hp k) (hyes q)
  · exact Goes.on (fun _ k => XS.icmpNo X.here C.1 rfl (hb C.2.2.1 hd) rfl (flt q).1 k) (hno q)
theorem g_if_lt (C : Ctx p Z s m meth c bs own maxL ret) (X : Stand p l e R s m args below meth c T locs cells slots) {pc pcT pcN : Nat} {ls : Array Slot} {st : List Value} {x : Int32} {o : Int} (hd : decode bs pc = .ok (.ifCond .lt o, 3)) (ho : 0 ≤ (pc : Int) + o) (hp : ((pc : Int) + o).toNat = pcT) (hq : pc + 3 = pcN)
    (hyes : x < (0 : Int32) → Goes p.tables e below G (T.setTop (mkF m pcT ls st))) (hno : ¬ x < (0 : Int32) → Goes p.tables e below G (T.setTop (mkF m pcN ls st))) : Goes p.tables e below G (T.setTop (mkF m pc ls (.int x :: st))) := by
  subst hq
  by_cases q : x < (0 : Int32)
  · exact Goes.on (fun _ k => XS.ifYes X.here C.1 rfl (pc0 := pc) (pc' := pcT) rfl (hb C.2.2.1 hd) rfl ((if0 _ _).trans (tlt q).1) ho hp k) (hyes q)
  · exact Goes.on (fun _ k => XS.ifNo X.here C.1 rfl (hb C.2.2.1 hd) rfl ((if0 _ _).trans (flt q).1) k) (hno q)
theorem g_lcmp_lt (C : Ctx p Z s m meth c bs own maxL ret) (X : Stand p l e R s m args below meth c T locs cells slots) {pc pc1 pcT pcN : Nat} {ls : Array Slot} {st : List Value} {x y : Int64} {o : Int} (hd : decode bs pc = .ok (.lcmp, 1)) (h1 : pc + 1 = pc1) (hd1 : decode bs pc1 = .ok (.ifCond .lt o, 3)) (ho : 0 ≤ (pc1 : Int) + o) (hp : ((pc1 : Int) + o).toNat = pcT) (hq : pc1 + 3 = pcN)
    (hyes : x < y → Goes p.tables e below G (T.setTop (mkF m pcT ls st))) (hno : ¬ x < y → Goes p.tables e below G (T.setTop (mkF m pcN ls st))) : Goes p.tables e below G (T.setTop (mkF m pc ls (.long y :: .long x :: st))) := by
  subst h1
  exact Goes.on (fun _ k => XT.lcmp X.here C.1 rfl (hb C.2.2.1 hd) rfl k) (g_if_lt C X hd1 ho hp hq (fun q => hyes ((cmpL_lt x y).mp q)) (fun q => hno ((not_congr (cmpL_lt x y)).mp q)))
theorem g_icmp_ge (C : Ctx p Z s m meth c bs own maxL ret) (X : Stand p l e R s m args below meth c T locs cells slots) {pc pcT pcN : Nat} {ls : Array Slot} {st : List Value} {x y : Int32} {o : Int} (hd : decode bs pc = .ok (.if_icmp .ge o, 3)) (ho : 0 ≤ (pc : Int) + o) (hp : ((pc : Int) + o).toNat = pcT) (hq : pc + 3 = pcN)
    (hyes : ¬ x < y → Goes p.tables e below G (T.setTop (mkF m pcT ls st))) (hno : x < y → Goes p.tables e below G (T.setTop (mkF m pcN ls st))) : Goes p.tables e below G (T.setTop (mkF m pc ls (.int y :: .int x :: st))) := by
  subst hq
  by_cases q : x < y
  · exact Goes.on (fun _ k => XS.icmpNo X.here C.1 rfl (hb C.2.2.1 hd) rfl (tlt q).2.1 k) (hno q)
  · exact Goes.on (fun _ k => XS.icmpYes X.here C.1 rfl (pc0 := pc) (pc' := pcT) rfl (hb C.2.2.1 hd) rfl (flt q).2.1 ho hp k) (hyes q)
theorem g_if_ge (C : Ctx p Z s m meth c bs own maxL ret) (X : Stand p l e R s m args below meth c T locs cells slots) {pc pcT pcN : Nat} {ls : Array Slot} {st : List Value} {x : Int32} {o : Int} (hd : decode bs pc = .ok (.ifCond .ge o, 3)) (ho : 0 ≤ (pc : Int) + o) (hp : ((pc : Int) + o).toNat = pcT) (hq : pc + 3 = pcN)
    (hyes : ¬ x < (0 : Int32) → Goes p.tables e below G (T.setTop (mkF m pcT ls st))) (hno : x < (0 : Int32) → Goes p.tables e below G (T.setTop (mkF m pcN ls st))) : Goes p.tables e below G (T.setTop (mkF m pc ls (.int x :: st))) := by
  subst hq
  by_cases q : x < (0 : Int32)
  · exact Goes.on (fun _ k => XS.ifNo X.here C.1 rfl (hb C.2.2.1 hd) rfl ((if0 _ _).trans (tlt q).2.1) k) (hno q)
  · exact Goes.on (fun _ k => XS.ifYes X.here C.1 rfl (pc0 := pc) (pc' := pcT) rfl (hb C.2.2.1 hd) rfl ((if0 _ _).trans (flt q).2.1) ho hp k) (hyes q)
theorem g_lcmp_ge (C : Ctx p Z s m meth c bs own maxL ret) (X : Stand p l e R s m args below meth c T locs cells slots) {pc pc1 pcT pcN : Nat} {ls : Array Slot} {st : List Value} {x y : Int64} {o : Int} (hd : decode bs pc = .ok (.lcmp, 1)) (h1 : pc + 1 = pc1) (hd1 : decode bs pc1 = .ok (.ifCond .ge o, 3)) (ho : 0 ≤ (pc1 : Int) + o) (hp : ((pc1 : Int) + o).toNat = pcT) (hq : pc1 + 3 = pcN)
    (hyes : ¬ x < y → Goes p.tables e below G (T.setTop (mkF m pcT ls st))) (hno : x < y → Goes p.tables e below G (T.setTop (mkF m pcN ls st))) : Goes p.tables e below G (T.setTop (mkF m pc ls (.long y :: .long x :: st))) := by
  subst h1
  exact Goes.on (fun _ k => XT.lcmp X.here C.1 rfl (hb C.2.2.1 hd) rfl k) (g_if_ge C X hd1 ho hp hq (fun q => hyes ((not_congr (cmpL_lt x y)).mp q)) (fun q => hno ((cmpL_lt x y).mp q)))
theorem g_icmp_gt (C : Ctx p Z s m meth c bs own maxL ret) (X : Stand p l e R s m args below meth c T locs cells slots) {pc pcT pcN : Nat} {ls : Array Slot} {st : List Value} {x y : Int32} {o : Int} (hd : decode bs pc = .ok (.if_icmp .gt o, 3)) (ho : 0 ≤ (pc : Int) + o) (hp : ((pc : Int) + o).toNat = pcT) (hq : pc + 3 = pcN)
    (hyes : y < x → Goes p.tables e below G (T.setTop (mkF m pcT ls st))) (hno : ¬ y < x → Goes p.tables e below G (T.setTop (mkF m pcN ls st))) : Goes p.tables e below G (T.setTop (mkF m pc ls (.int y :: .int x :: st))) := by
  subst hq
  by_cases q : y < x
  · exact Goes.on (fun _ k => XS.icmpYes X.here C.1 rfl (pc0 := pc) (pc' := pcT) rfl (hb C.2.2.1 hd) rfl (tlt q).2.2.1 ho hp k) (hyes q)
  · exact Goes.on (fun _ k => XS.icmpNo X.here C.1 rfl (hb C.2.2.1 hd) rfl (flt q).2.2.1 k) (hno q)
theorem g_if_gt (C : Ctx p Z s m meth c bs own maxL ret) (X : Stand p l e R s m args below meth c T locs cells slots) {pc pcT pcN : Nat} {ls : Array Slot} {st : List Value} {x : Int32} {o : Int} (hd : decode bs pc = .ok (.ifCond .gt o, 3)) (ho : 0 ≤ (pc : Int) + o) (hp : ((pc : Int) + o).toNat = pcT) (hq : pc + 3 = pcN)
    (hyes : (0 : Int32) < x → Goes p.tables e below G (T.setTop (mkF m pcT ls st))) (hno : ¬ (0 : Int32) < x → Goes p.tables e below G (T.setTop (mkF m pcN ls st))) : Goes p.tables e below G (T.setTop (mkF m pc ls (.int x :: st))) := by
  subst hq
  by_cases q : (0 : Int32) < x
  · exact Goes.on (fun _ k => XS.ifYes X.here C.1 rfl (pc0 := pc) (pc' := pcT) rfl (hb C.2.2.1 hd) rfl ((if0 _ _).trans (tlt q).2.2.1) ho hp k) (hyes q)
  · exact Goes.on (fun _ k => XS.ifNo X.here C.1 rfl (hb C.2.2.1 hd) rfl ((if0 _ _).trans (flt q).2.2.1) k) (hno q)
theorem g_lcmp_gt (C : Ctx p Z s m meth c bs own maxL ret) (X : Stand p l e R s m args below meth c T locs cells slots) {pc pc1 pcT pcN : Nat} {ls : Array Slot} {st : List Value} {x y : Int64} {o : Int} (hd : decode bs pc = .ok (.lcmp, 1)) (h1 : pc + 1 = pc1) (hd1 : decode bs pc1 = .ok (.ifCond .gt o, 3)) (ho : 0 ≤ (pc1 : Int) + o) (hp : ((pc1 : Int) + o).toNat = pcT) (hq : pc1 + 3 = pcN)
    (hyes : y < x → Goes p.tables e below G (T.setTop (mkF m pcT ls st))) (hno : ¬ y < x → Goes p.tables e below G (T.setTop (mkF m pcN ls st))) : Goes p.tables e below G (T.setTop (mkF m pc ls (.long y :: .long x :: st))) := by
  subst h1
  exact Goes.on (fun _ k => XT.lcmp X.here C.1 rfl (hb C.2.2.1 hd) rfl k) (g_if_gt C X hd1 ho hp hq (fun q => hyes ((cmpL_gt x y).mp q)) (fun q => hno ((not_congr (cmpL_gt x y)).mp q)))
theorem g_icmp_le (C : Ctx p Z s m meth c bs own maxL ret) (X : Stand p l e R s m args below meth c T locs cells slots) {pc pcT pcN : Nat} {ls : Array Slot} {st : List Value} {x y : Int32} {o : Int} (hd : decode bs pc = .ok (.if_icmp .le o, 3)) (ho : 0 ≤ (pc : Int) + o) (hp : ((pc : Int) + o).toNat = pcT) (hq : pc + 3 = pcN)
    (hyes : ¬ y < x → Goes p.tables e below G (T.setTop (mkF m pcT ls st))) (hno : y < x → Goes p.tables e below G (T.setTop (mkF m pcN ls st))) : Goes p.tables e below G (T.setTop (mkF m pc ls (.int y :: .int x :: st))) := by
  subst hq
  by_cases q : y < x
  · exact Goes.on (fun _ k => XS.icmpNo X.here C.1 rfl (hb C.2.2.1 hd) rfl (tlt q).2.2.2 k) (hno q)
  · exact Goes.on (fun _ k => XS.icmpYes X.here C.1 rfl (pc0 := pc) (pc' := pcT) rfl (hb C.2.2.1 hd) rfl (flt q).2.2.2 ho hp k) (hyes q)
theorem g_if_le (C : Ctx p Z s m meth c bs own maxL ret) (X : Stand p l e R s m args below meth c T locs cells slots) {pc pcT pcN : Nat} {ls : Array Slot} {st : List Value} {x : Int32} {o : Int} (hd : decode bs pc = .ok (.ifCond .le o, 3)) (ho : 0 ≤ (pc : Int) + o) (hp : ((pc : Int) + o).toNat = pcT) (hq : pc + 3 = pcN)
    (hyes : ¬ (0 : Int32) < x → Goes p.tables e below G (T.setTop (mkF m pcT ls st))) (hno : (0 : Int32) < x → Goes p.tables e below G (T.setTop (mkF m pcN ls st))) : Goes p.tables e below G (T.setTop (mkF m pc ls (.int x :: st))) := by
  subst hq
  by_cases q : (0 : Int32) < x
  · exact Goes.on (fun _ k => XS.ifNo X.here C.1 rfl (hb C.2.2.1 hd) rfl ((if0 _ _).trans (tlt q).2.2.2) k) (hno q)
  · exact Goes.on (fun _ k => XS.ifYes X.here C.1 rfl (pc0 := pc) (pc' := pcT) rfl (hb C.2.2.1 hd) rfl ((if0 _ _).trans (flt q).2.2.2) ho hp k) (hyes q)
theorem g_lcmp_le (C : Ctx p Z s m meth c bs own maxL ret) (X : Stand p l e R s m args below meth c T locs cells slots) {pc pc1 pcT pcN : Nat} {ls : Array Slot} {st : List Value} {x y : Int64} {o : Int} (hd : decode bs pc = .ok (.lcmp, 1)) (h1 : pc + 1 = pc1) (hd1 : decode bs pc1 = .ok (.ifCond .le o, 3)) (ho : 0 ≤ (pc1 : Int) + o) (hp : ((pc1 : Int) + o).toNat = pcT) (hq : pc1 + 3 = pcN)
    (hyes : ¬ y < x → Goes p.tables e below G (T.setTop (mkF m pcT ls st))) (hno : y < x → Goes p.tables e below G (T.setTop (mkF m pcN ls st))) : Goes p.tables e below G (T.setTop (mkF m pc ls (.long y :: .long x :: st))) := by
  subst h1
  exact Goes.on (fun _ k => XT.lcmp X.here C.1 rfl (hb C.2.2.1 hd) rfl k) (g_if_le C X hd1 ho hp hq (fun q => hyes ((not_congr (cmpL_gt x y)).mp q)) (fun q => hno ((cmpL_gt x y).mp q)))
theorem g_ldc (C : Ctx p Z s m meth c bs own maxL ret) (X : Stand p l e R s m args below meth c T locs cells slots) {pc pc' : Nat} {ls : Array Slot} {st : List Value} {i : Nat} {v : Int32} (w : (Cond.constant own i v).before a0 Z = true) (hd : decode bs pc = .ok (.ldc i, 2)) (hp : pc + 2 = pc') (k : Goes p.tables e below G (T.setTop (mkF m pc' ls (.int v :: st)))) : Goes p.tables e below G (T.setTop (mkF m pc ls st)) := by
  subst hp
  exact Goes.on (fun _ k => X.ldcInt C.1 C.2.2.2.2.1 (mvT C.2.1 w) (g := mkF m pc ls st) rfl (hb C.2.2.1 hd) _ k) k
theorem g_ldc2 (C : Ctx p Z s m meth c bs own maxL ret) (X : Stand p l e R s m args below meth c T locs cells slots) {pc pc' : Nat} {ls : Array Slot} {st : List Value} {i : Nat} {v : Int64} (w : (Cond.constantLong own i v).before a0 Z = true) (hd : decode bs pc = .ok (.ldc2_w i, 3)) (hp : pc + 3 = pc') (k : Goes p.tables e below G (T.setTop (mkF m pc' ls (.long v :: st)))) : Goes p.tables e below G (T.setTop (mkF m pc ls st)) := by
  subst hp
  exact Goes.on (fun _ k => X.ldc2Long C.1 C.2.2.2.2.1 (mvT C.2.1 w) (g := mkF m pc ls st) rfl (hb C.2.2.1 hd) _ k) k
theorem g_retN {t : FieldType} (C : Ctx p Z s m meth c bs own maxL (some t)) (X : Stand p l e R s m args below meth c T locs cells slots) {Q : Option Value → Heap → List Loc → Prop} (K : ∀ (v : Option Value) (L : List Loc) (T' : State), Q v T'.heap L → s.WarmedH T'.vm → s.sameButNew ({ T' with vm := s.vm } : State) L R.cells R.slots → G (.returned v) T') {pc : Nat} {ls : Array Slot} {rest : List Value} {z : Int32} (ht : t = .boolean ∨ t = .byte ∨ t = .char ∨ t = .short) (hd : decode bs pc = .ok (.ireturn, 1)) (hc : cells ≤ R.cells) (hs : slots ≤ R.slots) (eT : T.heap = h) (hQ : Q (some (.int (nar t z))) h locs) : Goes p.tables e below G (T.setTop (mkF m pc ls (.int z :: rest))) := by
  have hlk : meth.locks = false := C.2.2.2.2.2.2
  obtain ⟨fs, hr, hrun, hended, hW, hsame⟩ := X.leave (v := some (.int (nar t z))) (fun q => by rw [C.2.2.2.2.2.1] at q; cases q) hlk
  refine ⟨_, _, ?_, hrun, hended, K _ locs _ (by show Q _ T.heap locs; rw [eT]; exact hQ) hW (hsame.mono hc hs)⟩
  exact retN X C.1 C.2.2.2.2.2.1 ht (hb C.2.2.1 hd) hr
theorem g_retI (C : Ctx p Z s m meth c bs own maxL (some .int)) (X : Stand p l e R s m args below meth c T locs cells slots) {Q : Option Value → Heap → List Loc → Prop} (K : ∀ (v : Option Value) (L : List Loc) (T' : State), Q v T'.heap L → s.WarmedH T'.vm → s.sameButNew ({ T' with vm := s.vm } : State) L R.cells R.slots → G (.returned v) T') {pc : Nat} {ls : Array Slot} {rest : List Value} {z : Int32} (hd : decode bs pc = .ok (.ireturn, 1)) (hc : cells ≤ R.cells) (hs : slots ≤ R.slots) (eT : T.heap = h) (hQ : Q (some (.int z)) h locs) : Goes p.tables e below G (T.setTop (mkF m pc ls (.int z :: rest))) := by
  have hlk : meth.locks = false := C.2.2.2.2.2.2
  obtain ⟨fs, hr, hrun, hended, hW, hsame⟩ := X.leave (v := some (.int z)) (fun q => by rw [C.2.2.2.2.2.1] at q; cases q) hlk
  refine ⟨_, _, ?_, hrun, hended, K _ locs _ (by show Q _ T.heap locs; rw [eT]; exact hQ) hW (hsame.mono hc hs)⟩
  exact retOut X C.1 (w := .int z) (i := .ireturn) C.2.2.2.2.2.1 rfl (Or.inl ⟨rfl, Or.inl rfl, z, rfl⟩) (hb C.2.2.1 hd) hr
theorem g_retJ (C : Ctx p Z s m meth c bs own maxL (some .long)) (X : Stand p l e R s m args below meth c T locs cells slots) {Q : Option Value → Heap → List Loc → Prop} (K : ∀ (v : Option Value) (L : List Loc) (T' : State), Q v T'.heap L → s.WarmedH T'.vm → s.sameButNew ({ T' with vm := s.vm } : State) L R.cells R.slots → G (.returned v) T') {pc : Nat} {ls : Array Slot} {rest : List Value} {z : Int64} (hd : decode bs pc = .ok (.lreturn, 1)) (hc : cells ≤ R.cells) (hs : slots ≤ R.slots) (eT : T.heap = h) (hQ : Q (some (.long z)) h locs) : Goes p.tables e below G (T.setTop (mkF m pc ls (.long z :: rest))) := by
  have hlk : meth.locks = false := C.2.2.2.2.2.2
  obtain ⟨fs, hr, hrun, hended, hW, hsame⟩ := X.leave (v := some (.long z)) (fun q => by rw [C.2.2.2.2.2.1] at q; cases q) hlk
  refine ⟨_, _, ?_, hrun, hended, K _ locs _ (by show Q _ T.heap locs; rw [eT]; exact hQ) hW (hsame.mono hc hs)⟩
  exact retOut X C.1 (w := .long z) (i := .lreturn) C.2.2.2.2.2.1 rfl (Or.inr (Or.inl ⟨rfl, rfl, z, rfl⟩)) (hb C.2.2.1 hd) hr
theorem g_retA {t : FieldType} (C : Ctx p Z s m meth c bs own maxL (some t)) (X : Stand p l e R s m args below meth c T locs cells slots) {Q : Option Value → Heap → List Loc → Prop} (K : ∀ (v : Option Value) (L : List Loc) (T' : State), Q v T'.heap L → s.WarmedH T'.vm → s.sameButNew ({ T' with vm := s.vm } : State) L R.cells R.slots → G (.returned v) T') {pc : Nat} {ls : Array Slot} {rest : List Value} {w : Value} (ht : t.isReference = true) (hn : narrow t w = w) (hw : w.isRef = true) (hd : decode bs pc = .ok (.areturn, 1)) (hc : cells ≤ R.cells) (hs : slots ≤ R.slots) (eT : T.heap = h) (hQ : Q (some w) h locs) : Goes p.tables e below G (T.setTop (mkF m pc ls (w :: rest))) := by
  have hlk : meth.locks = false := C.2.2.2.2.2.2
  obtain ⟨fs, hr, hrun, hended, hW, hsame⟩ := X.leave (v := some w) (fun q => by rw [C.2.2.2.2.2.1] at q; cases q) hlk
  refine ⟨_, _, ?_, hrun, hended, K _ locs _ (by show Q _ T.heap locs; rw [eT]; exact hQ) hW (hsame.mono hc hs)⟩
  exact retOut X C.1 (w := w) (i := .areturn) C.2.2.2.2.2.1 hn (Or.inr (Or.inr (Or.inr (Or.inr ⟨rfl, ht, hw⟩)))) (hb C.2.2.1 hd) hr
theorem g_retV (C : Ctx p Z s m meth c bs own maxL (none)) (X : Stand p l e R s m args below meth c T locs cells slots) {Q : Option Value → Heap → List Loc → Prop} (K : ∀ (v : Option Value) (L : List Loc) (T' : State), Q v T'.heap L → s.WarmedH T'.vm → s.sameButNew ({ T' with vm := s.vm } : State) L R.cells R.slots → G (.returned v) T') {pc : Nat} {ls : Array Slot}  (hd : decode bs pc = .ok (.return_, 1)) (hc : cells ≤ R.cells) (hs : slots ≤ R.slots) (eT : T.heap = h) (hQ : Q (none) h locs) : Goes p.tables e below G (T.setTop (mkF m pc ls [])) := by
  have hlk : meth.locks = false := C.2.2.2.2.2.2
  obtain ⟨fs, hr, hrun, hended, hW, hsame⟩ := X.leave (v := none) (fun _ => rfl) hlk
  refine ⟨_, _, ?_, hrun, hended, K _ locs _ (by show Q _ T.heap locs; rw [eT]; exact hQ) hW (hsame.mono hc hs)⟩
  exact X.returnOut C.1 C.2.2.2.2.2.1 (hb C.2.2.1 hd) hr
theorem g_getF (C : Ctx p Z s m meth c bs own maxL ret) (X : Stand p l e R s m args below meth c T locs cells slots) {pc pc' : Nat} {ls : Array Slot} {st : List Value} {R0 O n d : String} {index : Nat} {a : Addr} {v : Value} (w : (Cond.fieldLink own index R0 n d).before a0 Z = true) (via : Via Z R0 O n d) (eT : T.heap = h) (F : Fld Z h a O n d v) (hd : decode bs pc = .ok (.getfield index, 3)) (hp : pc + 3 = pc')
    (k : ∀ T' : State, Stand p l e R s m args below meth c T' locs cells slots → T'.heap = h → Goes p.tables e below G (T'.setTop (mkF m pc' ls (v :: st)))) : Goes p.tables e below G (T.setTop (mkF m pc ls (.ref a :: st))) := by
  subst hp
  obtain ⟨T', X', e', st'⟩ := getF X C.1 C.2.1 C.2.2.2.2.1 (host := "") (Or.inl w) via eT F (g := mkF m pc ls (.ref a :: st)) rfl rfl (hb C.2.2.1 hd)
  exact Goes.on (fun t k => st' t k) (k T' X' e')
theorem g_getS (C : Ctx p Z s m meth c bs own maxL ret) (X : Stand p l e R s m args below meth c T locs cells slots) {pc pc' : Nat} {ls : Array Slot} {st : List Value} {R0 O n d : String} {index : Nat} {v : Value} (w : (Cond.fieldLink own index R0 n d).before a0 Z = true) (via : Via Z R0 O n d) (eT : T.heap = h) (F : Sta Z h O n d v) (hd : decode bs pc = .ok (.getstatic index, 3)) (hp : pc + 3 = pc')
    (k : ∀ T' : State, Stand p l e R s m args below meth c T' locs cells slots → T'.heap = h → Goes p.tables e below G (T'.setTop (mkF m pc' ls (v :: st)))) : Goes p.tables e below G (T.setTop (mkF m pc ls st)) := by
  subst hp
  obtain ⟨T', X', e', st'⟩ := getS2 X C.1 C.2.1 C.2.2.2.2.1 (host := "") (Or.inl w) via eT F (g := mkF m pc ls st) rfl (hb C.2.2.1 hd)
  exact Goes.on (fun t k => st' t k) (k T' X' e')
theorem g_getFN (C : Ctx p Z s m meth c bs own maxL ret) (X : Stand p l e R s m args below meth c T locs cells slots) {pc pc' : Nat} {ls : Array Slot} {st : List Value} {R0 O n d host : String} {index : Nat} {a : Addr} {v : Value} (w : (Cond.fieldLinkNest own index R0 n d host).before a0 Z = true) (via : Via Z R0 O n d) (eT : T.heap = h) (F : Fld Z h a O n d v) (hd : decode bs pc = .ok (.getfield index, 3)) (hp : pc + 3 = pc')
    (k : ∀ T' : State, Stand p l e R s m args below meth c T' locs cells slots → T'.heap = h → Goes p.tables e below G (T'.setTop (mkF m pc' ls (v :: st)))) : Goes p.tables e below G (T.setTop (mkF m pc ls (.ref a :: st))) := by
  subst hp
  obtain ⟨T', X', e', st'⟩ := getF X C.1 C.2.1 C.2.2.2.2.1 (Or.inr w) via eT F (g := mkF m pc ls (.ref a :: st)) rfl rfl (hb C.2.2.1 hd)
  exact Goes.on (fun t k => st' t k) (k T' X' e')
theorem g_putF (C : Ctx p Z s m meth c bs own maxL ret) (X : Stand p l e R s m args below meth c T locs cells slots) {pc pc' : Nat} {ls : Array Slot} {st : List Value} {R0 O n d K : String} {index kk : Nat} {ty : FieldType} {a : Addr} {v old : Value} (w : (Cond.fieldLink own index R0 n d).before a0 Z = true) (via : Via Z R0 O n d) (eT : T.heap = h) (F : Fld Z h a O n d old) (E : Exa Z h a K) (L : (Cond.lays K O n d).before a0 Z = true ∨ ((Cond.laysFinal K O n d).before a0 Z = true ∧ own = O ∧ meth.name = "<init>")) (wi : (Cond.instantiable K kk).before a0 Z = true) (hty : parseFieldDescriptor d = some ty) (hn : narrow ty v = v) (hf : fits ty v = true) (hd : decode bs pc = .ok (.putfield index, 3)) (hp : pc + 3 = pc')
    (k : ∀ (T' : State) (h' : Heap), Stand p l e R s m args below meth c T' (locs ++ [⟨a, Jvm.RoadKit.slotOf Z O n d⟩]) cells slots → T'.heap = h' → Wr h h' a (Jvm.RoadKit.slotOf Z O n d) v → Goes p.tables e below G (T'.setTop (mkF m pc' ls st))) : Goes p.tables e below G (T.setTop (mkF m pc ls (v :: .ref a :: st))) := by
  subst hp
  obtain ⟨T', h', X', e', W', st'⟩ := putF X C.1 C.2.1 C.2.2.2.2.1 (host := "") (Or.inl w) via eT F E L wi hty hn hf (g := mkF m pc ls (v :: .ref a :: st)) rfl rfl (hb C.2.2.1 hd)
  exact Goes.on (fun t k => st' t k) (k T' h' X' e' W')
theorem g_putFN (C : Ctx p Z s m meth c bs own maxL ret) (X : Stand p l e R s m args below meth c T locs cells slots) {pc pc' : Nat} {ls : Array Slot} {st : List Value} {R0 O n d K : String} {index kk : Nat} {ty : FieldType} {a : Addr} {v old v' : Value} (w : (Cond.fieldLink own index R0 n d).before a0 Z = true) (via : Via Z R0 O n d) (eT : T.heap = h) (F : Fld Z h a O n d old) (E : Exa Z h a K) (L : (Cond.lays K O n d).before a0 Z = true ∨ ((Cond.laysFinal K O n d).before a0 Z = true ∧ own = O ∧ meth.name = "<init>")) (wi : (Cond.instantiable K kk).before a0 Z = true) (hty : parseFieldDescriptor d = some ty) (hn : narrow ty v = v') (hf : fits ty v' = true) (hd : decode bs pc = .ok (.putfield index, 3)) (hp : pc + 3 = pc')
    (k : ∀ (T' : State) (h' : Heap), Stand p l e R s m args below meth c T' (locs ++ [⟨a, Jvm.RoadKit.slotOf Z O n d⟩]) cells slots → T'.heap = h' → Wr h h' a (Jvm.RoadKit.slotOf Z O n d) v' → Goes p.tables e below G (T'.setTop (mkF m pc' ls st))) : Goes p.tables e below G (T.setTop (mkF m pc ls (v :: .ref a :: st))) := by
  subst hp
  obtain ⟨T', h', X', e', W', st'⟩ := putFN X C.1 C.2.1 C.2.2.2.2.1 w via eT F E L wi hty hn hf (g := mkF m pc ls (v :: .ref a :: st)) rfl rfl (hb C.2.2.1 hd)
  exact Goes.on (fun t k => st' t k) (k T' h' X' e' W')
theorem g_new (C : Ctx p Z s m meth c bs own maxL ret) (X : Stand p l e R s m args below meth c T locs cells slots) {pc pc' : Nat} {ls : Array Slot} {st : List Value} {K : String} {index n : Nat} (w : (Cond.classLink own index K).before a0 Z = true) (wi : (Cond.instantiable K n).before a0 Z = true) (wz : (Cond.initialized K).before a0 Z = true) (eT : T.heap = h) (hd : decode bs pc = .ok (.new index, 3)) (hp : pc + 3 = pc') (hc : cells + 1 ≤ R.cells) (hs : slots + n ≤ R.slots)
    (k : ∀ (T' : State) (h' : Heap) (b : Addr), Stand p l e R s m args below meth c T' locs (cells + 1) (slots + n) → T'.heap = h' → b = h.size → Ext h h' → Exa Z h' b K → (∀ {O nm d : String} {ty : FieldType}, Laid Z a0 K O nm d → parseFieldDescriptor d = some ty → Fld Z h' b O nm d (defaultValue ty)) → Goes p.tables e below G (T'.setTop (mkF m pc' ls (.ref b :: st)))) : Goes p.tables e below G (T.setTop (mkF m pc ls st)) := by
  subst hp
  obtain ⟨T', h', X', e', E', A', D', -, st'⟩ := newO X C.1 C.2.1 C.2.2.2.2.1 w wi wz eT (g := mkF m pc ls st) rfl (hb C.2.2.1 hd) hc hs
  exact Goes.on (fun t k => st' t k) (k T' h' h.size X' e' rfl E' A' D')
theorem g_initO (C : Ctx p Z s m meth c bs own maxL ret) (X : Stand p l e R s m args below meth c T locs cells slots) {pc pc' : Nat} {ls : Array Slot} {st : List Value} {idx : Nat} {a : Addr} (w1 : (Cond.methodLink own idx Lib.objectInit).before a0 Z = true) (w2 : (Cond.instanceMethod Lib.objectInit).before a0 Z = true) (w3 : (Cond.code Lib.objectInit ⟨#[0xb1]⟩ 1 none).before a0 Z = true) (eT : T.heap = h) (hls : ls.size = maxL) (hd : decode bs pc = .ok (.invokespecial idx, 3)) (hp : pc + 3 = pc') (hf : 1 ≤ R.frames) {W : Nat} (hW : (st.map fun v => v.category).sum ≤ W) (hl : W + 12 ≤ R.locals)
    (k : ∀ T' : State, Stand p l e R s m args below meth c T' locs cells slots → T'.heap = h → Goes p.tables e below G (T'.setTop (mkF m pc' ls st))) : Goes p.tables e below G (T.setTop (mkF m pc ls (.ref a :: st))) := by
  subst hp
  obtain ⟨T', X', e', st'⟩ := initO X C.1 C.2.1 C.2.2.2.2.1 w1 w2 w3 eT (g := mkF m pc ls (.ref a :: st)) rfl (by rw [C.2.2.2.1]; exact hls) rfl (hb C.2.2.1 hd) hf (W := W) (by show 2 * 0 + _ ≤ _; omega) hl
  exact Goes.on (fun t k => st' t k) (k T' X' e')
theorem g_callS (C : Ctx p Z s m meth c bs own maxL ret) (X : Stand p l e R s m args below meth c T locs cells slots) {pc pc' : Nat} {ls : Array Slot} {y : MethodName} {index : Nat} {bytes : ByteArray} {maxY : Nat} {retY : Option FieldType} {rm : Room} {W : Nat} {Q : Option Value → Heap → List Loc → Prop} {ps : List FieldType} {rr : Option FieldType} {argsL rest stk : List Value} (w1 : (Cond.methodLink own index y).before a0 Z = true) (w2 : (Cond.static y).before a0 Z = true) (w3 : (Cond.initialized y.cls).before a0 Z = true) (w4 : (Cond.code y bytes maxY retY).before a0 Z = true) (hy : y.cls ≠ "java/lang/invoke/MethodHandle" ∧ y.cls ≠ "java/lang/invoke/VarHandle") (hd : decode bs pc = .ok (.invokestatic index, 3)) (hM : MetFree l y (head1 [Cond.code y bytes maxY retY] rm) (fun a' U => a' = argsL.toArray ∧ Z.Warmed39 U.vm ∧ U.heap = h) (fun _ _ _ _ _ => True) (fun _ U o U' => ∃ v L, o = .returned v ∧ Q v U'.heap L ∧ FrameEnd U o U' L rm.cells rm.slots)) (hf : rm.frames + 1 ≤ R.frames) (hl : W + (maxY + 11) + rm.locals ≤ R.locals) (hls : ls.size = maxL) (hpd : parseMethodDescriptor y.desc = some ⟨ps, rr⟩) (hlen : argsL.length = ps.length) (hst : stk = argsL.reverse ++ rest) (hW : (rest.map fun v => v.category).sum ≤ W) (eT : T.heap = h) (hc : cells + rm.cells ≤ R.cells) (hs : slots + rm.slots ≤ R.slots) (hp : pc + 3 = pc')
    (k : ∀ (v : Option Value) (T' : State) (L : List Loc), Stand p l e R s m args below meth c T' (locs ++ L) (cells + rm.cells) (slots + rm.slots) → Q v T'.heap L → Goes p.tables e below G (T'.setTop (mkF m pc' ls (v.toList ++ rest)))) : Goes p.tables e below G (T.setTop (mkF m pc ls stk)) := by
  subst hp hst
  obtain ⟨v, _, ⟨T', L', k', n'⟩, -, X', ⟨L, hQ, l1, l2, l3⟩, st'⟩ := Jvm.LawKit.callS X C.1 (y := y) C.2.2.2.2.1 (mvT C.2.1 w1) (mvT C.2.1 w2) (mvT C.2.1 w3) (mvT C.2.1 w4) hy (backOf (W := W) hM C.2.1 w4 w3 hf hl) (g := mkF m pc ls (argsL.reverse ++ rest)) rfl (by rw [C.2.2.2.1]; exact hls) (argsL := argsL) (rest := rest) (lenOf hpd hlen) rfl (by show 2 * 0 + _ ≤ _; omega) (hb C.2.2.1 hd) (fun _ _ => ⟨rfl, eT, hc, hs⟩)
  dsimp only [Pt.U, Pt.locs, Pt.cells, Pt.slots] at X' l1 l2 l3 st' hQ
  subst l1 l2 l3
  exact Goes.on (fun t k => st' t k) (k v T' L X' hQ)
theorem g_callI (C : Ctx p Z s m meth c bs own maxL ret) (X : Stand p l e R s m args below meth c T locs cells slots) {pc pc' : Nat} {ls : Array Slot} {a : Addr} {y : MethodName} {index : Nat} {bytes : ByteArray} {maxY : Nat} {rm : Room} {W : Nat} {Q : Option Value → Heap → List Loc → Prop} {ps : List FieldType} {rr : Option FieldType} {argsL rest stk : List Value} (hn : y.name = "<init>") (w1 : (Cond.methodLink own index y).before a0 Z = true) (w2 : (Cond.instanceMethod y).before a0 Z = true) (w3 : (Cond.initialized y.cls).before a0 Z = true) (w4 : (Cond.code y bytes maxY none).before a0 Z = true) (hy : y.cls ≠ "java/lang/invoke/MethodHandle" ∧ y.cls ≠ "java/lang/invoke/VarHandle") (hd : decode bs pc = .ok (.invokespecial index, 3)) (hM : MetFree l y (head1 [Cond.code y bytes maxY none] rm) (fun a' U => a' = (.ref a :: argsL).toArray ∧ Z.Warmed39 U.vm ∧ U.heap = h) (fun _ _ _ _ _ => True) (fun _ U o U' => ∃ v L, o = .returned v ∧ Q v U'.heap L ∧ FrameEnd U o U' L rm.cells rm.slots)) (hf : rm.frames + 1 ≤ R.frames) (hl : W + (maxY + 11) + rm.locals ≤ R.locals) (hls : ls.size = maxL) (hpd : parseMethodDescriptor y.desc = some ⟨ps, rr⟩) (hlen : argsL.length = ps.length) (hst : stk = argsL.reverse ++ .ref a :: rest) (hW : (rest.map fun v => v.category).sum ≤ W) (eT : T.heap = h) (hc : cells + rm.cells ≤ R.cells) (hs : slots + rm.slots ≤ R.slots) (hp : pc + 3 = pc')
    (k : ∀ (v : Option Value) (T' : State) (L : List Loc), Stand p l e R s m args below meth c T' (locs ++ L) (cells + rm.cells) (slots + rm.slots) → Q v T'.heap L → Goes p.tables e below G (T'.setTop (mkF m pc' ls (v.toList ++ rest)))) : Goes p.tables e below G (T.setTop (mkF m pc ls stk)) := by
  subst hp hst
  obtain ⟨v, _, ⟨T', L', k', n'⟩, -, X', ⟨L, hQ, l1, l2, l3⟩, st'⟩ := X.specialBack C.1 (y := y) hn C.2.2.2.2.1 (mvT C.2.1 w1) (mvT C.2.1 w2) (mvT C.2.1 w4) hy (backOf (W := W) hM C.2.1 w4 w3 hf hl) (g := mkF m pc ls (argsL.reverse ++ .ref a :: rest)) rfl (by rw [C.2.2.2.1]; exact hls) (Steps.refl _) (a := a) (argsL := argsL) (rest := rest) (lenOf hpd hlen) rfl (by show 2 * 0 + _ ≤ _; omega) (hb C.2.2.1 hd) (fun _ _ => ⟨rfl, eT, hc, hs⟩)
  dsimp only [Pt.U, Pt.locs, Pt.cells, Pt.slots] at X' l1 l2 l3 st' hQ
  subst l1 l2 l3
  exact Goes.on (fun t k => st'.trans k) (k v T' L X' hQ)
theorem g_callV (C : Ctx p Z s m meth c bs own maxL ret) (X : Stand p l e R s m args below meth c T locs cells slots) {pc pc' : Nat} {ls : Array Slot} {a : Addr} {K : String} {y z : MethodName} {index : Nat} {bytes : ByteArray} {maxY : Nat} {retY : Option FieldType} {rm : Room} {W : Nat} {Q : Option Value → Heap → List Loc → Prop} {ps : List FieldType} {rr : Option FieldType} {argsL rest stk : List Value} (w1 : (Cond.methodLink own index y).before a0 Z = true) (w2 : (Cond.declares y).before a0 Z = true) (hnf : NotFace s y) (w3 : (Cond.selects K y z).before a0 Z = true) (w4 : (Cond.instanceMethod z).before a0 Z = true) (w5 : (Cond.code z bytes maxY retY).before a0 Z = true) (w6 : (Cond.initialized z.cls).before a0 Z = true) (hy : y.cls ≠ "java/lang/invoke/MethodHandle" ∧ y.cls ≠ "java/lang/invoke/VarHandle") (E : Exa Z h a K) (hd : decode bs pc = .ok (.invokevirtual index, 3)) (hM : MetFree l z (head1 [Cond.code z bytes maxY retY] rm) (fun a' U => a' = (.ref a :: argsL).toArray ∧ Z.Warmed39 U.vm ∧ U.heap = h) (fun _ _ _ _ _ => True) (fun _ U o U' => ∃ v L, o = .returned v ∧ Q v U'.heap L ∧ FrameEnd U o U' L rm.cells rm.slots)) (hf : rm.frames + 1 ≤ R.frames) (hl : W + (maxY + 11) + rm.locals ≤ R.locals) (hls : ls.size = maxL) (hpd : parseMethodDescriptor y.desc = some ⟨ps, rr⟩) (hlen : argsL.length = ps.length) (hst : stk = argsL.reverse ++ .ref a :: rest) (hW : (rest.map fun v => v.category).sum ≤ W) (eT : T.heap = h) (hc : cells + rm.cells ≤ R.cells) (hs : slots + rm.slots ≤ R.slots) (hp : pc + 3 = pc')
    (k : ∀ (v : Option Value) (T' : State) (L : List Loc), Stand p l e R s m args below meth c T' (locs ++ L) (cells + rm.cells) (slots + rm.slots) → Q v T'.heap L → Goes p.tables e below G (T'.setTop (mkF m pc' ls (v.toList ++ rest)))) : Goes p.tables e below G (T.setTop (mkF m pc ls stk)) := by
  subst hp hst
  obtain ⟨cq, kq, qa, qb, qc⟩ := isOf C.2.1 eT E
  obtain ⟨v, _, ⟨T', L', k', n'⟩, -, X', ⟨L, hQ, l1, l2, l3⟩, st'⟩ := X.virtualBack C.1 (y := y) (z := z) C.2.2.2.2.1 (mvT C.2.1 w1) (mvT C.2.1 w2) hnf (mvT C.2.1 w3) (mvT C.2.1 w4) hy (backOf (W := W) hM C.2.1 w5 w6 hf hl) qa qc (g := mkF m pc ls (argsL.reverse ++ .ref a :: rest)) rfl (by rw [C.2.2.2.1]; exact hls) (Steps.refl _) (argsL := argsL) (rest := rest) (lenOf hpd hlen) rfl (by show 2 * 0 + _ ≤ _; omega) (hb C.2.2.1 hd) (fun _ _ => ⟨rfl, eT, hc, hs⟩)
  dsimp only [Pt.U, Pt.locs, Pt.cells, Pt.slots] at X' l1 l2 l3 st' hQ
  subst l1 l2 l3
  exact Goes.on (fun t k => st'.trans k) (k v T' L X' hQ)
theorem g_callVU (C : Ctx p Z s m meth c bs own maxL ret) (X : Stand p l e R s m args below meth c T locs cells slots) {pc pc' : Nat} {ls : Array Slot} {a : Addr} {K owner : String} {y z : MethodName} {index : Nat} {bytes : ByteArray} {maxY : Nat} {retY : Option FieldType} {rm : Room} {W : Nat} {Q : Option Value → Heap → List Loc → Prop} {ps : List FieldType} {rr : Option FieldType} {argsL rest stk : List Value} (w1 : (Cond.methodLink own index y).before a0 Z = true) (w2 : (Cond.sameMethod y.cls owner y.name y.desc).before a0 Z = true) (w2' : (Cond.declares ⟨owner, y.name, y.desc⟩).before a0 Z = true) (w3 : (Cond.selects K y z).before a0 Z = true) (w4 : (Cond.instanceMethod z).before a0 Z = true) (w5 : (Cond.code z bytes maxY retY).before a0 Z = true) (w6 : (Cond.initialized z.cls).before a0 Z = true) (hy : owner ≠ "java/lang/invoke/MethodHandle" ∧ owner ≠ "java/lang/invoke/VarHandle") (E : Exa Z h a K) (hd : decode bs pc = .ok (.invokevirtual index, 3)) (hM : MetFree l z (head1 [Cond.code z bytes maxY retY] rm) (fun a' U => a' = (.ref a :: argsL).toArray ∧ Z.Warmed39 U.vm ∧ U.heap = h) (fun _ _ _ _ _ => True) (fun _ U o U' => ∃ v L, o = .returned v ∧ Q v U'.heap L ∧ FrameEnd U o U' L rm.cells rm.slots)) (hf : rm.frames + 1 ≤ R.frames) (hl : W + (maxY + 11) + rm.locals ≤ R.locals) (hls : ls.size = maxL) (hpd : parseMethodDescriptor y.desc = some ⟨ps, rr⟩) (hlen : argsL.length = ps.length) (hst : stk = argsL.reverse ++ .ref a :: rest) (hW : (rest.map fun v => v.category).sum ≤ W) (eT : T.heap = h) (hc : cells + rm.cells ≤ R.cells) (hs : slots + rm.slots ≤ R.slots) (hp : pc + 3 = pc')
    (k : ∀ (v : Option Value) (T' : State) (L : List Loc), Stand p l e R s m args below meth c T' (locs ++ L) (cells + rm.cells) (slots + rm.slots) → Q v T'.heap L → Goes p.tables e below G (T'.setTop (mkF m pc' ls (v.toList ++ rest)))) : Goes p.tables e below G (T.setTop (mkF m pc ls stk)) := by
  subst hp hst
  obtain ⟨cq, kq, qa, qb, qc⟩ := isOf C.2.1 eT E
  obtain ⟨v, _, ⟨T', L', k', n'⟩, -, X', ⟨L, hQ, l1, l2, l3⟩, st'⟩ := X.virtualBackUp C.1 (x := y) (y := z) C.2.2.2.2.1 (mvT C.2.1 w1) (mvT C.2.1 w2) (mvT C.2.1 w2') hy (mvT C.2.1 w3) (mvT C.2.1 w4) (backOf (W := W) hM C.2.1 w5 w6 hf hl) qa qc (g := mkF m pc ls (argsL.reverse ++ .ref a :: rest)) rfl (by rw [C.2.2.2.1]; exact hls) (Steps.refl _) (argsL := argsL) (rest := rest) (lenOf hpd hlen) rfl (by show 2 * 0 + _ ≤ _; omega) (hb C.2.2.1 hd) (fun _ _ => ⟨rfl, eT, hc, hs⟩)
  dsimp only [Pt.U, Pt.locs, Pt.cells, Pt.slots] at X' l1 l2 l3 st' hQ
  subst l1 l2 l3
  exact Goes.on (fun t k => st'.trans k) (k v T' L X' hQ)
theorem g_ifnullY (C : Ctx p Z s m meth c bs own maxL ret) (X : Stand p l e R s m args below meth c T locs cells slots) {pc pc' : Nat} {ls : Array Slot} {st : List Value}  {o : Int} (hd : decode bs pc = .ok (.ifnull o, 3)) (ho : 0 ≤ (pc : Int) + o) (hp : ((pc : Int) + o).toNat = pc')
    (k : Goes p.tables e below G (T.setTop (mkF m pc' ls st))) : Goes p.tables e below G (T.setTop (mkF m pc ls (.null :: st))) :=
  Goes.on (fun _ k => XS.ifnullYes X.here C.1 rfl (pc0 := pc) (pc' := pc') rfl (hb C.2.2.1 hd) rfl ho hp k) k
theorem g_ifnullN (C : Ctx p Z s m meth c bs own maxL ret) (X : Stand p l e R s m args below meth c T locs cells slots) {pc pc' : Nat} {ls : Array Slot} {st : List Value} {b : Addr} {o : Int} (hd : decode bs pc = .ok (.ifnull o, 3)) (hp : pc + 3 = pc')
    (k : Goes p.tables e below G (T.setTop (mkF m pc' ls st))) : Goes p.tables e below G (T.setTop (mkF m pc ls (.ref b :: st))) := by
  subst hp
  exact Goes.on (fun _ k => XS.ifnullNo X.here C.1 rfl (hb C.2.2.1 hd) rfl k) k
theorem g_ifnonnullY (C : Ctx p Z s m meth c bs own maxL ret) (X : Stand p l e R s m args below meth c T locs cells slots) {pc pc' : Nat} {ls : Array Slot} {st : List Value} {b : Addr} {o : Int} (hd : decode bs pc = .ok (.ifnonnull o, 3)) (ho : 0 ≤ (pc : Int) + o) (hp : ((pc : Int) + o).toNat = pc')
    (k : Goes p.tables e below G (T.setTop (mkF m pc' ls st))) : Goes p.tables e below G (T.setTop (mkF m pc ls (.ref b :: st))) :=
  Goes.on (fun _ k => XT.ifnonnullYes X.here C.1 rfl (pc0 := pc) (pc' := pc') rfl (hb C.2.2.1 hd) rfl ho hp k) k
theorem g_ifnonnullN (C : Ctx p Z s m meth c bs own maxL ret) (X : Stand p l e R s m args below meth c T locs cells slots) {pc pc' : Nat} {ls : Array Slot} {st : List Value}  {o : Int} (hd : decode bs pc = .ok (.ifnonnull o, 3)) (hp : pc + 3 = pc')
    (k : Goes p.tables e below G (T.setTop (mkF m pc' ls st))) : Goes p.tables e below G (T.setTop (mkF m pc ls (.null :: st))) := by
  subst hp
  exact Goes.on (fun _ k => XT.ifnonnullNo X.here C.1 rfl (hb C.2.2.1 hd) rfl k) k
theorem g_acmp_eq (C : Ctx p Z s m meth c bs own maxL ret) (X : Stand p l e R s m args below meth c T locs cells slots) {pc pcT pcN : Nat} {ls : Array Slot} {st : List Value} {x y : Value} {o : Int} (h1 : x.isRef = true) (h2 : y.isRef = true) (hd : decode bs pc = .ok (.if_acmp .eq o, 3)) (ho : 0 ≤ (pc : Int) + o) (hp : ((pc : Int) + o).toNat = pcT) (hq : pc + 3 = pcN)
    (hyes : x = y → Goes p.tables e below G (T.setTop (mkF m pcT ls st))) (hno : ¬ x = y → Goes p.tables e below G (T.setTop (mkF m pcN ls st))) : Goes p.tables e below G (T.setTop (mkF m pc ls (y :: x :: st))) := by
  subst hq
  by_cases q : x = y
  · exact Goes.on (fun _ k => XT.acmpYes X.here C.1 rfl (pc0 := pc) (pc' := pcT) rfl (hb C.2.2.1 hd) rfl h1 h2 (by simp [XT.acmp, q]) ho hp k) (hyes q)
  · exact Goes.on (fun _ k => XT.acmpNo X.here C.1 rfl (hb C.2.2.1 hd) rfl h1 h2 (by simp [XT.acmp, q]) k) (hno q)
theorem g_acmp_ne (C : Ctx p Z s m meth c bs own maxL ret) (X : Stand p l e R s m args below meth c T locs cells slots) {pc pcT pcN : Nat} {ls : Array Slot} {st : List Value} {x y : Value} {o : Int} (h1 : x.isRef = true) (h2 : y.isRef = true) (hd : decode bs pc = .ok (.if_acmp .ne o, 3)) (ho : 0 ≤ (pc : Int) + o) (hp : ((pc : Int) + o).toNat = pcT) (hq : pc + 3 = pcN)
    (hyes : ¬ x = y → Goes p.tables e below G (T.setTop (mkF m pcT ls st))) (hno : x = y → Goes p.tables e below G (T.setTop (mkF m pcN ls st))) : Goes p.tables e below G (T.setTop (mkF m pc ls (y :: x :: st))) := by
  subst hq
  by_cases q : x = y
  · exact Goes.on (fun _ k => XT.acmpNo X.here C.1 rfl (hb C.2.2.1 hd) rfl h1 h2 (by simp [XT.acmp, q]) k) (hno q)
  · exact Goes.on (fun _ k => XT.acmpYes X.here C.1 rfl (pc0 := pc) (pc' := pcT) rfl (hb C.2.2.1 hd) rfl h1 h2 (by simp [XT.acmp, q]) ho hp k) (hyes q)
theorem g_tsw (C : Ctx p Z s m meth c bs own maxL ret) (X : Stand p l e R s m args below meth c T locs cells slots) {pc pc' : Nat} {ls : Array Slot} {st : List Value} {dflt low high : Int} {offs : Array Int} {len : Nat} {o : Int} {i : Int32} (hd : decode bs pc = .ok (.tableswitch dflt low high offs, len)) (hin : ¬ (i.toInt < low ∨ i.toInt > high)) (hoff : offs[(i.toInt - low).toNat]? = some o) (ho : 0 ≤ (pc : Int) + o) (hp : ((pc : Int) + o).toNat = pc')
    (k : Goes p.tables e below G (T.setTop (mkF m pc' ls st))) : Goes p.tables e below G (T.setTop (mkF m pc ls (.int i :: st))) :=
  Goes.on (fun _ k => XS.tswIn X.here C.1 rfl (pc0 := pc) (pc' := pc') rfl (hb C.2.2.1 hd) rfl hin hoff ho hp k) k
theorem ne_of_fld {a b : Addr} {K n d : String} {v w : Value} (F : Fld Z h a K n d v) (F' : Fld Z h b K n d w) (hv : v ≠ w) : a ≠ b := fun q => by
  subst q
  obtain ⟨c1, f1, k1, i1, g1, a1, a2, -, -, -, -, a7⟩ := F
  obtain ⟨c2, f2, k2, i2, g2, b1, b2, -, -, -, -, b7⟩ := F'
  cases a1.symm.trans b1
  cases a2.symm.trans b2
  exact hv (Option.some.inj (a7.symm.trans b7))
theorem ref_of_exactly {t : Term} {K : String} (hx : (Cond.exactly t K).value args s none s [] = some true) : ∃ a, t.eval args s none [] s = some (.ref a) ∧ Exa s s.heap a K := by
  obtain ⟨a, -, -, -, e1, -⟩ := Cond.exactly_spec (Cond.before_iff.mpr hx)
  exact ⟨a, e1, Exa.start e1 hx⟩
theorem fldI_of {t : Term} {K n d : String} {k : Int32} {a : Addr} (ht : t.eval args s none [] s = some (.ref a)) (hx : (Cond.eq (.field t K n d) (.int k)).value args s none s [] = some true) : Fld s s.heap a K n d (.int k) := by
  obtain ⟨x, y, e1, e2, k1, k2⟩ := cmp_v (Or.inl hx)
  have e3 : y = .int k := (Option.some.inj e2).symm
  subst e3
  obtain ⟨z, rfl⟩ : ∃ z, x = .int z := k2
  have e4 := e1
  rw [fld_at ht] at e4
  have e5 : z = k := by
    simp only [Cond.value, e1, e2] at hx
    simpa using hx
  subst e5
  exact Fld.start e4
theorem fldN_of {t : Term} {K n d : String} {a : Addr} (ht : t.eval args s none [] s = some (.ref a)) (hx : (Cond.eq (.field t K n d) .null).value args s none s [] = some true) : Fld s s.heap a K n d .null := by
  have e := null_v hx
  rw [fld_at ht] at e
  exact Fld.start e
theorem fldR_of {t u : Term} {K n d : String} {a b : Addr} (ht : t.eval args s none [] s = some (.ref a)) (hu : u.eval args s none [] s = some (.ref b)) (hx : (Cond.eq (.field t K n d) u).value args s none s [] = some true) : Fld s s.heap a K n d (.ref b) := by
  obtain ⟨x, y, e1, e2, k1, k2⟩ := cmp_v (Or.inl hx)
  cases e2.symm.trans hu
  have hr : x.isRef = true := k2.2
  have e5 := gotT (eq_R e1 e2 hr rfl) hx
  subst e5
  rw [fld_at ht] at e1
  exact Fld.start e1
end Kit
end Jvm.Own

namespace Jvm.Pilot.@@N@@
open Jvm Jvm.ClassFile Sem Op Lib Jvm.Free Jvm.Stand Jvm.LawKit Jvm.RoadKit Jvm.Own Bundle Jvm.Pilot.@@N@@.Jvm.D
theorem ef_2 (m : MethodId) (x0 : Int64) (x1 : Int64) : entryFrame m #[(.long x0), (.long x1)] 4 = mkF m 0 #[.val (.long x0), .second, .val (.long x1), .second] [] := by first | (simp [entryFrame, mkF, argsToLocals, Value.category]; done) | rfl
theorem d2_0 : decode jdk_29_method_70_code 0 = .ok (.lload_n 0, 1) := by decide +kernel
theorem d2_1 : decode jdk_29_method_70_code 1 = .ok (.lload_n 2, 1) := by decide +kernel
theorem d2_2 : decode jdk_29_method_70_code 2 = .ok (.lcmp, 1) := by decide +kernel
theorem d2_3 : decode jdk_29_method_70_code 3 = .ok (.ifCond .gt 7, 3) := by decide +kernel
theorem d2_10 : decode jdk_29_method_70_code 10 = .ok (.lload_n 2, 1) := by decide +kernel
theorem d2_11 : decode jdk_29_method_70_code 11 = .ok (.lreturn, 1) := by decide +kernel
theorem d2_6 : decode jdk_29_method_70_code 6 = .ok (.lload_n 0, 1) := by decide +kernel
theorem d2_7 : decode jdk_29_method_70_code 7 = .ok (.goto 4, 3) := by decide +kernel
def fMin (x0 : Int64) (x1 : Int64) : Int64 := if x1 < x0 then x1 else x0
def Q2 (Z : State) (x0 : Int64) (x1 : Int64) (h0 : Heap) (n0 : Nat) (v : Option Value) (h : Heap) (L : List Loc) : Prop := v = some (.long (fMin x0 x1)) ∧ Fr n0 L ∧ h = h0
set_option maxRecDepth 65536 in
set_option maxHeartbeats 40000000 in
theorem rm2 (l : Launch) (Z : State) (a0 : Array Value) (hw : ∀ d ∈ tables_1, d.before a0 Z = true) (ws : List Jvm.Cond) (x0 : Int64) (x1 : Int64) (h0 : Heap) (n0 : Nat) (Z0 : n0 ≤ h0.size) :
    MetFree l (⟨"java/lang/Math", "min", "(JJ)J"⟩ : MethodName) (head1 (Jvm.Cond.code (⟨"java/lang/Math", "min", "(JJ)J"⟩ : MethodName) jdk_29_method_70_code 4 (some .long) :: ws) ({ frames := 0, cells := 0, slots := 0, locals := 0 } : Room)) (fun a U => a = #[(.long x0), (.long x1)] ∧ Z.Warmed39 U.vm ∧ U.heap = h0) (fun _ _ _ _ _ => True) (fun _ U o U' => ∃ v L, o = .returned v ∧ Q2 Z x0 x1 h0 n0 v U'.heap L ∧ FrameEnd U o U' L ({ frames := 0, cells := 0, slots := 0, locals := 0 } : Room).cells ({ frames := 0, cells := 0, slots := 0, locals := 0 } : Room).slots) := by
  refine body_of (y := (⟨"java/lang/Math", "min", "(JJ)J"⟩ : MethodName)) (Q := Q2 Z x0 x1 h0 n0) (Jvm.Free.JP.mathPlain rfl (by decide +kernel)) ?_
  intro p e s m below meth c T0 G C hnm X0 e0 K
  have N0 := Fr.nil n0
  refine Goes.to (congrArg T0.setTop (ef_2 m x0 x1)) ?_
  refine g_lloadN C X0 d2_0 (pc' := 1) rfl rfl ?_
  refine g_lloadN C X0 d2_1 (pc' := 2) rfl rfl ?_
  refine g_lcmp_gt C X0 d2_2 (pc1 := 3) rfl d2_3 (pcT := 10) (pcN := 6) (by decide) (by decide) rfl (fun hc3 => ?_) (fun hc3 => ?_)
  · refine g_lloadN C X0 d2_10 (pc' := 11) rfl rfl ?_
    exact g_retJ C X0 K d2_11 (by decide) (by decide) e0 ⟨by (unfold fMin; rw [if_pos hc3]) <;> rfl, N0, rfl⟩
  · refine g_lloadN C X0 d2_6 (pc' := 7) rfl rfl ?_
    refine g_goto C X0 d2_7 (pc' := 11) (by decide) (by decide) ?_
    exact g_retJ C X0 K d2_11 (by decide) (by decide) e0 ⟨by (unfold fMin; rw [if_neg hc3]) <;> rfl, N0, rfl⟩
theorem ef_1 (m : MethodId) (x0 : Int64) : entryFrame m #[(.long x0)] 4 = mkF m 0 #[.val (.long x0), .second, .unset, .unset] [] := by first | (simp [entryFrame, mkF, argsToLocals, Value.category]; done) | rfl
theorem d1_0 : decode prog_8_method_3_code 0 = .ok (.lload_n 0, 1) := by decide +kernel
theorem d1_1 : decode prog_8_method_3_code 1 = .ok (.ldc2_w 26, 3) := by decide +kernel
theorem w_5 {Z : State} {a0 : Array Value} (hw : ∀ d ∈ tables_1, d.before a0 Z = true) : Jvm.Cond.before (Jvm.Cond.constantLong "com/example/mortise/mortise/core/ReadingBudget" (26 : Nat) (2147483647 : Int64)) a0 Z = true := hw _ (List.mem_of_getElem? (i := 5) rfl)
theorem d1_4 : decode prog_8_method_3_code 4 = .ok (.invokestatic 28, 3) := by decide +kernel
theorem w_9 {Z : State} {a0 : Array Value} (hw : ∀ d ∈ tables_1, d.before a0 Z = true) : Jvm.Cond.before (Jvm.Cond.code ({ cls := "java/lang/Math", name := "min", desc := "(JJ)J" } : Jvm.MethodName) jdk_29_method_70_code (4 : Nat) (Option.some Jvm.ClassFile.FieldType.long)) a0 Z = true := hw _ (List.mem_of_getElem? (i := 9) rfl)
theorem w_8 {Z : State} {a0 : Array Value} (hw : ∀ d ∈ tables_1, d.before a0 Z = true) : Jvm.Cond.before (Jvm.Cond.initialized "java/lang/Math") a0 Z = true := hw _ (List.mem_of_getElem? (i := 8) rfl)
theorem w_6 {Z : State} {a0 : Array Value} (hw : ∀ d ∈ tables_1, d.before a0 Z = true) : Jvm.Cond.before (Jvm.Cond.methodLink "com/example/mortise/mortise/core/ReadingBudget" (28 : Nat) ({ cls := "java/lang/Math", name := "min", desc := "(JJ)J" } : Jvm.MethodName)) a0 Z = true := hw _ (List.mem_of_getElem? (i := 6) rfl)
theorem pd_0 : parseMethodDescriptor "(JJ)J" = some ⟨[.long, .long], some .long⟩ := by decide +kernel
theorem w_7 {Z : State} {a0 : Array Value} (hw : ∀ d ∈ tables_1, d.before a0 Z = true) : Jvm.Cond.before (Jvm.Cond.static ({ cls := "java/lang/Math", name := "min", desc := "(JJ)J" } : Jvm.MethodName)) a0 Z = true := hw _ (List.mem_of_getElem? (i := 7) rfl)
theorem d1_7 : decode prog_8_method_3_code 7 = .ok (.lstore_n 2, 1) := by decide +kernel
theorem d1_8 : decode prog_8_method_3_code 8 = .ok (.ldc2_w 40, 3) := by decide +kernel
theorem w_10 {Z : State} {a0 : Array Value} (hw : ∀ d ∈ tables_1, d.before a0 Z = true) : Jvm.Cond.before (Jvm.Cond.constantLong "com/example/mortise/mortise/core/ReadingBudget" (40 : Nat) (65536 : Int64)) a0 Z = true := hw _ (List.mem_of_getElem? (i := 10) rfl)
theorem d1_11 : decode prog_8_method_3_code 11 = .ok (.lload_n 2, 1) := by decide +kernel
theorem d1_12 : decode prog_8_method_3_code 12 = .ok (.ldc2_w 42, 3) := by decide +kernel
theorem w_11 {Z : State} {a0 : Array Value} (hw : ∀ d ∈ tables_1, d.before a0 Z = true) : Jvm.Cond.before (Jvm.Cond.constantLong "com/example/mortise/mortise/core/ReadingBudget" (42 : Nat) (160 : Int64)) a0 Z = true := hw _ (List.mem_of_getElem? (i := 11) rfl)
theorem d1_15 : decode prog_8_method_3_code 15 = .ok (.lmul, 1) := by decide +kernel
theorem d1_16 : decode prog_8_method_3_code 16 = .ok (.ladd, 1) := by decide +kernel
theorem d1_17 : decode prog_8_method_3_code 17 = .ok (.lreturn, 1) := by decide +kernel
def fHeap (x0 : Int64) : Int64 := ((65536 : Int64) + ((fMin x0 (2147483647 : Int64)) * (160 : Int64)))
def Q1 (Z : State) (x0 : Int64) (h0 : Heap) (n0 : Nat) (v : Option Value) (h : Heap) (L : List Loc) : Prop := v = some (.long (fHeap x0)) ∧ Fr n0 L ∧ h = h0
theorem pn_1 : plainName "com/example/mortise/mortise/core/ReadingBudget" = true := by first | (simp [plainName, overriddenIn]; done) | decide +kernel
set_option maxRecDepth 65536 in
set_option maxHeartbeats 40000000 in
theorem rm1 (l : Launch) (Z : State) (a0 : Array Value) (hw : ∀ d ∈ tables_1, d.before a0 Z = true) (ws : List Jvm.Cond) (x0 : Int64) (h0 : Heap) (n0 : Nat) (Z0 : n0 ≤ h0.size) :
    MetFree l (⟨"com/example/mortise/mortise/core/ReadingBudget", "heapToRead", "(J)J"⟩ : MethodName) (head1 (Jvm.Cond.code (⟨"com/example/mortise/mortise/core/ReadingBudget", "heapToRead", "(J)J"⟩ : MethodName) prog_8_method_3_code 4 (some .long) :: ws) ({ frames := 1, cells := 0, slots := 0, locals := 15 } : Room)) (fun a U => a = #[(.long x0)] ∧ Z.Warmed39 U.vm ∧ U.heap = h0) (fun _ _ _ _ _ => True) (fun _ U o U' => ∃ v L, o = .returned v ∧ Q1 Z x0 h0 n0 v U'.heap L ∧ FrameEnd U o U' L ({ frames := 1, cells := 0, slots := 0, locals := 15 } : Room).cells ({ frames := 1, cells := 0, slots := 0, locals := 15 } : Room).slots) := by
  refine body_of (y := (⟨"com/example/mortise/mortise/core/ReadingBudget", "heapToRead", "(J)J"⟩ : MethodName)) (Q := Q1 Z x0 h0 n0) (plainFor_of_name pn_1) ?_
  intro p e s m below meth c T0 G C hnm X0 e0 K
  have N0 := Fr.nil n0
  refine Goes.to (congrArg T0.setTop (ef_1 m x0)) ?_
  refine g_lloadN C X0 d1_0 (pc' := 1) rfl rfl ?_
  refine g_ldc2 C X0 (w_5 hw) d1_1 (pc' := 4) rfl ?_
  refine g_callS C X0 (w_6 hw) (w_7 hw) (w_8 hw) (w_9 hw) (by decide) d1_4 (rm2 l Z a0 hw [] x0 (2147483647 : Int64) h0 n0 Z0) (by decide) (by decide) rfl pd_0 rfl (argsL := [(.long x0), (.long (2147483647 : Int64))]) (rest := []) rfl (W := 0) (Nat.le_of_eq rfl) e0 (by decide) (by decide) (pc' := 7) rfl (fun u1 T1 L1 X1 hQ1 => ?_)
  obtain ⟨rfl, Nq1, eq1⟩ := hQ1
  have N1 := Fr.app N0 Nq1
  show Goes p.tables e below G (T1.setTop (mkF m 7 #[.val (.long x0), .second, .unset, .unset] [(.long (fMin x0 (2147483647 : Int64)))]))
  refine g_lstoreN C X1 d1_7 (pc' := 8) rfl (w := (fMin x0 (2147483647 : Int64))) rfl (ls' := #[.val (.long x0), .second, .val (.long (fMin x0 (2147483647 : Int64))), .second]) rfl ?_
  refine g_ldc2 C X1 (w_10 hw) d1_8 (pc' := 11) rfl ?_
  refine g_lloadN C X1 d1_11 (pc' := 12) rfl rfl ?_
  refine g_ldc2 C X1 (w_11 hw) d1_12 (pc' := 15) rfl ?_
  refine g_lmul C X1 d1_15 (pc' := 16) rfl ?_
  refine g_ladd C X1 d1_16 (pc' := 17) rfl ?_
  exact g_retJ C X1 K d1_17 (by decide) (by decide) eq1 ⟨rfl, N1, rfl⟩
theorem own_cap {s t : Int64} (h0 : 0 ≤ s.toInt) (h : (if (2147483647 : Int64) < s then (2147483647 : Int64) else s) = t) : fMin s 2147483647 = t ∧ 0 ≤ t.toInt ∧ t.toInt ≤ 2147483647 := by
  have e4 : (2147483647 : Int64).toInt = 2147483647 := by decide
  subst h
  unfold fMin
  split
  · exact ⟨rfl, by omega, by omega⟩
  · rename_i r; rw [Int64.lt_iff_toInt_lt] at r; exact ⟨rfl, h0, by omega⟩
theorem own_heap {s t : Int64} (h0 : 0 ≤ s.toInt) (h : (if (2147483647 : Int64) < s then (2147483647 : Int64) else s) = t) : (fHeap s).toInt = 65536 + t.toInt * 160 ∧ 0 ≤ t.toInt ∧ t.toInt ≤ 2147483647 := by
  obtain ⟨q, q1, q2⟩ := own_cap h0 h
  have e1 : (65536 : Int64).toInt = 65536 := by decide
  have e2 : (160 : Int64).toInt = 160 := by decide
  unfold fHeap; rw [q]
  have m1 : (t * 160).toInt = t.toInt * (160 : Int64).toInt := Jvm.Kit.i64_mul (by rw [e2]; omega) (by rw [e2]; omega)
  rw [e2] at m1
  have m2 : (65536 + t * 160).toInt = (65536 : Int64).toInt + (t * 160).toInt := Jvm.Kit.i64_add (by omega) (by omega)
  omega
theorem own_lt {s t r : Int64} (h0 : 0 ≤ s.toInt) (h : (if (2147483647 : Int64) < s then (2147483647 : Int64) else s) = t) (hr : fHeap s = r) : ¬ r < 65536 := by
  obtain ⟨q, q1, q2⟩ := own_heap h0 h
  have e1 : (65536 : Int64).toInt = 65536 := by decide
  rw [Int64.lt_iff_toInt_lt, ← hr]; omega
theorem own_per {s t r d : Int64} (h0 : 0 ≤ s.toInt) (h : (if (2147483647 : Int64) < s then (2147483647 : Int64) else s) = t) (hr : fHeap s = r) (hd : r - 65536 = d) : d.toInt = t.toInt * 160 := by
  obtain ⟨q, q1, q2⟩ := own_heap h0 h
  have e1 : (65536 : Int64).toInt = 65536 := by decide
  have m : (r - 65536).toInt = r.toInt - (65536 : Int64).toInt := Jvm.Kit.i64_sub (by rw [← hr]; omega) (by rw [← hr]; omega)
  rw [← hd, m, ← hr]; omega
theorem own_div {s t r d : Int64} (h0 : 0 ≤ s.toInt) (h : (if (2147483647 : Int64) < s then (2147483647 : Int64) else s) = t) (hr : fHeap s = r) (hd : r - 65536 = d) : d / 160 = t := by
  have q := own_per h0 h hr hd
  obtain ⟨-, q1, q2⟩ := own_heap h0 h
  have e2 : (160 : Int64).toInt = 160 := by decide
  have m : (d / 160).toInt = d.toInt.tdiv (160 : Int64).toInt := Jvm.Kit.i64_div (by omega)
  rw [← Int64.toInt_inj, m, q, e2, Int.mul_tdiv_cancel _ (by decide)]
theorem own_rem {s t r d : Int64} (h0 : 0 ≤ s.toInt) (h : (if (2147483647 : Int64) < s then (2147483647 : Int64) else s) = t) (hr : fHeap s = r) (hd : r - 65536 = d) : d - d / 160 * 160 = 0 := by
  have q := own_per h0 h hr hd
  obtain ⟨-, q1, q2⟩ := own_heap h0 h
  rw [own_div h0 h hr hd]
  have e2 : (160 : Int64).toInt = 160 := by decide
  have m1 : (t * 160).toInt = t.toInt * (160 : Int64).toInt := Jvm.Kit.i64_mul (by rw [e2]; omega) (by rw [e2]; omega)
  rw [e2] at m1
  have m2 : (d - t * 160).toInt = d.toInt - (t * 160).toInt := Jvm.Kit.i64_sub (by omega) (by omega)
  rw [← Int64.toInt_inj, m2]
  have e0 : (0 : Int64).toInt = 0 := by decide
  omega
theorem own_n1 {x s : Int64} (h : x &&& 9223372036854775807 = s) : 0 ≤ s.toInt := by
  have e : (x &&& 9223372036854775807 : Int64).toInt = x.toInt % 2 ^ 63 := Jvm.Kit.i64_mask x 9223372036854775807 (k := 63) (by decide) (by decide)
  rw [← h]; omega
theorem own_n2 {x s : Int64} (h : x &&& 4294967295 = s) : 0 ≤ s.toInt := by
  have e : (x &&& 4294967295 : Int64).toInt = x.toInt % 2 ^ 32 := Jvm.Kit.i64_mask x 4294967295 (k := 32) (by decide) (by decide)
  rw [← h]; omega
theorem ef_0 (m : MethodId) (p0 : Int64) (p1 : Int32) (p2 : Int32) : entryFrame m #[(.long p0), (.int p1), (.int p2)] maxLocals = mkF m 0 #[.val (.long p0), .second, .val (.int p1), .val (.int p2), .unset, .unset, .unset, .unset, .unset, .unset, .unset, .unset] [] := by first | (simp [entryFrame, mkF, argsToLocals, Value.category, maxLocals]; done) | rfl
theorem w_15 {Z : State} {a0 : Array Value} (hw : ∀ d ∈ tables_1, d.before a0 Z = true) : Jvm.Cond.before (Jvm.Cond.constantLong "com/example/mortise/mortise/core/ReadingBudgetHeapToReadPinLaw" (11 : Nat) (4294967295 : Int64)) a0 Z = true := hw _ (List.mem_of_getElem? (i := 15) rfl)
theorem w_4 {Z : State} {a0 : Array Value} (hw : ∀ d ∈ tables_1, d.before a0 Z = true) : Jvm.Cond.before (Jvm.Cond.code ({ cls := "com/example/mortise/mortise/core/ReadingBudget", name := "heapToRead", desc := "(J)J" } : Jvm.MethodName) prog_8_method_3_code (4 : Nat) (Option.some Jvm.ClassFile.FieldType.long)) a0 Z = true := hw _ (List.mem_of_getElem? (i := 4) rfl)
theorem w_3 {Z : State} {a0 : Array Value} (hw : ∀ d ∈ tables_1, d.before a0 Z = true) : Jvm.Cond.before (Jvm.Cond.initialized "com/example/mortise/mortise/core/ReadingBudget") a0 Z = true := hw _ (List.mem_of_getElem? (i := 3) rfl)
theorem w_1 {Z : State} {a0 : Array Value} (hw : ∀ d ∈ tables_1, d.before a0 Z = true) : Jvm.Cond.before (Jvm.Cond.methodLink "com/example/mortise/mortise/core/ReadingBudgetHeapToReadPinLaw" (13 : Nat) ({ cls := "com/example/mortise/mortise/core/ReadingBudget", name := "heapToRead", desc := "(J)J" } : Jvm.MethodName)) a0 Z = true := hw _ (List.mem_of_getElem? (i := 1) rfl)
theorem pd_1 : parseMethodDescriptor "(J)J" = some ⟨[.long], some .long⟩ := by decide +kernel
theorem w_2 {Z : State} {a0 : Array Value} (hw : ∀ d ∈ tables_1, d.before a0 Z = true) : Jvm.Cond.before (Jvm.Cond.static ({ cls := "com/example/mortise/mortise/core/ReadingBudget", name := "heapToRead", desc := "(J)J" } : Jvm.MethodName)) a0 Z = true := hw _ (List.mem_of_getElem? (i := 2) rfl)
theorem w_12 {Z : State} {a0 : Array Value} (hw : ∀ d ∈ tables_1, d.before a0 Z = true) : Jvm.Cond.before (Jvm.Cond.constantLong "com/example/mortise/mortise/core/ReadingBudgetHeapToReadPinLaw" (19 : Nat) (2147483647 : Int64)) a0 Z = true := hw _ (List.mem_of_getElem? (i := 12) rfl)
theorem w_13 {Z : State} {a0 : Array Value} (hw : ∀ d ∈ tables_1, d.before a0 Z = true) : Jvm.Cond.before (Jvm.Cond.constantLong "com/example/mortise/mortise/core/ReadingBudgetHeapToReadPinLaw" (21 : Nat) (65536 : Int64)) a0 Z = true := hw _ (List.mem_of_getElem? (i := 13) rfl)
theorem w_14 {Z : State} {a0 : Array Value} (hw : ∀ d ∈ tables_1, d.before a0 Z = true) : Jvm.Cond.before (Jvm.Cond.constantLong "com/example/mortise/mortise/core/ReadingBudgetHeapToReadPinLaw" (23 : Nat) (160 : Int64)) a0 Z = true := hw _ (List.mem_of_getElem? (i := 14) rfl)
theorem w_0 {Z : State} {a0 : Array Value} (hw : ∀ d ∈ tables_1, d.before a0 Z = true) : Jvm.Cond.before (Jvm.Cond.constantLong "com/example/mortise/mortise/core/ReadingBudgetHeapToReadPinLaw" (9 : Nat) (9223372036854775807 : Int64)) a0 Z = true := hw _ (List.mem_of_getElem? (i := 0) rfl)
def Q0 (Z : State) (p0 : Int64) (p1 : Int32) (p2 : Int32) (h0 : Heap) (n0 : Nat) (v : Option Value) (h : Heap) (L : List Loc) : Prop := v = some (.int 1) ∧ Fr n0 L
theorem pn_0 : plainName "com/example/mortise/mortise/core/ReadingBudgetHeapToReadPinLaw" = true := by first | (simp [plainName, overriddenIn]; done) | decide +kernel
set_option maxRecDepth 65536 in
set_option maxHeartbeats 40000000 in
theorem rm0 (l : Launch) (Z : State) (a0 : Array Value) (hw : ∀ d ∈ tables_1, d.before a0 Z = true) (ws : List Jvm.Cond) (p0 : Int64) (p1 : Int32) (p2 : Int32) (h0 : Heap) (n0 : Nat) (Z0 : n0 ≤ h0.size) :
    MetFree l x (head1 (Jvm.Cond.code x code maxLocals ret :: ws) room_1) (fun a U => a = #[(.long p0), (.int p1), (.int p2)] ∧ Z.Warmed39 U.vm ∧ U.heap = h0) (fun _ _ _ _ _ => True) (fun _ U o U' => ∃ v L, o = .returned v ∧ Q0 Z p0 p1 p2 h0 n0 v U'.heap L ∧ FrameEnd U o U' L room_1.cells room_1.slots) := by
  refine body_of (y := x) (Q := Q0 Z p0 p1 p2 h0 n0) (plainFor_of_name pn_0) ?_
  intro p e s m below meth c T0 G C hnm X0 e0 K
  have N0 := Fr.nil n0
  refine Goes.to (congrArg T0.setTop (ef_0 m p0 p1 p2)) ?_
  refine g_iloadN C X0 at_0 (pc' := 1) rfl rfl ?_
  refine g_iconst C X0 at_1 (pc' := 2) rfl (v := 1) rfl ?_
  refine g_iand C X0 at_2 (pc' := 3) rfl ?_
  refine g_if_eq C X0 at_3 (pcT := 16) (pcN := 6) (by decide) (by decide) rfl (fun hc3 => ?_) (fun hc3 => ?_)
  · refine g_iloadN C X0 at_16 (pc' := 17) rfl rfl ?_
    refine g_i2l C X0 at_17 (pc' := 18) rfl ?_
    refine g_ldc2 C X0 (w_15 hw) at_18 (pc' := 21) rfl ?_
    refine g_land C X0 at_21 (pc' := 22) rfl ?_
    obtain ⟨v1, hv1⟩ : ∃ z : Int64, (p1.toInt64 &&& (4294967295 : Int64)) = z := ⟨_, rfl⟩
    refine g_lstore C X0 at_22 (pc' := 24) rfl (w := v1) hv1 (ls' := #[.val (.long p0), .second, .val (.int p1), .val (.int p2), .val (.long v1), .second, .unset, .unset, .unset, .unset, .unset, .unset]) rfl ?_
    refine g_lload C X0 at_24 (pc' := 26) rfl rfl ?_
    refine g_callS C X0 (w_1 hw) (w_2 hw) (w_3 hw) (w_4 hw) (by decide) at_26 (rm1 l Z a0 hw [] v1 h0 n0 Z0) (by decide) (by decide) rfl pd_1 rfl (argsL := [(.long v1)]) (rest := []) rfl (W := 0) (Nat.le_of_eq rfl) e0 (by decide) (by decide) (pc' := 29) rfl (fun u2 T2 L2 X2 hQ2 => ?_)
    obtain ⟨rfl, Nq2, eq2⟩ := hQ2
    have N2 := Fr.app N0 Nq2
    obtain ⟨r2, hr2⟩ : ∃ z : Int64, fHeap v1 = z := ⟨_, rfl⟩
    rw [hr2]
    show Goes p.tables e below G (T2.setTop (mkF m 29 #[.val (.long p0), .second, .val (.int p1), .val (.int p2), .val (.long v1), .second, .unset, .unset, .unset, .unset, .unset, .unset] [(.long r2)]))
    refine g_lstore C X2 at_29 (pc' := 31) rfl (w := r2) rfl (ls' := #[.val (.long p0), .second, .val (.int p1), .val (.int p2), .val (.long v1), .second, .val (.long r2), .second, .unset, .unset, .unset, .unset]) rfl ?_
    refine g_lload C X2 at_31 (pc' := 33) rfl rfl ?_
    refine g_ldc2 C X2 (w_12 hw) at_33 (pc' := 36) rfl ?_
    refine g_lcmp_le C X2 at_36 (pc1 := 37) rfl at_37 (pcT := 46) (pcN := 40) (by decide) (by decide) rfl (fun hc37 => ?_) (fun hc37 => ?_)
    · refine g_lload C X2 at_46 (pc' := 48) rfl rfl ?_
      refine g_lstore C X2 at_48 (pc' := 50) rfl (w := v1) rfl (ls' := #[.val (.long p0), .second, .val (.int p1), .val (.int p2), .val (.long v1), .second, .val (.long r2), .second, .val (.long v1), .second, .unset, .unset]) rfl ?_
      refine g_lload C X2 at_50 (pc' := 52) rfl rfl ?_
      refine g_ldc2 C X2 (w_13 hw) at_52 (pc' := 55) rfl ?_
      refine g_lcmp_ge C X2 at_55 (pc1 := 56) rfl at_56 (pcT := 61) (pcN := 59) (by decide) (by decide) rfl (fun hc56 => ?_) (fun hc56 => absurd hc56 (own_lt (own_n2 hv1) (if_neg hc37) hr2))
      refine g_lload C X2 at_61 (pc' := 63) rfl rfl ?_
      refine g_ldc2 C X2 (w_13 hw) at_63 (pc' := 66) rfl ?_
      refine g_lsub C X2 at_66 (pc' := 67) rfl ?_
      obtain ⟨v3, hv3⟩ : ∃ z : Int64, (r2 - (65536 : Int64)) = z := ⟨_, rfl⟩
      refine g_lstore C X2 at_67 (pc' := 69) rfl (w := v3) hv3 (ls' := #[.val (.long p0), .second, .val (.int p1), .val (.int p2), .val (.long v1), .second, .val (.long r2), .second, .val (.long v1), .second, .val (.long v3), .second]) rfl ?_
      refine g_lload C X2 at_69 (pc' := 71) rfl rfl ?_
      refine g_ldc2 C X2 (w_14 hw) at_71 (pc' := 74) rfl ?_
      refine g_lrem C X2 at_74 (pc' := 75) rfl (by decide) ?_
      refine g_lconst C X2 at_75 (pc' := 76) rfl (v := 0) rfl ?_
      refine g_lcmp_eq C X2 at_76 (pc1 := 77) rfl at_77 (pcT := 82) (pcN := 80) (by decide) (by decide) rfl (fun hc77 => ?_) (fun hc77 => absurd (own_rem (own_n2 hv1) (if_neg hc37) hr2 hv3) hc77)
      refine g_lload C X2 at_82 (pc' := 84) rfl rfl ?_
      refine g_ldc2 C X2 (w_14 hw) at_84 (pc' := 87) rfl ?_
      refine g_ldiv C X2 at_87 (pc' := 88) rfl (by decide) ?_
      refine g_lload C X2 at_88 (pc' := 90) rfl rfl ?_
      refine g_lcmp_ne C X2 at_90 (pc1 := 91) rfl at_91 (pcT := 98) (pcN := 94) (by decide) (by decide) rfl (fun hc91 => absurd (own_div (own_n2 hv1) (if_neg hc37) hr2 hv3) hc91) (fun hc91 => ?_)
      refine g_iconst C X2 at_94 (pc' := 95) rfl (v := 1) rfl ?_
      refine g_goto C X2 at_95 (pc' := 99) (by decide) (by decide) ?_
      exact g_retN C X2 K (by simp) at_99 (by decide) (by decide) eq2 ⟨rfl, N2⟩
    · refine g_ldc2 C X2 (w_12 hw) at_40 (pc' := 43) rfl ?_
      refine g_goto C X2 at_43 (pc' := 48) (by decide) (by decide) ?_
      refine g_lstore C X2 at_48 (pc' := 50) rfl (w := (2147483647 : Int64)) rfl (ls' := #[.val (.long p0), .second, .val (.int p1), .val (.int p2), .val (.long v1), .second, .val (.long r2), .second, .val (.long (2147483647 : Int64)), .second, .unset, .unset]) rfl ?_
      refine g_lload C X2 at_50 (pc' := 52) rfl rfl ?_
      refine g_ldc2 C X2 (w_13 hw) at_52 (pc' := 55) rfl ?_
      refine g_lcmp_ge C X2 at_55 (pc1 := 56) rfl at_56 (pcT := 61) (pcN := 59) (by decide) (by decide) rfl (fun hc56 => ?_) (fun hc56 => absurd hc56 (own_lt (own_n2 hv1) (if_pos hc37) hr2))
      refine g_lload C X2 at_61 (pc' := 63) rfl rfl ?_
      refine g_ldc2 C X2 (w_13 hw) at_63 (pc' := 66) rfl ?_
      refine g_lsub C X2 at_66 (pc' := 67) rfl ?_
      obtain ⟨v4, hv4⟩ : ∃ z : Int64, (r2 - (65536 : Int64)) = z := ⟨_, rfl⟩
      refine g_lstore C X2 at_67 (pc' := 69) rfl (w := v4) hv4 (ls' := #[.val (.long p0), .second, .val (.int p1), .val (.int p2), .val (.long v1), .second, .val (.long r2), .second, .val (.long (2147483647 : Int64)), .second, .val (.long v4), .second]) rfl ?_
      refine g_lload C X2 at_69 (pc' := 71) rfl rfl ?_
      refine g_ldc2 C X2 (w_14 hw) at_71 (pc' := 74) rfl ?_
      refine g_lrem C X2 at_74 (pc' := 75) rfl (by decide) ?_
      refine g_lconst C X2 at_75 (pc' := 76) rfl (v := 0) rfl ?_
      refine g_lcmp_eq C X2 at_76 (pc1 := 77) rfl at_77 (pcT := 82) (pcN := 80) (by decide) (by decide) rfl (fun hc77 => ?_) (fun hc77 => absurd (own_rem (own_n2 hv1) (if_pos hc37) hr2 hv4) hc77)
      refine g_lload C X2 at_82 (pc' := 84) rfl rfl ?_
      refine g_ldc2 C X2 (w_14 hw) at_84 (pc' := 87) rfl ?_
      refine g_ldiv C X2 at_87 (pc' := 88) rfl (by decide) ?_
      refine g_lload C X2 at_88 (pc' := 90) rfl rfl ?_
      refine g_lcmp_ne C X2 at_90 (pc1 := 91) rfl at_91 (pcT := 98) (pcN := 94) (by decide) (by decide) rfl (fun hc91 => absurd (own_div (own_n2 hv1) (if_pos hc37) hr2 hv4) hc91) (fun hc91 => ?_)
      refine g_iconst C X2 at_94 (pc' := 95) rfl (v := 1) rfl ?_
      refine g_goto C X2 at_95 (pc' := 99) (by decide) (by decide) ?_
      exact g_retN C X2 K (by simp) at_99 (by decide) (by decide) eq2 ⟨rfl, N2⟩
  · refine g_lloadN C X0 at_6 (pc' := 7) rfl rfl ?_
    refine g_ldc2 C X0 (w_0 hw) at_7 (pc' := 10) rfl ?_
    refine g_land C X0 at_10 (pc' := 11) rfl ?_
    obtain ⟨v5, hv5⟩ : ∃ z : Int64, (p0 &&& (9223372036854775807 : Int64)) = z := ⟨_, rfl⟩
    refine g_lstore C X0 at_11 (pc' := 13) rfl (w := v5) hv5 (ls' := #[.val (.long p0), .second, .val (.int p1), .val (.int p2), .val (.long v5), .second, .unset, .unset, .unset, .unset, .unset, .unset]) rfl ?_
    refine g_goto C X0 at_13 (pc' := 24) (by decide) (by decide) ?_
    refine g_lload C X0 at_24 (pc' := 26) rfl rfl ?_
    refine g_callS C X0 (w_1 hw) (w_2 hw) (w_3 hw) (w_4 hw) (by decide) at_26 (rm1 l Z a0 hw [] v5 h0 n0 Z0) (by decide) (by decide) rfl pd_1 rfl (argsL := [(.long v5)]) (rest := []) rfl (W := 0) (Nat.le_of_eq rfl) e0 (by decide) (by decide) (pc' := 29) rfl (fun u6 T6 L6 X6 hQ6 => ?_)
    obtain ⟨rfl, Nq6, eq6⟩ := hQ6
    have N6 := Fr.app N0 Nq6
    obtain ⟨r6, hr6⟩ : ∃ z : Int64, fHeap v5 = z := ⟨_, rfl⟩
    rw [hr6]
    show Goes p.tables e below G (T6.setTop (mkF m 29 #[.val (.long p0), .second, .val (.int p1), .val (.int p2), .val (.long v5), .second, .unset, .unset, .unset, .unset, .unset, .unset] [(.long r6)]))
    refine g_lstore C X6 at_29 (pc' := 31) rfl (w := r6) rfl (ls' := #[.val (.long p0), .second, .val (.int p1), .val (.int p2), .val (.long v5), .second, .val (.long r6), .second, .unset, .unset, .unset, .unset]) rfl ?_
    refine g_lload C X6 at_31 (pc' := 33) rfl rfl ?_
    refine g_ldc2 C X6 (w_12 hw) at_33 (pc' := 36) rfl ?_
    refine g_lcmp_le C X6 at_36 (pc1 := 37) rfl at_37 (pcT := 46) (pcN := 40) (by decide) (by decide) rfl (fun hc37 => ?_) (fun hc37 => ?_)
    · refine g_lload C X6 at_46 (pc' := 48) rfl rfl ?_
      refine g_lstore C X6 at_48 (pc' := 50) rfl (w := v5) rfl (ls' := #[.val (.long p0), .second, .val (.int p1), .val (.int p2), .val (.long v5), .second, .val (.long r6), .second, .val (.long v5), .second, .unset, .unset]) rfl ?_
      refine g_lload C X6 at_50 (pc' := 52) rfl rfl ?_
      refine g_ldc2 C X6 (w_13 hw) at_52 (pc' := 55) rfl ?_
      refine g_lcmp_ge C X6 at_55 (pc1 := 56) rfl at_56 (pcT := 61) (pcN := 59) (by decide) (by decide) rfl (fun hc56 => ?_) (fun hc56 => absurd hc56 (own_lt (own_n1 hv5) (if_neg hc37) hr6))
      refine g_lload C X6 at_61 (pc' := 63) rfl rfl ?_
      refine g_ldc2 C X6 (w_13 hw) at_63 (pc' := 66) rfl ?_
      refine g_lsub C X6 at_66 (pc' := 67) rfl ?_
      obtain ⟨v7, hv7⟩ : ∃ z : Int64, (r6 - (65536 : Int64)) = z := ⟨_, rfl⟩
      refine g_lstore C X6 at_67 (pc' := 69) rfl (w := v7) hv7 (ls' := #[.val (.long p0), .second, .val (.int p1), .val (.int p2), .val (.long v5), .second, .val (.long r6), .second, .val (.long v5), .second, .val (.long v7), .second]) rfl ?_
      refine g_lload C X6 at_69 (pc' := 71) rfl rfl ?_
      refine g_ldc2 C X6 (w_14 hw) at_71 (pc' := 74) rfl ?_
      refine g_lrem C X6 at_74 (pc' := 75) rfl (by decide) ?_
      refine g_lconst C X6 at_75 (pc' := 76) rfl (v := 0) rfl ?_
      refine g_lcmp_eq C X6 at_76 (pc1 := 77) rfl at_77 (pcT := 82) (pcN := 80) (by decide) (by decide) rfl (fun hc77 => ?_) (fun hc77 => absurd (own_rem (own_n1 hv5) (if_neg hc37) hr6 hv7) hc77)
      refine g_lload C X6 at_82 (pc' := 84) rfl rfl ?_
      refine g_ldc2 C X6 (w_14 hw) at_84 (pc' := 87) rfl ?_
      refine g_ldiv C X6 at_87 (pc' := 88) rfl (by decide) ?_
      refine g_lload C X6 at_88 (pc' := 90) rfl rfl ?_
      refine g_lcmp_ne C X6 at_90 (pc1 := 91) rfl at_91 (pcT := 98) (pcN := 94) (by decide) (by decide) rfl (fun hc91 => absurd (own_div (own_n1 hv5) (if_neg hc37) hr6 hv7) hc91) (fun hc91 => ?_)
      refine g_iconst C X6 at_94 (pc' := 95) rfl (v := 1) rfl ?_
      refine g_goto C X6 at_95 (pc' := 99) (by decide) (by decide) ?_
      exact g_retN C X6 K (by simp) at_99 (by decide) (by decide) eq6 ⟨rfl, N6⟩
    · refine g_ldc2 C X6 (w_12 hw) at_40 (pc' := 43) rfl ?_
      refine g_goto C X6 at_43 (pc' := 48) (by decide) (by decide) ?_
      refine g_lstore C X6 at_48 (pc' := 50) rfl (w := (2147483647 : Int64)) rfl (ls' := #[.val (.long p0), .second, .val (.int p1), .val (.int p2), .val (.long v5), .second, .val (.long r6), .second, .val (.long (2147483647 : Int64)), .second, .unset, .unset]) rfl ?_
      refine g_lload C X6 at_50 (pc' := 52) rfl rfl ?_
      refine g_ldc2 C X6 (w_13 hw) at_52 (pc' := 55) rfl ?_
      refine g_lcmp_ge C X6 at_55 (pc1 := 56) rfl at_56 (pcT := 61) (pcN := 59) (by decide) (by decide) rfl (fun hc56 => ?_) (fun hc56 => absurd hc56 (own_lt (own_n1 hv5) (if_pos hc37) hr6))
      refine g_lload C X6 at_61 (pc' := 63) rfl rfl ?_
      refine g_ldc2 C X6 (w_13 hw) at_63 (pc' := 66) rfl ?_
      refine g_lsub C X6 at_66 (pc' := 67) rfl ?_
      obtain ⟨v8, hv8⟩ : ∃ z : Int64, (r6 - (65536 : Int64)) = z := ⟨_, rfl⟩
      refine g_lstore C X6 at_67 (pc' := 69) rfl (w := v8) hv8 (ls' := #[.val (.long p0), .second, .val (.int p1), .val (.int p2), .val (.long v5), .second, .val (.long r6), .second, .val (.long (2147483647 : Int64)), .second, .val (.long v8), .second]) rfl ?_
      refine g_lload C X6 at_69 (pc' := 71) rfl rfl ?_
      refine g_ldc2 C X6 (w_14 hw) at_71 (pc' := 74) rfl ?_
      refine g_lrem C X6 at_74 (pc' := 75) rfl (by decide) ?_
      refine g_lconst C X6 at_75 (pc' := 76) rfl (v := 0) rfl ?_
      refine g_lcmp_eq C X6 at_76 (pc1 := 77) rfl at_77 (pcT := 82) (pcN := 80) (by decide) (by decide) rfl (fun hc77 => ?_) (fun hc77 => absurd (own_rem (own_n1 hv5) (if_pos hc37) hr6 hv8) hc77)
      refine g_lload C X6 at_82 (pc' := 84) rfl rfl ?_
      refine g_ldc2 C X6 (w_14 hw) at_84 (pc' := 87) rfl ?_
      refine g_ldiv C X6 at_87 (pc' := 88) rfl (by decide) ?_
      refine g_lload C X6 at_88 (pc' := 90) rfl rfl ?_
      refine g_lcmp_ne C X6 at_90 (pc1 := 91) rfl at_91 (pcT := 98) (pcN := 94) (by decide) (by decide) rfl (fun hc91 => absurd (own_div (own_n1 hv5) (if_pos hc37) hr6 hv8) hc91) (fun hc91 => ?_)
      refine g_iconst C X6 at_94 (pc' := 95) rfl (v := 1) rfl ?_
      refine g_goto C X6 at_95 (pc' := 99) (by decide) (by decide) ?_
      exact g_retN C X6 K (by simp) at_99 (by decide) (by decide) eq6 ⟨rfl, N6⟩
set_option maxRecDepth 65536 in
set_option maxHeartbeats 40000000 in
theorem comes_1 {Post : Tables → Env → Array Value → State → Outcome → State → Prop} (hpost : ∀ tb e args s v u, (limb_1_1.after args s (.returned v) u = true ∧ limb_1_2.after args s (.returned v) u = true ∧ True) → FrameEnd s (.returned v) u (Jvm.fieldLocs frame_1_writes args s ++ Jvm.arrayLocs frame_1_arrays args s ++ Jvm.staticLocs frame_1_statics s) 0 0 → Post tb e args s (.returned v) u) :
    ArmFor flags0 classFile x code maxLocals ret World_1 tables_1 room_1 Calls_1 rest_1 Pre_1 Post := by
  intro l hfl _ _ p e ha hc hk s m args below hf hA hF happ hP
  obtain ⟨hcalls, hrest, hpre⟩ := hP
  obtain ⟨-, -, -, hnamed, -, -, -, hat⟩ := (Spec.applies_iff hf).mp happ
  obtain ⟨hg, hn⟩ := and_e (Cond.before_iff.mp (show (Jvm.Cond.and given_1 narrow_1).before args s = true from hpre))
  obtain ⟨gc, g0⟩ := and_e hg
  obtain ⟨k0, g1⟩ := and_e g0
  obtain ⟨k1, g2⟩ := and_e g1
  have k2 := g2
  obtain ⟨w0, w1, w2, rfl⟩ : ∃ w0 w1 w2 : Value, args = #[w0, w1, w2] := by
    have hs : args.size = 3 := by simpa [Cond.value, given_1] using gc
    obtain ⟨L⟩ := args
    match L, hs with
    | [w0, w1, w2], _ => exact ⟨w0, w1, w2, rfl⟩
  have hw := fun d (hd : d ∈ tables_1) => atoms_spec (ws := Jvm.Cond.code x code maxLocals ret :: tables_1) hat d (List.mem_cons_of_mem _ hd)
  obtain ⟨i0, ei0⟩ := isL_v k0
  obtain rfl : w0 = (.long i0) := Option.some.inj ei0
  obtain ⟨i1, ei1⟩ := is_v k1
  obtain rfl : w1 = (.int i1) := Option.some.inj ei1
  obtain ⟨i2, ei2⟩ := is_v k2
  obtain rfl : w2 = (.int i2) := Option.some.inj ei2
  obtain ⟨n, o, h1, h2, h3, _, L, rfl, ⟨rfl, N⟩, hq⟩ := rm0 l s _ hw tables_1 i0 i1 i2  s.heap s.heap.size (Nat.le_refl _) p e ha hc hk s m _ below hf ((Spec.applies_iff_loose hf).mp happ).1 ⟨rfl, State.Warmed39.refl s, rfl⟩ trivial
  refine ⟨n, _, h1, h2, h3, hpost _ _ _ _ _ _ ⟨Cond.after_iff.mpr rfl, Cond.after_iff.mpr (eq_i res_at (Term.int_eval (1)) rfl), trivial⟩ ⟨hq.1, hq.2.1, (hq.2.2.sift fun y hy => Or.inr (N y hy)).mono (by decide) (by decide)⟩⟩
theorem main_1_1 : Claimed_1_1 := comes_1 fun _ _ _ _ _ _ h hF => ⟨h.1, hF⟩
theorem main_1_2 : Claimed_1_2 := comes_1 fun _ _ _ _ _ _ h hF => ⟨h.2.1, hF⟩
end Jvm.Pilot.@@N@@
namespace Jvm.Pilot.@@N@@
open Jvm Jvm.ClassFile Sem Op Lib Jvm.Free Jvm.Stand Jvm.Pilot.@@N@@.Jvm.D
/-! MADE BY PROGRAM (witnessworld.py) out of the Statement's table words and the real class files: 10 classes; the members and pool entries that the words name. The judged class is class 1, her method 1. -/
namespace start1
open Jvm.ClassFile
def u (s : String) : CpInfo := .utf8 (stringToUtf16 s)
/-- a pool by its gaps: so many unusable entries, then the entry; so many at the end -/
def gap : Nat → List CpInfo → List CpInfo
  | 0, r => r
  | n + 1, r => .unusable :: gap n r
def poolList (es : List (Nat × CpInfo)) (last : Nat) : List CpInfo := es.foldr (fun e r => gap e.1 (e.2 :: r)) (gap last [])
def pool (es : List (Nat × CpInfo)) (last : Nat) : Array CpInfo := ⟨poolList es last⟩
def fileOf (pool : Array CpInfo) (this : Nat) (attrs : Array Attribute := #[]) (ms : Array MethodInfo := #[]) (fl : Nat := 33) (sup : Nat := 0) (ifs : Array Nat := #[]) (fds : Array FieldInfo := #[]) : ClassFile where
  minorVersion := 0
  majorVersion := 65
  constantPool := pool
  accessFlags := fl
  thisClass := this
  superClass := sup
  interfaces := ifs
  fields := fds
  methods := ms
  attributes := attrs
def plain (name : String) (sup : Option ClassId) : Class where
  name := name
  kind := .ordinary
  loader := none
  accessFlags := 33
  super := sup
  interfaces := #[]
  cf := none
  fields := #[]
  methods := #[]
  instanceTypes := #[]
  staticTypes := #[]
  resolved := #[]
  callSites := []
  init := .initialized
  statics := none
  mirror := none

def pool0 : Array CpInfo := pool [(5, u "<init>"), (0, u "()V"), (1, .class_ 10), (1, u "java/lang/Object")] 113

def k0m0 : Method := { name := "<init>", desc := "()V", sig := { parameters := [], returnType := none }, accessFlags := 1, code := none }
/-- java/lang/Object -/
def k0 : Class := { plain "java/lang/Object" none with
  accessFlags := 33
  interfaces := #[]
  cf := some (fileOf pool0 8 #[] #[{ accessFlags := 1, nameIndex := 5, descriptorIndex := 6, attributes := #[] }] 33 0 #[] #[])
  fields := #[]
  methods := #[k0m0]
  instanceTypes := #[]
  staticTypes := #[]
  resolved := Array.replicate 124 none
  statics := none }

def pool1 : Array CpInfo := pool [(2, .class_ 4), (1, u "java/lang/Object"), (0, u "<init>"), (0, u "()V"), (2, .long 9223372036854775807), (1, .long 4294967295), (1, .methodref 14 15), (0, .class_ 16), (0, .nameAndType 17 18), (0, u "com/example/mortise/mortise/core/ReadingBudget"), (0, u "heapToRead"), (0, u "(J)J"), (0, .long 2147483647), (1, .long 65536), (1, .long 160), (1, .class_ 26), (0, u "com/example/mortise/mortise/core/ReadingBudgetHeapToReadPinLaw"), (2, u "law"), (0, u "(JII)Z")] 3

def k1m0 : Method := { name := "<init>", desc := "()V", sig := { parameters := [], returnType := none }, accessFlags := 1, code := none }
def k1c1 : Code := { maxStack := 4, maxLocals := 12, code := code, exceptionTable := #[], attributes := #[] }
def k1m1 : Method := { name := "law", desc := "(JII)Z", sig := { parameters := [.long, .int, .int], returnType := some .boolean }, accessFlags := 9, code := some k1c1 }
/-- com/example/mortise/mortise/core/ReadingBudgetHeapToReadPinLaw -/
def k1 : Class := { plain "com/example/mortise/mortise/core/ReadingBudgetHeapToReadPinLaw" (some 0) with
  accessFlags := 49
  interfaces := #[]
  cf := some (fileOf pool1 25 #[] #[{ accessFlags := 1, nameIndex := 5, descriptorIndex := 6, attributes := #[] }, { accessFlags := 9, nameIndex := 29, descriptorIndex := 30, attributes := #[] }] 49 2 #[] #[])
  fields := #[]
  methods := #[k1m0, k1m1]
  instanceTypes := #[]
  staticTypes := #[]
  resolved := Array.replicate 34 none
  statics := none }

def pool2 : Array CpInfo := pool [(2, .class_ 4), (1, u "java/lang/Object"), (3, .class_ 10), (1, u "com/example/mortise/mortise/core/ReadingBudget"), (0, u "bytes"), (0, u "I"), (7, u "room"), (0, u "Ljava/util/concurrent/Semaphore;"), (4, .long 2147483647), (1, .methodref 29 30), (0, .class_ 31), (0, .nameAndType 32 33), (0, u "java/lang/Math"), (0, u "min"), (0, u "(JJ)J"), (6, .long 65536), (1, .long 160), (31, u "HEAP_PER_SOURCE_BYTE"), (2, u "HEAP_PER_FILE"), (1, u "HEAP_SHARE_DIVISOR"), (5, u "heapToRead"), (0, u "(J)J")] 9

def k2c0 : Code := { maxStack := 6, maxLocals := 4, code := prog_8_method_3_code, exceptionTable := #[], attributes := #[] }
def k2m0 : Method := { name := "heapToRead", desc := "(J)J", sig := { parameters := [.long], returnType := some .long }, accessFlags := 8, code := some k2c0 }
/-- com/example/mortise/mortise/core/ReadingBudget -/
def k2 : Class := { plain "com/example/mortise/mortise/core/ReadingBudget" (some 0) with
  accessFlags := 48
  interfaces := #[]
  cf := some (fileOf pool2 8 #[] #[{ accessFlags := 8, nameIndex := 85, descriptorIndex := 86, attributes := #[] }] 48 2 #[] #[{ accessFlags := 26, nameIndex := 74, descriptorIndex := 12, attributes := #[] }, { accessFlags := 26, nameIndex := 77, descriptorIndex := 12, attributes := #[] }, { accessFlags := 26, nameIndex := 79, descriptorIndex := 12, attributes := #[] }, { accessFlags := 18, nameIndex := 11, descriptorIndex := 12, attributes := #[] }, { accessFlags := 18, nameIndex := 20, descriptorIndex := 21, attributes := #[] }])
  fields := #[{ name := "HEAP_PER_SOURCE_BYTE", type := .int, accessFlags := 26, slot := 0, constantValue := 0 }, { name := "HEAP_PER_FILE", type := .int, accessFlags := 26, slot := 1, constantValue := 0 }, { name := "HEAP_SHARE_DIVISOR", type := .int, accessFlags := 26, slot := 2, constantValue := 0 }, { name := "bytes", type := .int, accessFlags := 18, slot := 0, constantValue := 0 }, { name := "room", type := (.object "java/util/concurrent/Semaphore"), accessFlags := 18, slot := 1, constantValue := 0 }]
  methods := #[k2m0]
  instanceTypes := #[.int, (.object "java/util/concurrent/Semaphore")]
  staticTypes := #[.int, .int, .int]
  resolved := Array.replicate 96 none
  statics := none }

def pool3 : Array CpInfo := pool [(1, .class_ 2), (0, u "java/lang/Math"), (1, .class_ 6), (1, u "java/lang/Object"), (0, u "<init>"), (0, u "()V"), (89, .class_ 100), (1, u "java/lang/Math$RandomNumberGeneratorHolder"), (20, u "(JJ)J"), (50, u "negativeZeroFloatBits"), (0, u "J"), (2, u "negativeZeroDoubleBits"), (24, u "min"), (43, u "$assertionsDisabled"), (0, u "Z"), (91, u "twoToTheDoubleScaleDown"), (0, u "D"), (4, u "twoToTheDoubleScaleUp"), (9, u "E"), (3, u "PI"), (2, u "TAU"), (2, u "DEGREES_TO_RADIANS"), (0, u "RADIANS_TO_DEGREES")] 94

def k3m0 : Method := { name := "<init>", desc := "()V", sig := { parameters := [], returnType := none }, accessFlags := 2, code := none }
def k3c1 : Code := { maxStack := 4, maxLocals := 4, code := jdk_29_method_70_code, exceptionTable := #[], attributes := #[] }
def k3m1 : Method := { name := "min", desc := "(JJ)J", sig := { parameters := [.long, .long], returnType := some .long }, accessFlags := 9, code := some k3c1 }
/-- java/lang/Math -/
def k3 : Class := { plain "java/lang/Math" (some 0) with
  accessFlags := 49
  interfaces := #[]
  cf := some (fileOf pool3 1 #[.nestMembers #[98]] #[{ accessFlags := 2, nameIndex := 7, descriptorIndex := 8, attributes := #[] }, { accessFlags := 9, nameIndex := 201, descriptorIndex := 121, attributes := #[] }] 49 4 #[] #[{ accessFlags := 25, nameIndex := 354, descriptorIndex := 339, attributes := #[] }, { accessFlags := 25, nameIndex := 358, descriptorIndex := 339, attributes := #[] }, { accessFlags := 25, nameIndex := 361, descriptorIndex := 339, attributes := #[] }, { accessFlags := 26, nameIndex := 364, descriptorIndex := 339, attributes := #[] }, { accessFlags := 26, nameIndex := 365, descriptorIndex := 339, attributes := #[] }, { accessFlags := 26, nameIndex := 172, descriptorIndex := 173, attributes := #[] }, { accessFlags := 26, nameIndex := 176, descriptorIndex := 173, attributes := #[] }, { accessFlags := 8, nameIndex := 344, descriptorIndex := 339, attributes := #[] }, { accessFlags := 8, nameIndex := 338, descriptorIndex := 339, attributes := #[] }, { accessFlags := 4120, nameIndex := 245, descriptorIndex := 246, attributes := #[] }])
  fields := #[{ name := "E", type := .double, accessFlags := 25, slot := 0, constantValue := 0 }, { name := "PI", type := .double, accessFlags := 25, slot := 1, constantValue := 0 }, { name := "TAU", type := .double, accessFlags := 25, slot := 2, constantValue := 0 }, { name := "DEGREES_TO_RADIANS", type := .double, accessFlags := 26, slot := 3, constantValue := 0 }, { name := "RADIANS_TO_DEGREES", type := .double, accessFlags := 26, slot := 4, constantValue := 0 }, { name := "negativeZeroFloatBits", type := .long, accessFlags := 26, slot := 5, constantValue := 0 }, { name := "negativeZeroDoubleBits", type := .long, accessFlags := 26, slot := 6, constantValue := 0 }, { name := "twoToTheDoubleScaleUp", type := .double, accessFlags := 8, slot := 7, constantValue := 0 }, { name := "twoToTheDoubleScaleDown", type := .double, accessFlags := 8, slot := 8, constantValue := 0 }, { name := "$assertionsDisabled", type := .boolean, accessFlags := 4120, slot := 9, constantValue := 0 }]
  methods := #[k3m0, k3m1]
  instanceTypes := #[]
  staticTypes := #[.double, .double, .double, .double, .double, .long, .long, .double, .double, .boolean]
  resolved := Array.replicate 460 none
  statics := none }

def pool4 : Array CpInfo := pool [(1, u "java/lang/Cloneable"), (0, .class_ 1), (0, u "java/lang/Object"), (0, .class_ 3)] 3

/-- java/lang/Cloneable -/
def k4 : Class := { plain "java/lang/Cloneable" (some 0) with
  accessFlags := 1537
  interfaces := #[]
  cf := some (fileOf pool4 2 #[] #[] 1537 4 #[] #[])
  fields := #[]
  methods := #[]
  instanceTypes := #[]
  staticTypes := #[]
  resolved := Array.replicate 8 none
  statics := none }

def pool5 : Array CpInfo := pool [(1, u "java/io/Serializable"), (0, .class_ 1), (0, u "java/lang/Object"), (0, .class_ 3)] 3

/-- java/io/Serializable -/
def k5 : Class := { plain "java/io/Serializable" (some 0) with
  accessFlags := 1537
  interfaces := #[]
  cf := some (fileOf pool5 2 #[] #[] 1537 4 #[] #[])
  fields := #[]
  methods := #[]
  instanceTypes := #[]
  staticTypes := #[]
  resolved := Array.replicate 8 none
  statics := none }

/-- the primitive byte -/
def k6 : Class := { plain "byte" none with kind := .primitive 'B', accessFlags := 0x411 }
/-- [B -/
def k7 : Class := { plain "[B" (some 0) with kind := .array 6 .byte, interfaces := #[4, 5], accessFlags := 1041 }

/-- the primitive int -/
def k8 : Class := { plain "int" none with kind := .primitive 'I', accessFlags := 0x411 }
/-- [I -/
def k9 : Class := { plain "[I" (some 0) with kind := .array 8 .int, interfaces := #[4, 5], accessFlags := 1041 }

def heap : Heap := #[]
def classes : Array Class := #[k0, k1, k2, k3, k4, k5, k6, k7, k8, k9]
def interned : List (Array UInt16 × Addr) := []
def slotsUsed : Nat := 0
def theMethod : MethodId := ⟨1, 1⟩
def args0 : Array Value := #[.long 5, .int 3, .int 7]
def aboutOver (below : List Frame) : State where
  vm := { classes := classes, interned := interned.toArray }
  heap := heap
  slotsUsed := slotsUsed
  threads := #[{ frames := .invoking theMethod args0 :: below }]
def below0 : List Frame := [.native { method := ⟨0, 0⟩, args := #[] }]
def about1 : State := aboutOver below0
def p0 : Program := .bare "" "" ""
def e0 : Env := launch0.env 0 0 0
theorem w_frames : about1.frames = Frame.invoking theMethod args0 :: below0 := rfl
set_option maxRecDepth 65536 in
theorem w_args : argsFit about1.vm theMethod args0 = true := by decide +kernel
set_option maxRecDepth 65536 in
theorem w_heap : heapFits about1 = true := by decide +kernel
set_option maxRecDepth 65536 in
theorem w_runnable : about1.curStatus? = some .runnable := by decide +kernel
set_option maxRecDepth 65536 in
theorem w_alone : about1.alone = true := by decide +kernel
set_option maxRecDepth 65536 in
theorem w_named : about1.methodNamed? x = some theMethod := by decide +kernel
set_option maxRecDepth 65536 in
theorem w_hears : about1.hears theMethod below0 = true := by decide +kernel
set_option maxRecDepth 65536 in
theorem w_ripe : about1.ripe theMethod args0 below0 = true := by decide +kernel
theorem w_running : about1.status = .running := rfl
set_option maxRecDepth 65536 in
theorem w_room : about1.hasRoom e0.platform room_1 = true :=
  launch0.hasRoom_least _ room_1 (by decide +kernel) (by decide +kernel) (by decide +kernel) (by decide +kernel) (by decide +kernel) (by decide +kernel)
theorem allAtoms_all (ts : List Jvm.Cond) (a : Array Jvm.Value) (st : Jvm.State) : (allAtoms ts).before a st = ts.all (fun c => c.before a st) := by
  induction ts with
  | nil => rfl
  | cons c t ih =>
    show (Jvm.Cond.and c (allAtoms t)).before a st = _
    rw [Jvm.Cond.before_and, ih, List.all_cons]
def words1 : List Jvm.Cond := Jvm.Cond.code x code maxLocals ret :: tables_1
/-- a 'code' word, met by the world's own term for the bytes: nothing is compared byte by byte -/
theorem code_word {y : MethodName} {bytes : ByteArray} {mx : Nat} {rt : Option FieldType} {a : Array Value} {s : State} {m : MethodId} {meth : Method} {c : Code} (h1 : s.methodNamed? y = some m) (h2 : s.vm.method? m = some meth) (h3 : meth.code = some c) (h4 : c.code = bytes)
    (h5 : (c.maxLocals == mx && c.exceptionTable.isEmpty && decide (c.maxStack ≤ mostOperands) && decide (meth.sig.returnType = rt) && !meth.locks && decide (parseMethodDescriptor y.desc = some meth.sig)) = true) : (Jvm.Cond.code y bytes mx rt).before a s = true := by
  simp only [Bool.and_eq_true, beq_iff_eq, Bool.not_eq_true', decide_eq_true_eq] at h5
  obtain ⟨⟨⟨⟨⟨g1, g2⟩, g3⟩, g4⟩, g5⟩, g6⟩ := h5
  simp [Cond.before, Cond.holds, Cond.value, h1, h2, h3, h4, g1, g2, g3, g4, g5, g6]
def isCode : Jvm.Cond → Bool
  | .code _ _ _ _ => true
  | _ => false
theorem all_split {L : List Jvm.Cond} {P : Jvm.Cond → Bool} (h1 : L.all (fun c => isCode c || P c) = true) (h2 : ∀ c ∈ L.filter isCode, P c = true) : L.all P = true := by
  refine List.all_eq_true.mpr fun c hc => ?_
  have h := List.all_eq_true.mp h1 c hc
  rcases Bool.eq_false_or_eq_true (isCode c) with hi | hi
  · exact h2 c (List.mem_filter.mpr ⟨hc, hi⟩)
  · simpa [hi] using h
set_option maxRecDepth 65536 in
theorem w_c0 : (Jvm.Cond.code x code maxLocals ret).before args0 about1 = true := code_word (m := ⟨1, 1⟩) (meth := k1m1) (c := k1c1) (by decide +kernel) rfl rfl rfl (by decide +kernel)
set_option maxRecDepth 65536 in
theorem w_c1 : (Jvm.Cond.code ({ cls := "com/example/mortise/mortise/core/ReadingBudget", name := "heapToRead", desc := "(J)J" } : Jvm.MethodName) prog_8_method_3_code (4 : Nat) (Option.some Jvm.ClassFile.FieldType.long)).before args0 about1 = true := code_word (m := ⟨2, 0⟩) (meth := k2m0) (c := k2c0) (by decide +kernel) rfl rfl rfl (by decide +kernel)
set_option maxRecDepth 65536 in
theorem w_c2 : (Jvm.Cond.code ({ cls := "java/lang/Math", name := "min", desc := "(JJ)J" } : Jvm.MethodName) jdk_29_method_70_code (4 : Nat) (Option.some Jvm.ClassFile.FieldType.long)).before args0 about1 = true := code_word (m := ⟨3, 1⟩) (meth := k3m1) (c := k3c1) (by decide +kernel) rfl rfl rfl (by decide +kernel)
def codes1 : List Jvm.Cond := [Jvm.Cond.code x code maxLocals ret, Jvm.Cond.code ({ cls := "com/example/mortise/mortise/core/ReadingBudget", name := "heapToRead", desc := "(J)J" } : Jvm.MethodName) prog_8_method_3_code (4 : Nat) (Option.some Jvm.ClassFile.FieldType.long), Jvm.Cond.code ({ cls := "java/lang/Math", name := "min", desc := "(JJ)J" } : Jvm.MethodName) jdk_29_method_70_code (4 : Nat) (Option.some Jvm.ClassFile.FieldType.long)]
set_option maxRecDepth 65536 in
theorem codes_eq : words1.filter isCode = codes1 := rfl
theorem w_codes : ∀ c ∈ words1.filter isCode, c.before args0 about1 = true := by
  rw [codes_eq]
  intro c hc
  simp only [codes1, List.mem_cons, List.not_mem_nil, or_false] at hc
  rcases hc with rfl | rfl | rfl
  · exact w_c0
  · exact w_c1
  · exact w_c2
set_option maxRecDepth 65536 in
theorem w_t1 : words1.all (fun c => isCode c || c.before args0 about1) = true := by decide +kernel
theorem w_tables : (allAtoms (Jvm.Cond.code x code maxLocals ret :: tables_1)).before args0 about1 = true := by
  rw [allAtoms_all]
  show words1.all (fun c => c.before args0 about1) = true
  refine all_split ?_ w_codes
  rw [w_t1]
set_option maxRecDepth 65536 in
theorem w_case : (Jvm.Cond.and given_1 narrow_1).before args0 about1 = true := by decide +kernel
theorem w_applies : (headSpec (Jvm.Cond.code x code maxLocals ret :: tables_1) room_1).applies x e0.platform about1 = true :=
  (Spec.applies_iff w_frames).mpr ⟨w_running, w_runnable, w_alone, w_named, w_hears, w_ripe, w_room, w_tables⟩
theorem atStart : AtStart classFile x code maxLocals ret World_1 tables_1 room_1 Calls_1 rest_1 Pre_1 launch0 p0 e0 about1 theMethod args0 below0 :=
  ⟨lists_1, trivial, launch0.admits_env _ _ _, launch0.least_env, fairChoices_fair.cas, fairChoices_fair.clock, w_frames, w_args, w_heap, w_applies, trivial, trivial, w_case⟩
end start1
theorem witness_1 : WitnessClaimed_1 := ⟨start1.p0, start1.e0, start1.about1, start1.theMethod, start1.args0, start1.below0, start1.atStart⟩
end Jvm.Pilot.@@N@@
