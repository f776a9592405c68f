import JvmDerived
import JvmDerived.Pilot.@@N@@Statement
import JvmDerived.Pilot.@@N@@Code
set_option linter.unusedVariables false
set_option linter.unusedSimpArgs false
@@BLOCK:NumsL.lean.txt@@
namespace Jvm.Own
open Sem ClassFile Op Lib Jvm.Stand Jvm.Free Jvm.LawKit Jvm.RoadKit
/-- from the state A the run comes to an end that meets G -/
def Goes (tb : Tables) (e : Env) (below : List Frame) (G : Outcome → State → Prop) (A : State) : Prop := ∃ s₂ o, Steps tb e below A s₂ ∧ s₂.status = .running ∧ Ended s₂ below o ∧ G o s₂
/-- what a body's walk may lean on throughout -/
def Ctx (p : Program) (Z s : State) (m : MethodId) (meth : Method) (c : Code) (bs : ByteArray) (own : String) (maxL : Nat) (ret : Option FieldType) : Prop :=
  p.tables.exec = Jvm.exec ∧ Z.Warmed39 s.vm ∧ c.code = bs ∧ c.maxLocals = maxL ∧ s.vm.findClass own = some m.cls ∧ meth.sig.returnType = ret ∧ meth.locks = false
section Kit
variable {p : Program} {l : Launch} {e : Env} {R : Room} {s : State} {m : MethodId} {args : Array Value} {below : List Frame} {meth : Method} {c : Code} {T : State} {locs : List Loc} {cells slots : Nat} {Z : State} {a0 : Array Value} {h : Heap} {G : Outcome → State → Prop} {bs : ByteArray} {own : String} {maxL : Nat} {ret : Option FieldType}
theorem Goes.on {tb : Tables} {A B : State} (k : ∀ t, Steps tb e below B t → Steps tb e below A t) (h : Goes tb e below G B) : Goes tb e below G A := by
  obtain ⟨s2, o, h1, h2⟩ := h
  exact ⟨s2, o, k _ h1, h2⟩
theorem Goes.to {tb : Tables} {A B : State} (q : A = B) (h : Goes tb e below G B) : Goes tb e below G A := q ▸ h
theorem body_of {y : MethodName} {bytes : ByteArray} {ws : List Cond} {as' : Array Value} {h0 : Heap} {Q : Option Value → Heap → List Loc → Prop} (hplain : plainFor y = true)
    (H : ∀ p e s m below meth c s₁ G, Ctx p Z s m meth c bytes y.cls maxL ret → meth.name = y.name → Stand p l e R s m as' below meth c s₁ [] 0 0 → s₁.heap = h0 →
      (∀ (v : Option Value) (L : List Loc) (T' : State), Q v T'.heap L → s.WarmedH T'.vm → s.sameButNew ({ T' with vm := s.vm } : State) L R.cells R.slots → G (.returned v) T') →
      Goes p.tables e below G (s₁.setTop (entryFrame m as' maxL))) :
    MetFree l y (head1 (Cond.code y bytes maxL ret :: ws) R) (fun a U => a = as' ∧ Z.Warmed39 U.vm ∧ U.heap = h0) (fun _ _ _ _ _ => True) (fun _ U o U' => ∃ v L, o = .returned v ∧ Q v U'.heap L ∧ FrameEnd U o U' L R.cells R.slots) := by
  refine MetFree.of_bodySF hplain hisR ?_
  intro p e s m args below meth c s₁ Bd hml0 hP hK
  obtain ⟨rfl, hZ, hh⟩ := hP
  exact H p e s m below meth c s₁ _ ⟨Bd.exec, hZ, Bd.bytes, hml0, findClass_of_methodNamed Bd.named, Bd.returns, BodyLoose.notSynchronized Bd⟩ (name_of_methodNamed Bd.named Bd.method).1 (Stand.of_body Bd) (by rw [← hh, Bd.state]; rfl)
    (fun v L T' hQ hW hS => ⟨v, L, rfl, hQ, ⟨_, rfl⟩, hW, hS⟩)

theorem g_iloadN (C : Ctx p Z s m meth c bs own maxL ret) (X : Stand p l e R s m args below meth c T locs cells slots) {pc pc' : Nat} {ls : Array Slot} {st : List Value} {k : Fin 4} {v : Int32} (hd : decode bs pc = .ok (.iload_n k, 1)) (hp : pc + 1 = pc') (hl : ls[k.val]? = some (.val (.int v)))
    (k : Goes p.tables e below G (T.setTop (mkF m pc' ls (.int v :: st)))) : Goes p.tables e below G (T.setTop (mkF m pc ls st)) := by
  subst hp
  exact Goes.on (fun _ k => XS.iloadN X.here C.1 rfl (hb C.2.2.1 hd) hl k) k
theorem g_iload (C : Ctx p Z s m meth c bs own maxL ret) (X : Stand p l e R s m args below meth c T locs cells slots) {pc pc' : Nat} {ls : Array Slot} {st : List Value} {k : Nat} {v : Int32} (hd : decode bs pc = .ok (.iload k, 2)) (hp : pc + 2 = pc') (hl : ls[k]? = some (.val (.int v)))
    (k : Goes p.tables e below G (T.setTop (mkF m pc' ls (.int v :: st)))) : Goes p.tables e below G (T.setTop (mkF m pc ls st)) := by
  subst hp
  exact Goes.on (fun _ k => XS.iload X.here C.1 rfl (hb C.2.2.1 hd) hl k) k
theorem g_istoreN (C : Ctx p Z s m meth c bs own maxL ret) (X : Stand p l e R s m args below meth c T locs cells slots) {pc pc' : Nat} {ls ls' : Array Slot} {st : List Value} {k : Fin 4} {v w : Int32} (hd : decode bs pc = .ok (.istore_n k, 1)) (hp : pc + 1 = pc') (hv : v = w) (hl : storeLocals ls k.val (.int w) = some ls')
    (k : Goes p.tables e below G (T.setTop (mkF m pc' ls' st))) : Goes p.tables e below G (T.setTop (mkF m pc ls (.int v :: st))) := by
  subst hp hv
  exact Goes.on (fun _ k => XS.istoreN X.here C.1 rfl (hb C.2.2.1 hd) rfl hl k) k
theorem g_istore (C : Ctx p Z s m meth c bs own maxL ret) (X : Stand p l e R s m args below meth c T locs cells slots) {pc pc' : Nat} {ls ls' : Array Slot} {st : List Value} {k : Nat} {v w : Int32} (hd : decode bs pc = .ok (.istore k, 2)) (hp : pc + 2 = pc') (hv : v = w) (hl : storeLocals ls k (.int w) = some ls')
    (k : Goes p.tables e below G (T.setTop (mkF m pc' ls' st))) : Goes p.tables e below G (T.setTop (mkF m pc ls (.int v :: st))) := by
  subst hp hv
  exact Goes.on (fun _ k => XS.istore X.here C.1 rfl (hb C.2.2.1 hd) rfl hl k) k
theorem g_lloadN (C : Ctx p Z s m meth c bs own maxL ret) (X : Stand p l e R s m args below meth c T locs cells slots) {pc pc' : Nat} {ls : Array Slot} {st : List Value} {k : Fin 4} {v : Int64} (hd : decode bs pc = .ok (.lload_n k, 1)) (hp : pc + 1 = pc') (hl : ls[k.val]? = some (.val (.long v)))
    (k : Goes p.tables e below G (T.setTop (mkF m pc' ls (.long v :: st)))) : Goes p.tables e below G (T.setTop (mkF m pc ls st)) := by
  subst hp
  exact Goes.on (fun _ k => XT.lloadN X.here C.1 rfl (hb C.2.2.1 hd) hl k) k
theorem g_lload (C : Ctx p Z s m meth c bs own maxL ret) (X : Stand p l e R s m args below meth c T locs cells slots) {pc pc' : Nat} {ls : Array Slot} {st : List Value} {k : Nat} {v : Int64} (hd : decode bs pc = .ok (.lload k, 2)) (hp : pc + 2 = pc') (hl : ls[k]? = some (.val (.long v)))
    (k : Goes p.tables e below G (T.setTop (mkF m pc' ls (.long v :: st)))) : Goes p.tables e below G (T.setTop (mkF m pc ls st)) := by
  subst hp
  exact Goes.on (fun _ k => XT.lload X.here C.1 rfl (hb C.2.2.1 hd) hl k) k
theorem g_lstoreN (C : Ctx p Z s m meth c bs own maxL ret) (X : Stand p l e R s m args below meth c T locs cells slots) {pc pc' : Nat} {ls ls' : Array Slot} {st : List Value} {k : Fin 4} {v w : Int64} (hd : decode bs pc = .ok (.lstore_n k, 1)) (hp : pc + 1 = pc') (hv : v = w) (hl : storeLocals ls k.val (.long w) = some ls')
    (k : Goes p.tables e below G (T.setTop (mkF m pc' ls' st))) : Goes p.tables e below G (T.setTop (mkF m pc ls (.long v :: st))) := by
  subst hp hv
  exact Goes.on (fun _ k => XT.lstoreN X.here C.1 rfl (hb C.2.2.1 hd) rfl hl k) k
theorem g_lstore (C : Ctx p Z s m meth c bs own maxL ret) (X : Stand p l e R s m args below meth c T locs cells slots) {pc pc' : Nat} {ls ls' : Array Slot} {st : List Value} {k : Nat} {v w : Int64} (hd : decode bs pc = .ok (.lstore k, 2)) (hp : pc + 2 = pc') (hv : v = w) (hl : storeLocals ls k (.long w) = some ls')
    (k : Goes p.tables e below G (T.setTop (mkF m pc' ls' st))) : Goes p.tables e below G (T.setTop (mkF m pc ls (.long v :: st))) := by
  subst hp hv
  exact Goes.on (fun _ k => XT.lstore X.here C.1 rfl (hb C.2.2.1 hd) rfl hl k) k
theorem g_aloadN (C : Ctx p Z s m meth c bs own maxL ret) (X : Stand p l e R s m args below meth c T locs cells slots) {pc pc' : Nat} {ls : Array Slot} {st : List Value} {k : Fin 4} {v : Value} (hd : decode bs pc = .ok (.aload_n k, 1)) (hp : pc + 1 = pc') (hl : ls[k.val]? = some (.val v)) (hv : v.isRef = true)
    (k : Goes p.tables e below G (T.setTop (mkF m pc' ls (v :: st)))) : Goes p.tables e below G (T.setTop (mkF m pc ls st)) := by
  subst hp
  exact Goes.on (fun _ k => XS.aloadN X.here C.1 rfl (hb C.2.2.1 hd) hl hv k) k
theorem g_aload (C : Ctx p Z s m meth c bs own maxL ret) (X : Stand p l e R s m args below meth c T locs cells slots) {pc pc' : Nat} {ls : Array Slot} {st : List Value} {k : Nat} {v : Value} (hd : decode bs pc = .ok (.aload k, 2)) (hp : pc + 2 = pc') (hl : ls[k]? = some (.val v)) (hv : v.isRef = true)
    (k : Goes p.tables e below G (T.setTop (mkF m pc' ls (v :: st)))) : Goes p.tables e below G (T.setTop (mkF m pc ls st)) := by
  subst hp
  exact Goes.on (fun _ k => XS.aload X.here C.1 rfl (hb C.2.2.1 hd) hl hv k) k
theorem g_astoreN (C : Ctx p Z s m meth c bs own maxL ret) (X : Stand p l e R s m args below meth c T locs cells slots) {pc pc' : Nat} {ls ls' : Array Slot} {st : List Value} {k : Fin 4} {v : Value} (hd : decode bs pc = .ok (.astore_n k, 1)) (hp : pc + 1 = pc') (hv : v.isRef = true) (hl : storeLocals ls k.val v = some ls')
    (k : Goes p.tables e below G (T.setTop (mkF m pc' ls' st))) : Goes p.tables e below G (T.setTop (mkF m pc ls (v :: st))) := by
  subst hp
  exact Goes.on (fun _ k => XS.astoreN X.here C.1 rfl (hb C.2.2.1 hd) rfl hv hl k) k
theorem g_astore (C : Ctx p Z s m meth c bs own maxL ret) (X : Stand p l e R s m args below meth c T locs cells slots) {pc pc' : Nat} {ls ls' : Array Slot} {st : List Value} {k : Nat} {v : Value} (hd : decode bs pc = .ok (.astore k, 2)) (hp : pc + 2 = pc') (hv : v.isRef = true) (hl : storeLocals ls k v = some ls')
    (k : Goes p.tables e below G (T.setTop (mkF m pc' ls' st))) : Goes p.tables e below G (T.setTop (mkF m pc ls (v :: st))) := by
  subst hp
  exact Goes.on (fun _ k => XS.astore X.here C.1 rfl (hb C.2.2.1 hd) rfl hv hl k) k
theorem g_iconst (C : Ctx p Z s m meth c bs own maxL ret) (X : Stand p l e R s m args below meth c T locs cells slots) {pc pc' : Nat} {ls : Array Slot} {st : List Value} {i : Int} {v : Int32} (hd : decode bs pc = .ok (.iconst i, 1)) (hp : pc + 1 = pc') (hv : Int32.ofInt i = v)
    (k : Goes p.tables e below G (T.setTop (mkF m pc' ls (.int v :: st)))) : Goes p.tables e below G (T.setTop (mkF m pc ls st)) := by
  subst hp hv
  exact Goes.on (fun _ k => XS.iconst X.here C.1 rfl (hb C.2.2.1 hd) k) k
theorem g_bipush (C : Ctx p Z s m meth c bs own maxL ret) (X : Stand p l e R s m args below meth c T locs cells slots) {pc pc' : Nat} {ls : Array Slot} {st : List Value} {i : Int} {v : Int32} (hd : decode bs pc = .ok (.bipush i, 2)) (hp : pc + 2 = pc') (hv : (Int8.ofInt i).toInt32 = v)
    (k : Goes p.tables e below G (T.setTop (mkF m pc' ls (.int v :: st)))) : Goes p.tables e below G (T.setTop (mkF m pc ls st)) := by
  subst hp hv
  exact Goes.on (fun _ k => XS.bipush X.here C.1 rfl (hb C.2.2.1 hd) k) k
theorem g_sipush (C : Ctx p Z s m meth c bs own maxL ret) (X : Stand p l e R s m args below meth c T locs cells slots) {pc pc' : Nat} {ls : Array Slot} {st : List Value} {i : Int} {v : Int32} (hd : decode bs pc = .ok (.sipush i, 3)) (hp : pc + 3 = pc') (hv : (Int16.ofInt i).toInt32 = v)
    (k : Goes p.tables e below G (T.setTop (mkF m pc' ls (.int v :: st)))) : Goes p.tables e below G (T.setTop (mkF m pc ls st)) := by
  subst hp hv
  exact Goes.on (fun _ k => XS.sipush X.here C.1 rfl (hb C.2.2.1 hd) k) k
theorem g_lconst (C : Ctx p Z s m meth c bs own maxL ret) (X : Stand p l e R s m args below meth c T locs cells slots) {pc pc' : Nat} {ls : Array Slot} {st : List Value} {i : Fin 2} {v : Int64} (hd : decode bs pc = .ok (.lconst i, 1)) (hp : pc + 1 = pc') (hv : Int64.ofNat i = v)
    (k : Goes p.tables e below G (T.setTop (mkF m pc' ls (.long v :: st)))) : Goes p.tables e below G (T.setTop (mkF m pc ls st)) := by
  subst hp hv
  exact Goes.on (fun _ k => XT.lconst X.here C.1 rfl (hb C.2.2.1 hd) k) k
theorem g_aconstNull (C : Ctx p Z s m meth c bs own maxL ret) (X : Stand p l e R s m args below meth c T locs cells slots) {pc pc' : Nat} {ls : Array Slot} {st : List Value}  (hd : decode bs pc = .ok (.aconst_null, 1)) (hp : pc + 1 = pc')
    (k : Goes p.tables e below G (T.setTop (mkF m pc' ls (.null :: st)))) : Goes p.tables e below G (T.setTop (mkF m pc ls st)) := by
  subst hp
  exact Goes.on (fun _ k => XS.aconstNull X.here C.1 rfl (hb C.2.2.1 hd) k) k
theorem g_iadd (C : Ctx p Z s m meth c bs own maxL ret) (X : Stand p l e R s m args below meth c T locs cells slots) {pc pc' : Nat} {ls : Array Slot} {st : List Value} {x y : Int32} (hd : decode bs pc = .ok (.iadd, 1)) (hp : pc + 1 = pc')
    (k : Goes p.tables e below G (T.setTop (mkF m pc' ls (.int (x + y) :: st)))) : Goes p.tables e below G (T.setTop (mkF m pc ls (.int y :: .int x :: st))) := by
  subst hp
  exact Goes.on (fun _ k => XS.iadd X.here C.1 rfl (hb C.2.2.1 hd) rfl k) k
theorem g_isub (C : Ctx p Z s m meth c bs own maxL ret) (X : Stand p l e R s m args below meth c T locs cells slots) {pc pc' : Nat} {ls : Array Slot} {st : List Value} {x y : Int32} (hd : decode bs pc = .ok (.isub, 1)) (hp : pc + 1 = pc')
    (k : Goes p.tables e below G (T.setTop (mkF m pc' ls (.int (x - y) :: st)))) : Goes p.tables e below G (T.setTop (mkF m pc ls (.int y :: .int x :: st))) := by
  subst hp
  exact Goes.on (fun _ k => XS.isub X.here C.1 rfl (hb C.2.2.1 hd) rfl k) k
theorem g_imul (C : Ctx p Z s m meth c bs own maxL ret) (X : Stand p l e R s m args below meth c T locs cells slots) {pc pc' : Nat} {ls : Array Slot} {st : List Value} {x y : Int32} (hd : decode bs pc = .ok (.imul, 1)) (hp : pc + 1 = pc')
    (k : Goes p.tables e below G (T.setTop (mkF m pc' ls (.int (x * y) :: st)))) : Goes p.tables e below G (T.setTop (mkF m pc ls (.int y :: .int x :: st))) := by
  subst hp
  exact Goes.on (fun _ k => XS.imul X.here C.1 rfl (hb C.2.2.1 hd) rfl k) k
theorem g_iand (C : Ctx p Z s m meth c bs own maxL ret) (X : Stand p l e R s m args below meth c T locs cells slots) {pc pc' : Nat} {ls : Array Slot} {st : List Value} {x y : Int32} (hd : decode bs pc = .ok (.iand, 1)) (hp : pc + 1 = pc')
    (k : Goes p.tables e below G (T.setTop (mkF m pc' ls (.int (x &&& y) :: st)))) : Goes p.tables e below G (T.setTop (mkF m pc ls (.int y :: .int x :: st))) := by
  subst hp
  exact Goes.on (fun _ k => XS.iand X.here C.1 rfl (hb C.2.2.1 hd) rfl k) k
theorem g_ior (C : Ctx p Z s m meth c bs own maxL ret) (X : Stand p l e R s m args below meth c T locs cells slots) {pc pc' : Nat} {ls : Array Slot} {st : List Value} {x y : Int32} (hd : decode bs pc = .ok (.ior, 1)) (hp : pc + 1 = pc')
    (k : Goes p.tables e below G (T.setTop (mkF m pc' ls (.int (x ||| y) :: st)))) : Goes p.tables e below G (T.setTop (mkF m pc ls (.int y :: .int x :: st))) := by
  subst hp
  exact Goes.on (fun _ k => XT.ior X.here C.1 rfl (hb C.2.2.1 hd) rfl k) k
theorem g_ixor (C : Ctx p Z s m meth c bs own maxL ret) (X : Stand p l e R s m args below meth c T locs cells slots) {pc pc' : Nat} {ls : Array Slot} {st : List Value} {x y : Int32} (hd : decode bs pc = .ok (.ixor, 1)) (hp : pc + 1 = pc')
    (k : Goes p.tables e below G (T.setTop (mkF m pc' ls (.int (x ^^^ y) :: st)))) : Goes p.tables e below G (T.setTop (mkF m pc ls (.int y :: .int x :: st))) := by
  subst hp
  exact Goes.on (fun _ k => XT.ixor X.here C.1 rfl (hb C.2.2.1 hd) rfl k) k
theorem g_ishl (C : Ctx p Z s m meth c bs own maxL ret) (X : Stand p l e R s m args below meth c T locs cells slots) {pc pc' : Nat} {ls : Array Slot} {st : List Value} {x y : Int32} (hd : decode bs pc = .ok (.ishl, 1)) (hp : pc + 1 = pc')
    (k : Goes p.tables e below G (T.setTop (mkF m pc' ls (.int (x <<< (y &&& 31)) :: st)))) : Goes p.tables e below G (T.setTop (mkF m pc ls (.int y :: .int x :: st))) := by
  subst hp
  exact Goes.on (fun _ k => XT.ishl X.here C.1 rfl (hb C.2.2.1 hd) rfl k) k
theorem g_ishr (C : Ctx p Z s m meth c bs own maxL ret) (X : Stand p l e R s m args below meth c T locs cells slots) {pc pc' : Nat} {ls : Array Slot} {st : List Value} {x y : Int32} (hd : decode bs pc = .ok (.ishr, 1)) (hp : pc + 1 = pc')
    (k : Goes p.tables e below G (T.setTop (mkF m pc' ls (.int (x >>> (y &&& 31)) :: st)))) : Goes p.tables e below G (T.setTop (mkF m pc ls (.int y :: .int x :: st))) := by
  subst hp
  exact Goes.on (fun _ k => XT.ishr X.here C.1 rfl (hb C.2.2.1 hd) rfl k) k
theorem g_iushr (C : Ctx p Z s m meth c bs own maxL ret) (X : Stand p l e R s m args below meth c T locs cells slots) {pc pc' : Nat} {ls : Array Slot} {st : List Value} {x y : Int32} (hd : decode bs pc = .ok (.iushr, 1)) (hp : pc + 1 = pc')
    (k : Goes p.tables e below G (T.setTop (mkF m pc' ls (.int (XT.ushr x y) :: st)))) : Goes p.tables e below G (T.setTop (mkF m pc ls (.int y :: .int x :: st))) := by
  subst hp
  exact Goes.on (fun _ k => XT.iushr X.here C.1 rfl (hb C.2.2.1 hd) rfl k) k
theorem g_ladd (C : Ctx p Z s m meth c bs own maxL ret) (X : Stand p l e R s m args below meth c T locs cells slots) {pc pc' : Nat} {ls : Array Slot} {st : List Value} {x y : Int64} (hd : decode bs pc = .ok (.ladd, 1)) (hp : pc + 1 = pc')
    (k : Goes p.tables e below G (T.setTop (mkF m pc' ls (.long (x + y) :: st)))) : Goes p.tables e below G (T.setTop (mkF m pc ls (.long y :: .long x :: st))) := by
  subst hp
  exact Goes.on (fun _ k => XT.ladd X.here C.1 rfl (hb C.2.2.1 hd) rfl k) k
theorem g_lsub (C : Ctx p Z s m meth c bs own maxL ret) (X : Stand p l e R s m args below meth c T locs cells slots) {pc pc' : Nat} {ls : Array Slot} {st : List Value} {x y : Int64} (hd : decode bs pc = .ok (.lsub, 1)) (hp : pc + 1 = pc')
    (k : Goes p.tables e below G (T.setTop (mkF m pc' ls (.long (x - y) :: st)))) : Goes p.tables e below G (T.setTop (mkF m pc ls (.long y :: .long x :: st))) := by
  subst hp
  exact Goes.on (fun _ k => XT.lsub X.here C.1 rfl (hb C.2.2.1 hd) rfl k) k
theorem g_lmul (C : Ctx p Z s m meth c bs own maxL ret) (X : Stand p l e R s m args below meth c T locs cells slots) {pc pc' : Nat} {ls : Array Slot} {st : List Value} {x y : Int64} (hd : decode bs pc = .ok (.lmul, 1)) (hp : pc + 1 = pc')
    (k : Goes p.tables e below G (T.setTop (mkF m pc' ls (.long (x * y) :: st)))) : Goes p.tables e below G (T.setTop (mkF m pc ls (.long y :: .long x :: st))) := by
  subst hp
  exact Goes.on (fun _ k => XT.lmul X.here C.1 rfl (hb C.2.2.1 hd) rfl k) k
theorem g_land (C : Ctx p Z s m meth c bs own maxL ret) (X : Stand p l e R s m args below meth c T locs cells slots) {pc pc' : Nat} {ls : Array Slot} {st : List Value} {x y : Int64} (hd : decode bs pc = .ok (.land, 1)) (hp : pc + 1 = pc')
    (k : Goes p.tables e below G (T.setTop (mkF m pc' ls (.long (x &&& y) :: st)))) : Goes p.tables e below G (T.setTop (mkF m pc ls (.long y :: .long x :: st))) := by
  subst hp
  exact Goes.on (fun _ k => XT.land X.here C.1 rfl (hb C.2.2.1 hd) rfl k) k
theorem g_lor (C : Ctx p Z s m meth c bs own maxL ret) (X : Stand p l e R s m args below meth c T locs cells slots) {pc pc' : Nat} {ls : Array Slot} {st : List Value} {x y : Int64} (hd : decode bs pc = .ok (.lor, 1)) (hp : pc + 1 = pc')
    (k : Goes p.tables e below G (T.setTop (mkF m pc' ls (.long (x ||| y) :: st)))) : Goes p.tables e below G (T.setTop (mkF m pc ls (.long y :: .long x :: st))) := by
  subst hp
  exact Goes.on (fun _ k => XT.lor X.here C.1 rfl (hb C.2.2.1 hd) rfl k) k
theorem g_lxor (C : Ctx p Z s m meth c bs own maxL ret) (X : Stand p l e R s m args below meth c T locs cells slots) {pc pc' : Nat} {ls : Array Slot} {st : List Value} {x y : Int64} (hd : decode bs pc = .ok (.lxor, 1)) (hp : pc + 1 = pc')
    (k : Goes p.tables e below G (T.setTop (mkF m pc' ls (.long (x ^^^ y) :: st)))) : Goes p.tables e below G (T.setTop (mkF m pc ls (.long y :: .long x :: st))) := by
  subst hp
  exact Goes.on (fun _ k => XT.lxor X.here C.1 rfl (hb C.2.2.1 hd) rfl k) k
theorem g_lshl (C : Ctx p Z s m meth c bs own maxL ret) (X : Stand p l e R s m args below meth c T locs cells slots) {pc pc' : Nat} {ls : Array Slot} {st : List Value} {x : Int64} {y : Int32} (hd : decode bs pc = .ok (.lshl, 1)) (hp : pc + 1 = pc')
    (k : Goes p.tables e below G (T.setTop (mkF m pc' ls (.long (x <<< (y.toInt64 &&& 63)) :: st)))) : Goes p.tables e below G (T.setTop (mkF m pc ls (.int y :: .long x :: st))) := by
  subst hp
  exact Goes.on (fun _ k => XT.lshl X.here C.1 rfl (hb C.2.2.1 hd) rfl k) k
theorem g_lshr (C : Ctx p Z s m meth c bs own maxL ret) (X : Stand p l e R s m args below meth c T locs cells slots) {pc pc' : Nat} {ls : Array Slot} {st : List Value} {x : Int64} {y : Int32} (hd : decode bs pc = .ok (.lshr, 1)) (hp : pc + 1 = pc')
    (k : Goes p.tables e below G (T.setTop (mkF m pc' ls (.long (x >>> (y.toInt64 &&& 63)) :: st)))) : Goes p.tables e below G (T.setTop (mkF m pc ls (.int y :: .long x :: st))) := by
  subst hp
  exact Goes.on (fun _ k => XT.lshr X.here C.1 rfl (hb C.2.2.1 hd) rfl k) k
theorem g_lushr (C : Ctx p Z s m meth c bs own maxL ret) (X : Stand p l e R s m args below meth c T locs cells slots) {pc pc' : Nat} {ls : Array Slot} {st : List Value} {x : Int64} {y : Int32} (hd : decode bs pc = .ok (.lushr, 1)) (hp : pc + 1 = pc')
    (k : Goes p.tables e below G (T.setTop (mkF m pc' ls (.long (XT.ushrL x y) :: st)))) : Goes p.tables e below G (T.setTop (mkF m pc ls (.int y :: .long x :: st))) := by
  subst hp
  exact Goes.on (fun _ k => XT.lushr X.here C.1 rfl (hb C.2.2.1 hd) rfl k) k
theorem g_idiv (C : Ctx p Z s m meth c bs own maxL ret) (X : Stand p l e R s m args below meth c T locs cells slots) {pc pc' : Nat} {ls : Array Slot} {st : List Value} {x y : Int32} (hd : decode bs pc = .ok (.idiv, 1)) (hp : pc + 1 = pc') (hy : y ≠ 0)
    (k : Goes p.tables e below G (T.setTop (mkF m pc' ls (.int (x / y) :: st)))) : Goes p.tables e below G (T.setTop (mkF m pc ls (.int y :: .int x :: st))) := by
  subst hp
  exact Goes.on (fun _ k => XS.idiv X.here C.1 rfl (hb C.2.2.1 hd) rfl hy k) k
theorem g_ldiv (C : Ctx p Z s m meth c bs own maxL ret) (X : Stand p l e R s m args below meth c T locs cells slots) {pc pc' : Nat} {ls : Array Slot} {st : List Value} {x y : Int64} (hd : decode bs pc = .ok (.ldiv, 1)) (hp : pc + 1 = pc') (hy : y ≠ 0)
    (k : Goes p.tables e below G (T.setTop (mkF m pc' ls (.long (x / y) :: st)))) : Goes p.tables e below G (T.setTop (mkF m pc ls (.long y :: .long x :: st))) := by
  subst hp
  exact Goes.on (fun _ k => XT.ldiv X.here C.1 rfl (hb C.2.2.1 hd) rfl hy k) k
theorem g_irem (C : Ctx p Z s m meth c bs own maxL ret) (X : Stand p l e R s m args below meth c T locs cells slots) {pc pc' : Nat} {ls : Array Slot} {st : List Value} {x y : Int32} (hd : decode bs pc = .ok (.irem, 1)) (hp : pc + 1 = pc') (hy : y ≠ 0)
    (k : Goes p.tables e below G (T.setTop (mkF m pc' ls (.int (x % y) :: st)))) : Goes p.tables e below G (T.setTop (mkF m pc ls (.int y :: .int x :: st))) := by
  subst hp
  exact Goes.on (fun _ k => iremM X C.1 rfl (hb C.2.2.1 hd) rfl hy k) k
theorem g_lrem (C : Ctx p Z s m meth c bs own maxL ret) (X : Stand p l e R s m args below meth c T locs cells slots) {pc pc' : Nat} {ls : Array Slot} {st : List Value} {x y : Int64} (hd : decode bs pc = .ok (.lrem, 1)) (hp : pc + 1 = pc') (hy : y ≠ 0)
    (k : Goes p.tables e below G (T.setTop (mkF m pc' ls (.long (x - (x / y) * y) :: st)))) : Goes p.tables e below G (T.setTop (mkF m pc ls (.long y :: .long x :: st))) := by
  subst hp
  exact Goes.on (fun _ k => XT.lrem X.here C.1 rfl (hb C.2.2.1 hd) rfl hy k) k
theorem g_ineg (C : Ctx p Z s m meth c bs own maxL ret) (X : Stand p l e R s m args below meth c T locs cells slots) {pc pc' : Nat} {ls : Array Slot} {st : List Value} {x : Int32} (hd : decode bs pc = .ok (.ineg, 1)) (hp : pc + 1 = pc')
    (k : Goes p.tables e below G (T.setTop (mkF m pc' ls (.int (-x) :: st)))) : Goes p.tables e below G (T.setTop (mkF m pc ls (.int x :: st))) := by
  subst hp
  exact Goes.on (fun _ k => XS.ineg X.here C.1 rfl (hb C.2.2.1 hd) rfl k) k
theorem g_lneg (C : Ctx p Z s m meth c bs own maxL ret) (X : Stand p l e R s m args below meth c T locs cells slots) {pc pc' : Nat} {ls : Array Slot} {st : List Value} {x : Int64} (hd : decode bs pc = .ok (.lneg, 1)) (hp : pc + 1 = pc')
    (k : Goes p.tables e below G (T.setTop (mkF m pc' ls (.long (-x) :: st)))) : Goes p.tables e below G (T.setTop (mkF m pc ls (.long x :: st))) := by
  subst hp
  exact Goes.on (fun _ k => XT.lneg X.here C.1 rfl (hb C.2.2.1 hd) rfl k) k
theorem g_i2l (C : Ctx p Z s m meth c bs own maxL ret) (X : Stand p l e R s m args below meth c T locs cells slots) {pc pc' : Nat} {ls : Array Slot} {st : List Value} {x : Int32} (hd : decode bs pc = .ok (.i2l, 1)) (hp : pc + 1 = pc')
    (k : Goes p.tables e below G (T.setTop (mkF m pc' ls (.long x.toInt64 :: st)))) : Goes p.tables e below G (T.setTop (mkF m pc ls (.int x :: st))) := by
  subst hp
  exact Goes.on (fun _ k => XT.i2l X.here C.1 rfl (hb C.2.2.1 hd) rfl k) k
theorem g_l2i (C : Ctx p Z s m meth c bs own maxL ret) (X : Stand p l e R s m args below meth c T locs cells slots) {pc pc' : Nat} {ls : Array Slot} {st : List Value} {x : Int64} (hd : decode bs pc = .ok (.l2i, 1)) (hp : pc + 1 = pc')
    (k : Goes p.tables e below G (T.setTop (mkF m pc' ls (.int x.toInt32 :: st)))) : Goes p.tables e below G (T.setTop (mkF m pc ls (.long x :: st))) := by
  subst hp
  exact Goes.on (fun _ k => XT.l2i X.here C.1 rfl (hb C.2.2.1 hd) rfl k) k
theorem g_i2c (C : Ctx p Z s m meth c bs own maxL ret) (X : Stand p l e R s m args below meth c T locs cells slots) {pc pc' : Nat} {ls : Array Slot} {st : List Value} {x : Int32} (hd : decode bs pc = .ok (.i2c, 1)) (hp : pc + 1 = pc')
    (k : Goes p.tables e below G (T.setTop (mkF m pc' ls (.int x.toUInt32.toUInt16.toUInt32.toInt32 :: st)))) : Goes p.tables e below G (T.setTop (mkF m pc ls (.int x :: st))) := by
  subst hp
  exact Goes.on (fun _ k => XT.i2c X.here C.1 rfl (hb C.2.2.1 hd) rfl k) k
theorem g_i2b (C : Ctx p Z s m meth c bs own maxL ret) (X : Stand p l e R s m args below meth c T locs cells slots) {pc pc' : Nat} {ls : Array Slot} {st : List Value} {x : Int32} (hd : decode bs pc = .ok (.i2b, 1)) (hp : pc + 1 = pc')
    (k : Goes p.tables e below G (T.setTop (mkF m pc' ls (.int x.toInt8.toInt32 :: st)))) : Goes p.tables e below G (T.setTop (mkF m pc ls (.int x :: st))) := by
  subst hp
  exact Goes.on (fun _ k => XT.i2b X.here C.1 rfl (hb C.2.2.1 hd) rfl k) k
theorem g_i2s (C : Ctx p Z s m meth c bs own maxL ret) (X : Stand p l e R s m args below meth c T locs cells slots) {pc pc' : Nat} {ls : Array Slot} {st : List Value} {x : Int32} (hd : decode bs pc = .ok (.i2s, 1)) (hp : pc + 1 = pc')
    (k : Goes p.tables e below G (T.setTop (mkF m pc' ls (.int x.toInt16.toInt32 :: st)))) : Goes p.tables e below G (T.setTop (mkF m pc ls (.int x :: st))) := by
  subst hp
  exact Goes.on (fun _ k => XT.i2s X.here C.1 rfl (hb C.2.2.1 hd) rfl k) k
theorem g_dup (C : Ctx p Z s m meth c bs own maxL ret) (X : Stand p l e R s m args below meth c T locs cells slots) {pc pc' : Nat} {ls : Array Slot} {st : List Value} {x : Value} (hd : decode bs pc = .ok (.dup, 1)) (hp : pc + 1 = pc') (hc : x.category = 1)
    (k : Goes p.tables e below G (T.setTop (mkF m pc' ls (x :: x :: st)))) : Goes p.tables e below G (T.setTop (mkF m pc ls (x :: st))) := by
  subst hp
  exact Goes.on (fun _ k => XS.dup X.here C.1 rfl (hb C.2.2.1 hd) rfl hc k) k
theorem g_dupX1 (C : Ctx p Z s m meth c bs own maxL ret) (X : Stand p l e R s m args below meth c T locs cells slots) {pc pc' : Nat} {ls : Array Slot} {st : List Value} {x y : Value} (hd : decode bs pc = .ok (.dup_x1, 1)) (hp : pc + 1 = pc') (hc : x.category = 1) (hc' : y.category = 1)
    (k : Goes p.tables e below G (T.setTop (mkF m pc' ls (x :: y :: x :: st)))) : Goes p.tables e below G (T.setTop (mkF m pc ls (x :: y :: st))) := by
  subst hp
  exact Goes.on (fun _ k => XT.dupX1 X.here C.1 rfl (hb C.2.2.1 hd) rfl hc hc' k) k
theorem g_dup2 (C : Ctx p Z s m meth c bs own maxL ret) (X : Stand p l e R s m args below meth c T locs cells slots) {pc pc' : Nat} {ls : Array Slot} {st : List Value} {x y : Value} (hd : decode bs pc = .ok (.dup2, 1)) (hp : pc + 1 = pc') (hc : x.category = 1) (hc' : y.category = 1)
    (k : Goes p.tables e below G (T.setTop (mkF m pc' ls (x :: y :: x :: y :: st)))) : Goes p.tables e below G (T.setTop (mkF m pc ls (x :: y :: st))) := by
  subst hp
  exact Goes.on (fun _ k => XT.dup2 X.here C.1 rfl (hb C.2.2.1 hd) rfl hc hc' k) k
theorem g_dup2L (C : Ctx p Z s m meth c bs own maxL ret) (X : Stand p l e R s m args below meth c T locs cells slots) {pc pc' : Nat} {ls : Array Slot} {st : List Value} {x : Int64} (hd : decode bs pc = .ok (.dup2, 1)) (hp : pc + 1 = pc')
    (k : Goes p.tables e below G (T.setTop (mkF m pc' ls (.long x :: .long x :: st)))) : Goes p.tables e below G (T.setTop (mkF m pc ls (.long x :: st))) := by
  subst hp
  exact Goes.on (fun _ k => XT.dup2L X.here C.1 rfl (hb C.2.2.1 hd) rfl k) k
theorem g_pop (C : Ctx p Z s m meth c bs own maxL ret) (X : Stand p l e R s m args below meth c T locs cells slots) {pc pc' : Nat} {ls : Array Slot} {st : List Value} {x : Value} (hd : decode bs pc = .ok (.pop, 1)) (hp : pc + 1 = pc') (hc : x.category = 1)
    (k : Goes p.tables e below G (T.setTop (mkF m pc' ls st))) : Goes p.tables e below G (T.setTop (mkF m pc ls (x :: st))) := by
  subst hp
  exact Goes.on (fun _ k => XT.pop X.here C.1 rfl (hb C.2.2.1 hd) rfl hc k) k
theorem g_iinc (C : Ctx p Z s m meth c bs own maxL ret) (X : Stand p l e R s m args below meth c T locs cells slots) {pc pc' : Nat} {ls ls' : Array Slot} {st : List Value} {k : Nat} {cst : Int} {x w : Int32} (hd : decode bs pc = .ok (.iinc k cst, 3)) (hp : pc + 3 = pc') (hl : ls[k]? = some (.val (.int x))) (hv : x + Int32.ofInt cst = w) (hl' : storeLocals ls k (.int w) = some ls')
    (k : Goes p.tables e below G (T.setTop (mkF m pc' ls' st))) : Goes p.tables e below G (T.setTop (mkF m pc ls st)) := by
  subst hp hv
  exact Goes.on (fun _ k => XS.iinc X.here C.1 rfl (hb C.2.2.1 hd) hl hl' k) k
theorem g_dloadN (C : Ctx p Z s m meth c bs own maxL ret) (X : Stand p l e R s m args below meth c T locs cells slots) {pc pc' : Nat} {ls : Array Slot} {st : List Value} {k : Fin 4} {v : UInt64} (hd : decode bs pc = .ok (.dload_n k, 1)) (hp : pc + 1 = pc') (hl : ls[k.val]? = some (.val (.double v)))
    (k : Goes p.tables e below G (T.setTop (mkF m pc' ls (.double v :: st)))) : Goes p.tables e below G (T.setTop (mkF m pc ls st)) := by
  subst hp
  exact Goes.on (fun _ k => XS.dloadN X.here C.1 rfl (hb C.2.2.1 hd) hl k) k
theorem g_dload (C : Ctx p Z s m meth c bs own maxL ret) (X : Stand p l e R s m args below meth c T locs cells slots) {pc pc' : Nat} {ls : Array Slot} {st : List Value} {k : Nat} {v : UInt64} (hd : decode bs pc = .ok (.dload k, 2)) (hp : pc + 2 = pc') (hl : ls[k]? = some (.val (.double v)))
    (k : Goes p.tables e below G (T.setTop (mkF m pc' ls (.double v :: st)))) : Goes p.tables e below G (T.setTop (mkF m pc ls st)) := by
  subst hp
  exact Goes.on (fun _ k => XS.dload X.here C.1 rfl (hb C.2.2.1 hd) hl k) k
theorem g_dstore (C : Ctx p Z s m meth c bs own maxL ret) (X : Stand p l e R s m args below meth c T locs cells slots) {pc pc' : Nat} {ls ls' : Array Slot} {st : List Value} {k : Nat} {v w : UInt64} (hd : decode bs pc = .ok (.dstore k, 2)) (hp : pc + 2 = pc') (hv : v = w) (hl : storeLocals ls k (.double w) = some ls')
    (k : Goes p.tables e below G (T.setTop (mkF m pc' ls' st))) : Goes p.tables e below G (T.setTop (mkF m pc ls (.double v :: st))) := by
  subst hp hv
  exact Goes.on (fun _ k => XS.dstore X.here C.1 rfl (hb C.2.2.1 hd) rfl hl k) k
theorem g_i2d (C : Ctx p Z s m meth c bs own maxL ret) (X : Stand p l e R s m args below meth c T locs cells slots) {pc pc' : Nat} {ls : Array Slot} {st : List Value} {x : Int32} (hd : decode bs pc = .ok (.i2d, 1)) (hp : pc + 1 = pc')
    (k : Goes p.tables e below G (T.setTop (mkF m pc' ls (.double (FP.i2d x) :: st)))) : Goes p.tables e below G (T.setTop (mkF m pc ls (.int x :: st))) := by
  subst hp
  exact Goes.on (fun _ k => XS.i2dS X.here C.1 rfl (hb C.2.2.1 hd) rfl rfl k) k
theorem g_goto (C : Ctx p Z s m meth c bs own maxL ret) (X : Stand p l e R s m args below meth c T locs cells slots) {pc pc' : Nat} {ls : Array Slot} {st : List Value} {o : Int} (hd : decode bs pc = .ok (.goto o, 3)) (ho : 0 ≤ (pc : Int) + o) (hp : ((pc : Int) + o).toNat = pc')
    (k : Goes p.tables e below G (T.setTop (mkF m pc' ls st))) : Goes p.tables e below G (T.setTop (mkF m pc ls st)) :=
  Goes.on (fun _ k => XS.goto X.here C.1 rfl (pc0 := pc) (pc' := pc') rfl (hb C.2.2.1 hd) ho hp k) k
theorem cmpL_lt (x y : Int64) : XT.cmpL x y < 0 ↔ x < y := by unfold XT.cmpL; split <;> (try split) <;> simp_all [Int64.lt_iff_toInt_lt, ← Int64.toInt_inj] <;> omega
theorem cmpL_gt (x y : Int64) : 0 < XT.cmpL x y ↔ y < x := by unfold XT.cmpL; split <;> (try split) <;> simp_all [Int64.lt_iff_toInt_lt, ← Int64.toInt_inj] <;> omega
theorem cmpL_eq (x y : Int64) : XT.cmpL x y = 0 ↔ x = y := by unfold XT.cmpL; split <;> (try split) <;> simp_all [Int64.lt_iff_toInt_lt, ← Int64.toInt_inj] <;> omega
theorem g_icmp_eq (C : Ctx p Z s m meth c bs own maxL ret) (X : Stand p l e R s m args below meth c T locs cells slots) {pc pcT pcN : Nat} {ls : Array Slot} {st : List Value} {x y : Int32} {o : Int} (hd : decode bs pc = .ok (.if_icmp .eq o, 3)) (ho : 0 ≤ (pc : Int) + o) (hp : ((pc : Int) + o).toNat = pcT) (hq : pc + 3 = pcN)
    (hyes : x = y → Goes p.tables e below G (T.setTop (mkF m pcT ls st))) (hno : ¬ x = y → Goes p.tables e below G (T.setTop (mkF m pcN ls st))) : Goes p.tables e below G (T.setTop (mkF m pc ls (.int y :: .int x :: st))) := by
  subst hq
  by_cases q : x = y
  · exact Goes.on (fun _ k => XS.icmpYes X.here C.1 rfl (pc0 := pc) (pc' := pcT) rfl (hb C.2.2.1 hd) rfl (teq q).1 ho hp k) (hyes q)
  · exact Goes.on (fun _ k => XS.icmpNo X.here C.1 rfl (hb C.2.2.1 hd) rfl (feq q).1 k) (hno q)
theorem g_if_eq (C : Ctx p Z s m meth c bs own maxL ret) (X : Stand p l e R s m args below meth c T locs cells slots) {pc pcT pcN : Nat} {ls : Array Slot} {st : List Value} {x : Int32} {o : Int} (hd : decode bs pc = .ok (.ifCond .eq o, 3)) (ho : 0 ≤ (pc : Int) + o) (hp : ((pc : Int) + o).toNat = pcT) (hq : pc + 3 = pcN)
    (hyes : x = (0 : Int32) → Goes p.tables e below G (T.setTop (mkF m pcT ls st))) (hno : ¬ x = (0 : Int32) → Goes p.tables e below G (T.setTop (mkF m pcN ls st))) : Goes p.tables e below G (T.setTop (mkF m pc ls (.int x :: st))) := by
  subst hq
  by_cases q : x = (0 : Int32)
  · exact Goes.on (fun _ k => XS.ifYes X.here C.1 rfl (pc0 := pc) (pc' := pcT) rfl (hb C.2.2.1 hd) rfl ((if0 _ _).trans (teq q).1) ho hp k) (hyes q)
  · exact Goes.on (fun _ k => XS.ifNo X.here C.1 rfl (hb C.2.2.1 hd) rfl ((if0 _ _).trans (feq q).1) k) (hno q)
theorem g_lcmp_eq (C : Ctx p Z s m meth c bs own maxL ret) (X : Stand p l e R s m args below meth c T locs cells slots) {pc pc1 pcT pcN : Nat} {ls : Array Slot} {st : List Value} {x y : Int64} {o : Int} (hd : decode bs pc = .ok (.lcmp, 1)) (h1 : pc + 1 = pc1) (hd1 : decode bs pc1 = .ok (.ifCond .eq o, 3)) (ho : 0 ≤ (pc1 : Int) + o) (hp : ((pc1 : Int) + o).toNat = pcT) (hq : pc1 + 3 = pcN)
    (hyes : x = y → Goes p.tables e below G (T.setTop (mkF m pcT ls st))) (hno : ¬ x = y → Goes p.tables e below G (T.setTop (mkF m pcN ls st))) : Goes p.tables e below G (T.setTop (mkF m pc ls (.long y :: .long x :: st))) := by
  subst h1
  exact Goes.on (fun _ k => XT.lcmp X.here C.1 rfl (hb C.2.2.1 hd) rfl k) (g_if_eq C X hd1 ho hp hq (fun q => hyes ((cmpL_eq x y).mp q)) (fun q => hno ((not_congr (cmpL_eq x y)).mp q)))
theorem g_icmp_ne (C : Ctx p Z s m meth c bs own maxL ret) (X : Stand p l e R s m args below meth c T locs cells slots) {pc pcT pcN : Nat} {ls : Array Slot} {st : List Value} {x y : Int32} {o : Int} (hd : decode bs pc = .ok (.if_icmp .ne o, 3)) (ho : 0 ≤ (pc : Int) + o) (hp : ((pc : Int) + o).toNat = pcT) (hq : pc + 3 = pcN)
    (hyes : ¬ x = y → Goes p.tables e below G (T.setTop (mkF m pcT ls st))) (hno : x = y → Goes p.tables e below G (T.setTop (mkF m pcN ls st))) : Goes p.tables e below G (T.setTop (mkF m pc ls (.int y :: .int x :: st))) := by
  subst hq
  by_cases q : x = y
  · exact Goes.on (fun _ k => XS.icmpNo X.here C.1 rfl (hb C.2.2.1 hd) rfl (teq q).2 k) (hno q)
  · exact Goes.on (fun _ k => XS.icmpYes X.here C.1 rfl (pc0 := pc) (pc' := pcT) rfl (hb C.2.2.1 hd) rfl (feq q).2 ho hp k) (hyes q)
theorem g_if_ne (C : Ctx p Z s m meth c bs own maxL ret) (X : Stand p l e R s m args below meth c T locs cells slots) {pc pcT pcN : Nat} {ls : Array Slot} {st : List Value} {x : Int32} {o : Int} (hd : decode bs pc = .ok (.ifCond .ne o, 3)) (ho : 0 ≤ (pc : Int) + o) (hp : ((pc : Int) + o).toNat = pcT) (hq : pc + 3 = pcN)
    (hyes : ¬ x = (0 : Int32) → Goes p.tables e below G (T.setTop (mkF m pcT ls st))) (hno : x = (0 : Int32) → Goes p.tables e below G (T.setTop (mkF m pcN ls st))) : Goes p.tables e below G (T.setTop (mkF m pc ls (.int x :: st))) := by
  subst hq
  by_cases q : x = (0 : Int32)
  · exact Goes.on (fun _ k => XS.ifNo X.here C.1 rfl (hb C.2.2.1 hd) rfl ((if0 _ _).trans (teq q).2) k) (hno q)
  · exact Goes.on (fun _ k => XS.ifYes X.here C.1 rfl (pc0 := pc) (pc' := pcT) rfl (hb C.2.2.1 hd) rfl ((if0 _ _).trans (feq q).2) ho hp k) (hyes q)
theorem g_lcmp_ne (C : Ctx p Z s m meth c bs own maxL ret) (X : Stand p l e R s m args below meth c T locs cells slots) {pc pc1 pcT pcN : Nat} {ls : Array Slot} {st : List Value} {x y : Int64} {o : Int} (hd : decode bs pc = .ok (.lcmp, 1)) (h1 : pc + 1 = pc1) (hd1 : decode bs pc1 = .ok (.ifCond .ne o, 3)) (ho : 0 ≤ (pc1 : Int) + o) (hp : ((pc1 : Int) + o).toNat = pcT) (hq : pc1 + 3 = pcN)
    (hyes : ¬ x = y → Goes p.tables e below G (T.setTop (mkF m pcT ls st))) (hno : x = y → Goes p.tables e below G (T.setTop (mkF m pcN ls st))) : Goes p.tables e below G (T.setTop (mkF m pc ls (.long y :: .long x :: st))) := by
  subst h1
  exact Goes.on (fun _ k => XT.lcmp X.here C.1 rfl (hb C.2.2.1 hd) rfl k) (g_if_ne C X hd1 ho hp hq (fun q => hyes ((not_congr (cmpL_eq x y)).mp q)) (fun q => hno ((cmpL_eq x y).mp q)))
theorem g_icmp_lt (C : Ctx p Z s m meth c bs own maxL ret) (X : Stand p l e R s m args below meth c T locs cells slots) {pc pcT pcN : Nat} {ls : Array Slot} {st : List Value} {x y : Int32} {o : Int} (hd : decode bs pc = .ok (.if_icmp .lt o, 3)) (ho : 0 ≤ (pc : Int) + o) (hp : ((pc : Int) + o).toNat = pcT) (hq : pc + 3 = pcN)
    (hyes : x < y → Goes p.tables e below G (T.setTop (mkF m pcT ls st))) (hno : ¬ x < y → Goes p.tables e below G (T.setTop (mkF m pcN ls st))) : Goes p.tables e below G (T.setTop (mkF m pc ls (.int y :: .int x :: st))) := by
  subst hq
  by_cases q : x < y
  · exact Goes.on (fun _ k => XS.icmpYes X.here C.1 rfl (pc0 := pc) (pc' := pcT) rfl (hb C.2.2.1 hd) rfl (tlt q).1 ho hp k) (hyes q)
  · exact Goes.on (fun _ k => XS.icmpNo X.here C.1 rfl (hb C.2.2.1 hd) rfl (flt q).1 k) (hno q)
theorem g_if_lt (C : Ctx p Z s m meth c bs own maxL ret) (X : Stand p l e R s m args below meth c T locs cells slots) {pc pcT pcN : Nat} {ls : Array Slot} {st : List Value} {x : Int32} {o : Int} (hd : decode bs pc = .ok (.ifCond .lt o, 3)) (ho : 0 ≤ (pc : Int) + o) (hp : ((pc : Int) + o).toNat = pcT) (hq : pc + 3 = pcN)
    (hyes : x < (0 : Int32) → Goes p.tables e below G (T.setTop (mkF m pcT ls st))) (hno : ¬ x < (0 : Int32) → Goes p.tables e below G (T.setTop (mkF m pcN ls st))) : Goes p.tables e below G (T.setTop (mkF m pc ls (.int x :: st))) := by
  subst hq
  by_cases q : x < (0 : Int32)
  · exact Goes.on (fun _ k => XS.ifYes X.here C.1 rfl (pc0 := pc) (pc' := pcT) rfl (hb C.2.2.1 hd) rfl ((if0 _ _).trans (tlt q).1) ho hp k) (hyes q)
  · exact Goes.on (fun _ k => XS.ifNo X.here C.1 rfl (hb C.2.2.1 hd) rfl ((if0 _ _).trans (flt q).1) k) (hno q)
theorem g_lcmp_lt (C : Ctx p Z s m meth c bs own maxL ret) (X : Stand p l e R s m args below meth c T locs cells slots) {pc pc1 pcT pcN : Nat} {ls : Array Slot} {st : List Value} {x y : Int64} {o : Int} (hd : decode bs pc = .ok (.lcmp, 1)) (h1 : pc + 1 = pc1) (hd1 : decode bs pc1 = .ok (.ifCond .lt o, 3)) (ho : 0 ≤ (pc1 : Int) + o) (hp : ((pc1 : Int) + o).toNat = pcT) (hq : pc1 + 3 = pcN)
    (hyes : x < y → Goes p.tables e below G (T.setTop (mkF m pcT ls st))) (hno : ¬ x < y → Goes p.tables e below G (T.setTop (mkF m pcN ls st))) : Goes p.tables e below G (T.setTop (mkF m pc ls (.long y :: .long x :: st))) := by
  subst h1
  exact Goes.on (fun _ k => XT.lcmp X.here C.1 rfl (hb C.2.2.1 hd) rfl k) (g_if_lt C X hd1 ho hp hq (fun q => hyes ((cmpL_lt x y).mp q)) (fun q => hno ((not_congr (cmpL_lt x y)).mp q)))
theorem g_icmp_ge (C : Ctx p Z s m meth c bs own maxL ret) (X : Stand p l e R s m args below meth c T locs cells slots) {pc pcT pcN : Nat} {ls : Array Slot} {st : List Value} {x y : Int32} {o : Int} (hd : decode bs pc = .ok (.if_icmp .ge o, 3)) (ho : 0 ≤ (pc : Int) + o) (hp : ((pc : Int) + o).toNat = pcT) (hq : pc + 3 = pcN)
    (hyes : ¬ x < y → Goes p.tables e below G (T.setTop (mkF m pcT ls st))) (hno : x < y → Goes p.tables e below G (T.setTop (mkF m pcN ls st))) : Goes p.tables e below G (T.setTop (mkF m pc ls (.int y :: .int x :: st))) := by
  subst hq
  by_cases q : x < y
  · exact Goes.on (fun _ k => XS.icmpNo X.here C.1 rfl (hb C.2.2.1 hd) rfl (tlt q).2.1 k) (hno q)
  · exact Goes.on (fun _ k => XS.icmpYes X.here C.1 rfl (pc0 := pc) (pc' := pcT) rfl (hb C.2.2.1 hd) rfl (flt q).2.1 ho hp k) (hyes q)
theorem g_if_ge (C : Ctx p Z s m meth c bs own maxL ret) (X : Stand p l e R s m args below meth c T locs cells slots) {pc pcT pcN : Nat} {ls : Array Slot} {st : List Value} {x : Int32} {o : Int} (hd : decode bs pc = .ok (.ifCond .ge o, 3)) (ho : 0 ≤ (pc : Int) + o) (hp : ((pc : Int) + o).toNat = pcT) (hq : pc + 3 = pcN)
    (hyes : ¬ x < (0 : Int32) → Goes p.tables e below G (T.setTop (mkF m pcT ls st))) (hno : x < (0 : Int32) → Goes p.tables e below G (T.setTop (mkF m pcN ls st))) : Goes p.tables e below G (T.setTop (mkF m pc ls (.int x :: st))) := by
  subst hq
  by_cases q : x < (0 : Int32)
  · exact Goes.on (fun _ k => XS.ifNo X.here C.1 rfl (hb C.2.2.1 hd) rfl ((if0 _ _).trans (tlt q).2.1) k) (hno q)
  · exact Goes.on (fun _ k => XS.ifYes X.here C.1 rfl (pc0 := pc) (pc' := pcT) rfl (hb C.2.2.1 hd) rfl ((if0 _ _).trans (flt q).2.1) ho hp k) (hyes q)
theorem g_lcmp_ge (C : Ctx p Z s m meth c bs own maxL ret) (X : Stand p l e R s m args below meth c T locs cells slots) {pc pc1 pcT pcN : Nat} {ls : Array Slot} {st : List Value} {x y : Int64} {o : Int} (hd : decode bs pc = .ok (.lcmp, 1)) (h1 : pc + 1 = pc1) (hd1 : decode bs pc1 = .ok (.ifCond .ge o, 3)) (ho : 0 ≤ (pc1 : Int) + o) (hp : ((pc1 : Int) + o).toNat = pcT) (hq : pc1 + 3 = pcN)
    (hyes : ¬ x < y → Goes p.tables e below G (T.setTop (mkF m pcT ls st))) (hno : x < y → Goes p.tables e below G (T.setTop (mkF m pcN ls st))) : Goes p.tables e below G (T.setTop (mkF m pc ls (.long y :: .long x :: st))) := by
  subst h1
  exact Goes.on (fun _ k => XT.lcmp X.here C.1 rfl (hb C.2.2.1 hd) rfl k) (g_if_ge C X hd1 ho hp hq (fun q => hyes ((not_congr (cmpL_lt x y)).mp q)) (fun q => hno ((cmpL_lt x y).mp q)))
theorem g_icmp_gt (C : Ctx p Z s m meth c bs own maxL ret) (X : Stand p l e R s m args below meth c T locs cells slots) {pc pcT pcN : Nat} {ls : Array Slot} {st : List Value} {x y : Int32} {o : Int} (hd : decode bs pc = .ok (.if_icmp .gt o, 3)) (ho : 0 ≤ (pc : Int) + o) (hp : ((pc : Int) + o).toNat = pcT) (hq : pc + 3 = pcN)
    (hyes : y < x → Goes p.tables e below G (T.setTop (mkF m pcT ls st))) (hno : ¬ y < x → Goes p.tables e below G (T.setTop (mkF m pcN ls st))) : Goes p.tables e below G (T.setTop (mkF m pc ls (.int y :: .int x :: st))) := by
  subst hq
  by_cases q : y < x
  · exact Goes.on (fun _ k => XS.icmpYes X.here C.1 rfl (pc0 := pc) (pc' := pcT) rfl (hb C.2.2.1 hd) rfl (tlt q).2.2.1 ho hp k) (hyes q)
  · exact Goes.on (fun _ k => XS.icmpNo X.here C.1 rfl (hb C.2.2.1 hd) rfl (flt q).2.2.1 k) (hno q)
theorem g_if_gt (C : Ctx p Z s m meth c bs own maxL ret) (X : Stand p l e R s m args below meth c T locs cells slots) {pc pcT pcN : Nat} {ls : Array Slot} {st : List Value} {x : Int32} {o : Int} (hd : decode bs pc = .ok (.ifCond .gt o, 3)) (ho : 0 ≤ (pc : Int) + o) (hp : ((pc : Int) + o).toNat = pcT) (hq : pc + 3 = pcN)
    (hyes : (0 : Int32) < x → Goes p.tables e below G (T.setTop (mkF m pcT ls st))) (hno : ¬ (0 : Int32) < x → Goes p.tables e below G (T.setTop (mkF m pcN ls st))) : Goes p.tables e below G (T.setTop (mkF m pc ls (.int x :: st))) := by
  subst hq
  by_cases q : (0 : Int32) < x
  · exact Goes.on (fun _ k => XS.ifYes X.here C.1 rfl (pc0 := pc) (pc' := pcT) rfl (hb C.2.2.1 hd) rfl ((if0 _ _).trans (tlt q).2.2.1) ho hp k) (hyes q)
  · exact Goes.on (fun _ k => XS.ifNo X.here C.1 rfl (hb C.2.2.1 hd) rfl ((if0 _ _).trans (flt q).2.2.1) k) (hno q)
theorem g_lcmp_gt (C : Ctx p Z s m meth c bs own maxL ret) (X : Stand p l e R s m args below meth c T locs cells slots) {pc pc1 pcT pcN : Nat} {ls : Array Slot} {st : List Value} {x y : Int64} {o : Int} (hd : decode bs pc = .ok (.lcmp, 1)) (h1 : pc + 1 = pc1) (hd1 : decode bs pc1 = .ok (.ifCond .gt o, 3)) (ho : 0 ≤ (pc1 : Int) + o) (hp : ((pc1 : Int) + o).toNat = pcT) (hq : pc1 + 3 = pcN)
    (hyes : y < x → Goes p.tables e below G (T.setTop (mkF m pcT ls st))) (hno : ¬ y < x → Goes p.tables e below G (T.setTop (mkF m pcN ls st))) : Goes p.tables e below G (T.setTop (mkF m pc ls (.long y :: .long x :: st))) := by
  subst h1
  exact Goes.on (fun _ k => XT.lcmp X.here C.1 rfl (hb C.2.2.1 hd) rfl k) (g_if_gt C X hd1 ho hp hq (fun q => hyes ((cmpL_gt x y).mp q)) (fun q => hno ((not_congr (cmpL_gt x y)).mp q)))
theorem g_icmp_le (C : Ctx p Z s m meth c bs own maxL ret) (X : Stand p l e R s m args below meth c T locs cells slots) {pc pcT pcN : Nat} {ls : Array Slot} {st : List Value} {x y : Int32} {o : Int} (hd : decode bs pc = .ok (.if_icmp .le o, 3)) (ho : 0 ≤ (pc : Int) + o) (hp : ((pc : Int) + o).toNat = pcT) (hq : pc + 3 = pcN)
    (hyes : ¬ y < x → Goes p.tables e below G (T.setTop (mkF m pcT ls st))) (hno : y < x → Goes p.tables e below G (T.setTop (mkF m pcN ls st))) : Goes p.tables e below G (T.setTop (mkF m pc ls (.int y :: .int x :: st))) := by
  subst hq
  by_cases q : y < x
  · exact Goes.on (fun _ k => XS.icmpNo X.here C.1 rfl (hb C.2.2.1 hd) rfl (tlt q).2.2.2 k) (hno q)
  · exact Goes.on (fun _ k => XS.icmpYes X.here C.1 rfl (pc0 := pc) (pc' := pcT) rfl (hb C.2.2.1 hd) rfl (flt q).2.2.2 ho hp k) (hyes q)
theorem g_if_le (C : Ctx p Z s m meth c bs own maxL ret) (X : Stand p l e R s m args below meth c T locs cells slots) {pc pcT pcN : Nat} {ls : Array Slot} {st : List Value} {x : Int32} {o : Int} (hd : decode bs pc = .ok (.ifCond .le o, 3)) (ho : 0 ≤ (pc : Int) + o) (hp : ((pc : Int) + o).toNat = pcT) (hq : pc + 3 = pcN)
    (hyes : ¬ (0 : Int32) < x → Goes p.tables e below G (T.setTop (mkF m pcT ls st))) (hno : (0 : Int32) < x → Goes p.tables e below G (T.setTop (mkF m pcN ls st))) : Goes p.tables e below G (T.setTop (mkF m pc ls (.int x :: st))) := by
  subst hq
  by_cases q : (0 : Int32) < x
  · exact Goes.on (fun _ k => XS.ifNo X.here C.1 rfl (hb C.2.2.1 hd) rfl ((if0 _ _).trans (tlt q).2.2.2) k) (hno q)
  · exact Goes.on (fun _ k => XS.ifYes X.here C.1 rfl (pc0 := pc) (pc' := pcT) rfl (hb C.2.2.1 hd) rfl ((if0 _ _).trans (flt q).2.2.2) ho hp k) (hyes q)
theorem g_lcmp_le (C : Ctx p Z s m meth c bs own maxL ret) (X : Stand p l e R s m args below meth c T locs cells slots) {pc pc1 pcT pcN : Nat} {ls : Array Slot} {st : List Value} {x y : Int64} {o : Int} (hd : decode bs pc = .ok (.lcmp, 1)) (h1 : pc + 1 = pc1) (hd1 : decode bs pc1 = .ok (.ifCond .le o, 3)) (ho : 0 ≤ (pc1 : Int) + o) (hp : ((pc1 : Int) + o).toNat = pcT) (hq : pc1 + 3 = pcN)
    (hyes : ¬ y < x → Goes p.tables e below G (T.setTop (mkF m pcT ls st))) (hno : y < x → Goes p.tables e below G (T.setTop (mkF m pcN ls st))) : Goes p.tables e below G (T.setTop (mkF m pc ls (.long y :: .long x :: st))) := by
  subst h1
  exact Goes.on (fun _ k => XT.lcmp X.here C.1 rfl (hb C.2.2.1 hd) rfl k) (g_if_le C X hd1 ho hp hq (fun q => hyes ((not_congr (cmpL_gt x y)).mp q)) (fun q => hno ((cmpL_gt x y).mp q)))
theorem g_ldc (C : Ctx p Z s m meth c bs own maxL ret) (X : Stand p l e R s m args below meth c T locs cells slots) {pc pc' : Nat} {ls : Array Slot} {st : List Value} {i : Nat} {v : Int32} (w : (Cond.constant own i v).before a0 Z = true) (hd : decode bs pc = .ok (.ldc i, 2)) (hp : pc + 2 = pc') (k : Goes p.tables e below G (T.setTop (mkF m pc' ls (.int v :: st)))) : Goes p.tables e below G (T.setTop (mkF m pc ls st)) := by
  subst hp
  exact Goes.on (fun _ k => X.ldcInt C.1 C.2.2.2.2.1 (mvT C.2.1 w) (g := mkF m pc ls st) rfl (hb C.2.2.1 hd) _ k) k
theorem g_ldc2 (C : Ctx p Z s m meth c bs own maxL ret) (X : Stand p l e R s m args below meth c T locs cells slots) {pc pc' : Nat} {ls : Array Slot} {st : List Value} {i : Nat} {v : Int64} (w : (Cond.constantLong own i v).before a0 Z = true) (hd : decode bs pc = .ok (.ldc2_w i, 3)) (hp : pc + 3 = pc') (k : Goes p.tables e below G (T.setTop (mkF m pc' ls (.long v :: st)))) : Goes p.tables e below G (T.setTop (mkF m pc ls st)) := by
  subst hp
  exact Goes.on (fun _ k => X.ldc2Long C.1 C.2.2.2.2.1 (mvT C.2.1 w) (g := mkF m pc ls st) rfl (hb C.2.2.1 hd) _ k) k
theorem g_retN {t : FieldType} (C : Ctx p Z s m meth c bs own maxL (some t)) (X : Stand p l e R s m args below meth c T locs cells slots) {Q : Option Value → Heap → List Loc → Prop} (K : ∀ (v : Option Value) (L : List Loc) (T' : State), Q v T'.heap L → s.WarmedH T'.vm → s.sameButNew ({ T' with vm := s.vm } : State) L R.cells R.slots → G (.returned v) T') {pc : Nat} {ls : Array Slot} {rest : List Value} {z : Int32} (ht : t = .boolean ∨ t = .byte ∨ t = .char ∨ t = .short) (hd : decode bs pc = .ok (.ireturn, 1)) (hc : cells ≤ R.cells) (hs : slots ≤ R.slots) (eT : T.heap = h) (hQ : Q (some (.int (nar t z))) h locs) : Goes p.tables e below G (T.setTop (mkF m pc ls (.int z :: rest))) := by
  have hlk : meth.locks = false := C.2.2.2.2.2.2
  obtain ⟨fs, hr, hrun, hended, hW, hsame⟩ := X.leave (v := some (.int (nar t z))) (fun q => by rw [C.2.2.2.2.2.1] at q; cases q) hlk
  refine ⟨_, _, ?_, hrun, hended, K _ locs _ (by show Q _ T.heap locs; rw [eT]; exact hQ) hW (hsame.mono hc hs)⟩
  exact retN X C.1 C.2.2.2.2.2.1 ht (hb C.2.2.1 hd) hr
theorem g_retI (C : Ctx p Z s m meth c bs own maxL (some .int)) (X : Stand p l e R s m args below meth c T locs cells slots) {Q : Option Value → Heap → List Loc → Prop} (K : ∀ (v : Option Value) (L : List Loc) (T' : State), Q v T'.heap L → s.WarmedH T'.vm → s.sameButNew ({ T' with vm := s.vm } : State) L R.cells R.slots → G (.returned v) T') {pc : Nat} {ls : Array Slot} {rest : List Value} {z : Int32} (hd : decode bs pc = .ok (.ireturn, 1)) (hc : cells ≤ R.cells) (hs : slots ≤ R.slots) (eT : T.heap = h) (hQ : Q (some (.int z)) h locs) : Goes p.tables e below G (T.setTop (mkF m pc ls (.int z :: rest))) := by
  have hlk : meth.locks = false := C.2.2.2.2.2.2
  obtain ⟨fs, hr, hrun, hended, hW, hsame⟩ := X.leave (v := some (.int z)) (fun q => by rw [C.2.2.2.2.2.1] at q; cases q) hlk
  refine ⟨_, _, ?_, hrun, hended, K _ locs _ (by show Q _ T.heap locs; rw [eT]; exact hQ) hW (hsame.mono hc hs)⟩
  exact retOut X C.1 (w := .int z) (i := .ireturn) C.2.2.2.2.2.1 rfl (Or.inl ⟨rfl, Or.inl rfl, z, rfl⟩) (hb C.2.2.1 hd) hr
theorem g_retJ (C : Ctx p Z s m meth c bs own maxL (some .long)) (X : Stand p l e R s m args below meth c T locs cells slots) {Q : Option Value → Heap → List Loc → Prop} (K : ∀ (v : Option Value) (L : List Loc) (T' : State), Q v T'.heap L → s.WarmedH T'.vm → s.sameButNew ({ T' with vm := s.vm } : State) L R.cells R.slots → G (.returned v) T') {pc : Nat} {ls : Array Slot} {rest : List Value} {z : Int64} (hd : decode bs pc = .ok (.lreturn, 1)) (hc : cells ≤ R.cells) (hs : slots ≤ R.slots) (eT : T.heap = h) (hQ : Q (some (.long z)) h locs) : Goes p.tables e below G (T.setTop (mkF m pc ls (.long z :: rest))) := by
  have hlk : meth.locks = false := C.2.2.2.2.2.2
  obtain ⟨fs, hr, hrun, hended, hW, hsame⟩ := X.leave (v := some (.long z)) (fun q => by rw [C.2.2.2.2.2.1] at q; cases q) hlk
  refine ⟨_, _, ?_, hrun, hended, K _ locs _ (by show Q _ T.heap locs; rw [eT]; exact hQ) hW (hsame.mono hc hs)⟩
  exact retOut X C.1 (w := .long z) (i := .lreturn) C.2.2.2.2.2.1 rfl (Or.inr (Or.inl ⟨rfl, rfl, z, rfl⟩)) (hb C.2.2.1 hd) hr
theorem g_retA {t : FieldType} (C : Ctx p Z s m meth c bs own maxL (some t)) (X : Stand p l e R s m args below meth c T locs cells slots) {Q : Option Value → Heap → List Loc → Prop} (K : ∀ (v : Option Value) (L : List Loc) (T' : State), Q v T'.heap L → s.WarmedH T'.vm → s.sameButNew ({ T' with vm := s.vm } : State) L R.cells R.slots → G (.returned v) T') {pc : Nat} {ls : Array Slot} {rest : List Value} {w : Value} (ht : t.isReference = true) (hn : narrow t w = w) (hw : w.isRef = true) (hd : decode bs pc = .ok (.areturn, 1)) (hc : cells ≤ R.cells) (hs : slots ≤ R.slots) (eT : T.heap = h) (hQ : Q (some w) h locs) : Goes p.tables e below G (T.setTop (mkF m pc ls (w :: rest))) := by
  have hlk : meth.locks = false := C.2.2.2.2.2.2
  obtain ⟨fs, hr, hrun, hended, hW, hsame⟩ := X.leave (v := some w) (fun q => by rw [C.2.2.2.2.2.1] at q; cases q) hlk
  refine ⟨_, _, ?_, hrun, hended, K _ locs _ (by show Q _ T.heap locs; rw [eT]; exact hQ) hW (hsame.mono hc hs)⟩
  exact retOut X C.1 (w := w) (i := .areturn) C.2.2.2.2.2.1 hn (Or.inr (Or.inr (Or.inr (Or.inr ⟨rfl, ht, hw⟩)))) (hb C.2.2.1 hd) hr
theorem g_retV (C : Ctx p Z s m meth c bs own maxL (none)) (X : Stand p l e R s m args below meth c T locs cells slots) {Q : Option Value → Heap → List Loc → Prop} (K : ∀ (v : Option Value) (L : List Loc) (T' : State), Q v T'.heap L → s.WarmedH T'.vm → s.sameButNew ({ T' with vm := s.vm } : State) L R.cells R.slots → G (.returned v) T') {pc : Nat} {ls : Array Slot}  (hd : decode bs pc = .ok (.return_, 1)) (hc : cells ≤ R.cells) (hs : slots ≤ R.slots) (eT : T.heap = h) (hQ : Q (none) h locs) : Goes p.tables e below G (T.setTop (mkF m pc ls [])) := by
  have hlk : meth.locks = false := C.2.2.2.2.2.2
  obtain ⟨fs, hr, hrun, hended, hW, hsame⟩ := X.leave (v := none) (fun _ => rfl) hlk
  refine ⟨_, _, ?_, hrun, hended, K _ locs _ (by show Q _ T.heap locs; rw [eT]; exact hQ) hW (hsame.mono hc hs)⟩
  exact X.returnOut C.1 C.2.2.2.2.2.1 (hb C.2.2.1 hd) hr
theorem g_getF (C : Ctx p Z s m meth c bs own maxL ret) (X : Stand p l e R s m args below meth c T locs cells slots) {pc pc' : Nat} {ls : Array Slot} {st : List Value} {R0 O n d : String} {index : Nat} {a : Addr} {v : Value} (w : (Cond.fieldLink own index R0 n d).before a0 Z = true) (via : Via Z R0 O n d) (eT : T.heap = h) (F : Fld Z h a O n d v) (hd : decode bs pc = .ok (.getfield index, 3)) (hp : pc + 3 = pc')
    (k : ∀ T' : State, Stand p l e R s m args below meth c T' locs cells slots → T'.heap = h → Goes p.tables e below G (T'.setTop (mkF m pc' ls (v :: st)))) : Goes p.tables e below G (T.setTop (mkF m pc ls (.ref a :: st))) := by
  subst hp
  obtain ⟨T', X', e', st'⟩ := getF X C.1 C.2.1 C.2.2.2.2.1 (host := "") (Or.inl w) via eT F (g := mkF m pc ls (.ref a :: st)) rfl rfl (hb C.2.2.1 hd)
  exact Goes.on (fun t k => st' t k) (k T' X' e')
theorem g_getS (C : Ctx p Z s m meth c bs own maxL ret) (X : Stand p l e R s m args below meth c T locs cells slots) {pc pc' : Nat} {ls : Array Slot} {st : List Value} {R0 O n d : String} {index : Nat} {v : Value} (w : (Cond.fieldLink own index R0 n d).before a0 Z = true) (via : Via Z R0 O n d) (eT : T.heap = h) (F : Sta Z h O n d v) (hd : decode bs pc = .ok (.getstatic index, 3)) (hp : pc + 3 = pc')
    (k : ∀ T' : State, Stand p l e R s m args below meth c T' locs cells slots → T'.heap = h → Goes p.tables e below G (T'.setTop (mkF m pc' ls (v :: st)))) : Goes p.tables e below G (T.setTop (mkF m pc ls st)) := by
  subst hp
  obtain ⟨T', X', e', st'⟩ := getS2 X C.1 C.2.1 C.2.2.2.2.1 (host := "") (Or.inl w) via eT F (g := mkF m pc ls st) rfl (hb C.2.2.1 hd)
  exact Goes.on (fun t k => st' t k) (k T' X' e')
theorem g_getFN (C : Ctx p Z s m meth c bs own maxL ret) (X : Stand p l e R s m args below meth c T locs cells slots) {pc pc' : Nat} {ls : Array Slot} {st : List Value} {R0 O n d host : String} {index : Nat} {a : Addr} {v : Value} (w : (Cond.fieldLinkNest own index R0 n d host).before a0 Z = true) (via : Via Z R0 O n d) (eT : T.heap = h) (F : Fld Z h a O n d v) (hd : decode bs pc = .ok (.getfield index, 3)) (hp : pc + 3 = pc')
    (k : ∀ T' : State, Stand p l e R s m args below meth c T' locs cells slots → T'.heap = h → Goes p.tables e below G (T'.setTop (mkF m pc' ls (v :: st)))) : Goes p.tables e below G (T.setTop (mkF m pc ls (.ref a :: st))) := by
  subst hp
  obtain ⟨T', X', e', st'⟩ := getF X C.1 C.2.1 C.2.2.2.2.1 (Or.inr w) via eT F (g := mkF m pc ls (.ref a :: st)) rfl rfl (hb C.2.2.1 hd)
  exact Goes.on (fun t k => st' t k) (k T' X' e')
theorem g_putF (C : Ctx p Z s m meth c bs own maxL ret) (X : Stand p l e R s m args below meth c T locs cells slots) {pc pc' : Nat} {ls : Array Slot} {st : List Value} {R0 O n d K : String} {index kk : Nat} {ty : FieldType} {a : Addr} {v old : Value} (w : (Cond.fieldLink own index R0 n d).before a0 Z = true) (via : Via Z R0 O n d) (eT : T.heap = h) (F : Fld Z h a O n d old) (E : Exa Z h a K) (L : (Cond.lays K O n d).before a0 Z = true ∨ ((Cond.laysFinal K O n d).before a0 Z = true ∧ own = O ∧ meth.name = "<init>")) (wi : (Cond.instantiable K kk).before a0 Z = true) (hty : parseFieldDescriptor d = some ty) (hn : narrow ty v = v) (hf : fits ty v = true) (hd : decode bs pc = .ok (.putfield index, 3)) (hp : pc + 3 = pc')
    (k : ∀ (T' : State) (h' : Heap), Stand p l e R s m args below meth c T' (locs ++ [⟨a, Jvm.RoadKit.slotOf Z O n d⟩]) cells slots → T'.heap = h' → Wr h h' a (Jvm.RoadKit.slotOf Z O n d) v → Goes p.tables e below G (T'.setTop (mkF m pc' ls st))) : Goes p.tables e below G (T.setTop (mkF m pc ls (v :: .ref a :: st))) := by
  subst hp
  obtain ⟨T', h', X', e', W', st'⟩ := putF X C.1 C.2.1 C.2.2.2.2.1 (host := "") (Or.inl w) via eT F E L wi hty hn hf (g := mkF m pc ls (v :: .ref a :: st)) rfl rfl (hb C.2.2.1 hd)
  exact Goes.on (fun t k => st' t k) (k T' h' X' e' W')
theorem g_putFN (C : Ctx p Z s m meth c bs own maxL ret) (X : Stand p l e R s m args below meth c T locs cells slots) {pc pc' : Nat} {ls : Array Slot} {st : List Value} {R0 O n d K : String} {index kk : Nat} {ty : FieldType} {a : Addr} {v old v' : Value} (w : (Cond.fieldLink own index R0 n d).before a0 Z = true) (via : Via Z R0 O n d) (eT : T.heap = h) (F : Fld Z h a O n d old) (E : Exa Z h a K) (L : (Cond.lays K O n d).before a0 Z = true ∨ ((Cond.laysFinal K O n d).before a0 Z = true ∧ own = O ∧ meth.name = "<init>")) (wi : (Cond.instantiable K kk).before a0 Z = true) (hty : parseFieldDescriptor d = some ty) (hn : narrow ty v = v') (hf : fits ty v' = true) (hd : decode bs pc = .ok (.putfield index, 3)) (hp : pc + 3 = pc')
    (k : ∀ (T' : State) (h' : Heap), Stand p l e R s m args below meth c T' (locs ++ [⟨a, Jvm.RoadKit.slotOf Z O n d⟩]) cells slots → T'.heap = h' → Wr h h' a (Jvm.RoadKit.slotOf Z O n d) v' → Goes p.tables e below G (T'.setTop (mkF m pc' ls st))) : Goes p.tables e below G (T.setTop (mkF m pc ls (v :: .ref a :: st))) := by
  subst hp
  obtain ⟨T', h', X', e', W', st'⟩ := putFN X C.1 C.2.1 C.2.2.2.2.1 w via eT F E L wi hty hn hf (g := mkF m pc ls (v :: .ref a :: st)) rfl rfl (hb C.2.2.1 hd)
  exact Goes.on (fun t k => st' t k) (k T' h' X' e' W')
theorem g_new (C : Ctx p Z s m meth c bs own maxL ret) (X : Stand p l e R s m args below meth c T locs cells slots) {pc pc' : Nat} {ls : Array Slot} {st : List Value} {K : String} {index n : Nat} (w : (Cond.classLink own index K).before a0 Z = true) (wi : (Cond.instantiable K n).before a0 Z = true) (wz : (Cond.initialized K).before a0 Z = true) (eT : T.heap = h) (hd : decode bs pc = .ok (.new index, 3)) (hp : pc + 3 = pc') (hc : cells + 1 ≤ R.cells) (hs : slots + n ≤ R.slots)
    (k : ∀ (T' : State) (h' : Heap) (b : Addr), Stand p l e R s m args below meth c T' locs (cells + 1) (slots + n) → T'.heap = h' → b = h.size → Ext h h' → Exa Z h' b K → (∀ {O nm d : String} {ty : FieldType}, Laid Z a0 K O nm d → parseFieldDescriptor d = some ty → Fld Z h' b O nm d (defaultValue ty)) → Goes p.tables e below G (T'.setTop (mkF m pc' ls (.ref b :: st)))) : Goes p.tables e below G (T.setTop (mkF m pc ls st)) := by
  subst hp
  obtain ⟨T', h', X', e', E', A', D', -, st'⟩ := newO X C.1 C.2.1 C.2.2.2.2.1 w wi wz eT (g := mkF m pc ls st) rfl (hb C.2.2.1 hd) hc hs
  exact Goes.on (fun t k => st' t k) (k T' h' h.size X' e' rfl E' A' D')
theorem g_initO (C : Ctx p Z s m meth c bs own maxL ret) (X : Stand p l e R s m args below meth c T locs cells slots) {pc pc' : Nat} {ls : Array Slot} {st : List Value} {idx : Nat} {a : Addr} (w1 : (Cond.methodLink own idx Lib.objectInit).before a0 Z = true) (w2 : (Cond.instanceMethod Lib.objectInit).before a0 Z = true) (w3 : (Cond.code Lib.objectInit ⟨#[0xb1]⟩ 1 none).before a0 Z = true) (eT : T.heap = h) (hls : ls.size = maxL) (hd : decode bs pc = .ok (.invokespecial idx, 3)) (hp : pc + 3 = pc') (hf : 1 ≤ R.frames) {W : Nat} (hW : (st.map fun v => v.category).sum ≤ W) (hl : W + 12 ≤ R.locals)
    (k : ∀ T' : State, Stand p l e R s m args below meth c T' locs cells slots → T'.heap = h → Goes p.tables e below G (T'.setTop (mkF m pc' ls st))) : Goes p.tables e below G (T.setTop (mkF m pc ls (.ref a :: st))) := by
  subst hp
  obtain ⟨T', X', e', st'⟩ := initO X C.1 C.2.1 C.2.2.2.2.1 w1 w2 w3 eT (g := mkF m pc ls (.ref a :: st)) rfl (by rw [C.2.2.2.1]; exact hls) rfl (hb C.2.2.1 hd) hf (W := W) (by show 2 * 0 + _ ≤ _; omega) hl
  exact Goes.on (fun t k => st' t k) (k T' X' e')
theorem g_callS (C : Ctx p Z s m meth c bs own maxL ret) (X : Stand p l e R s m args below meth c T locs cells slots) {pc pc' : Nat} {ls : Array Slot} {y : MethodName} {index : Nat} {bytes : ByteArray} {maxY : Nat} {retY : Option FieldType} {rm : Room} {W : Nat} {Q : Option Value → Heap → List Loc → Prop} {ps : List FieldType} {rr : Option FieldType} {argsL rest stk : List Value} (w1 : (Cond.methodLink own index y).before a0 Z = true) (w2 : (Cond.static y).before a0 Z = true) (w3 : (Cond.initialized y.cls).before a0 Z = true) (w4 : (Cond.code y bytes maxY retY).before a0 Z = true) (hy : y.cls ≠ "java/lang/invoke/MethodHandle" ∧ y.cls ≠ "java/lang/invoke/VarHandle") (hd : decode bs pc = .ok (.invokestatic index, 3)) (hM : MetFree l y (head1 [Cond.code y bytes maxY retY] rm) (fun a' U => a' = argsL.toArray ∧ Z.Warmed39 U.vm ∧ U.heap = h) (fun _ _ _ _ _ => True) (fun _ U o U' => ∃ v L, o = .returned v ∧ Q v U'.heap L ∧ FrameEnd U o U' L rm.cells rm.slots)) (hf : rm.frames + 1 ≤ R.frames) (hl : W + (maxY + 11) + rm.locals ≤ R.locals) (hls : ls.size = maxL) (hpd : parseMethodDescriptor y.desc = some ⟨ps, rr⟩) (hlen : argsL.length = ps.length) (hst : stk = argsL.reverse ++ rest) (hW : (rest.map fun v => v.category).sum ≤ W) (eT : T.heap = h) (hc : cells + rm.cells ≤ R.cells) (hs : slots + rm.slots ≤ R.slots) (hp : pc + 3 = pc')
    (k : ∀ (v : Option Value) (T' : State) (L : List Loc), Stand p l e R s m args below meth c T' (locs ++ L) (cells + rm.cells) (slots + rm.slots) → Q v T'.heap L → Goes p.tables e below G (T'.setTop (mkF m pc' ls (v.toList ++ rest)))) : Goes p.tables e below G (T.setTop (mkF m pc ls stk)) := by
  subst hp hst
  obtain ⟨v, _, ⟨T', L', k', n'⟩, -, X', ⟨L, hQ, l1, l2, l3⟩, st'⟩ := Jvm.LawKit.callS X C.1 (y := y) C.2.2.2.2.1 (mvT C.2.1 w1) (mvT C.2.1 w2) (mvT C.2.1 w3) (mvT C.2.1 w4) hy (backOf (W := W) hM C.2.1 w4 w3 hf hl) (g := mkF m pc ls (argsL.reverse ++ rest)) rfl (by rw [C.2.2.2.1]; exact hls) (argsL := argsL) (rest := rest) (lenOf hpd hlen) rfl (by show 2 * 0 + _ ≤ _; omega) (hb C.2.2.1 hd) (fun _ _ => ⟨rfl, eT, hc, hs⟩)
  dsimp only [Pt.U, Pt.locs, Pt.cells, Pt.slots] at X' l1 l2 l3 st' hQ
  subst l1 l2 l3
  exact Goes.on (fun t k => st' t k) (k v T' L X' hQ)
theorem g_callI (C : Ctx p Z s m meth c bs own maxL ret) (X : Stand p l e R s m args below meth c T locs cells slots) {pc pc' : Nat} {ls : Array Slot} {a : Addr} {y : MethodName} {index : Nat} {bytes : ByteArray} {maxY : Nat} {rm : Room} {W : Nat} {Q : Option Value → Heap → List Loc → Prop} {ps : List FieldType} {rr : Option FieldType} {argsL rest stk : List Value} (hn : y.name = "<init>") (w1 : (Cond.methodLink own index y).before a0 Z = true) (w2 : (Cond.instanceMethod y).before a0 Z = true) (w3 : (Cond.initialized y.cls).before a0 Z = true) (w4 : (Cond.code y bytes maxY none).before a0 Z = true) (hy : y.cls ≠ "java/lang/invoke/MethodHandle" ∧ y.cls ≠ "java/lang/invoke/VarHandle") (hd : decode bs pc = .ok (.invokespecial index, 3)) (hM : MetFree l y (head1 [Cond.code y bytes maxY none] rm) (fun a' U => a' = (.ref a :: argsL).toArray ∧ Z.Warmed39 U.vm ∧ U.heap = h) (fun _ _ _ _ _ => True) (fun _ U o U' => ∃ v L, o = .returned v ∧ Q v U'.heap L ∧ FrameEnd U o U' L rm.cells rm.slots)) (hf : rm.frames + 1 ≤ R.frames) (hl : W + (maxY + 11) + rm.locals ≤ R.locals) (hls : ls.size = maxL) (hpd : parseMethodDescriptor y.desc = some ⟨ps, rr⟩) (hlen : argsL.length = ps.length) (hst : stk = argsL.reverse ++ .ref a :: rest) (hW : (rest.map fun v => v.category).sum ≤ W) (eT : T.heap = h) (hc : cells + rm.cells ≤ R.cells) (hs : slots + rm.slots ≤ R.slots) (hp : pc + 3 = pc')
    (k : ∀ (v : Option Value) (T' : State) (L : List Loc), Stand p l e R s m args below meth c T' (locs ++ L) (cells + rm.cells) (slots + rm.slots) → Q v T'.heap L → Goes p.tables e below G (T'.setTop (mkF m pc' ls (v.toList ++ rest)))) : Goes p.tables e below G (T.setTop (mkF m pc ls stk)) := by
  subst hp hst
  obtain ⟨v, _, ⟨T', L', k', n'⟩, -, X', ⟨L, hQ, l1, l2, l3⟩, st'⟩ := X.specialBack C.1 (y := y) hn C.2.2.2.2.1 (mvT C.2.1 w1) (mvT C.2.1 w2) (mvT C.2.1 w4) hy (backOf (W := W) hM C.2.1 w4 w3 hf hl) (g := mkF m pc ls (argsL.reverse ++ .ref a :: rest)) rfl (by rw [C.2.2.2.1]; exact hls) (Steps.refl _) (a := a) (argsL := argsL) (rest := rest) (lenOf hpd hlen) rfl (by show 2 * 0 + _ ≤ _; omega) (hb C.2.2.1 hd) (fun _ _ => ⟨rfl, eT, hc, hs⟩)
  dsimp only [Pt.U, Pt.locs, Pt.cells, Pt.slots] at X' l1 l2 l3 st' hQ
  subst l1 l2 l3
  exact Goes.on (fun t k => st'.trans k) (k v T' L X' hQ)
theorem g_callV (C : Ctx p Z s m meth c bs own maxL ret) (X : Stand p l e R s m args below meth c T locs cells slots) {pc pc' : Nat} {ls : Array Slot} {a : Addr} {K : String} {y z : MethodName} {index : Nat} {bytes : ByteArray} {maxY : Nat} {retY : Option FieldType} {rm : Room} {W : Nat} {Q : Option Value → Heap → List Loc → Prop} {ps : List FieldType} {rr : Option FieldType} {argsL rest stk : List Value} (w1 : (Cond.methodLink own index y).before a0 Z = true) (w2 : (Cond.declares y).before a0 Z = true) (hnf : NotFace s y) (w3 : (Cond.selects K y z).before a0 Z = true) (w4 : (Cond.instanceMethod z).before a0 Z = true) (w5 : (Cond.code z bytes maxY retY).before a0 Z = true) (w6 : (Cond.initialized z.cls).before a0 Z = true) (hy : y.cls ≠ "java/lang/invoke/MethodHandle" ∧ y.cls ≠ "java/lang/invoke/VarHandle") (E : Exa Z h a K) (hd : decode bs pc = .ok (.invokevirtual index, 3)) (hM : MetFree l z (head1 [Cond.code z bytes maxY retY] rm) (fun a' U => a' = (.ref a :: argsL).toArray ∧ Z.Warmed39 U.vm ∧ U.heap = h) (fun _ _ _ _ _ => True) (fun _ U o U' => ∃ v L, o = .returned v ∧ Q v U'.heap L ∧ FrameEnd U o U' L rm.cells rm.slots)) (hf : rm.frames + 1 ≤ R.frames) (hl : W + (maxY + 11) + rm.locals ≤ R.locals) (hls : ls.size = maxL) (hpd : parseMethodDescriptor y.desc = some ⟨ps, rr⟩) (hlen : argsL.length = ps.length) (hst : stk = argsL.reverse ++ .ref a :: rest) (hW : (rest.map fun v => v.category).sum ≤ W) (eT : T.heap = h) (hc : cells + rm.cells ≤ R.cells) (hs : slots + rm.slots ≤ R.slots) (hp : pc + 3 = pc')
    (k : ∀ (v : Option Value) (T' : State) (L : List Loc), Stand p l e R s m args below meth c T' (locs ++ L) (cells + rm.cells) (slots + rm.slots) → Q v T'.heap L → Goes p.tables e below G (T'.setTop (mkF m pc' ls (v.toList ++ rest)))) : Goes p.tables e below G (T.setTop (mkF m pc ls stk)) := by
  subst hp hst
  obtain ⟨cq, kq, qa, qb, qc⟩ := isOf C.2.1 eT E
  obtain ⟨v, _, ⟨T', L', k', n'⟩, -, X', ⟨L, hQ, l1, l2, l3⟩, st'⟩ := X.virtualBack C.1 (y := y) (z := z) C.2.2.2.2.1 (mvT C.2.1 w1) (mvT C.2.1 w2) hnf (mvT C.2.1 w3) (mvT C.2.1 w4) hy (backOf (W := W) hM C.2.1 w5 w6 hf hl) qa qc (g := mkF m pc ls (argsL.reverse ++ .ref a :: rest)) rfl (by rw [C.2.2.2.1]; exact hls) (Steps.refl _) (argsL := argsL) (rest := rest) (lenOf hpd hlen) rfl (by show 2 * 0 + _ ≤ _; omega) (hb C.2.2.1 hd) (fun _ _ => ⟨rfl, eT, hc, hs⟩)
  dsimp only [Pt.U, Pt.locs, Pt.cells, Pt.slots] at X' l1 l2 l3 st' hQ
  subst l1 l2 l3
  exact Goes.on (fun t k => st'.trans k) (k v T' L X' hQ)
theorem g_callVU (C : Ctx p Z s m meth c bs own maxL ret) (X : Stand p l e R s m args below meth c T locs cells slots) {pc pc' : Nat} {ls : Array Slot} {a : Addr} {K owner : String} {y z : MethodName} {index : Nat} {bytes : ByteArray} {maxY : Nat} {retY : Option FieldType} {rm : Room} {W : Nat} {Q : Option Value → Heap → List Loc → Prop} {ps : List FieldType} {rr : Option FieldType} {argsL rest stk : List Value} (w1 : (Cond.methodLink own index y).before a0 Z = true) (w2 : (Cond.sameMethod y.cls owner y.name y.desc).before a0 Z = true) (w2' : (Cond.declares ⟨owner, y.name, y.desc⟩).before a0 Z = true) (w3 : (Cond.selects K y z).before a0 Z = true) (w4 : (Cond.instanceMethod z).before a0 Z = true) (w5 : (Cond.code z bytes maxY retY).before a0 Z = true) (w6 : (Cond.initialized z.cls).before a0 Z = true) (hy : owner ≠ "java/lang/invoke/MethodHandle" ∧ owner ≠ "java/lang/invoke/VarHandle") (E : Exa Z h a K) (hd : decode bs pc = .ok (.invokevirtual index, 3)) (hM : MetFree l z (head1 [Cond.code z bytes maxY retY] rm) (fun a' U => a' = (.ref a :: argsL).toArray ∧ Z.Warmed39 U.vm ∧ U.heap = h) (fun _ _ _ _ _ => True) (fun _ U o U' => ∃ v L, o = .returned v ∧ Q v U'.heap L ∧ FrameEnd U o U' L rm.cells rm.slots)) (hf : rm.frames + 1 ≤ R.frames) (hl : W + (maxY + 11) + rm.locals ≤ R.locals) (hls : ls.size = maxL) (hpd : parseMethodDescriptor y.desc = some ⟨ps, rr⟩) (hlen : argsL.length = ps.length) (hst : stk = argsL.reverse ++ .ref a :: rest) (hW : (rest.map fun v => v.category).sum ≤ W) (eT : T.heap = h) (hc : cells + rm.cells ≤ R.cells) (hs : slots + rm.slots ≤ R.slots) (hp : pc + 3 = pc')
    (k : ∀ (v : Option Value) (T' : State) (L : List Loc), Stand p l e R s m args below meth c T' (locs ++ L) (cells + rm.cells) (slots + rm.slots) → Q v T'.heap L → Goes p.tables e below G (T'.setTop (mkF m pc' ls (v.toList ++ rest)))) : Goes p.tables e below G (T.setTop (mkF m pc ls stk)) := by
  subst hp hst
  obtain ⟨cq, kq, qa, qb, qc⟩ := isOf C.2.1 eT E
  obtain ⟨v, _, ⟨T', L', k', n'⟩, -, X', ⟨L, hQ, l1, l2, l3⟩, st'⟩ := X.virtualBackUp C.1 (x := y) (y := z) C.2.2.2.2.1 (mvT C.2.1 w1) (mvT C.2.1 w2) (mvT C.2.1 w2') hy (mvT C.2.1 w3) (mvT C.2.1 w4) (backOf (W := W) hM C.2.1 w5 w6 hf hl) qa qc (g := mkF m pc ls (argsL.reverse ++ .ref a :: rest)) rfl (by rw [C.2.2.2.1]; exact hls) (Steps.refl _) (argsL := argsL) (rest := rest) (lenOf hpd hlen) rfl (by show 2 * 0 + _ ≤ _; omega) (hb C.2.2.1 hd) (fun _ _ => ⟨rfl, eT, hc, hs⟩)
  dsimp only [Pt.U, Pt.locs, Pt.cells, Pt.slots] at X' l1 l2 l3 st' hQ
  subst l1 l2 l3
  exact Goes.on (fun t k => st'.trans k) (k v T' L X' hQ)
theorem g_ifnullY (C : Ctx p Z s m meth c bs own maxL ret) (X : Stand p l e R s m args below meth c T locs cells slots) {pc pc' : Nat} {ls : Array Slot} {st : List Value}  {o : Int} (hd : decode bs pc = .ok (.ifnull o, 3)) (ho : 0 ≤ (pc : Int) + o) (hp : ((pc : Int) + o).toNat = pc')
    (k : Goes p.tables e below G (T.setTop (mkF m pc' ls st))) : Goes p.tables e below G (T.setTop (mkF m pc ls (.null :: st))) :=
  Goes.on (fun _ k => XS.ifnullYes X.here C.1 rfl (pc0 := pc) (pc' := pc') rfl (hb C.2.2.1 hd) rfl ho hp k) k
theorem g_ifnullN (C : Ctx p Z s m meth c bs own maxL ret) (X : Stand p l e R s m args below meth c T locs cells slots) {pc pc' : Nat} {ls : Array Slot} {st : List Value} {b : Addr} {o : Int} (hd : decode bs pc = .ok (.ifnull o, 3)) (hp : pc + 3 = pc')
    (k : Goes p.tables e below G (T.setTop (mkF m pc' ls st))) : Goes p.tables e below G (T.setTop (mkF m pc ls (.ref b :: st))) := by
  subst hp
  exact Goes.on (fun _ k => XS.ifnullNo X.here C.1 rfl (hb C.2.2.1 hd) rfl k) k
theorem g_ifnonnullY (C : Ctx p Z s m meth c bs own maxL ret) (X : Stand p l e R s m args below meth c T locs cells slots) {pc pc' : Nat} {ls : Array Slot} {st : List Value} {b : Addr} {o : Int} (hd : decode bs pc = .ok (.ifnonnull o, 3)) (ho : 0 ≤ (pc : Int) + o) (hp : ((pc : Int) + o).toNat = pc')
    (k : Goes p.tables e below G (T.setTop (mkF m pc' ls st))) : Goes p.tables e below G (T.setTop (mkF m pc ls (.ref b :: st))) :=
  Goes.on (fun _ k => XT.ifnonnullYes X.here C.1 rfl (pc0 := pc) (pc' := pc') rfl (hb C.2.2.1 hd) rfl ho hp k) k
theorem g_ifnonnullN (C : Ctx p Z s m meth c bs own maxL ret) (X : Stand p l e R s m args below meth c T locs cells slots) {pc pc' : Nat} {ls : Array Slot} {st : List Value}  {o : Int} (hd : decode bs pc = .ok (.ifnonnull o, 3)) (hp : pc + 3 = pc')
    (k : Goes p.tables e below G (T.setTop (mkF m pc' ls st))) : Goes p.tables e below G (T.setTop (mkF m pc ls (.null :: st))) := by
  subst hp
  exact Goes.on (fun _ k => XT.ifnonnullNo X.here C.1 rfl (hb C.2.2.1 hd) rfl k) k
theorem g_acmp_eq (C : Ctx p Z s m meth c bs own maxL ret) (X : Stand p l e R s m args below meth c T locs cells slots) {pc pcT pcN : Nat} {ls : Array Slot} {st : List Value} {x y : Value} {o : Int} (h1 : x.isRef = true) (h2 : y.isRef = true) (hd : decode bs pc = .ok (.if_acmp .eq o, 3)) (ho : 0 ≤ (pc : Int) + o) (hp : ((pc : Int) + o).toNat = pcT) (hq : pc + 3 = pcN)
    (hyes : x = y → Goes p.tables e below G (T.setTop (mkF m pcT ls st))) (hno : ¬ x = y → Goes p.tables e below G (T.setTop (mkF m pcN ls st))) : Goes p.tables e below G (T.setTop (mkF m pc ls (y :: x :: st))) := by
  subst hq
  by_cases q : x = y
  · exact Goes.on (fun _ k => XT.acmpYes X.here C.1 rfl (pc0 := pc) (pc' := pcT) rfl (hb C.2.2.1 hd) rfl h1 h2 (by simp [XT.acmp, q]) ho hp k) (hyes q)
  · exact Goes.on (fun _ k => XT.acmpNo X.here C.1 rfl (hb C.2.2.1 hd) rfl h1 h2 (by simp [XT.acmp, q]) k) (hno q)
theorem g_acmp_ne (C : Ctx p Z s m meth c bs own maxL ret) (X : Stand p l e R s m args below meth c T locs cells slots) {pc pcT pcN : Nat} {ls : Array Slot} {st : List Value} {x y : Value} {o : Int} (h1 : x.isRef = true) (h2 : y.isRef = true) (hd : decode bs pc = .ok (.if_acmp .ne o, 3)) (ho : 0 ≤ (pc : Int) + o) (hp : ((pc : Int) + o).toNat = pcT) (hq : pc + 3 = pcN)
    (hyes : ¬ x = y → Goes p.tables e below G (T.setTop (mkF m pcT ls st))) (hno : x = y → Goes p.tables e below G (T.setTop (mkF m pcN ls st))) : Goes p.tables e below G (T.setTop (mkF m pc ls (y :: x :: st))) := by
  subst hq
  by_cases q : x = y
  · exact Goes.on (fun _ k => XT.acmpNo X.here C.1 rfl (hb C.2.2.1 hd) rfl h1 h2 (by simp [XT.acmp, q]) k) (hno q)
  · exact Goes.on (fun _ k => XT.acmpYes X.here C.1 rfl (pc0 := pc) (pc' := pcT) rfl (hb C.2.2.1 hd) rfl h1 h2 (by simp [XT.acmp, q]) ho hp k) (hyes q)
theorem g_tsw (C : Ctx p Z s m meth c bs own maxL ret) (X : Stand p l e R s m args below meth c T locs cells slots) {pc pc' : Nat} {ls : Array Slot} {st : List Value} {dflt low high : Int} {offs : Array Int} {len : Nat} {o : Int} {i : Int32} (hd : decode bs pc = .ok (.tableswitch dflt low high offs, len)) (hin : ¬ (i.toInt < low ∨ i.toInt > high)) (hoff : offs[(i.toInt - low).toNat]? = some o) (ho : 0 ≤ (pc : Int) + o) (hp : ((pc : Int) + o).toNat = pc')
    (k : Goes p.tables e below G (T.setTop (mkF m pc' ls st))) : Goes p.tables e below G (T.setTop (mkF m pc ls (.int i :: st))) :=
  Goes.on (fun _ k => XS.tswIn X.here C.1 rfl (pc0 := pc) (pc' := pc') rfl (hb C.2.2.1 hd) rfl hin hoff ho hp k) k
theorem ne_of_fld {a b : Addr} {K n d : String} {v w : Value} (F : Fld Z h a K n d v) (F' : Fld Z h b K n d w) (hv : v ≠ w) : a ≠ b := fun q => by
  subst q
  obtain ⟨c1, f1, k1, i1, g1, a1, a2, -, -, -, -, a7⟩ := F
  obtain ⟨c2, f2, k2, i2, g2, b1, b2, -, -, -, -, b7⟩ := F'
  cases a1.symm.trans b1
  cases a2.symm.trans b2
  exact hv (Option.some.inj (a7.symm.trans b7))
theorem ref_of_exactly {t : Term} {K : String} (hx : (Cond.exactly t K).value args s none s [] = some true) : ∃ a, t.eval args s none [] s = some (.ref a) ∧ Exa s s.heap a K := by
  obtain ⟨a, -, -, -, e1, -⟩ := Cond.exactly_spec (Cond.before_iff.mpr hx)
  exact ⟨a, e1, Exa.start e1 hx⟩
theorem fldI_of {t : Term} {K n d : String} {k : Int32} {a : Addr} (ht : t.eval args s none [] s = some (.ref a)) (hx : (Cond.eq (.field t K n d) (.int k)).value args s none s [] = some true) : Fld s s.heap a K n d (.int k) := by
  obtain ⟨x, y, e1, e2, k1, k2⟩ := cmp_v (Or.inl hx)
  have e3 : y = .int k := (Option.some.inj e2).symm
  subst e3
  obtain ⟨z, rfl⟩ : ∃ z, x = .int z := k2
  have e4 := e1
  rw [fld_at ht] at e4
  have e5 : z = k := by
    simp only [Cond.value, e1, e2] at hx
    simpa using hx
  subst e5
  exact Fld.start e4
theorem fldN_of {t : Term} {K n d : String} {a : Addr} (ht : t.eval args s none [] s = some (.ref a)) (hx : (Cond.eq (.field t K n d) .null).value args s none s [] = some true) : Fld s s.heap a K n d .null := by
  have e := null_v hx
  rw [fld_at ht] at e
  exact Fld.start e
theorem fldR_of {t u : Term} {K n d : String} {a b : Addr} (ht : t.eval args s none [] s = some (.ref a)) (hu : u.eval args s none [] s = some (.ref b)) (hx : (Cond.eq (.field t K n d) u).value args s none s [] = some true) : Fld s s.heap a K n d (.ref b) := by
  obtain ⟨x, y, e1, e2, k1, k2⟩ := cmp_v (Or.inl hx)
  cases e2.symm.trans hu
  have hr : x.isRef = true := k2.2
  have e5 := gotT (eq_R e1 e2 hr rfl) hx
  subst e5
  rw [fld_at ht] at e1
  exact Fld.start e1
end Kit
end Jvm.Own

namespace Jvm.Pilot.@@N@@
open Jvm Jvm.ClassFile Sem Op Lib Jvm.Free Jvm.Stand Jvm.LawKit Jvm.RoadKit Jvm.Own Bundle Jvm.Pilot.@@N@@.Jvm.D
theorem ef_3 (m : MethodId) (x0 : Int32) (x1 : Int32) : entryFrame m #[(.int x0), (.int x1)] 2 = mkF m 0 #[.val (.int x0), .val (.int x1)] [] := by first | (simp [entryFrame, mkF, argsToLocals, Value.category]; done) | rfl
theorem d3_0 : decode jdk_29_method_65_code 0 = .ok (.iload_n 0, 1) := by decide +kernel
theorem d3_1 : decode jdk_29_method_65_code 1 = .ok (.iload_n 1, 1) := by decide +kernel
theorem d3_2 : decode jdk_29_method_65_code 2 = .ok (.if_icmp .lt 7, 3) := by decide +kernel
theorem d3_9 : decode jdk_29_method_65_code 9 = .ok (.iload_n 1, 1) := by decide +kernel
theorem d3_10 : decode jdk_29_method_65_code 10 = .ok (.ireturn, 1) := by decide +kernel
theorem d3_5 : decode jdk_29_method_65_code 5 = .ok (.iload_n 0, 1) := by decide +kernel
theorem d3_6 : decode jdk_29_method_65_code 6 = .ok (.goto 4, 3) := by decide +kernel
def fMax (x0 : Int32) (x1 : Int32) : Int32 := if x0 < x1 then x1 else x0
def Q3 (Z : State) (x0 : Int32) (x1 : Int32) (h0 : Heap) (n0 : Nat) (v : Option Value) (h : Heap) (L : List Loc) : Prop := v = some (.int (fMax x0 x1)) ∧ Fr n0 L ∧ h = h0
set_option maxRecDepth 65536 in
set_option maxHeartbeats 40000000 in
theorem rm3 (l : Launch) (Z : State) (a0 : Array Value) (hw : ∀ d ∈ tables_1, d.before a0 Z = true) (ws : List Jvm.Cond) (x0 : Int32) (x1 : Int32) (h0 : Heap) (n0 : Nat) (Z0 : n0 ≤ h0.size) :
    MetFree l (⟨"java/lang/Math", "max", "(II)I"⟩ : MethodName) (head1 (Jvm.Cond.code (⟨"java/lang/Math", "max", "(II)I"⟩ : MethodName) jdk_29_method_65_code 2 (some .int) :: ws) ({ frames := 0, cells := 0, slots := 0, locals := 0 } : Room)) (fun a U => a = #[(.int x0), (.int x1)] ∧ Z.Warmed39 U.vm ∧ U.heap = h0) (fun _ _ _ _ _ => True) (fun _ U o U' => ∃ v L, o = .returned v ∧ Q3 Z x0 x1 h0 n0 v U'.heap L ∧ FrameEnd U o U' L ({ frames := 0, cells := 0, slots := 0, locals := 0 } : Room).cells ({ frames := 0, cells := 0, slots := 0, locals := 0 } : Room).slots) := by
  refine body_of (y := (⟨"java/lang/Math", "max", "(II)I"⟩ : MethodName)) (Q := Q3 Z x0 x1 h0 n0) (Jvm.Free.JP.mathPlain rfl (by decide +kernel)) ?_
  intro p e s m below meth c T0 G C hnm X0 e0 K
  have N0 := Fr.nil n0
  refine Goes.to (congrArg T0.setTop (ef_3 m x0 x1)) ?_
  refine g_iloadN C X0 d3_0 (pc' := 1) rfl rfl ?_
  refine g_iloadN C X0 d3_1 (pc' := 2) rfl rfl ?_
  refine g_icmp_lt C X0 d3_2 (pcT := 9) (pcN := 5) (by decide) (by decide) rfl (fun hc2 => ?_) (fun hc2 => ?_)
  · refine g_iloadN C X0 d3_9 (pc' := 10) rfl rfl ?_
    exact g_retI C X0 K d3_10 (by decide) (by decide) e0 ⟨by (unfold fMax; rw [if_pos hc2]) <;> rfl, N0, rfl⟩
  · refine g_iloadN C X0 d3_5 (pc' := 6) rfl rfl ?_
    refine g_goto C X0 d3_6 (pc' := 10) (by decide) (by decide) ?_
    exact g_retI C X0 K d3_10 (by decide) (by decide) e0 ⟨by (unfold fMax; rw [if_neg hc2]) <;> rfl, N0, rfl⟩
theorem ef_1 (m : MethodId) (i1 : Int32) : entryFrame m #[(.int i1)] 1 = mkF m 0 #[.val (.int i1)] [] := by first | (simp [entryFrame, mkF, argsToLocals, Value.category]; done) | rfl
theorem d1_0 : decode method_2_code 0 = .ok (.iload_n 0, 1) := by decide +kernel
theorem d1_1 : decode method_2_code 1 = .ok (.ifCond .ne 7, 3) := by decide +kernel
theorem d1_8 : decode method_2_code 8 = .ok (.iload_n 0, 1) := by decide +kernel
theorem d1_9 : decode method_2_code 9 = .ok (.iconst 1, 1) := by decide +kernel
theorem d1_10 : decode method_2_code 10 = .ok (.if_icmp .ne 7, 3) := by decide +kernel
theorem d1_17 : decode method_2_code 17 = .ok (.getstatic 16, 3) := by decide +kernel
theorem w_22 {Z : State} {a0 : Array Value} (hw : ∀ d ∈ tables_1, d.before a0 Z = true) : Jvm.Cond.before (Jvm.Cond.fieldLink "com/example/oecophylla/oecophylla/engine/InclusionAndPinLaw" (16 : Nat) "com/example/oecophylla/oecophylla/engine/SetValue$Inclusion" "NOT_SUBSET" "Lcom/example/oecophylla/oecophylla/engine/SetValue$Inclusion;") a0 Z = true := hw _ (List.mem_of_getElem? (i := 22) rfl)
theorem d1_20 : decode method_2_code 20 = .ok (.areturn, 1) := by decide +kernel
theorem d1_13 : decode method_2_code 13 = .ok (.getstatic 13, 3) := by decide +kernel
theorem w_23 {Z : State} {a0 : Array Value} (hw : ∀ d ∈ tables_1, d.before a0 Z = true) : Jvm.Cond.before (Jvm.Cond.fieldLink "com/example/oecophylla/oecophylla/engine/InclusionAndPinLaw" (13 : Nat) "com/example/oecophylla/oecophylla/engine/SetValue$Inclusion" "CANNOT_TELL" "Lcom/example/oecophylla/oecophylla/engine/SetValue$Inclusion;") a0 Z = true := hw _ (List.mem_of_getElem? (i := 23) rfl)
theorem d1_16 : decode method_2_code 16 = .ok (.areturn, 1) := by decide +kernel
theorem d1_4 : decode method_2_code 4 = .ok (.getstatic 7, 3) := by decide +kernel
theorem w_5 {Z : State} {a0 : Array Value} (hw : ∀ d ∈ tables_1, d.before a0 Z = true) : Jvm.Cond.before (Jvm.Cond.fieldLink "com/example/oecophylla/oecophylla/engine/InclusionAndPinLaw" (7 : Nat) "com/example/oecophylla/oecophylla/engine/SetValue$Inclusion" "SUBSET" "Lcom/example/oecophylla/oecophylla/engine/SetValue$Inclusion;") a0 Z = true := hw _ (List.mem_of_getElem? (i := 5) rfl)
theorem d1_7 : decode method_2_code 7 = .ok (.areturn, 1) := by decide +kernel
def fPick (i1 : Int32) (b1 : Addr) (b2 : Addr) (b3 : Addr) : Value := if i1 = (0 : Int32) then (.ref b1) else if i1 = (1 : Int32) then (.ref b2) else (.ref b3)
def Q1 (Z : State) (i1 : Int32) (b1 : Addr) (b2 : Addr) (b3 : Addr) (h0 : Heap) (n0 : Nat) (v : Option Value) (h : Heap) (L : List Loc) : Prop := v = some (fPick i1 b1 b2 b3) ∧ Fr n0 L ∧ h = h0
theorem pn_0 : plainName "com/example/oecophylla/oecophylla/engine/InclusionAndPinLaw" = true := by first | (simp [plainName, overriddenIn]; done) | decide +kernel
set_option maxRecDepth 65536 in
set_option maxHeartbeats 40000000 in
theorem rm1 (l : Launch) (Z : State) (a0 : Array Value) (hw : ∀ d ∈ tables_1, d.before a0 Z = true) (ws : List Jvm.Cond) (i1 : Int32) (b1 : Addr) (b2 : Addr) (b3 : Addr) (h0 : Heap) (n0 : Nat) (Z0 : n0 ≤ h0.size) (F0 : Sta Z h0 "com/example/oecophylla/oecophylla/engine/SetValue$Inclusion" "SUBSET" "Lcom/example/oecophylla/oecophylla/engine/SetValue$Inclusion;" (.ref b1)) (F1 : Sta Z h0 "com/example/oecophylla/oecophylla/engine/SetValue$Inclusion" "CANNOT_TELL" "Lcom/example/oecophylla/oecophylla/engine/SetValue$Inclusion;" (.ref b2)) (F2 : Sta Z h0 "com/example/oecophylla/oecophylla/engine/SetValue$Inclusion" "NOT_SUBSET" "Lcom/example/oecophylla/oecophylla/engine/SetValue$Inclusion;" (.ref b3)) :
    MetFree l (⟨"com/example/oecophylla/oecophylla/engine/InclusionAndPinLaw", "pick", "(I)Lcom/example/oecophylla/oecophylla/engine/SetValue$Inclusion;"⟩ : MethodName) (head1 (Jvm.Cond.code (⟨"com/example/oecophylla/oecophylla/engine/InclusionAndPinLaw", "pick", "(I)Lcom/example/oecophylla/oecophylla/engine/SetValue$Inclusion;"⟩ : MethodName) method_2_code 1 (some (.object "com/example/oecophylla/oecophylla/engine/SetValue$Inclusion")) :: ws) ({ frames := 0, cells := 0, slots := 0, locals := 0 } : Room)) (fun a U => a = #[(.int i1)] ∧ Z.Warmed39 U.vm ∧ U.heap = h0) (fun _ _ _ _ _ => True) (fun _ U o U' => ∃ v L, o = .returned v ∧ Q1 Z i1 b1 b2 b3 h0 n0 v U'.heap L ∧ FrameEnd U o U' L ({ frames := 0, cells := 0, slots := 0, locals := 0 } : Room).cells ({ frames := 0, cells := 0, slots := 0, locals := 0 } : Room).slots) := by
  refine body_of (y := (⟨"com/example/oecophylla/oecophylla/engine/InclusionAndPinLaw", "pick", "(I)Lcom/example/oecophylla/oecophylla/engine/SetValue$Inclusion;"⟩ : MethodName)) (Q := Q1 Z i1 b1 b2 b3 h0 n0) (plainFor_of_name pn_0) ?_
  intro p e s m below meth c T0 G C hnm X0 e0 K
  have N0 := Fr.nil n0
  refine Goes.to (congrArg T0.setTop (ef_1 m i1)) ?_
  refine g_iloadN C X0 d1_0 (pc' := 1) rfl rfl ?_
  refine g_if_ne C X0 d1_1 (pcT := 8) (pcN := 4) (by decide) (by decide) rfl (fun hc1 => ?_) (fun hc1 => ?_)
  · refine g_iloadN C X0 d1_8 (pc' := 9) rfl rfl ?_
    refine g_iconst C X0 d1_9 (pc' := 10) rfl (v := 1) rfl ?_
    refine g_icmp_ne C X0 d1_10 (pcT := 17) (pcN := 13) (by decide) (by decide) rfl (fun hc10 => ?_) (fun hc10 => ?_)
    · refine g_getS C X0 (w_22 hw) Via.refl e0 F2 d1_17 (pc' := 20) rfl (fun T1 X1 e1 => ?_)
      exact g_retA C X1 K rfl rfl rfl d1_20 (by decide) (by decide) e1 ⟨(by (unfold fPick; rw [if_neg hc1, if_neg hc10]) <;> rfl), N0, rfl⟩
    · refine g_getS C X0 (w_23 hw) Via.refl e0 F1 d1_13 (pc' := 16) rfl (fun T2 X2 e2 => ?_)
      exact g_retA C X2 K rfl rfl rfl d1_16 (by decide) (by decide) e2 ⟨(by (unfold fPick; rw [if_neg hc1, if_pos hc10]) <;> rfl), N0, rfl⟩
  · refine g_getS C X0 (w_5 hw) Via.refl e0 F0 d1_4 (pc' := 7) rfl (fun T3 X3 e3 => ?_)
    exact g_retA C X3 K rfl rfl rfl d1_7 (by decide) (by decide) e3 ⟨(by (unfold fPick; rw [if_pos hc1]) <;> rfl), N0, rfl⟩
theorem ef_2 (m : MethodId) (o1 : Addr) (o2 : Addr) : entryFrame m #[(.ref o1), (.ref o2)] 3 = mkF m 0 #[.val (.ref o1), .val (.ref o2), .unset] [] := by first | (simp [entryFrame, mkF, argsToLocals, Value.category]; done) | rfl
theorem d2_0 : decode prog_51_method_5_code 0 = .ok (.aload_n 0, 1) := by decide +kernel
theorem d2_1 : decode prog_51_method_5_code 1 = .ok (.getstatic 7, 3) := by decide +kernel
theorem w_13 {Z : State} {a0 : Array Value} (hw : ∀ d ∈ tables_1, d.before a0 Z = true) : Jvm.Cond.before (Jvm.Cond.fieldLink "com/example/oecophylla/oecophylla/engine/SetValue$Inclusion" (7 : Nat) "com/example/oecophylla/oecophylla/engine/SetValue$Inclusion" "NOT_SUBSET" "Lcom/example/oecophylla/oecophylla/engine/SetValue$Inclusion;") a0 Z = true := hw _ (List.mem_of_getElem? (i := 13) rfl)
theorem d2_4 : decode prog_51_method_5_code 4 = .ok (.if_acmp .eq 10, 3) := by decide +kernel
theorem d2_14 : decode prog_51_method_5_code 14 = .ok (.getstatic 7, 3) := by decide +kernel
theorem d2_17 : decode prog_51_method_5_code 17 = .ok (.astore_n 2, 1) := by decide +kernel
theorem d2_18 : decode prog_51_method_5_code 18 = .ok (.goto 28, 3) := by decide +kernel
theorem d2_46 : decode prog_51_method_5_code 46 = .ok (.aload_n 2, 1) := by decide +kernel
theorem d2_47 : decode prog_51_method_5_code 47 = .ok (.areturn, 1) := by decide +kernel
theorem d2_7 : decode prog_51_method_5_code 7 = .ok (.aload_n 1, 1) := by decide +kernel
theorem d2_8 : decode prog_51_method_5_code 8 = .ok (.getstatic 7, 3) := by decide +kernel
theorem d2_11 : decode prog_51_method_5_code 11 = .ok (.if_acmp .ne 10, 3) := by decide +kernel
theorem d2_21 : decode prog_51_method_5_code 21 = .ok (.aload_n 0, 1) := by decide +kernel
theorem d2_22 : decode prog_51_method_5_code 22 = .ok (.getstatic 10, 3) := by decide +kernel
theorem w_15 {Z : State} {a0 : Array Value} (hw : ∀ d ∈ tables_1, d.before a0 Z = true) : Jvm.Cond.before (Jvm.Cond.fieldLink "com/example/oecophylla/oecophylla/engine/SetValue$Inclusion" (10 : Nat) "com/example/oecophylla/oecophylla/engine/SetValue$Inclusion" "CANNOT_TELL" "Lcom/example/oecophylla/oecophylla/engine/SetValue$Inclusion;") a0 Z = true := hw _ (List.mem_of_getElem? (i := 15) rfl)
theorem d2_25 : decode prog_51_method_5_code 25 = .ok (.if_acmp .eq 10, 3) := by decide +kernel
theorem d2_35 : decode prog_51_method_5_code 35 = .ok (.getstatic 10, 3) := by decide +kernel
theorem d2_38 : decode prog_51_method_5_code 38 = .ok (.astore_n 2, 1) := by decide +kernel
theorem d2_39 : decode prog_51_method_5_code 39 = .ok (.goto 7, 3) := by decide +kernel
theorem d2_28 : decode prog_51_method_5_code 28 = .ok (.aload_n 1, 1) := by decide +kernel
theorem d2_29 : decode prog_51_method_5_code 29 = .ok (.getstatic 10, 3) := by decide +kernel
theorem d2_32 : decode prog_51_method_5_code 32 = .ok (.if_acmp .ne 10, 3) := by decide +kernel
theorem d2_42 : decode prog_51_method_5_code 42 = .ok (.getstatic 3, 3) := by decide +kernel
theorem w_17 {Z : State} {a0 : Array Value} (hw : ∀ d ∈ tables_1, d.before a0 Z = true) : Jvm.Cond.before (Jvm.Cond.fieldLink "com/example/oecophylla/oecophylla/engine/SetValue$Inclusion" (3 : Nat) "com/example/oecophylla/oecophylla/engine/SetValue$Inclusion" "SUBSET" "Lcom/example/oecophylla/oecophylla/engine/SetValue$Inclusion;") a0 Z = true := hw _ (List.mem_of_getElem? (i := 17) rfl)
theorem d2_45 : decode prog_51_method_5_code 45 = .ok (.astore_n 2, 1) := by decide +kernel
def fAnd (o1 : Addr) (o2 : Addr) (b1 : Addr) (b2 : Addr) (b3 : Addr) : Value := if (Value.ref o1) = (Value.ref b3) then (.ref b3) else if (Value.ref o2) = (Value.ref b3) then (.ref b3) else if (Value.ref o1) = (Value.ref b2) then (.ref b2) else if (Value.ref o2) = (Value.ref b2) then (.ref b2) else (.ref b1)
def Q2 (Z : State) (o1 : Addr) (o2 : Addr) (b1 : Addr) (b2 : Addr) (b3 : Addr) (h0 : Heap) (n0 : Nat) (v : Option Value) (h : Heap) (L : List Loc) : Prop := v = some (fAnd o1 o2 b1 b2 b3) ∧ Fr n0 L ∧ h = h0
theorem pn_2 : plainName "com/example/oecophylla/oecophylla/engine/SetValue$Inclusion" = true := by first | (simp [plainName, overriddenIn]; done) | decide +kernel
set_option maxRecDepth 65536 in
set_option maxHeartbeats 40000000 in
theorem rm2 (l : Launch) (Z : State) (a0 : Array Value) (hw : ∀ d ∈ tables_1, d.before a0 Z = true) (ws : List Jvm.Cond) (o1 : Addr) (o2 : Addr) (b1 : Addr) (b2 : Addr) (b3 : Addr) (h0 : Heap) (n0 : Nat) (Z0 : n0 ≤ h0.size) (F0 : Sta Z h0 "com/example/oecophylla/oecophylla/engine/SetValue$Inclusion" "SUBSET" "Lcom/example/oecophylla/oecophylla/engine/SetValue$Inclusion;" (.ref b1)) (F1 : Sta Z h0 "com/example/oecophylla/oecophylla/engine/SetValue$Inclusion" "CANNOT_TELL" "Lcom/example/oecophylla/oecophylla/engine/SetValue$Inclusion;" (.ref b2)) (F2 : Sta Z h0 "com/example/oecophylla/oecophylla/engine/SetValue$Inclusion" "NOT_SUBSET" "Lcom/example/oecophylla/oecophylla/engine/SetValue$Inclusion;" (.ref b3)) :
    MetFree l (⟨"com/example/oecophylla/oecophylla/engine/SetValue$Inclusion", "and", "(Lcom/example/oecophylla/oecophylla/engine/SetValue$Inclusion;)Lcom/example/oecophylla/oecophylla/engine/SetValue$Inclusion;"⟩ : MethodName) (head1 (Jvm.Cond.code (⟨"com/example/oecophylla/oecophylla/engine/SetValue$Inclusion", "and", "(Lcom/example/oecophylla/oecophylla/engine/SetValue$Inclusion;)Lcom/example/oecophylla/oecophylla/engine/SetValue$Inclusion;"⟩ : MethodName) prog_51_method_5_code 3 (some (.object "com/example/oecophylla/oecophylla/engine/SetValue$Inclusion")) :: ws) ({ frames := 0, cells := 0, slots := 0, locals := 0 } : Room)) (fun a U => a = #[(.ref o1), (.ref o2)] ∧ Z.Warmed39 U.vm ∧ U.heap = h0) (fun _ _ _ _ _ => True) (fun _ U o U' => ∃ v L, o = .returned v ∧ Q2 Z o1 o2 b1 b2 b3 h0 n0 v U'.heap L ∧ FrameEnd U o U' L ({ frames := 0, cells := 0, slots := 0, locals := 0 } : Room).cells ({ frames := 0, cells := 0, slots := 0, locals := 0 } : Room).slots) := by
  refine body_of (y := (⟨"com/example/oecophylla/oecophylla/engine/SetValue$Inclusion", "and", "(Lcom/example/oecophylla/oecophylla/engine/SetValue$Inclusion;)Lcom/example/oecophylla/oecophylla/engine/SetValue$Inclusion;"⟩ : MethodName)) (Q := Q2 Z o1 o2 b1 b2 b3 h0 n0) (plainFor_of_name pn_2) ?_
  intro p e s m below meth c T0 G C hnm X0 e0 K
  have N0 := Fr.nil n0
  refine Goes.to (congrArg T0.setTop (ef_2 m o1 o2)) ?_
  refine g_aloadN C X0 d2_0 (pc' := 1) rfl rfl rfl ?_
  refine g_getS C X0 (w_13 hw) Via.refl e0 F2 d2_1 (pc' := 4) rfl (fun T1 X1 e1 => ?_)
  refine g_acmp_eq C X1 rfl rfl d2_4 (pcT := 14) (pcN := 7) (by decide) (by decide) rfl (fun hc4 => ?_) (fun hc4 => ?_)
  · refine g_getS C X1 (w_13 hw) Via.refl e1 F2 d2_14 (pc' := 17) rfl (fun T2 X2 e2 => ?_)
    refine g_astoreN C X2 d2_17 (pc' := 18) rfl rfl (ls' := #[.val (.ref o1), .val (.ref o2), .val (.ref b3)]) rfl ?_
    refine g_goto C X2 d2_18 (pc' := 46) (by decide) (by decide) ?_
    refine g_aloadN C X2 d2_46 (pc' := 47) rfl rfl rfl ?_
    exact g_retA C X2 K rfl rfl rfl d2_47 (by decide) (by decide) e2 ⟨(by (unfold fAnd; rw [if_pos hc4]) <;> rfl), N0, rfl⟩
  · refine g_aloadN C X1 d2_7 (pc' := 8) rfl rfl rfl ?_
    refine g_getS C X1 (w_13 hw) Via.refl e1 F2 d2_8 (pc' := 11) rfl (fun T3 X3 e3 => ?_)
    refine g_acmp_ne C X3 rfl rfl d2_11 (pcT := 21) (pcN := 14) (by decide) (by decide) rfl (fun hc11 => ?_) (fun hc11 => ?_)
    · refine g_aloadN C X3 d2_21 (pc' := 22) rfl rfl rfl ?_
      refine g_getS C X3 (w_15 hw) Via.refl e3 F1 d2_22 (pc' := 25) rfl (fun T4 X4 e4 => ?_)
      refine g_acmp_eq C X4 rfl rfl d2_25 (pcT := 35) (pcN := 28) (by decide) (by decide) rfl (fun hc25 => ?_) (fun hc25 => ?_)
      · refine g_getS C X4 (w_15 hw) Via.refl e4 F1 d2_35 (pc' := 38) rfl (fun T5 X5 e5 => ?_)
        refine g_astoreN C X5 d2_38 (pc' := 39) rfl rfl (ls' := #[.val (.ref o1), .val (.ref o2), .val (.ref b2)]) rfl ?_
        refine g_goto C X5 d2_39 (pc' := 46) (by decide) (by decide) ?_
        refine g_aloadN C X5 d2_46 (pc' := 47) rfl rfl rfl ?_
        exact g_retA C X5 K rfl rfl rfl d2_47 (by decide) (by decide) e5 ⟨(by (unfold fAnd; rw [if_neg hc4, if_neg hc11, if_pos hc25]) <;> rfl), N0, rfl⟩
      · refine g_aloadN C X4 d2_28 (pc' := 29) rfl rfl rfl ?_
        refine g_getS C X4 (w_15 hw) Via.refl e4 F1 d2_29 (pc' := 32) rfl (fun T6 X6 e6 => ?_)
        refine g_acmp_ne C X6 rfl rfl d2_32 (pcT := 42) (pcN := 35) (by decide) (by decide) rfl (fun hc32 => ?_) (fun hc32 => ?_)
        · refine g_getS C X6 (w_17 hw) Via.refl e6 F0 d2_42 (pc' := 45) rfl (fun T7 X7 e7 => ?_)
          refine g_astoreN C X7 d2_45 (pc' := 46) rfl rfl (ls' := #[.val (.ref o1), .val (.ref o2), .val (.ref b1)]) rfl ?_
          refine g_aloadN C X7 d2_46 (pc' := 47) rfl rfl rfl ?_
          exact g_retA C X7 K rfl rfl rfl d2_47 (by decide) (by decide) e7 ⟨(by (unfold fAnd; rw [if_neg hc4, if_neg hc11, if_neg hc25, if_neg hc32]) <;> rfl), N0, rfl⟩
        · refine g_getS C X6 (w_15 hw) Via.refl e6 F1 d2_35 (pc' := 38) rfl (fun T8 X8 e8 => ?_)
          refine g_astoreN C X8 d2_38 (pc' := 39) rfl rfl (ls' := #[.val (.ref o1), .val (.ref o2), .val (.ref b2)]) rfl ?_
          refine g_goto C X8 d2_39 (pc' := 46) (by decide) (by decide) ?_
          refine g_aloadN C X8 d2_46 (pc' := 47) rfl rfl rfl ?_
          exact g_retA C X8 K rfl rfl rfl d2_47 (by decide) (by decide) e8 ⟨(by (unfold fAnd; rw [if_neg hc4, if_neg hc11, if_neg hc25, if_pos hc32]) <;> rfl), N0, rfl⟩
    · refine g_getS C X3 (w_13 hw) Via.refl e3 F2 d2_14 (pc' := 17) rfl (fun T9 X9 e9 => ?_)
      refine g_astoreN C X9 d2_17 (pc' := 18) rfl rfl (ls' := #[.val (.ref o1), .val (.ref o2), .val (.ref b3)]) rfl ?_
      refine g_goto C X9 d2_18 (pc' := 46) (by decide) (by decide) ?_
      refine g_aloadN C X9 d2_46 (pc' := 47) rfl rfl rfl ?_
      exact g_retA C X9 K rfl rfl rfl d2_47 (by decide) (by decide) e9 ⟨(by (unfold fAnd; rw [if_neg hc4, if_pos hc11]) <;> rfl), N0, rfl⟩
theorem own_r3 {x v : Int32} (h : (x &&& 2147483647) % 3 = v) : v = 0 ∨ v = 1 ∨ v = 2 := by
  have e0 : (x &&& 2147483647 : Int32).toInt = x.toInt % 2 ^ 31 := Jvm.Kit.i32_mask x 2147483647 (k := 31) (by decide) (by decide)
  have e1 : ((x &&& 2147483647) % 3 : Int32).toInt = (x &&& 2147483647 : Int32).toInt % (3 : Int32).toInt := Jvm.Kit.i32_rem_nonneg (by omega)
  have e3 : (3 : Int32).toInt = 3 := by decide
  rw [h, e3] at e1
  have d0 : (0 : Int32).toInt = 0 := by decide
  have d1 : (1 : Int32).toInt = 1 := by decide
  have d2 : (2 : Int32).toInt = 2 := by decide
  simp only [← Int32.toInt_inj]; omega
theorem ef_0 (m : MethodId) (p0 : Int32) (p1 : Int32) : entryFrame m #[(.int p0), (.int p1)] maxLocals = mkF m 0 #[.val (.int p0), .val (.int p1), .unset, .unset, .unset, .unset, .unset] [] := by first | (simp [entryFrame, mkF, argsToLocals, Value.category, maxLocals]; done) | rfl
theorem w_0 {Z : State} {a0 : Array Value} (hw : ∀ d ∈ tables_1, d.before a0 Z = true) : Jvm.Cond.before (Jvm.Cond.constant "com/example/oecophylla/oecophylla/engine/InclusionAndPinLaw" (19 : Nat) (2147483647 : Int32)) a0 Z = true := hw _ (List.mem_of_getElem? (i := 0) rfl)
theorem w_4 {Z : State} {a0 : Array Value} (hw : ∀ d ∈ tables_1, d.before a0 Z = true) : Jvm.Cond.before (Jvm.Cond.code ({ cls := "com/example/oecophylla/oecophylla/engine/InclusionAndPinLaw", name := "pick", desc := "(I)Lcom/example/oecophylla/oecophylla/engine/SetValue$Inclusion;" } : Jvm.MethodName) method_2_code (1 : Nat) (Option.some (Jvm.ClassFile.FieldType.object "com/example/oecophylla/oecophylla/engine/SetValue$Inclusion"))) a0 Z = true := hw _ (List.mem_of_getElem? (i := 4) rfl)
theorem w_3 {Z : State} {a0 : Array Value} (hw : ∀ d ∈ tables_1, d.before a0 Z = true) : Jvm.Cond.before (Jvm.Cond.initialized "com/example/oecophylla/oecophylla/engine/InclusionAndPinLaw") a0 Z = true := hw _ (List.mem_of_getElem? (i := 3) rfl)
theorem w_1 {Z : State} {a0 : Array Value} (hw : ∀ d ∈ tables_1, d.before a0 Z = true) : Jvm.Cond.before (Jvm.Cond.methodLink "com/example/oecophylla/oecophylla/engine/InclusionAndPinLaw" (20 : Nat) ({ cls := "com/example/oecophylla/oecophylla/engine/InclusionAndPinLaw", name := "pick", desc := "(I)Lcom/example/oecophylla/oecophylla/engine/SetValue$Inclusion;" } : Jvm.MethodName)) a0 Z = true := hw _ (List.mem_of_getElem? (i := 1) rfl)
theorem pd_0 : parseMethodDescriptor "(I)Lcom/example/oecophylla/oecophylla/engine/SetValue$Inclusion;" = some ⟨[.int], some (.object "com/example/oecophylla/oecophylla/engine/SetValue$Inclusion")⟩ := by decide +kernel
theorem w_2 {Z : State} {a0 : Array Value} (hw : ∀ d ∈ tables_1, d.before a0 Z = true) : Jvm.Cond.before (Jvm.Cond.static ({ cls := "com/example/oecophylla/oecophylla/engine/InclusionAndPinLaw", name := "pick", desc := "(I)Lcom/example/oecophylla/oecophylla/engine/SetValue$Inclusion;" } : Jvm.MethodName)) a0 Z = true := hw _ (List.mem_of_getElem? (i := 2) rfl)
theorem w_12 {Z : State} {a0 : Array Value} (hw : ∀ d ∈ tables_1, d.before a0 Z = true) : Jvm.Cond.before (Jvm.Cond.code ({ cls := "com/example/oecophylla/oecophylla/engine/SetValue$Inclusion", name := "and", desc := "(Lcom/example/oecophylla/oecophylla/engine/SetValue$Inclusion;)Lcom/example/oecophylla/oecophylla/engine/SetValue$Inclusion;" } : Jvm.MethodName) prog_51_method_5_code (3 : Nat) (Option.some (Jvm.ClassFile.FieldType.object "com/example/oecophylla/oecophylla/engine/SetValue$Inclusion"))) a0 Z = true := hw _ (List.mem_of_getElem? (i := 12) rfl)
theorem w_6 {Z : State} {a0 : Array Value} (hw : ∀ d ∈ tables_1, d.before a0 Z = true) : Jvm.Cond.before (Jvm.Cond.initialized "com/example/oecophylla/oecophylla/engine/SetValue$Inclusion") a0 Z = true := hw _ (List.mem_of_getElem? (i := 6) rfl)
theorem w_8 {Z : State} {a0 : Array Value} (hw : ∀ d ∈ tables_1, d.before a0 Z = true) : Jvm.Cond.before (Jvm.Cond.methodLink "com/example/oecophylla/oecophylla/engine/InclusionAndPinLaw" (26 : Nat) ({ cls := "com/example/oecophylla/oecophylla/engine/SetValue$Inclusion", name := "and", desc := "(Lcom/example/oecophylla/oecophylla/engine/SetValue$Inclusion;)Lcom/example/oecophylla/oecophylla/engine/SetValue$Inclusion;" } : Jvm.MethodName)) a0 Z = true := hw _ (List.mem_of_getElem? (i := 8) rfl)
theorem pd_1 : parseMethodDescriptor "(Lcom/example/oecophylla/oecophylla/engine/SetValue$Inclusion;)Lcom/example/oecophylla/oecophylla/engine/SetValue$Inclusion;" = some ⟨[(.object "com/example/oecophylla/oecophylla/engine/SetValue$Inclusion")], some (.object "com/example/oecophylla/oecophylla/engine/SetValue$Inclusion")⟩ := by decide +kernel
theorem w_11 {Z : State} {a0 : Array Value} (hw : ∀ d ∈ tables_1, d.before a0 Z = true) : Jvm.Cond.before (Jvm.Cond.selects "com/example/oecophylla/oecophylla/engine/SetValue$Inclusion" ({ cls := "com/example/oecophylla/oecophylla/engine/SetValue$Inclusion", name := "and", desc := "(Lcom/example/oecophylla/oecophylla/engine/SetValue$Inclusion;)Lcom/example/oecophylla/oecophylla/engine/SetValue$Inclusion;" } : Jvm.MethodName) ({ cls := "com/example/oecophylla/oecophylla/engine/SetValue$Inclusion", name := "and", desc := "(Lcom/example/oecophylla/oecophylla/engine/SetValue$Inclusion;)Lcom/example/oecophylla/oecophylla/engine/SetValue$Inclusion;" } : Jvm.MethodName)) a0 Z = true := hw _ (List.mem_of_getElem? (i := 11) rfl)
theorem w_9 {Z : State} {a0 : Array Value} (hw : ∀ d ∈ tables_1, d.before a0 Z = true) : Jvm.Cond.before (Jvm.Cond.declares ({ cls := "com/example/oecophylla/oecophylla/engine/SetValue$Inclusion", name := "and", desc := "(Lcom/example/oecophylla/oecophylla/engine/SetValue$Inclusion;)Lcom/example/oecophylla/oecophylla/engine/SetValue$Inclusion;" } : Jvm.MethodName)) a0 Z = true := hw _ (List.mem_of_getElem? (i := 9) rfl)
theorem w_10 {Z : State} {a0 : Array Value} (hw : ∀ d ∈ tables_1, d.before a0 Z = true) : Jvm.Cond.before (Jvm.Cond.instanceMethod ({ cls := "com/example/oecophylla/oecophylla/engine/SetValue$Inclusion", name := "and", desc := "(Lcom/example/oecophylla/oecophylla/engine/SetValue$Inclusion;)Lcom/example/oecophylla/oecophylla/engine/SetValue$Inclusion;" } : Jvm.MethodName)) a0 Z = true := hw _ (List.mem_of_getElem? (i := 10) rfl)
theorem w_21 {Z : State} {a0 : Array Value} (hw : ∀ d ∈ tables_1, d.before a0 Z = true) : Jvm.Cond.before (Jvm.Cond.code ({ cls := "java/lang/Math", name := "max", desc := "(II)I" } : Jvm.MethodName) jdk_29_method_65_code (2 : Nat) (Option.some Jvm.ClassFile.FieldType.int)) a0 Z = true := hw _ (List.mem_of_getElem? (i := 21) rfl)
theorem w_20 {Z : State} {a0 : Array Value} (hw : ∀ d ∈ tables_1, d.before a0 Z = true) : Jvm.Cond.before (Jvm.Cond.initialized "java/lang/Math") a0 Z = true := hw _ (List.mem_of_getElem? (i := 20) rfl)
theorem w_18 {Z : State} {a0 : Array Value} (hw : ∀ d ∈ tables_1, d.before a0 Z = true) : Jvm.Cond.before (Jvm.Cond.methodLink "com/example/oecophylla/oecophylla/engine/InclusionAndPinLaw" (30 : Nat) ({ cls := "java/lang/Math", name := "max", desc := "(II)I" } : Jvm.MethodName)) a0 Z = true := hw _ (List.mem_of_getElem? (i := 18) rfl)
theorem pd_2 : parseMethodDescriptor "(II)I" = some ⟨[.int, .int], some .int⟩ := by decide +kernel
theorem w_19 {Z : State} {a0 : Array Value} (hw : ∀ d ∈ tables_1, d.before a0 Z = true) : Jvm.Cond.before (Jvm.Cond.static ({ cls := "java/lang/Math", name := "max", desc := "(II)I" } : Jvm.MethodName)) a0 Z = true := hw _ (List.mem_of_getElem? (i := 19) rfl)
def Q0 (Z : State) (p0 : Int32) (p1 : Int32) (b1 b2 b3 : Addr) (h0 : Heap) (n0 : Nat) (v : Option Value) (h : Heap) (L : List Loc) : Prop := v = some (.int 1) ∧ Fr n0 L
set_option maxRecDepth 65536 in
set_option maxHeartbeats 40000000 in
theorem rm0 (l : Launch) (Z : State) (a0 : Array Value) (hw : ∀ d ∈ tables_1, d.before a0 Z = true) (ws : List Jvm.Cond) (p0 : Int32) (p1 : Int32) (b1 b2 b3 : Addr) (h0 : Heap) (n0 : Nat) (Z0 : n0 ≤ h0.size) (F0 : Sta Z h0 "com/example/oecophylla/oecophylla/engine/SetValue$Inclusion" "SUBSET" "Lcom/example/oecophylla/oecophylla/engine/SetValue$Inclusion;" (.ref b1)) (F1 : Exa Z h0 b1 "com/example/oecophylla/oecophylla/engine/SetValue$Inclusion") (F2 : Sta Z h0 "com/example/oecophylla/oecophylla/engine/SetValue$Inclusion" "CANNOT_TELL" "Lcom/example/oecophylla/oecophylla/engine/SetValue$Inclusion;" (.ref b2)) (F3 : Exa Z h0 b2 "com/example/oecophylla/oecophylla/engine/SetValue$Inclusion") (F4 : Sta Z h0 "com/example/oecophylla/oecophylla/engine/SetValue$Inclusion" "NOT_SUBSET" "Lcom/example/oecophylla/oecophylla/engine/SetValue$Inclusion;" (.ref b3)) (F5 : Exa Z h0 b3 "com/example/oecophylla/oecophylla/engine/SetValue$Inclusion") (ne_b1_b2 : b1 ≠ b2) (ne_b1_b3 : b1 ≠ b3) (ne_b2_b3 : b2 ≠ b3) :
    MetFree l x (head1 (Jvm.Cond.code x code maxLocals ret :: ws) room_1) (fun a U => a = #[(.int p0), (.int p1)] ∧ Z.Warmed39 U.vm ∧ U.heap = h0) (fun _ _ _ _ _ => True) (fun _ U o U' => ∃ v L, o = .returned v ∧ Q0 Z p0 p1 b1 b2 b3 h0 n0 v U'.heap L ∧ FrameEnd U o U' L room_1.cells room_1.slots) := by
  refine body_of (y := x) (Q := Q0 Z p0 p1 b1 b2 b3 h0 n0) (plainFor_of_name pn_0) ?_
  intro p e s m below meth c T0 G C hnm X0 e0 K
  have N0 := Fr.nil n0
  refine Goes.to (congrArg T0.setTop (ef_0 m p0 p1)) ?_
  refine g_iloadN C X0 at_0 (pc' := 1) rfl rfl ?_
  refine g_ldc C X0 (w_0 hw) at_1 (pc' := 3) rfl ?_
  refine g_iand C X0 at_3 (pc' := 4) rfl ?_
  refine g_iconst C X0 at_4 (pc' := 5) rfl (v := 3) rfl ?_
  refine g_irem C X0 at_5 (pc' := 6) rfl (by decide) ?_
  obtain ⟨v1, hv1⟩ : ∃ z : Int32, ((p0 &&& (2147483647 : Int32)) % (3 : Int32)) = z := ⟨_, rfl⟩
  refine g_istoreN C X0 at_6 (pc' := 7) rfl (w := v1) hv1 (ls' := #[.val (.int p0), .val (.int p1), .val (.int v1), .unset, .unset, .unset, .unset]) rfl ?_
  rcases own_r3 hv1 with hsp | hsp | hsp
  · subst hsp
    refine g_iloadN C X0 at_7 (pc' := 8) rfl rfl ?_
    refine g_ldc C X0 (w_0 hw) at_8 (pc' := 10) rfl ?_
    refine g_iand C X0 at_10 (pc' := 11) rfl ?_
    refine g_iconst C X0 at_11 (pc' := 12) rfl (v := 3) rfl ?_
    refine g_irem C X0 at_12 (pc' := 13) rfl (by decide) ?_
    obtain ⟨v2, hv2⟩ : ∃ z : Int32, ((p1 &&& (2147483647 : Int32)) % (3 : Int32)) = z := ⟨_, rfl⟩
    refine g_istoreN C X0 at_13 (pc' := 14) rfl (w := v2) hv2 (ls' := #[.val (.int p0), .val (.int p1), .val (.int (0 : Int32)), .val (.int v2), .unset, .unset, .unset]) rfl ?_
    rcases own_r3 hv2 with hsp | hsp | hsp
    · subst hsp
      refine g_iloadN C X0 at_14 (pc' := 15) rfl rfl ?_
      refine g_callS C X0 (w_1 hw) (w_2 hw) (w_3 hw) (w_4 hw) (by decide) at_15 (rm1 l Z a0 hw [] (0 : Int32) b1 b2 b3 h0 n0 Z0 F0 F2 F4) (by decide) (by decide) rfl pd_0 rfl (argsL := [(.int (0 : Int32))]) (rest := []) rfl (W := 0) (Nat.le_of_eq rfl) e0 (by decide) (by decide) (pc' := 18) rfl (fun u3 T3 L3 X3 hQ3 => ?_)
      obtain ⟨rfl, Nq3, eq3⟩ := hQ3
      have N3 := Fr.app N0 Nq3
      rw [show (fPick (0 : Int32) b1 b2 b3) = (.ref b1) from rfl]
      show Goes p.tables e below G (T3.setTop (mkF m 18 #[.val (.int p0), .val (.int p1), .val (.int (0 : Int32)), .val (.int (0 : Int32)), .unset, .unset, .unset] [(.ref b1)]))
      refine g_astore C X3 at_18 (pc' := 20) rfl rfl (ls' := #[.val (.int p0), .val (.int p1), .val (.int (0 : Int32)), .val (.int (0 : Int32)), .val (.ref b1), .unset, .unset]) rfl ?_
      refine g_iloadN C X3 at_20 (pc' := 21) rfl rfl ?_
      refine g_callS C X3 (w_1 hw) (w_2 hw) (w_3 hw) (w_4 hw) (by decide) at_21 (rm1 l Z a0 hw [] (0 : Int32) b1 b2 b3 h0 n0 Z0 F0 F2 F4) (by decide) (by decide) rfl pd_0 rfl (argsL := [(.int (0 : Int32))]) (rest := []) rfl (W := 0) (Nat.le_of_eq rfl) eq3 (by decide) (by decide) (pc' := 24) rfl (fun u4 T4 L4 X4 hQ4 => ?_)
      obtain ⟨rfl, Nq4, eq4⟩ := hQ4
      have N4 := Fr.app N3 Nq4
      rw [show (fPick (0 : Int32) b1 b2 b3) = (.ref b1) from rfl]
      show Goes p.tables e below G (T4.setTop (mkF m 24 #[.val (.int p0), .val (.int p1), .val (.int (0 : Int32)), .val (.int (0 : Int32)), .val (.ref b1), .unset, .unset] [(.ref b1)]))
      refine g_astore C X4 at_24 (pc' := 26) rfl rfl (ls' := #[.val (.int p0), .val (.int p1), .val (.int (0 : Int32)), .val (.int (0 : Int32)), .val (.ref b1), .val (.ref b1), .unset]) rfl ?_
      refine g_aload C X4 at_26 (pc' := 28) rfl rfl rfl ?_
      refine g_aload C X4 at_28 (pc' := 30) rfl rfl rfl ?_
      refine g_callV C X4 (w_8 hw) (w_9 hw) (notFace_of_selects (args := #[]) (mvT C.2.1 (w_11 hw))) (w_11 hw) (w_10 hw) (w_12 hw) (w_6 hw) (by decide) F1 at_30 (rm2 l Z a0 hw [] b1 b1 b1 b2 b3 h0 n0 Z0 F0 F2 F4) (by decide) (by decide) rfl pd_1 rfl (argsL := [(.ref b1)]) (rest := []) rfl (W := 0) (Nat.le_of_eq rfl) eq4 (by decide) (by decide) (pc' := 33) rfl (fun u5 T5 L5 X5 hQ5 => ?_)
      obtain ⟨rfl, Nq5, eq5⟩ := hQ5
      have N5 := Fr.app N4 Nq5
      rw [show (fAnd b1 b1 b1 b2 b3) = (.ref b1) from (by simp [fAnd, ne_b1_b2, ne_b1_b3, ne_b2_b3])]
      show Goes p.tables e below G (T5.setTop (mkF m 33 #[.val (.int p0), .val (.int p1), .val (.int (0 : Int32)), .val (.int (0 : Int32)), .val (.ref b1), .val (.ref b1), .unset] [(.ref b1)]))
      refine g_astore C X5 at_33 (pc' := 35) rfl rfl (ls' := #[.val (.int p0), .val (.int p1), .val (.int (0 : Int32)), .val (.int (0 : Int32)), .val (.ref b1), .val (.ref b1), .val (.ref b1)]) rfl ?_
      refine g_aload C X5 at_35 (pc' := 37) rfl rfl rfl ?_
      refine g_iloadN C X5 at_37 (pc' := 38) rfl rfl ?_
      refine g_iloadN C X5 at_38 (pc' := 39) rfl rfl ?_
      refine g_callS C X5 (w_18 hw) (w_19 hw) (w_20 hw) (w_21 hw) (by decide) at_39 (rm3 l Z a0 hw [] (0 : Int32) (0 : Int32) h0 n0 Z0) (by decide) (by decide) rfl pd_2 rfl (argsL := [(.int (0 : Int32)), (.int (0 : Int32))]) (rest := [(.ref b1)]) rfl (W := 1) (Nat.le_of_eq rfl) eq5 (by decide) (by decide) (pc' := 42) rfl (fun u6 T6 L6 X6 hQ6 => ?_)
      obtain ⟨rfl, Nq6, eq6⟩ := hQ6
      have N6 := Fr.app N5 Nq6
      rw [show fMax 0 0 = (0 : Int32) from by decide]
      show Goes p.tables e below G (T6.setTop (mkF m 42 #[.val (.int p0), .val (.int p1), .val (.int (0 : Int32)), .val (.int (0 : Int32)), .val (.ref b1), .val (.ref b1), .val (.ref b1)] [(.int (0 : Int32)), (.ref b1)]))
      refine g_callS C X6 (w_1 hw) (w_2 hw) (w_3 hw) (w_4 hw) (by decide) at_42 (rm1 l Z a0 hw [] (0 : Int32) b1 b2 b3 h0 n0 Z0 F0 F2 F4) (by decide) (by decide) rfl pd_0 rfl (argsL := [(.int (0 : Int32))]) (rest := [(.ref b1)]) rfl (W := 1) (Nat.le_of_eq rfl) eq6 (by decide) (by decide) (pc' := 45) rfl (fun u7 T7 L7 X7 hQ7 => ?_)
      obtain ⟨rfl, Nq7, eq7⟩ := hQ7
      have N7 := Fr.app N6 Nq7
      rw [show (fPick (0 : Int32) b1 b2 b3) = (.ref b1) from rfl]
      show Goes p.tables e below G (T7.setTop (mkF m 45 #[.val (.int p0), .val (.int p1), .val (.int (0 : Int32)), .val (.int (0 : Int32)), .val (.ref b1), .val (.ref b1), .val (.ref b1)] [(.ref b1), (.ref b1)]))
      refine g_acmp_ne C X7 rfl rfl at_45 (pcT := 52) (pcN := 48) (by decide) (by decide) rfl (fun hc45 => absurd rfl hc45) (fun hc45 => ?_)
      refine g_iconst C X7 at_48 (pc' := 49) rfl (v := 1) rfl ?_
      refine g_goto C X7 at_49 (pc' := 53) (by decide) (by decide) ?_
      exact g_retN C X7 K (by simp) at_53 (by decide) (by decide) eq7 ⟨rfl, N7⟩
    · subst hsp
      refine g_iloadN C X0 at_14 (pc' := 15) rfl rfl ?_
      refine g_callS C X0 (w_1 hw) (w_2 hw) (w_3 hw) (w_4 hw) (by decide) at_15 (rm1 l Z a0 hw [] (0 : Int32) b1 b2 b3 h0 n0 Z0 F0 F2 F4) (by decide) (by decide) rfl pd_0 rfl (argsL := [(.int (0 : Int32))]) (rest := []) rfl (W := 0) (Nat.le_of_eq rfl) e0 (by decide) (by decide) (pc' := 18) rfl (fun u8 T8 L8 X8 hQ8 => ?_)
      obtain ⟨rfl, Nq8, eq8⟩ := hQ8
      have N8 := Fr.app N0 Nq8
      rw [show (fPick (0 : Int32) b1 b2 b3) = (.ref b1) from rfl]
      show Goes p.tables e below G (T8.setTop (mkF m 18 #[.val (.int p0), .val (.int p1), .val (.int (0 : Int32)), .val (.int (1 : Int32)), .unset, .unset, .unset] [(.ref b1)]))
      refine g_astore C X8 at_18 (pc' := 20) rfl rfl (ls' := #[.val (.int p0), .val (.int p1), .val (.int (0 : Int32)), .val (.int (1 : Int32)), .val (.ref b1), .unset, .unset]) rfl ?_
      refine g_iloadN C X8 at_20 (pc' := 21) rfl rfl ?_
      refine g_callS C X8 (w_1 hw) (w_2 hw) (w_3 hw) (w_4 hw) (by decide) at_21 (rm1 l Z a0 hw [] (1 : Int32) b1 b2 b3 h0 n0 Z0 F0 F2 F4) (by decide) (by decide) rfl pd_0 rfl (argsL := [(.int (1 : Int32))]) (rest := []) rfl (W := 0) (Nat.le_of_eq rfl) eq8 (by decide) (by decide) (pc' := 24) rfl (fun u9 T9 L9 X9 hQ9 => ?_)
      obtain ⟨rfl, Nq9, eq9⟩ := hQ9
      have N9 := Fr.app N8 Nq9
      rw [show (fPick (1 : Int32) b1 b2 b3) = (.ref b2) from rfl]
      show Goes p.tables e below G (T9.setTop (mkF m 24 #[.val (.int p0), .val (.int p1), .val (.int (0 : Int32)), .val (.int (1 : Int32)), .val (.ref b1), .unset, .unset] [(.ref b2)]))
      refine g_astore C X9 at_24 (pc' := 26) rfl rfl (ls' := #[.val (.int p0), .val (.int p1), .val (.int (0 : Int32)), .val (.int (1 : Int32)), .val (.ref b1), .val (.ref b2), .unset]) rfl ?_
      refine g_aload C X9 at_26 (pc' := 28) rfl rfl rfl ?_
      refine g_aload C X9 at_28 (pc' := 30) rfl rfl rfl ?_
      refine g_callV C X9 (w_8 hw) (w_9 hw) (notFace_of_selects (args := #[]) (mvT C.2.1 (w_11 hw))) (w_11 hw) (w_10 hw) (w_12 hw) (w_6 hw) (by decide) F1 at_30 (rm2 l Z a0 hw [] b1 b2 b1 b2 b3 h0 n0 Z0 F0 F2 F4) (by decide) (by decide) rfl pd_1 rfl (argsL := [(.ref b2)]) (rest := []) rfl (W := 0) (Nat.le_of_eq rfl) eq9 (by decide) (by decide) (pc' := 33) rfl (fun u10 T10 L10 X10 hQ10 => ?_)
      obtain ⟨rfl, Nq10, eq10⟩ := hQ10
      have N10 := Fr.app N9 Nq10
      rw [show (fAnd b1 b2 b1 b2 b3) = (.ref b2) from (by simp [fAnd, ne_b1_b2, ne_b1_b3, ne_b2_b3])]
      show Goes p.tables e below G (T10.setTop (mkF m 33 #[.val (.int p0), .val (.int p1), .val (.int (0 : Int32)), .val (.int (1 : Int32)), .val (.ref b1), .val (.ref b2), .unset] [(.ref b2)]))
      refine g_astore C X10 at_33 (pc' := 35) rfl rfl (ls' := #[.val (.int p0), .val (.int p1), .val (.int (0 : Int32)), .val (.int (1 : Int32)), .val (.ref b1), .val (.ref b2), .val (.ref b2)]) rfl ?_
      refine g_aload C X10 at_35 (pc' := 37) rfl rfl rfl ?_
      refine g_iloadN C X10 at_37 (pc' := 38) rfl rfl ?_
      refine g_iloadN C X10 at_38 (pc' := 39) rfl rfl ?_
      refine g_callS C X10 (w_18 hw) (w_19 hw) (w_20 hw) (w_21 hw) (by decide) at_39 (rm3 l Z a0 hw [] (0 : Int32) (1 : Int32) h0 n0 Z0) (by decide) (by decide) rfl pd_2 rfl (argsL := [(.int (0 : Int32)), (.int (1 : Int32))]) (rest := [(.ref b2)]) rfl (W := 1) (Nat.le_of_eq rfl) eq10 (by decide) (by decide) (pc' := 42) rfl (fun u11 T11 L11 X11 hQ11 => ?_)
      obtain ⟨rfl, Nq11, eq11⟩ := hQ11
      have N11 := Fr.app N10 Nq11
      rw [show fMax 0 1 = (1 : Int32) from by decide]
      show Goes p.tables e below G (T11.setTop (mkF m 42 #[.val (.int p0), .val (.int p1), .val (.int (0 : Int32)), .val (.int (1 : Int32)), .val (.ref b1), .val (.ref b2), .val (.ref b2)] [(.int (1 : Int32)), (.ref b2)]))
      refine g_callS C X11 (w_1 hw) (w_2 hw) (w_3 hw) (w_4 hw) (by decide) at_42 (rm1 l Z a0 hw [] (1 : Int32) b1 b2 b3 h0 n0 Z0 F0 F2 F4) (by decide) (by decide) rfl pd_0 rfl (argsL := [(.int (1 : Int32))]) (rest := [(.ref b2)]) rfl (W := 1) (Nat.le_of_eq rfl) eq11 (by decide) (by decide) (pc' := 45) rfl (fun u12 T12 L12 X12 hQ12 => ?_)
      obtain ⟨rfl, Nq12, eq12⟩ := hQ12
      have N12 := Fr.app N11 Nq12
      rw [show (fPick (1 : Int32) b1 b2 b3) = (.ref b2) from rfl]
      show Goes p.tables e below G (T12.setTop (mkF m 45 #[.val (.int p0), .val (.int p1), .val (.int (0 : Int32)), .val (.int (1 : Int32)), .val (.ref b1), .val (.ref b2), .val (.ref b2)] [(.ref b2), (.ref b2)]))
      refine g_acmp_ne C X12 rfl rfl at_45 (pcT := 52) (pcN := 48) (by decide) (by decide) rfl (fun hc45 => absurd rfl hc45) (fun hc45 => ?_)
      refine g_iconst C X12 at_48 (pc' := 49) rfl (v := 1) rfl ?_
      refine g_goto C X12 at_49 (pc' := 53) (by decide) (by decide) ?_
      exact g_retN C X12 K (by simp) at_53 (by decide) (by decide) eq12 ⟨rfl, N12⟩
    · subst hsp
      refine g_iloadN C X0 at_14 (pc' := 15) rfl rfl ?_
      refine g_callS C X0 (w_1 hw) (w_2 hw) (w_3 hw) (w_4 hw) (by decide) at_15 (rm1 l Z a0 hw [] (0 : Int32) b1 b2 b3 h0 n0 Z0 F0 F2 F4) (by decide) (by decide) rfl pd_0 rfl (argsL := [(.int (0 : Int32))]) (rest := []) rfl (W := 0) (Nat.le_of_eq rfl) e0 (by decide) (by decide) (pc' := 18) rfl (fun u13 T13 L13 X13 hQ13 => ?_)
      obtain ⟨rfl, Nq13, eq13⟩ := hQ13
      have N13 := Fr.app N0 Nq13
      rw [show (fPick (0 : Int32) b1 b2 b3) = (.ref b1) from rfl]
      show Goes p.tables e below G (T13.setTop (mkF m 18 #[.val (.int p0), .val (.int p1), .val (.int (0 : Int32)), .val (.int (2 : Int32)), .unset, .unset, .unset] [(.ref b1)]))
      refine g_astore C X13 at_18 (pc' := 20) rfl rfl (ls' := #[.val (.int p0), .val (.int p1), .val (.int (0 : Int32)), .val (.int (2 : Int32)), .val (.ref b1), .unset, .unset]) rfl ?_
      refine g_iloadN C X13 at_20 (pc' := 21) rfl rfl ?_
      refine g_callS C X13 (w_1 hw) (w_2 hw) (w_3 hw) (w_4 hw) (by decide) at_21 (rm1 l Z a0 hw [] (2 : Int32) b1 b2 b3 h0 n0 Z0 F0 F2 F4) (by decide) (by decide) rfl pd_0 rfl (argsL := [(.int (2 : Int32))]) (rest := []) rfl (W := 0) (Nat.le_of_eq rfl) eq13 (by decide) (by decide) (pc' := 24) rfl (fun u14 T14 L14 X14 hQ14 => ?_)
      obtain ⟨rfl, Nq14, eq14⟩ := hQ14
      have N14 := Fr.app N13 Nq14
      rw [show (fPick (2 : Int32) b1 b2 b3) = (.ref b3) from rfl]
      show Goes p.tables e below G (T14.setTop (mkF m 24 #[.val (.int p0), .val (.int p1), .val (.int (0 : Int32)), .val (.int (2 : Int32)), .val (.ref b1), .unset, .unset] [(.ref b3)]))
      refine g_astore C X14 at_24 (pc' := 26) rfl rfl (ls' := #[.val (.int p0), .val (.int p1), .val (.int (0 : Int32)), .val (.int (2 : Int32)), .val (.ref b1), .val (.ref b3), .unset]) rfl ?_
      refine g_aload C X14 at_26 (pc' := 28) rfl rfl rfl ?_
      refine g_aload C X14 at_28 (pc' := 30) rfl rfl rfl ?_
      refine g_callV C X14 (w_8 hw) (w_9 hw) (notFace_of_selects (args := #[]) (mvT C.2.1 (w_11 hw))) (w_11 hw) (w_10 hw) (w_12 hw) (w_6 hw) (by decide) F1 at_30 (rm2 l Z a0 hw [] b1 b3 b1 b2 b3 h0 n0 Z0 F0 F2 F4) (by decide) (by decide) rfl pd_1 rfl (argsL := [(.ref b3)]) (rest := []) rfl (W := 0) (Nat.le_of_eq rfl) eq14 (by decide) (by decide) (pc' := 33) rfl (fun u15 T15 L15 X15 hQ15 => ?_)
      obtain ⟨rfl, Nq15, eq15⟩ := hQ15
      have N15 := Fr.app N14 Nq15
      rw [show (fAnd b1 b3 b1 b2 b3) = (.ref b3) from (by simp [fAnd, ne_b1_b2, ne_b1_b3, ne_b2_b3])]
      show Goes p.tables e below G (T15.setTop (mkF m 33 #[.val (.int p0), .val (.int p1), .val (.int (0 : Int32)), .val (.int (2 : Int32)), .val (.ref b1), .val (.ref b3), .unset] [(.ref b3)]))
      refine g_astore C X15 at_33 (pc' := 35) rfl rfl (ls' := #[.val (.int p0), .val (.int p1), .val (.int (0 : Int32)), .val (.int (2 : Int32)), .val (.ref b1), .val (.ref b3), .val (.ref b3)]) rfl ?_
      refine g_aload C X15 at_35 (pc' := 37) rfl rfl rfl ?_
      refine g_iloadN C X15 at_37 (pc' := 38) rfl rfl ?_
      refine g_iloadN C X15 at_38 (pc' := 39) rfl rfl ?_
      refine g_callS C X15 (w_18 hw) (w_19 hw) (w_20 hw) (w_21 hw) (by decide) at_39 (rm3 l Z a0 hw [] (0 : Int32) (2 : Int32) h0 n0 Z0) (by decide) (by decide) rfl pd_2 rfl (argsL := [(.int (0 : Int32)), (.int (2 : Int32))]) (rest := [(.ref b3)]) rfl (W := 1) (Nat.le_of_eq rfl) eq15 (by decide) (by decide) (pc' := 42) rfl (fun u16 T16 L16 X16 hQ16 => ?_)
      obtain ⟨rfl, Nq16, eq16⟩ := hQ16
      have N16 := Fr.app N15 Nq16
      rw [show fMax 0 2 = (2 : Int32) from by decide]
      show Goes p.tables e below G (T16.setTop (mkF m 42 #[.val (.int p0), .val (.int p1), .val (.int (0 : Int32)), .val (.int (2 : Int32)), .val (.ref b1), .val (.ref b3), .val (.ref b3)] [(.int (2 : Int32)), (.ref b3)]))
      refine g_callS C X16 (w_1 hw) (w_2 hw) (w_3 hw) (w_4 hw) (by decide) at_42 (rm1 l Z a0 hw [] (2 : Int32) b1 b2 b3 h0 n0 Z0 F0 F2 F4) (by decide) (by decide) rfl pd_0 rfl (argsL := [(.int (2 : Int32))]) (rest := [(.ref b3)]) rfl (W := 1) (Nat.le_of_eq rfl) eq16 (by decide) (by decide) (pc' := 45) rfl (fun u17 T17 L17 X17 hQ17 => ?_)
      obtain ⟨rfl, Nq17, eq17⟩ := hQ17
      have N17 := Fr.app N16 Nq17
      rw [show (fPick (2 : Int32) b1 b2 b3) = (.ref b3) from rfl]
      show Goes p.tables e below G (T17.setTop (mkF m 45 #[.val (.int p0), .val (.int p1), .val (.int (0 : Int32)), .val (.int (2 : Int32)), .val (.ref b1), .val (.ref b3), .val (.ref b3)] [(.ref b3), (.ref b3)]))
      refine g_acmp_ne C X17 rfl rfl at_45 (pcT := 52) (pcN := 48) (by decide) (by decide) rfl (fun hc45 => absurd rfl hc45) (fun hc45 => ?_)
      refine g_iconst C X17 at_48 (pc' := 49) rfl (v := 1) rfl ?_
      refine g_goto C X17 at_49 (pc' := 53) (by decide) (by decide) ?_
      exact g_retN C X17 K (by simp) at_53 (by decide) (by decide) eq17 ⟨rfl, N17⟩
  · subst hsp
    refine g_iloadN C X0 at_7 (pc' := 8) rfl rfl ?_
    refine g_ldc C X0 (w_0 hw) at_8 (pc' := 10) rfl ?_
    refine g_iand C X0 at_10 (pc' := 11) rfl ?_
    refine g_iconst C X0 at_11 (pc' := 12) rfl (v := 3) rfl ?_
    refine g_irem C X0 at_12 (pc' := 13) rfl (by decide) ?_
    obtain ⟨v18, hv18⟩ : ∃ z : Int32, ((p1 &&& (2147483647 : Int32)) % (3 : Int32)) = z := ⟨_, rfl⟩
    refine g_istoreN C X0 at_13 (pc' := 14) rfl (w := v18) hv18 (ls' := #[.val (.int p0), .val (.int p1), .val (.int (1 : Int32)), .val (.int v18), .unset, .unset, .unset]) rfl ?_
    rcases own_r3 hv18 with hsp | hsp | hsp
    · subst hsp
      refine g_iloadN C X0 at_14 (pc' := 15) rfl rfl ?_
      refine g_callS C X0 (w_1 hw) (w_2 hw) (w_3 hw) (w_4 hw) (by decide) at_15 (rm1 l Z a0 hw [] (1 : Int32) b1 b2 b3 h0 n0 Z0 F0 F2 F4) (by decide) (by decide) rfl pd_0 rfl (argsL := [(.int (1 : Int32))]) (rest := []) rfl (W := 0) (Nat.le_of_eq rfl) e0 (by decide) (by decide) (pc' := 18) rfl (fun u19 T19 L19 X19 hQ19 => ?_)
      obtain ⟨rfl, Nq19, eq19⟩ := hQ19
      have N19 := Fr.app N0 Nq19
      rw [show (fPick (1 : Int32) b1 b2 b3) = (.ref b2) from rfl]
      show Goes p.tables e below G (T19.setTop (mkF m 18 #[.val (.int p0), .val (.int p1), .val (.int (1 : Int32)), .val (.int (0 : Int32)), .unset, .unset, .unset] [(.ref b2)]))
      refine g_astore C X19 at_18 (pc' := 20) rfl rfl (ls' := #[.val (.int p0), .val (.int p1), .val (.int (1 : Int32)), .val (.int (0 : Int32)), .val (.ref b2), .unset, .unset]) rfl ?_
      refine g_iloadN C X19 at_20 (pc' := 21) rfl rfl ?_
      refine g_callS C X19 (w_1 hw) (w_2 hw) (w_3 hw) (w_4 hw) (by decide) at_21 (rm1 l Z a0 hw [] (0 : Int32) b1 b2 b3 h0 n0 Z0 F0 F2 F4) (by decide) (by decide) rfl pd_0 rfl (argsL := [(.int (0 : Int32))]) (rest := []) rfl (W := 0) (Nat.le_of_eq rfl) eq19 (by decide) (by decide) (pc' := 24) rfl (fun u20 T20 L20 X20 hQ20 => ?_)
      obtain ⟨rfl, Nq20, eq20⟩ := hQ20
      have N20 := Fr.app N19 Nq20
      rw [show (fPick (0 : Int32) b1 b2 b3) = (.ref b1) from rfl]
      show Goes p.tables e below G (T20.setTop (mkF m 24 #[.val (.int p0), .val (.int p1), .val (.int (1 : Int32)), .val (.int (0 : Int32)), .val (.ref b2), .unset, .unset] [(.ref b1)]))
      refine g_astore C X20 at_24 (pc' := 26) rfl rfl (ls' := #[.val (.int p0), .val (.int p1), .val (.int (1 : Int32)), .val (.int (0 : Int32)), .val (.ref b2), .val (.ref b1), .unset]) rfl ?_
      refine g_aload C X20 at_26 (pc' := 28) rfl rfl rfl ?_
      refine g_aload C X20 at_28 (pc' := 30) rfl rfl rfl ?_
      refine g_callV C X20 (w_8 hw) (w_9 hw) (notFace_of_selects (args := #[]) (mvT C.2.1 (w_11 hw))) (w_11 hw) (w_10 hw) (w_12 hw) (w_6 hw) (by decide) F3 at_30 (rm2 l Z a0 hw [] b2 b1 b1 b2 b3 h0 n0 Z0 F0 F2 F4) (by decide) (by decide) rfl pd_1 rfl (argsL := [(.ref b1)]) (rest := []) rfl (W := 0) (Nat.le_of_eq rfl) eq20 (by decide) (by decide) (pc' := 33) rfl (fun u21 T21 L21 X21 hQ21 => ?_)
      obtain ⟨rfl, Nq21, eq21⟩ := hQ21
      have N21 := Fr.app N20 Nq21
      rw [show (fAnd b2 b1 b1 b2 b3) = (.ref b2) from (by simp [fAnd, ne_b1_b2, ne_b1_b3, ne_b2_b3])]
      show Goes p.tables e below G (T21.setTop (mkF m 33 #[.val (.int p0), .val (.int p1), .val (.int (1 : Int32)), .val (.int (0 : Int32)), .val (.ref b2), .val (.ref b1), .unset] [(.ref b2)]))
      refine g_astore C X21 at_33 (pc' := 35) rfl rfl (ls' := #[.val (.int p0), .val (.int p1), .val (.int (1 : Int32)), .val (.int (0 : Int32)), .val (.ref b2), .val (.ref b1), .val (.ref b2)]) rfl ?_
      refine g_aload C X21 at_35 (pc' := 37) rfl rfl rfl ?_
      refine g_iloadN C X21 at_37 (pc' := 38) rfl rfl ?_
      refine g_iloadN C X21 at_38 (pc' := 39) rfl rfl ?_
      refine g_callS C X21 (w_18 hw) (w_19 hw) (w_20 hw) (w_21 hw) (by decide) at_39 (rm3 l Z a0 hw [] (1 : Int32) (0 : Int32) h0 n0 Z0) (by decide) (by decide) rfl pd_2 rfl (argsL := [(.int (1 : Int32)), (.int (0 : Int32))]) (rest := [(.ref b2)]) rfl (W := 1) (Nat.le_of_eq rfl) eq21 (by decide) (by decide) (pc' := 42) rfl (fun u22 T22 L22 X22 hQ22 => ?_)
      obtain ⟨rfl, Nq22, eq22⟩ := hQ22
      have N22 := Fr.app N21 Nq22
      rw [show fMax 1 0 = (1 : Int32) from by decide]
      show Goes p.tables e below G (T22.setTop (mkF m 42 #[.val (.int p0), .val (.int p1), .val (.int (1 : Int32)), .val (.int (0 : Int32)), .val (.ref b2), .val (.ref b1), .val (.ref b2)] [(.int (1 : Int32)), (.ref b2)]))
      refine g_callS C X22 (w_1 hw) (w_2 hw) (w_3 hw) (w_4 hw) (by decide) at_42 (rm1 l Z a0 hw [] (1 : Int32) b1 b2 b3 h0 n0 Z0 F0 F2 F4) (by decide) (by decide) rfl pd_0 rfl (argsL := [(.int (1 : Int32))]) (rest := [(.ref b2)]) rfl (W := 1) (Nat.le_of_eq rfl) eq22 (by decide) (by decide) (pc' := 45) rfl (fun u23 T23 L23 X23 hQ23 => ?_)
      obtain ⟨rfl, Nq23, eq23⟩ := hQ23
      have N23 := Fr.app N22 Nq23
      rw [show (fPick (1 : Int32) b1 b2 b3) = (.ref b2) from rfl]
      show Goes p.tables e below G (T23.setTop (mkF m 45 #[.val (.int p0), .val (.int p1), .val (.int (1 : Int32)), .val (.int (0 : Int32)), .val (.ref b2), .val (.ref b1), .val (.ref b2)] [(.ref b2), (.ref b2)]))
      refine g_acmp_ne C X23 rfl rfl at_45 (pcT := 52) (pcN := 48) (by decide) (by decide) rfl (fun hc45 => absurd rfl hc45) (fun hc45 => ?_)
      refine g_iconst C X23 at_48 (pc' := 49) rfl (v := 1) rfl ?_
      refine g_goto C X23 at_49 (pc' := 53) (by decide) (by decide) ?_
      exact g_retN C X23 K (by simp) at_53 (by decide) (by decide) eq23 ⟨rfl, N23⟩
    · subst hsp
      refine g_iloadN C X0 at_14 (pc' := 15) rfl rfl ?_
      refine g_callS C X0 (w_1 hw) (w_2 hw) (w_3 hw) (w_4 hw) (by decide) at_15 (rm1 l Z a0 hw [] (1 : Int32) b1 b2 b3 h0 n0 Z0 F0 F2 F4) (by decide) (by decide) rfl pd_0 rfl (argsL := [(.int (1 : Int32))]) (rest := []) rfl (W := 0) (Nat.le_of_eq rfl) e0 (by decide) (by decide) (pc' := 18) rfl (fun u24 T24 L24 X24 hQ24 => ?_)
      obtain ⟨rfl, Nq24, eq24⟩ := hQ24
      have N24 := Fr.app N0 Nq24
      rw [show (fPick (1 : Int32) b1 b2 b3) = (.ref b2) from rfl]
      show Goes p.tables e below G (T24.setTop (mkF m 18 #[.val (.int p0), .val (.int p1), .val (.int (1 : Int32)), .val (.int (1 : Int32)), .unset, .unset, .unset] [(.ref b2)]))
      refine g_astore C X24 at_18 (pc' := 20) rfl rfl (ls' := #[.val (.int p0), .val (.int p1), .val (.int (1 : Int32)), .val (.int (1 : Int32)), .val (.ref b2), .unset, .unset]) rfl ?_
      refine g_iloadN C X24 at_20 (pc' := 21) rfl rfl ?_
      refine g_callS C X24 (w_1 hw) (w_2 hw) (w_3 hw) (w_4 hw) (by decide) at_21 (rm1 l Z a0 hw [] (1 : Int32) b1 b2 b3 h0 n0 Z0 F0 F2 F4) (by decide) (by decide) rfl pd_0 rfl (argsL := [(.int (1 : Int32))]) (rest := []) rfl (W := 0) (Nat.le_of_eq rfl) eq24 (by decide) (by decide) (pc' := 24) rfl (fun u25 T25 L25 X25 hQ25 => ?_)
      obtain ⟨rfl, Nq25, eq25⟩ := hQ25
      have N25 := Fr.app N24 Nq25
      rw [show (fPick (1 : Int32) b1 b2 b3) = (.ref b2) from rfl]
      show Goes p.tables e below G (T25.setTop (mkF m 24 #[.val (.int p0), .val (.int p1), .val (.int (1 : Int32)), .val (.int (1 : Int32)), .val (.ref b2), .unset, .unset] [(.ref b2)]))
      refine g_astore C X25 at_24 (pc' := 26) rfl rfl (ls' := #[.val (.int p0), .val (.int p1), .val (.int (1 : Int32)), .val (.int (1 : Int32)), .val (.ref b2), .val (.ref b2), .unset]) rfl ?_
      refine g_aload C X25 at_26 (pc' := 28) rfl rfl rfl ?_
      refine g_aload C X25 at_28 (pc' := 30) rfl rfl rfl ?_
      refine g_callV C X25 (w_8 hw) (w_9 hw) (notFace_of_selects (args := #[]) (mvT C.2.1 (w_11 hw))) (w_11 hw) (w_10 hw) (w_12 hw) (w_6 hw) (by decide) F3 at_30 (rm2 l Z a0 hw [] b2 b2 b1 b2 b3 h0 n0 Z0 F0 F2 F4) (by decide) (by decide) rfl pd_1 rfl (argsL := [(.ref b2)]) (rest := []) rfl (W := 0) (Nat.le_of_eq rfl) eq25 (by decide) (by decide) (pc' := 33) rfl (fun u26 T26 L26 X26 hQ26 => ?_)
      obtain ⟨rfl, Nq26, eq26⟩ := hQ26
      have N26 := Fr.app N25 Nq26
      rw [show (fAnd b2 b2 b1 b2 b3) = (.ref b2) from (by simp [fAnd, ne_b1_b2, ne_b1_b3, ne_b2_b3])]
      show Goes p.tables e below G (T26.setTop (mkF m 33 #[.val (.int p0), .val (.int p1), .val (.int (1 : Int32)), .val (.int (1 : Int32)), .val (.ref b2), .val (.ref b2), .unset] [(.ref b2)]))
      refine g_astore C X26 at_33 (pc' := 35) rfl rfl (ls' := #[.val (.int p0), .val (.int p1), .val (.int (1 : Int32)), .val (.int (1 : Int32)), .val (.ref b2), .val (.ref b2), .val (.ref b2)]) rfl ?_
      refine g_aload C X26 at_35 (pc' := 37) rfl rfl rfl ?_
      refine g_iloadN C X26 at_37 (pc' := 38) rfl rfl ?_
      refine g_iloadN C X26 at_38 (pc' := 39) rfl rfl ?_
      refine g_callS C X26 (w_18 hw) (w_19 hw) (w_20 hw) (w_21 hw) (by decide) at_39 (rm3 l Z a0 hw [] (1 : Int32) (1 : Int32) h0 n0 Z0) (by decide) (by decide) rfl pd_2 rfl (argsL := [(.int (1 : Int32)), (.int (1 : Int32))]) (rest := [(.ref b2)]) rfl (W := 1) (Nat.le_of_eq rfl) eq26 (by decide) (by decide) (pc' := 42) rfl (fun u27 T27 L27 X27 hQ27 => ?_)
      obtain ⟨rfl, Nq27, eq27⟩ := hQ27
      have N27 := Fr.app N26 Nq27
      rw [show fMax 1 1 = (1 : Int32) from by decide]
      show Goes p.tables e below G (T27.setTop (mkF m 42 #[.val (.int p0), .val (.int p1), .val (.int (1 : Int32)), .val (.int (1 : Int32)), .val (.ref b2), .val (.ref b2), .val (.ref b2)] [(.int (1 : Int32)), (.ref b2)]))
      refine g_callS C X27 (w_1 hw) (w_2 hw) (w_3 hw) (w_4 hw) (by decide) at_42 (rm1 l Z a0 hw [] (1 : Int32) b1 b2 b3 h0 n0 Z0 F0 F2 F4) (by decide) (by decide) rfl pd_0 rfl (argsL := [(.int (1 : Int32))]) (rest := [(.ref b2)]) rfl (W := 1) (Nat.le_of_eq rfl) eq27 (by decide) (by decide) (pc' := 45) rfl (fun u28 T28 L28 X28 hQ28 => ?_)
      obtain ⟨rfl, Nq28, eq28⟩ := hQ28
      have N28 := Fr.app N27 Nq28
      rw [show (fPick (1 : Int32) b1 b2 b3) = (.ref b2) from rfl]
      show Goes p.tables e below G (T28.setTop (mkF m 45 #[.val (.int p0), .val (.int p1), .val (.int (1 : Int32)), .val (.int (1 : Int32)), .val (.ref b2), .val (.ref b2), .val (.ref b2)] [(.ref b2), (.ref b2)]))
      refine g_acmp_ne C X28 rfl rfl at_45 (pcT := 52) (pcN := 48) (by decide) (by decide) rfl (fun hc45 => absurd rfl hc45) (fun hc45 => ?_)
      refine g_iconst C X28 at_48 (pc' := 49) rfl (v := 1) rfl ?_
      refine g_goto C X28 at_49 (pc' := 53) (by decide) (by decide) ?_
      exact g_retN C X28 K (by simp) at_53 (by decide) (by decide) eq28 ⟨rfl, N28⟩
    · subst hsp
      refine g_iloadN C X0 at_14 (pc' := 15) rfl rfl ?_
      refine g_callS C X0 (w_1 hw) (w_2 hw) (w_3 hw) (w_4 hw) (by decide) at_15 (rm1 l Z a0 hw [] (1 : Int32) b1 b2 b3 h0 n0 Z0 F0 F2 F4) (by decide) (by decide) rfl pd_0 rfl (argsL := [(.int (1 : Int32))]) (rest := []) rfl (W := 0) (Nat.le_of_eq rfl) e0 (by decide) (by decide) (pc' := 18) rfl (fun u29 T29 L29 X29 hQ29 => ?_)
      obtain ⟨rfl, Nq29, eq29⟩ := hQ29
      have N29 := Fr.app N0 Nq29
      rw [show (fPick (1 : Int32) b1 b2 b3) = (.ref b2) from rfl]
      show Goes p.tables e below G (T29.setTop (mkF m 18 #[.val (.int p0), .val (.int p1), .val (.int (1 : Int32)), .val (.int (2 : Int32)), .unset, .unset, .unset] [(.ref b2)]))
      refine g_astore C X29 at_18 (pc' := 20) rfl rfl (ls' := #[.val (.int p0), .val (.int p1), .val (.int (1 : Int32)), .val (.int (2 : Int32)), .val (.ref b2), .unset, .unset]) rfl ?_
      refine g_iloadN C X29 at_20 (pc' := 21) rfl rfl ?_
      refine g_callS C X29 (w_1 hw) (w_2 hw) (w_3 hw) (w_4 hw) (by decide) at_21 (rm1 l Z a0 hw [] (2 : Int32) b1 b2 b3 h0 n0 Z0 F0 F2 F4) (by decide) (by decide) rfl pd_0 rfl (argsL := [(.int (2 : Int32))]) (rest := []) rfl (W := 0) (Nat.le_of_eq rfl) eq29 (by decide) (by decide) (pc' := 24) rfl (fun u30 T30 L30 X30 hQ30 => ?_)
      obtain ⟨rfl, Nq30, eq30⟩ := hQ30
      have N30 := Fr.app N29 Nq30
      rw [show (fPick (2 : Int32) b1 b2 b3) = (.ref b3) from rfl]
      show Goes p.tables e below G (T30.setTop (mkF m 24 #[.val (.int p0), .val (.int p1), .val (.int (1 : Int32)), .val (.int (2 : Int32)), .val (.ref b2), .unset, .unset] [(.ref b3)]))
      refine g_astore C X30 at_24 (pc' := 26) rfl rfl (ls' := #[.val (.int p0), .val (.int p1), .val (.int (1 : Int32)), .val (.int (2 : Int32)), .val (.ref b2), .val (.ref b3), .unset]) rfl ?_
      refine g_aload C X30 at_26 (pc' := 28) rfl rfl rfl ?_
      refine g_aload C X30 at_28 (pc' := 30) rfl rfl rfl ?_
      refine g_callV C X30 (w_8 hw) (w_9 hw) (notFace_of_selects (args := #[]) (mvT C.2.1 (w_11 hw))) (w_11 hw) (w_10 hw) (w_12 hw) (w_6 hw) (by decide) F3 at_30 (rm2 l Z a0 hw [] b2 b3 b1 b2 b3 h0 n0 Z0 F0 F2 F4) (by decide) (by decide) rfl pd_1 rfl (argsL := [(.ref b3)]) (rest := []) rfl (W := 0) (Nat.le_of_eq rfl) eq30 (by decide) (by decide) (pc' := 33) rfl (fun u31 T31 L31 X31 hQ31 => ?_)
      obtain ⟨rfl, Nq31, eq31⟩ := hQ31
      have N31 := Fr.app N30 Nq31
      rw [show (fAnd b2 b3 b1 b2 b3) = (.ref b3) from (by simp [fAnd, ne_b1_b2, ne_b1_b3, ne_b2_b3])]
      show Goes p.tables e below G (T31.setTop (mkF m 33 #[.val (.int p0), .val (.int p1), .val (.int (1 : Int32)), .val (.int (2 : Int32)), .val (.ref b2), .val (.ref b3), .unset] [(.ref b3)]))
      refine g_astore C X31 at_33 (pc' := 35) rfl rfl (ls' := #[.val (.int p0), .val (.int p1), .val (.int (1 : Int32)), .val (.int (2 : Int32)), .val (.ref b2), .val (.ref b3), .val (.ref b3)]) rfl ?_
      refine g_aload C X31 at_35 (pc' := 37) rfl rfl rfl ?_
      refine g_iloadN C X31 at_37 (pc' := 38) rfl rfl ?_
      refine g_iloadN C X31 at_38 (pc' := 39) rfl rfl ?_
      refine g_callS C X31 (w_18 hw) (w_19 hw) (w_20 hw) (w_21 hw) (by decide) at_39 (rm3 l Z a0 hw [] (1 : Int32) (2 : Int32) h0 n0 Z0) (by decide) (by decide) rfl pd_2 rfl (argsL := [(.int (1 : Int32)), (.int (2 : Int32))]) (rest := [(.ref b3)]) rfl (W := 1) (Nat.le_of_eq rfl) eq31 (by decide) (by decide) (pc' := 42) rfl (fun u32 T32 L32 X32 hQ32 => ?_)
      obtain ⟨rfl, Nq32, eq32⟩ := hQ32
      have N32 := Fr.app N31 Nq32
      rw [show fMax 1 2 = (2 : Int32) from by decide]
      show Goes p.tables e below G (T32.setTop (mkF m 42 #[.val (.int p0), .val (.int p1), .val (.int (1 : Int32)), .val (.int (2 : Int32)), .val (.ref b2), .val (.ref b3), .val (.ref b3)] [(.int (2 : Int32)), (.ref b3)]))
      refine g_callS C X32 (w_1 hw) (w_2 hw) (w_3 hw) (w_4 hw) (by decide) at_42 (rm1 l Z a0 hw [] (2 : Int32) b1 b2 b3 h0 n0 Z0 F0 F2 F4) (by decide) (by decide) rfl pd_0 rfl (argsL := [(.int (2 : Int32))]) (rest := [(.ref b3)]) rfl (W := 1) (Nat.le_of_eq rfl) eq32 (by decide) (by decide) (pc' := 45) rfl (fun u33 T33 L33 X33 hQ33 => ?_)
      obtain ⟨rfl, Nq33, eq33⟩ := hQ33
      have N33 := Fr.app N32 Nq33
      rw [show (fPick (2 : Int32) b1 b2 b3) = (.ref b3) from rfl]
      show Goes p.tables e below G (T33.setTop (mkF m 45 #[.val (.int p0), .val (.int p1), .val (.int (1 : Int32)), .val (.int (2 : Int32)), .val (.ref b2), .val (.ref b3), .val (.ref b3)] [(.ref b3), (.ref b3)]))
      refine g_acmp_ne C X33 rfl rfl at_45 (pcT := 52) (pcN := 48) (by decide) (by decide) rfl (fun hc45 => absurd rfl hc45) (fun hc45 => ?_)
      refine g_iconst C X33 at_48 (pc' := 49) rfl (v := 1) rfl ?_
      refine g_goto C X33 at_49 (pc' := 53) (by decide) (by decide) ?_
      exact g_retN C X33 K (by simp) at_53 (by decide) (by decide) eq33 ⟨rfl, N33⟩
  · subst hsp
    refine g_iloadN C X0 at_7 (pc' := 8) rfl rfl ?_
    refine g_ldc C X0 (w_0 hw) at_8 (pc' := 10) rfl ?_
    refine g_iand C X0 at_10 (pc' := 11) rfl ?_
    refine g_iconst C X0 at_11 (pc' := 12) rfl (v := 3) rfl ?_
    refine g_irem C X0 at_12 (pc' := 13) rfl (by decide) ?_
    obtain ⟨v34, hv34⟩ : ∃ z : Int32, ((p1 &&& (2147483647 : Int32)) % (3 : Int32)) = z := ⟨_, rfl⟩
    refine g_istoreN C X0 at_13 (pc' := 14) rfl (w := v34) hv34 (ls' := #[.val (.int p0), .val (.int p1), .val (.int (2 : Int32)), .val (.int v34), .unset, .unset, .unset]) rfl ?_
    rcases own_r3 hv34 with hsp | hsp | hsp
    · subst hsp
      refine g_iloadN C X0 at_14 (pc' := 15) rfl rfl ?_
      refine g_callS C X0 (w_1 hw) (w_2 hw) (w_3 hw) (w_4 hw) (by decide) at_15 (rm1 l Z a0 hw [] (2 : Int32) b1 b2 b3 h0 n0 Z0 F0 F2 F4) (by decide) (by decide) rfl pd_0 rfl (argsL := [(.int (2 : Int32))]) (rest := []) rfl (W := 0) (Nat.le_of_eq rfl) e0 (by decide) (by decide) (pc' := 18) rfl (fun u35 T35 L35 X35 hQ35 => ?_)
      obtain ⟨rfl, Nq35, eq35⟩ := hQ35
      have N35 := Fr.app N0 Nq35
      rw [show (fPick (2 : Int32) b1 b2 b3) = (.ref b3) from rfl]
      show Goes p.tables e below G (T35.setTop (mkF m 18 #[.val (.int p0), .val (.int p1), .val (.int (2 : Int32)), .val (.int (0 : Int32)), .unset, .unset, .unset] [(.ref b3)]))
      refine g_astore C X35 at_18 (pc' := 20) rfl rfl (ls' := #[.val (.int p0), .val (.int p1), .val (.int (2 : Int32)), .val (.int (0 : Int32)), .val (.ref b3), .unset, .unset]) rfl ?_
      refine g_iloadN C X35 at_20 (pc' := 21) rfl rfl ?_
      refine g_callS C X35 (w_1 hw) (w_2 hw) (w_3 hw) (w_4 hw) (by decide) at_21 (rm1 l Z a0 hw [] (0 : Int32) b1 b2 b3 h0 n0 Z0 F0 F2 F4) (by decide) (by decide) rfl pd_0 rfl (argsL := [(.int (0 : Int32))]) (rest := []) rfl (W := 0) (Nat.le_of_eq rfl) eq35 (by decide) (by decide) (pc' := 24) rfl (fun u36 T36 L36 X36 hQ36 => ?_)
      obtain ⟨rfl, Nq36, eq36⟩ := hQ36
      have N36 := Fr.app N35 Nq36
      rw [show (fPick (0 : Int32) b1 b2 b3) = (.ref b1) from rfl]
      show Goes p.tables e below G (T36.setTop (mkF m 24 #[.val (.int p0), .val (.int p1), .val (.int (2 : Int32)), .val (.int (0 : Int32)), .val (.ref b3), .unset, .unset] [(.ref b1)]))
      refine g_astore C X36 at_24 (pc' := 26) rfl rfl (ls' := #[.val (.int p0), .val (.int p1), .val (.int (2 : Int32)), .val (.int (0 : Int32)), .val (.ref b3), .val (.ref b1), .unset]) rfl ?_
      refine g_aload C X36 at_26 (pc' := 28) rfl rfl rfl ?_
      refine g_aload C X36 at_28 (pc' := 30) rfl rfl rfl ?_
      refine g_callV C X36 (w_8 hw) (w_9 hw) (notFace_of_selects (args := #[]) (mvT C.2.1 (w_11 hw))) (w_11 hw) (w_10 hw) (w_12 hw) (w_6 hw) (by decide) F5 at_30 (rm2 l Z a0 hw [] b3 b1 b1 b2 b3 h0 n0 Z0 F0 F2 F4) (by decide) (by decide) rfl pd_1 rfl (argsL := [(.ref b1)]) (rest := []) rfl (W := 0) (Nat.le_of_eq rfl) eq36 (by decide) (by decide) (pc' := 33) rfl (fun u37 T37 L37 X37 hQ37 => ?_)
      obtain ⟨rfl, Nq37, eq37⟩ := hQ37
      have N37 := Fr.app N36 Nq37
      rw [show (fAnd b3 b1 b1 b2 b3) = (.ref b3) from (by simp [fAnd, ne_b1_b2, ne_b1_b3, ne_b2_b3])]
      show Goes p.tables e below G (T37.setTop (mkF m 33 #[.val (.int p0), .val (.int p1), .val (.int (2 : Int32)), .val (.int (0 : Int32)), .val (.ref b3), .val (.ref b1), .unset] [(.ref b3)]))
      refine g_astore C X37 at_33 (pc' := 35) rfl rfl (ls' := #[.val (.int p0), .val (.int p1), .val (.int (2 : Int32)), .val (.int (0 : Int32)), .val (.ref b3), .val (.ref b1), .val (.ref b3)]) rfl ?_
      refine g_aload C X37 at_35 (pc' := 37) rfl rfl rfl ?_
      refine g_iloadN C X37 at_37 (pc' := 38) rfl rfl ?_
      refine g_iloadN C X37 at_38 (pc' := 39) rfl rfl ?_
      refine g_callS C X37 (w_18 hw) (w_19 hw) (w_20 hw) (w_21 hw) (by decide) at_39 (rm3 l Z a0 hw [] (2 : Int32) (0 : Int32) h0 n0 Z0) (by decide) (by decide) rfl pd_2 rfl (argsL := [(.int (2 : Int32)), (.int (0 : Int32))]) (rest := [(.ref b3)]) rfl (W := 1) (Nat.le_of_eq rfl) eq37 (by decide) (by decide) (pc' := 42) rfl (fun u38 T38 L38 X38 hQ38 => ?_)
      obtain ⟨rfl, Nq38, eq38⟩ := hQ38
      have N38 := Fr.app N37 Nq38
      rw [show fMax 2 0 = (2 : Int32) from by decide]
      show Goes p.tables e below G (T38.setTop (mkF m 42 #[.val (.int p0), .val (.int p1), .val (.int (2 : Int32)), .val (.int (0 : Int32)), .val (.ref b3), .val (.ref b1), .val (.ref b3)] [(.int (2 : Int32)), (.ref b3)]))
      refine g_callS C X38 (w_1 hw) (w_2 hw) (w_3 hw) (w_4 hw) (by decide) at_42 (rm1 l Z a0 hw [] (2 : Int32) b1 b2 b3 h0 n0 Z0 F0 F2 F4) (by decide) (by decide) rfl pd_0 rfl (argsL := [(.int (2 : Int32))]) (rest := [(.ref b3)]) rfl (W := 1) (Nat.le_of_eq rfl) eq38 (by decide) (by decide) (pc' := 45) rfl (fun u39 T39 L39 X39 hQ39 => ?_)
      obtain ⟨rfl, Nq39, eq39⟩ := hQ39
      have N39 := Fr.app N38 Nq39
      rw [show (fPick (2 : Int32) b1 b2 b3) = (.ref b3) from rfl]
      show Goes p.tables e below G (T39.setTop (mkF m 45 #[.val (.int p0), .val (.int p1), .val (.int (2 : Int32)), .val (.int (0 : Int32)), .val (.ref b3), .val (.ref b1), .val (.ref b3)] [(.ref b3), (.ref b3)]))
      refine g_acmp_ne C X39 rfl rfl at_45 (pcT := 52) (pcN := 48) (by decide) (by decide) rfl (fun hc45 => absurd rfl hc45) (fun hc45 => ?_)
      refine g_iconst C X39 at_48 (pc' := 49) rfl (v := 1) rfl ?_
      refine g_goto C X39 at_49 (pc' := 53) (by decide) (by decide) ?_
      exact g_retN C X39 K (by simp) at_53 (by decide) (by decide) eq39 ⟨rfl, N39⟩
    · subst hsp
      refine g_iloadN C X0 at_14 (pc' := 15) rfl rfl ?_
      refine g_callS C X0 (w_1 hw) (w_2 hw) (w_3 hw) (w_4 hw) (by decide) at_15 (rm1 l Z a0 hw [] (2 : Int32) b1 b2 b3 h0 n0 Z0 F0 F2 F4) (by decide) (by decide) rfl pd_0 rfl (argsL := [(.int (2 : Int32))]) (rest := []) rfl (W := 0) (Nat.le_of_eq rfl) e0 (by decide) (by decide) (pc' := 18) rfl (fun u40 T40 L40 X40 hQ40 => ?_)
      obtain ⟨rfl, Nq40, eq40⟩ := hQ40
      have N40 := Fr.app N0 Nq40
      rw [show (fPick (2 : Int32) b1 b2 b3) = (.ref b3) from rfl]
      show Goes p.tables e below G (T40.setTop (mkF m 18 #[.val (.int p0), .val (.int p1), .val (.int (2 : Int32)), .val (.int (1 : Int32)), .unset, .unset, .unset] [(.ref b3)]))
      refine g_astore C X40 at_18 (pc' := 20) rfl rfl (ls' := #[.val (.int p0), .val (.int p1), .val (.int (2 : Int32)), .val (.int (1 : Int32)), .val (.ref b3), .unset, .unset]) rfl ?_
      refine g_iloadN C X40 at_20 (pc' := 21) rfl rfl ?_
      refine g_callS C X40 (w_1 hw) (w_2 hw) (w_3 hw) (w_4 hw) (by decide) at_21 (rm1 l Z a0 hw [] (1 : Int32) b1 b2 b3 h0 n0 Z0 F0 F2 F4) (by decide) (by decide) rfl pd_0 rfl (argsL := [(.int (1 : Int32))]) (rest := []) rfl (W := 0) (Nat.le_of_eq rfl) eq40 (by decide) (by decide) (pc' := 24) rfl (fun u41 T41 L41 X41 hQ41 => ?_)
      obtain ⟨rfl, Nq41, eq41⟩ := hQ41
      have N41 := Fr.app N40 Nq41
      rw [show (fPick (1 : Int32) b1 b2 b3) = (.ref b2) from rfl]
      show Goes p.tables e below G (T41.setTop (mkF m 24 #[.val (.int p0), .val (.int p1), .val (.int (2 : Int32)), .val (.int (1 : Int32)), .val (.ref b3), .unset, .unset] [(.ref b2)]))
      refine g_astore C X41 at_24 (pc' := 26) rfl rfl (ls' := #[.val (.int p0), .val (.int p1), .val (.int (2 : Int32)), .val (.int (1 : Int32)), .val (.ref b3), .val (.ref b2), .unset]) rfl ?_
      refine g_aload C X41 at_26 (pc' := 28) rfl rfl rfl ?_
      refine g_aload C X41 at_28 (pc' := 30) rfl rfl rfl ?_
      refine g_callV C X41 (w_8 hw) (w_9 hw) (notFace_of_selects (args := #[]) (mvT C.2.1 (w_11 hw))) (w_11 hw) (w_10 hw) (w_12 hw) (w_6 hw) (by decide) F5 at_30 (rm2 l Z a0 hw [] b3 b2 b1 b2 b3 h0 n0 Z0 F0 F2 F4) (by decide) (by decide) rfl pd_1 rfl (argsL := [(.ref b2)]) (rest := []) rfl (W := 0) (Nat.le_of_eq rfl) eq41 (by decide) (by decide) (pc' := 33) rfl (fun u42 T42 L42 X42 hQ42 => ?_)
      obtain ⟨rfl, Nq42, eq42⟩ := hQ42
      have N42 := Fr.app N41 Nq42
      rw [show (fAnd b3 b2 b1 b2 b3) = (.ref b3) from (by simp [fAnd, ne_b1_b2, ne_b1_b3, ne_b2_b3])]
      show Goes p.tables e below G (T42.setTop (mkF m 33 #[.val (.int p0), .val (.int p1), .val (.int (2 : Int32)), .val (.int (1 : Int32)), .val (.ref b3), .val (.ref b2), .unset] [(.ref b3)]))
      refine g_astore C X42 at_33 (pc' := 35) rfl rfl (ls' := #[.val (.int p0), .val (.int p1), .val (.int (2 : Int32)), .val (.int (1 : Int32)), .val (.ref b3), .val (.ref b2), .val (.ref b3)]) rfl ?_
      refine g_aload C X42 at_35 (pc' := 37) rfl rfl rfl ?_
      refine g_iloadN C X42 at_37 (pc' := 38) rfl rfl ?_
      refine g_iloadN C X42 at_38 (pc' := 39) rfl rfl ?_
      refine g_callS C X42 (w_18 hw) (w_19 hw) (w_20 hw) (w_21 hw) (by decide) at_39 (rm3 l Z a0 hw [] (2 : Int32) (1 : Int32) h0 n0 Z0) (by decide) (by decide) rfl pd_2 rfl (argsL := [(.int (2 : Int32)), (.int (1 : Int32))]) (rest := [(.ref b3)]) rfl (W := 1) (Nat.le_of_eq rfl) eq42 (by decide) (by decide) (pc' := 42) rfl (fun u43 T43 L43 X43 hQ43 => ?_)
      obtain ⟨rfl, Nq43, eq43⟩ := hQ43
      have N43 := Fr.app N42 Nq43
      rw [show fMax 2 1 = (2 : Int32) from by decide]
      show Goes p.tables e below G (T43.setTop (mkF m 42 #[.val (.int p0), .val (.int p1), .val (.int (2 : Int32)), .val (.int (1 : Int32)), .val (.ref b3), .val (.ref b2), .val (.ref b3)] [(.int (2 : Int32)), (.ref b3)]))
      refine g_callS C X43 (w_1 hw) (w_2 hw) (w_3 hw) (w_4 hw) (by decide) at_42 (rm1 l Z a0 hw [] (2 : Int32) b1 b2 b3 h0 n0 Z0 F0 F2 F4) (by decide) (by decide) rfl pd_0 rfl (argsL := [(.int (2 : Int32))]) (rest := [(.ref b3)]) rfl (W := 1) (Nat.le_of_eq rfl) eq43 (by decide) (by decide) (pc' := 45) rfl (fun u44 T44 L44 X44 hQ44 => ?_)
      obtain ⟨rfl, Nq44, eq44⟩ := hQ44
      have N44 := Fr.app N43 Nq44
      rw [show (fPick (2 : Int32) b1 b2 b3) = (.ref b3) from rfl]
      show Goes p.tables e below G (T44.setTop (mkF m 45 #[.val (.int p0), .val (.int p1), .val (.int (2 : Int32)), .val (.int (1 : Int32)), .val (.ref b3), .val (.ref b2), .val (.ref b3)] [(.ref b3), (.ref b3)]))
      refine g_acmp_ne C X44 rfl rfl at_45 (pcT := 52) (pcN := 48) (by decide) (by decide) rfl (fun hc45 => absurd rfl hc45) (fun hc45 => ?_)
      refine g_iconst C X44 at_48 (pc' := 49) rfl (v := 1) rfl ?_
      refine g_goto C X44 at_49 (pc' := 53) (by decide) (by decide) ?_
      exact g_retN C X44 K (by simp) at_53 (by decide) (by decide) eq44 ⟨rfl, N44⟩
    · subst hsp
      refine g_iloadN C X0 at_14 (pc' := 15) rfl rfl ?_
      refine g_callS C X0 (w_1 hw) (w_2 hw) (w_3 hw) (w_4 hw) (by decide) at_15 (rm1 l Z a0 hw [] (2 : Int32) b1 b2 b3 h0 n0 Z0 F0 F2 F4) (by decide) (by decide) rfl pd_0 rfl (argsL := [(.int (2 : Int32))]) (rest := []) rfl (W := 0) (Nat.le_of_eq rfl) e0 (by decide) (by decide) (pc' := 18) rfl (fun u45 T45 L45 X45 hQ45 => ?_)
      obtain ⟨rfl, Nq45, eq45⟩ := hQ45
      have N45 := Fr.app N0 Nq45
      rw [show (fPick (2 : Int32) b1 b2 b3) = (.ref b3) from rfl]
      show Goes p.tables e below G (T45.setTop (mkF m 18 #[.val (.int p0), .val (.int p1), .val (.int (2 : Int32)), .val (.int (2 : Int32)), .unset, .unset, .unset] [(.ref b3)]))
      refine g_astore C X45 at_18 (pc' := 20) rfl rfl (ls' := #[.val (.int p0), .val (.int p1), .val (.int (2 : Int32)), .val (.int (2 : Int32)), .val (.ref b3), .unset, .unset]) rfl ?_
      refine g_iloadN C X45 at_20 (pc' := 21) rfl rfl ?_
      refine g_callS C X45 (w_1 hw) (w_2 hw) (w_3 hw) (w_4 hw) (by decide) at_21 (rm1 l Z a0 hw [] (2 : Int32) b1 b2 b3 h0 n0 Z0 F0 F2 F4) (by decide) (by decide) rfl pd_0 rfl (argsL := [(.int (2 : Int32))]) (rest := []) rfl (W := 0) (Nat.le_of_eq rfl) eq45 (by decide) (by decide) (pc' := 24) rfl (fun u46 T46 L46 X46 hQ46 => ?_)
      obtain ⟨rfl, Nq46, eq46⟩ := hQ46
      have N46 := Fr.app N45 Nq46
      rw [show (fPick (2 : Int32) b1 b2 b3) = (.ref b3) from rfl]
      show Goes p.tables e below G (T46.setTop (mkF m 24 #[.val (.int p0), .val (.int p1), .val (.int (2 : Int32)), .val (.int (2 : Int32)), .val (.ref b3), .unset, .unset] [(.ref b3)]))
      refine g_astore C X46 at_24 (pc' := 26) rfl rfl (ls' := #[.val (.int p0), .val (.int p1), .val (.int (2 : Int32)), .val (.int (2 : Int32)), .val (.ref b3), .val (.ref b3), .unset]) rfl ?_
      refine g_aload C X46 at_26 (pc' := 28) rfl rfl rfl ?_
      refine g_aload C X46 at_28 (pc' := 30) rfl rfl rfl ?_
      refine g_callV C X46 (w_8 hw) (w_9 hw) (notFace_of_selects (args := #[]) (mvT C.2.1 (w_11 hw))) (w_11 hw) (w_10 hw) (w_12 hw) (w_6 hw) (by decide) F5 at_30 (rm2 l Z a0 hw [] b3 b3 b1 b2 b3 h0 n0 Z0 F0 F2 F4) (by decide) (by decide) rfl pd_1 rfl (argsL := [(.ref b3)]) (rest := []) rfl (W := 0) (Nat.le_of_eq rfl) eq46 (by decide) (by decide) (pc' := 33) rfl (fun u47 T47 L47 X47 hQ47 => ?_)
      obtain ⟨rfl, Nq47, eq47⟩ := hQ47
      have N47 := Fr.app N46 Nq47
      rw [show (fAnd b3 b3 b1 b2 b3) = (.ref b3) from (by simp [fAnd, ne_b1_b2, ne_b1_b3, ne_b2_b3])]
      show Goes p.tables e below G (T47.setTop (mkF m 33 #[.val (.int p0), .val (.int p1), .val (.int (2 : Int32)), .val (.int (2 : Int32)), .val (.ref b3), .val (.ref b3), .unset] [(.ref b3)]))
      refine g_astore C X47 at_33 (pc' := 35) rfl rfl (ls' := #[.val (.int p0), .val (.int p1), .val (.int (2 : Int32)), .val (.int (2 : Int32)), .val (.ref b3), .val (.ref b3), .val (.ref b3)]) rfl ?_
      refine g_aload C X47 at_35 (pc' := 37) rfl rfl rfl ?_
      refine g_iloadN C X47 at_37 (pc' := 38) rfl rfl ?_
      refine g_iloadN C X47 at_38 (pc' := 39) rfl rfl ?_
      refine g_callS C X47 (w_18 hw) (w_19 hw) (w_20 hw) (w_21 hw) (by decide) at_39 (rm3 l Z a0 hw [] (2 : Int32) (2 : Int32) h0 n0 Z0) (by decide) (by decide) rfl pd_2 rfl (argsL := [(.int (2 : Int32)), (.int (2 : Int32))]) (rest := [(.ref b3)]) rfl (W := 1) (Nat.le_of_eq rfl) eq47 (by decide) (by decide) (pc' := 42) rfl (fun u48 T48 L48 X48 hQ48 => ?_)
      obtain ⟨rfl, Nq48, eq48⟩ := hQ48
      have N48 := Fr.app N47 Nq48
      rw [show fMax 2 2 = (2 : Int32) from by decide]
      show Goes p.tables e below G (T48.setTop (mkF m 42 #[.val (.int p0), .val (.int p1), .val (.int (2 : Int32)), .val (.int (2 : Int32)), .val (.ref b3), .val (.ref b3), .val (.ref b3)] [(.int (2 : Int32)), (.ref b3)]))
      refine g_callS C X48 (w_1 hw) (w_2 hw) (w_3 hw) (w_4 hw) (by decide) at_42 (rm1 l Z a0 hw [] (2 : Int32) b1 b2 b3 h0 n0 Z0 F0 F2 F4) (by decide) (by decide) rfl pd_0 rfl (argsL := [(.int (2 : Int32))]) (rest := [(.ref b3)]) rfl (W := 1) (Nat.le_of_eq rfl) eq48 (by decide) (by decide) (pc' := 45) rfl (fun u49 T49 L49 X49 hQ49 => ?_)
      obtain ⟨rfl, Nq49, eq49⟩ := hQ49
      have N49 := Fr.app N48 Nq49
      rw [show (fPick (2 : Int32) b1 b2 b3) = (.ref b3) from rfl]
      show Goes p.tables e below G (T49.setTop (mkF m 45 #[.val (.int p0), .val (.int p1), .val (.int (2 : Int32)), .val (.int (2 : Int32)), .val (.ref b3), .val (.ref b3), .val (.ref b3)] [(.ref b3), (.ref b3)]))
      refine g_acmp_ne C X49 rfl rfl at_45 (pcT := 52) (pcN := 48) (by decide) (by decide) rfl (fun hc45 => absurd rfl hc45) (fun hc45 => ?_)
      refine g_iconst C X49 at_48 (pc' := 49) rfl (v := 1) rfl ?_
      refine g_goto C X49 at_49 (pc' := 53) (by decide) (by decide) ?_
      exact g_retN C X49 K (by simp) at_53 (by decide) (by decide) eq49 ⟨rfl, N49⟩
theorem w_7 {Z : State} {a0 : Array Value} (hw : ∀ d ∈ tables_1, d.before a0 Z = true) : Jvm.Cond.before (Jvm.Cond.laysStatic "com/example/oecophylla/oecophylla/engine/SetValue$Inclusion" "SUBSET" "Lcom/example/oecophylla/oecophylla/engine/SetValue$Inclusion;") a0 Z = true := hw _ (List.mem_of_getElem? (i := 7) rfl)
theorem w_16 {Z : State} {a0 : Array Value} (hw : ∀ d ∈ tables_1, d.before a0 Z = true) : Jvm.Cond.before (Jvm.Cond.laysStatic "com/example/oecophylla/oecophylla/engine/SetValue$Inclusion" "CANNOT_TELL" "Lcom/example/oecophylla/oecophylla/engine/SetValue$Inclusion;") a0 Z = true := hw _ (List.mem_of_getElem? (i := 16) rfl)
theorem w_14 {Z : State} {a0 : Array Value} (hw : ∀ d ∈ tables_1, d.before a0 Z = true) : Jvm.Cond.before (Jvm.Cond.laysStatic "com/example/oecophylla/oecophylla/engine/SetValue$Inclusion" "NOT_SUBSET" "Lcom/example/oecophylla/oecophylla/engine/SetValue$Inclusion;") a0 Z = true := hw _ (List.mem_of_getElem? (i := 14) rfl)
set_option maxRecDepth 65536 in
set_option maxHeartbeats 40000000 in
theorem comes_1 {Post : Tables → Env → Array Value → State → Outcome → State → Prop} (hpost : ∀ tb e args s v u, (limb_1_1.after args s (.returned v) u = true ∧ limb_1_2.after args s (.returned v) u = true ∧ True) → FrameEnd s (.returned v) u (Jvm.fieldLocs frame_1_writes args s ++ Jvm.arrayLocs frame_1_arrays args s ++ Jvm.staticLocs frame_1_statics s) 0 0 → Post tb e args s (.returned v) u) :
    ArmFor flags0 classFile x code maxLocals ret World_1 tables_1 room_1 Calls_1 rest_1 Pre_1 Post := by
  intro l hfl _ _ p e ha hc hk s m args below hf hA hF happ hP
  obtain ⟨hcalls, hrest, hpre⟩ := hP
  obtain ⟨-, -, -, hnamed, -, -, -, hat⟩ := (Spec.applies_iff hf).mp happ
  obtain ⟨hg, hn⟩ := and_e (Cond.before_iff.mp (show (Jvm.Cond.and given_1 narrow_1).before args s = true from hpre))
  obtain ⟨gc, g0⟩ := and_e hg
  obtain ⟨k0, g1⟩ := and_e g0
  have k1 := g1
  obtain ⟨w0, w1, rfl⟩ : ∃ w0 w1 : Value, args = #[w0, w1] := by
    have hs : args.size = 2 := by simpa [Cond.value, given_1] using gc
    obtain ⟨L⟩ := args
    match L, hs with
    | [w0, w1], _ => exact ⟨w0, w1, rfl⟩
  have hw := fun d (hd : d ∈ tables_1) => atoms_spec (ws := Jvm.Cond.code x code maxLocals ret :: tables_1) hat d (List.mem_cons_of_mem _ hd)
  obtain ⟨i0, ei0⟩ := is_v k0
  obtain rfl : w0 = (.int i0) := Option.some.inj ei0
  obtain ⟨i1, ei1⟩ := is_v k1
  obtain rfl : w1 = (.int i1) := Option.some.inj ei1
  obtain ⟨x1, m1⟩ := and_e hn
  obtain ⟨x3, m2⟩ := and_e m1
  obtain ⟨y1, m3⟩ := and_e m2
  obtain ⟨y3, m4⟩ := and_e m3
  obtain ⟨x2, y2⟩ := and_e m4
  obtain ⟨b1, t1, E1⟩ := ref_of_exactly x1
  have S1 := Sta.start t1 (Or.inr ⟨(w_6 hw), (w_7 hw)⟩)
  have O1 := fldI_of t1 y1
  obtain ⟨b2, t2, E2⟩ := ref_of_exactly x2
  have S2 := Sta.start t2 (Or.inr ⟨(w_6 hw), (w_16 hw)⟩)
  have O2 := fldI_of t2 y2
  obtain ⟨b3, t3, E3⟩ := ref_of_exactly x3
  have S3 := Sta.start t3 (Or.inr ⟨(w_6 hw), (w_14 hw)⟩)
  have O3 := fldI_of t3 y3
  obtain ⟨n, o, h1, h2, h3, _, L, rfl, ⟨rfl, N⟩, hq⟩ := rm0 l s _ hw tables_1 i0 i1 b1 b2 b3 s.heap s.heap.size (Nat.le_refl _) S1 E1 S2 E2 S3 E3 (ne_of_fld O1 O2 (by simp)) (ne_of_fld O1 O3 (by simp)) (ne_of_fld O2 O3 (by simp)) p e ha hc hk s m _ below hf ((Spec.applies_iff_loose hf).mp happ).1 ⟨rfl, State.Warmed39.refl s, rfl⟩ trivial
  refine ⟨n, _, h1, h2, h3, hpost _ _ _ _ _ _ ⟨Cond.after_iff.mpr rfl, Cond.after_iff.mpr (eq_i res_at (Term.int_eval (1)) rfl), trivial⟩ ⟨hq.1, hq.2.1, (hq.2.2.sift fun y hy => Or.inr (N y hy)).mono (by decide) (by decide)⟩⟩
theorem main_1_1 : Claimed_1_1 := comes_1 fun _ _ _ _ _ _ h hF => ⟨h.1, hF⟩
theorem main_1_2 : Claimed_1_2 := comes_1 fun _ _ _ _ _ _ h hF => ⟨h.2.1, hF⟩
end Jvm.Pilot.@@N@@
namespace Jvm.Pilot.@@N@@
open Jvm Jvm.ClassFile Sem Op Lib Jvm.Free Jvm.Stand Jvm.Pilot.@@N@@.Jvm.D
/-! MADE BY PROGRAM (witnessworld.py) out of the Statement's table words and the real class files: 13 classes; the members and pool entries that the words name. The judged class is class 1, her method 2. -/
namespace start1
open Jvm.ClassFile
def u (s : String) : CpInfo := .utf8 (stringToUtf16 s)
/-- a pool by its gaps: so many unusable entries, then the entry; so many at the end -/
def gap : Nat → List CpInfo → List CpInfo
  | 0, r => r
  | n + 1, r => .unusable :: gap n r
def poolList (es : List (Nat × CpInfo)) (last : Nat) : List CpInfo := es.foldr (fun e r => gap e.1 (e.2 :: r)) (gap last [])
def pool (es : List (Nat × CpInfo)) (last : Nat) : Array CpInfo := ⟨poolList es last⟩
def fileOf (pool : Array CpInfo) (this : Nat) (attrs : Array Attribute := #[]) (ms : Array MethodInfo := #[]) (fl : Nat := 33) (sup : Nat := 0) (ifs : Array Nat := #[]) (fds : Array FieldInfo := #[]) : ClassFile where
  minorVersion := 0
  majorVersion := 65
  constantPool := pool
  accessFlags := fl
  thisClass := this
  superClass := sup
  interfaces := ifs
  fields := fds
  methods := ms
  attributes := attrs
def plain (name : String) (sup : Option ClassId) : Class where
  name := name
  kind := .ordinary
  loader := none
  accessFlags := 33
  super := sup
  interfaces := #[]
  cf := none
  fields := #[]
  methods := #[]
  instanceTypes := #[]
  staticTypes := #[]
  resolved := #[]
  callSites := []
  init := .initialized
  statics := none
  mirror := none

def pool0 : Array CpInfo := pool [(5, u "<init>"), (0, u "()V"), (1, .class_ 10), (1, u "java/lang/Object")] 113

def k0m0 : Method := { name := "<init>", desc := "()V", sig := { parameters := [], returnType := none }, accessFlags := 1, code := none }
/-- java/lang/Object -/
def k0 : Class := { plain "java/lang/Object" none with
  accessFlags := 33
  interfaces := #[]
  cf := some (fileOf pool0 8 #[] #[{ accessFlags := 1, nameIndex := 5, descriptorIndex := 6, attributes := #[] }] 33 0 #[] #[])
  fields := #[]
  methods := #[k0m0]
  instanceTypes := #[]
  staticTypes := #[]
  resolved := Array.replicate 124 none
  statics := none }

def pool1 : Array CpInfo := pool [(2, .class_ 4), (1, u "java/lang/Object"), (0, u "<init>"), (0, u "()V"), (0, .fieldref 8 9), (0, .class_ 10), (0, .nameAndType 11 12), (0, u "com/example/oecophylla/oecophylla/engine/SetValue$Inclusion"), (0, u "SUBSET"), (0, u "Lcom/example/oecophylla/oecophylla/engine/SetValue$Inclusion;"), (0, .fieldref 8 14), (0, .nameAndType 15 12), (0, u "CANNOT_TELL"), (0, .fieldref 8 17), (0, .nameAndType 18 12), (0, u "NOT_SUBSET"), (0, .integer 2147483647), (0, .methodref 21 22), (0, .class_ 23), (0, .nameAndType 24 25), (0, u "com/example/oecophylla/oecophylla/engine/InclusionAndPinLaw"), (0, u "pick"), (0, u "(I)Lcom/example/oecophylla/oecophylla/engine/SetValue$Inclusion;"), (0, .methodref 8 27), (0, .nameAndType 28 29), (0, u "and"), (0, u "(Lcom/example/oecophylla/oecophylla/engine/SetValue$Inclusion;)Lcom/example/oecophylla/oecophylla/engine/SetValue$Inclusion;"), (0, .methodref 31 32), (0, .class_ 33), (0, .nameAndType 34 35), (0, u "java/lang/Math"), (0, u "max"), (0, u "(II)I"), (3, u "law"), (0, u "(II)Z")] 6

def k1m0 : Method := { name := "<init>", desc := "()V", sig := { parameters := [], returnType := none }, accessFlags := 1, code := none }
def k1c1 : Code := { maxStack := 2, maxLocals := 1, code := method_2_code, exceptionTable := #[], attributes := #[] }
def k1m1 : Method := { name := "pick", desc := "(I)Lcom/example/oecophylla/oecophylla/engine/SetValue$Inclusion;", sig := { parameters := [.int], returnType := some (.object "com/example/oecophylla/oecophylla/engine/SetValue$Inclusion") }, accessFlags := 10, code := some k1c1 }
def k1c2 : Code := { maxStack := 3, maxLocals := 7, code := code, exceptionTable := #[], attributes := #[] }
def k1m2 : Method := { name := "law", desc := "(II)Z", sig := { parameters := [.int, .int], returnType := some .boolean }, accessFlags := 9, code := some k1c2 }
/-- com/example/oecophylla/oecophylla/engine/InclusionAndPinLaw -/
def k1 : Class := { plain "com/example/oecophylla/oecophylla/engine/InclusionAndPinLaw" (some 0) with
  accessFlags := 49
  interfaces := #[]
  cf := some (fileOf pool1 21 #[] #[{ accessFlags := 1, nameIndex := 5, descriptorIndex := 6, attributes := #[] }, { accessFlags := 10, nameIndex := 24, descriptorIndex := 25, attributes := #[] }, { accessFlags := 9, nameIndex := 39, descriptorIndex := 40, attributes := #[] }] 49 2 #[] #[])
  fields := #[]
  methods := #[k1m0, k1m1, k1m2]
  instanceTypes := #[]
  staticTypes := #[]
  resolved := Array.replicate 47 none
  statics := none }

def pool2 : Array CpInfo := pool [(1, .class_ 2), (0, u "java/lang/constant/Constable"), (0, .class_ 4), (0, u "java/lang/Object")] 6

/-- java/lang/constant/Constable -/
def k2 : Class := { plain "java/lang/constant/Constable" (some 0) with
  accessFlags := 1537
  interfaces := #[]
  cf := some (fileOf pool2 1 #[] #[] 1537 3 #[] #[])
  fields := #[]
  methods := #[]
  instanceTypes := #[]
  staticTypes := #[]
  resolved := Array.replicate 11 none
  statics := none }

def pool3 : Array CpInfo := pool [(1, .class_ 2), (0, u "java/lang/Comparable"), (0, .class_ 4), (0, u "java/lang/Object")] 7

/-- java/lang/Comparable -/
def k3 : Class := { plain "java/lang/Comparable" (some 0) with
  accessFlags := 1537
  interfaces := #[]
  cf := some (fileOf pool3 1 #[] #[] 1537 3 #[] #[])
  fields := #[]
  methods := #[]
  instanceTypes := #[]
  staticTypes := #[]
  resolved := Array.replicate 12 none
  statics := none }

def pool4 : Array CpInfo := pool [(1, .class_ 2), (0, u "java/io/Serializable"), (0, .class_ 4), (0, u "java/lang/Object")] 2

/-- java/io/Serializable -/
def k4 : Class := { plain "java/io/Serializable" (some 0) with
  accessFlags := 1537
  interfaces := #[]
  cf := some (fileOf pool4 1 #[] #[] 1537 3 #[] #[])
  fields := #[]
  methods := #[]
  instanceTypes := #[]
  staticTypes := #[]
  resolved := Array.replicate 7 none
  statics := none }

def pool5 : Array CpInfo := pool [(2, .class_ 4), (1, u "java/lang/Enum"), (0, u "name"), (0, u "Ljava/lang/String;"), (2, u "ordinal"), (0, u "I"), (1, .class_ 14), (1, u "java/lang/Object"), (4, u "hash"), (86, .class_ 108), (1, u "java/lang/Enum$EnumDesc"), (2, .class_ 112), (0, u "java/lang/constant/Constable"), (0, .class_ 114), (0, u "java/lang/Comparable"), (0, .class_ 116), (0, u "java/io/Serializable")] 87

/-- java/lang/Enum -/
def k5 : Class := { plain "java/lang/Enum" (some 0) with
  accessFlags := 1057
  interfaces := #[2, 3, 4]
  cf := some (fileOf pool5 2 #[.nestMembers #[106]] #[] 1057 12 #[111, 113, 115] #[{ accessFlags := 18, nameIndex := 5, descriptorIndex := 6, attributes := #[] }, { accessFlags := 18, nameIndex := 9, descriptorIndex := 10, attributes := #[] }, { accessFlags := 2, nameIndex := 19, descriptorIndex := 10, attributes := #[] }])
  fields := #[{ name := "name", type := (.object "java/lang/String"), accessFlags := 18, slot := 0, constantValue := 0 }, { name := "ordinal", type := .int, accessFlags := 18, slot := 1, constantValue := 0 }, { name := "hash", type := .int, accessFlags := 2, slot := 2, constantValue := 0 }]
  methods := #[]
  instanceTypes := #[(.object "java/lang/String"), .int, .int]
  staticTypes := #[]
  resolved := Array.replicate 204 none
  statics := none }

def pool6 : Array CpInfo := pool [(1, .class_ 2), (0, u "com/example/oecophylla/oecophylla/engine/SetValue$Inclusion"), (0, .fieldref 1 4), (0, .nameAndType 5 6), (0, u "SUBSET"), (0, u "Lcom/example/oecophylla/oecophylla/engine/SetValue$Inclusion;"), (0, .fieldref 1 8), (0, .nameAndType 9 6), (0, u "NOT_SUBSET"), (0, .fieldref 1 11), (0, .nameAndType 12 6), (0, u "CANNOT_TELL"), (2, u "$VALUES"), (0, u "[Lcom/example/oecophylla/oecophylla/engine/SetValue$Inclusion;"), (6, .class_ 25), (1, u "java/lang/Enum"), (24, u "and"), (0, u "(Lcom/example/oecophylla/oecophylla/engine/SetValue$Inclusion;)Lcom/example/oecophylla/oecophylla/engine/SetValue$Inclusion;"), (5, .class_ 58), (0, u "com/example/oecophylla/oecophylla/engine/SetValue")] 2

def k6c0 : Code := { maxStack := 2, maxLocals := 3, code := prog_51_method_5_code, exceptionTable := #[], attributes := #[] }
def k6m0 : Method := { name := "and", desc := "(Lcom/example/oecophylla/oecophylla/engine/SetValue$Inclusion;)Lcom/example/oecophylla/oecophylla/engine/SetValue$Inclusion;", sig := { parameters := [(.object "com/example/oecophylla/oecophylla/engine/SetValue$Inclusion")], returnType := some (.object "com/example/oecophylla/oecophylla/engine/SetValue$Inclusion") }, accessFlags := 0, code := some k6c0 }
/-- com/example/oecophylla/oecophylla/engine/SetValue$Inclusion -/
def k6 : Class := { plain "com/example/oecophylla/oecophylla/engine/SetValue$Inclusion" (some 5) with
  accessFlags := 16432
  interfaces := #[]
  cf := some (fileOf pool6 1 #[.nestHost 57] #[{ accessFlags := 0, nameIndex := 50, descriptorIndex := 51, attributes := #[] }] 16432 23 #[] #[{ accessFlags := 16409, nameIndex := 5, descriptorIndex := 6, attributes := #[] }, { accessFlags := 16409, nameIndex := 9, descriptorIndex := 6, attributes := #[] }, { accessFlags := 16409, nameIndex := 12, descriptorIndex := 6, attributes := #[] }, { accessFlags := 4122, nameIndex := 15, descriptorIndex := 16, attributes := #[] }])
  fields := #[{ name := "SUBSET", type := (.object "com/example/oecophylla/oecophylla/engine/SetValue$Inclusion"), accessFlags := 16409, slot := 0, constantValue := 0 }, { name := "NOT_SUBSET", type := (.object "com/example/oecophylla/oecophylla/engine/SetValue$Inclusion"), accessFlags := 16409, slot := 1, constantValue := 0 }, { name := "CANNOT_TELL", type := (.object "com/example/oecophylla/oecophylla/engine/SetValue$Inclusion"), accessFlags := 16409, slot := 2, constantValue := 0 }, { name := "$VALUES", type := (.array (.object "com/example/oecophylla/oecophylla/engine/SetValue$Inclusion")), accessFlags := 4122, slot := 3, constantValue := 0 }]
  methods := #[k6m0]
  instanceTypes := #[(.object "java/lang/String"), .int, .int]
  staticTypes := #[(.object "com/example/oecophylla/oecophylla/engine/SetValue$Inclusion"), (.object "com/example/oecophylla/oecophylla/engine/SetValue$Inclusion"), (.object "com/example/oecophylla/oecophylla/engine/SetValue$Inclusion"), (.array (.object "com/example/oecophylla/oecophylla/engine/SetValue$Inclusion"))]
  resolved := Array.replicate 61 none
  statics := some 0 }

def pool7 : Array CpInfo := pool [(1, .class_ 2), (0, u "java/lang/Math"), (1, .class_ 6), (1, u "java/lang/Object"), (0, u "<init>"), (0, u "()V"), (89, .class_ 100), (1, u "java/lang/Math$RandomNumberGeneratorHolder"), (71, u "negativeZeroFloatBits"), (0, u "J"), (2, u "negativeZeroDoubleBits"), (21, u "max"), (46, u "$assertionsDisabled"), (0, u "Z"), (88, u "(II)I"), (2, u "twoToTheDoubleScaleDown"), (0, u "D"), (4, u "twoToTheDoubleScaleUp"), (9, u "E"), (3, u "PI"), (2, u "TAU"), (2, u "DEGREES_TO_RADIANS"), (0, u "RADIANS_TO_DEGREES")] 94

def k7m0 : Method := { name := "<init>", desc := "()V", sig := { parameters := [], returnType := none }, accessFlags := 2, code := none }
def k7c1 : Code := { maxStack := 2, maxLocals := 2, code := jdk_29_method_65_code, exceptionTable := #[], attributes := #[] }
def k7m1 : Method := { name := "max", desc := "(II)I", sig := { parameters := [.int, .int], returnType := some .int }, accessFlags := 9, code := some k7c1 }
/-- java/lang/Math -/
def k7 : Class := { plain "java/lang/Math" (some 0) with
  accessFlags := 49
  interfaces := #[]
  cf := some (fileOf pool7 1 #[.nestMembers #[98]] #[{ accessFlags := 2, nameIndex := 7, descriptorIndex := 8, attributes := #[] }, { accessFlags := 9, nameIndex := 198, descriptorIndex := 335, attributes := #[] }] 49 4 #[] #[{ accessFlags := 25, nameIndex := 354, descriptorIndex := 339, attributes := #[] }, { accessFlags := 25, nameIndex := 358, descriptorIndex := 339, attributes := #[] }, { accessFlags := 25, nameIndex := 361, descriptorIndex := 339, attributes := #[] }, { accessFlags := 26, nameIndex := 364, descriptorIndex := 339, attributes := #[] }, { accessFlags := 26, nameIndex := 365, descriptorIndex := 339, attributes := #[] }, { accessFlags := 26, nameIndex := 172, descriptorIndex := 173, attributes := #[] }, { accessFlags := 26, nameIndex := 176, descriptorIndex := 173, attributes := #[] }, { accessFlags := 8, nameIndex := 344, descriptorIndex := 339, attributes := #[] }, { accessFlags := 8, nameIndex := 338, descriptorIndex := 339, attributes := #[] }, { accessFlags := 4120, nameIndex := 245, descriptorIndex := 246, attributes := #[] }])
  fields := #[{ name := "E", type := .double, accessFlags := 25, slot := 0, constantValue := 0 }, { name := "PI", type := .double, accessFlags := 25, slot := 1, constantValue := 0 }, { name := "TAU", type := .double, accessFlags := 25, slot := 2, constantValue := 0 }, { name := "DEGREES_TO_RADIANS", type := .double, accessFlags := 26, slot := 3, constantValue := 0 }, { name := "RADIANS_TO_DEGREES", type := .double, accessFlags := 26, slot := 4, constantValue := 0 }, { name := "negativeZeroFloatBits", type := .long, accessFlags := 26, slot := 5, constantValue := 0 }, { name := "negativeZeroDoubleBits", type := .long, accessFlags := 26, slot := 6, constantValue := 0 }, { name := "twoToTheDoubleScaleUp", type := .double, accessFlags := 8, slot := 7, constantValue := 0 }, { name := "twoToTheDoubleScaleDown", type := .double, accessFlags := 8, slot := 8, constantValue := 0 }, { name := "$assertionsDisabled", type := .boolean, accessFlags := 4120, slot := 9, constantValue := 0 }]
  methods := #[k7m0, k7m1]
  instanceTypes := #[]
  staticTypes := #[.double, .double, .double, .double, .double, .long, .long, .double, .double, .boolean]
  resolved := Array.replicate 460 none
  statics := none }

def pool8 : Array CpInfo := pool [(1, u "java/lang/Cloneable"), (0, .class_ 1), (0, u "java/lang/Object"), (0, .class_ 3)] 3

/-- java/lang/Cloneable -/
def k8 : Class := { plain "java/lang/Cloneable" (some 0) with
  accessFlags := 1537
  interfaces := #[]
  cf := some (fileOf pool8 2 #[] #[] 1537 4 #[] #[])
  fields := #[]
  methods := #[]
  instanceTypes := #[]
  staticTypes := #[]
  resolved := Array.replicate 8 none
  statics := none }

/-- the primitive byte -/
def k9 : Class := { plain "byte" none with kind := .primitive 'B', accessFlags := 0x411 }
/-- [B -/
def k10 : Class := { plain "[B" (some 0) with kind := .array 9 .byte, interfaces := #[8, 4], accessFlags := 1041 }

/-- the primitive int -/
def k11 : Class := { plain "int" none with kind := .primitive 'I', accessFlags := 0x411 }
/-- [I -/
def k12 : Class := { plain "[I" (some 0) with kind := .array 11 .int, interfaces := #[8, 4], accessFlags := 1041 }

def heap : Heap := #[{ cls := 6, slots := #[.ref 1, .ref 2, .ref 3, .null], vm := .statics 6 },
  { cls := 6, slots := #[.null, .int 0, .int 0], vm := .none },
  { cls := 6, slots := #[.null, .int 1, .int 0], vm := .none },
  { cls := 6, slots := #[.null, .int 2, .int 0], vm := .none }]
def classes : Array Class := #[k0, k1, k2, k3, k4, k5, k6, k7, k8, k9, k10, k11, k12]
def interned : List (Array UInt16 × Addr) := []
def slotsUsed : Nat := 13
def theMethod : MethodId := ⟨1, 2⟩
def args0 : Array Value := #[.int 5, .int 4]
def aboutOver (below : List Frame) : State where
  vm := { classes := classes, interned := interned.toArray }
  heap := heap
  slotsUsed := slotsUsed
  threads := #[{ frames := .invoking theMethod args0 :: below }]
def below0 : List Frame := [.native { method := ⟨0, 0⟩, args := #[] }]
def about1 : State := aboutOver below0
def p0 : Program := .bare "" "" ""
def e0 : Env := launch0.env 0 0 0
theorem w_frames : about1.frames = Frame.invoking theMethod args0 :: below0 := rfl
set_option maxRecDepth 65536 in
theorem w_args : argsFit about1.vm theMethod args0 = true := by decide +kernel
set_option maxRecDepth 65536 in
theorem w_heap : heapFits about1 = true := by decide +kernel
set_option maxRecDepth 65536 in
theorem w_runnable : about1.curStatus? = some .runnable := by decide +kernel
set_option maxRecDepth 65536 in
theorem w_alone : about1.alone = true := by decide +kernel
set_option maxRecDepth 65536 in
theorem w_named : about1.methodNamed? x = some theMethod := by decide +kernel
set_option maxRecDepth 65536 in
theorem w_hears : about1.hears theMethod below0 = true := by decide +kernel
set_option maxRecDepth 65536 in
theorem w_ripe : about1.ripe theMethod args0 below0 = true := by decide +kernel
theorem w_running : about1.status = .running := rfl
set_option maxRecDepth 65536 in
theorem w_room : about1.hasRoom e0.platform room_1 = true :=
  launch0.hasRoom_least _ room_1 (by decide +kernel) (by decide +kernel) (by decide +kernel) (by decide +kernel) (by decide +kernel) (by decide +kernel)
theorem allAtoms_all (ts : List Jvm.Cond) (a : Array Jvm.Value) (st : Jvm.State) : (allAtoms ts).before a st = ts.all (fun c => c.before a st) := by
  induction ts with
  | nil => rfl
  | cons c t ih =>
    show (Jvm.Cond.and c (allAtoms t)).before a st = _
    rw [Jvm.Cond.before_and, ih, List.all_cons]
def words1 : List Jvm.Cond := Jvm.Cond.code x code maxLocals ret :: tables_1
/-- a 'code' word, met by the world's own term for the bytes: nothing is compared byte by byte -/
theorem code_word {y : MethodName} {bytes : ByteArray} {mx : Nat} {rt : Option FieldType} {a : Array Value} {s : State} {m : MethodId} {meth : Method} {c : Code} (h1 : s.methodNamed? y = some m) (h2 : s.vm.method? m = some meth) (h3 : meth.code = some c) (h4 : c.code = bytes)
    (h5 : (c.maxLocals == mx && c.exceptionTable.isEmpty && decide (c.maxStack ≤ mostOperands) && decide (meth.sig.returnType = rt) && !meth.locks && decide (parseMethodDescriptor y.desc = some meth.sig)) = true) : (Jvm.Cond.code y bytes mx rt).before a s = true := by
  simp only [Bool.and_eq_true, beq_iff_eq, Bool.not_eq_true', decide_eq_true_eq] at h5
  obtain ⟨⟨⟨⟨⟨g1, g2⟩, g3⟩, g4⟩, g5⟩, g6⟩ := h5
  simp [Cond.before, Cond.holds, Cond.value, h1, h2, h3, h4, g1, g2, g3, g4, g5, g6]
def isCode : Jvm.Cond → Bool
  | .code _ _ _ _ => true
  | _ => false
theorem all_split {L : List Jvm.Cond} {P : Jvm.Cond → Bool} (h1 : L.all (fun c => isCode c || P c) = true) (h2 : ∀ c ∈ L.filter isCode, P c = true) : L.all P = true := by
  refine List.all_eq_true.mpr fun c hc => ?_
  have h := List.all_eq_true.mp h1 c hc
  rcases Bool.eq_false_or_eq_true (isCode c) with hi | hi
  · exact h2 c (List.mem_filter.mpr ⟨hc, hi⟩)
  · simpa [hi] using h
set_option maxRecDepth 65536 in
theorem w_c0 : (Jvm.Cond.code x code maxLocals ret).before args0 about1 = true := code_word (m := ⟨1, 2⟩) (meth := k1m2) (c := k1c2) (by decide +kernel) rfl rfl rfl (by decide +kernel)
set_option maxRecDepth 65536 in
theorem w_c1 : (Jvm.Cond.code ({ cls := "com/example/oecophylla/oecophylla/engine/InclusionAndPinLaw", name := "pick", desc := "(I)Lcom/example/oecophylla/oecophylla/engine/SetValue$Inclusion;" } : Jvm.MethodName) method_2_code (1 : Nat) (Option.some (Jvm.ClassFile.FieldType.object "com/example/oecophylla/oecophylla/engine/SetValue$Inclusion"))).before args0 about1 = true := code_word (m := ⟨1, 1⟩) (meth := k1m1) (c := k1c1) (by decide +kernel) rfl rfl rfl (by decide +kernel)
set_option maxRecDepth 65536 in
theorem w_c2 : (Jvm.Cond.code ({ cls := "com/example/oecophylla/oecophylla/engine/SetValue$Inclusion", name := "and", desc := "(Lcom/example/oecophylla/oecophylla/engine/SetValue$Inclusion;)Lcom/example/oecophylla/oecophylla/engine/SetValue$Inclusion;" } : Jvm.MethodName) prog_51_method_5_code (3 : Nat) (Option.some (Jvm.ClassFile.FieldType.object "com/example/oecophylla/oecophylla/engine/SetValue$Inclusion"))).before args0 about1 = true := code_word (m := ⟨6, 0⟩) (meth := k6m0) (c := k6c0) (by decide +kernel) rfl rfl rfl (by decide +kernel)
set_option maxRecDepth 65536 in
theorem w_c3 : (Jvm.Cond.code ({ cls := "java/lang/Math", name := "max", desc := "(II)I" } : Jvm.MethodName) jdk_29_method_65_code (2 : Nat) (Option.some Jvm.ClassFile.FieldType.int)).before args0 about1 = true := code_word (m := ⟨7, 1⟩) (meth := k7m1) (c := k7c1) (by decide +kernel) rfl rfl rfl (by decide +kernel)
def codes1 : List Jvm.Cond := [Jvm.Cond.code x code maxLocals ret, Jvm.Cond.code ({ cls := "com/example/oecophylla/oecophylla/engine/InclusionAndPinLaw", name := "pick", desc := "(I)Lcom/example/oecophylla/oecophylla/engine/SetValue$Inclusion;" } : Jvm.MethodName) method_2_code (1 : Nat) (Option.some (Jvm.ClassFile.FieldType.object "com/example/oecophylla/oecophylla/engine/SetValue$Inclusion")), Jvm.Cond.code ({ cls := "com/example/oecophylla/oecophylla/engine/SetValue$Inclusion", name := "and", desc := "(Lcom/example/oecophylla/oecophylla/engine/SetValue$Inclusion;)Lcom/example/oecophylla/oecophylla/engine/SetValue$Inclusion;" } : Jvm.MethodName) prog_51_method_5_code (3 : Nat) (Option.some (Jvm.ClassFile.FieldType.object "com/example/oecophylla/oecophylla/engine/SetValue$Inclusion")), Jvm.Cond.code ({ cls := "java/lang/Math", name := "max", desc := "(II)I" } : Jvm.MethodName) jdk_29_method_65_code (2 : Nat) (Option.some Jvm.ClassFile.FieldType.int)]
set_option maxRecDepth 65536 in
theorem codes_eq : words1.filter isCode = codes1 := rfl
theorem w_codes : ∀ c ∈ words1.filter isCode, c.before args0 about1 = true := by
  rw [codes_eq]
  intro c hc
  simp only [codes1, List.mem_cons, List.not_mem_nil, or_false] at hc
  rcases hc with rfl | rfl | rfl | rfl
  · exact w_c0
  · exact w_c1
  · exact w_c2
  · exact w_c3
set_option maxRecDepth 65536 in
theorem w_t1 : (words1.take 24).all (fun c => isCode c || c.before args0 about1) = true := by decide +kernel
set_option maxRecDepth 65536 in
theorem w_t2 : (words1.drop 24).all (fun c => isCode c || c.before args0 about1) = true := by decide +kernel
theorem w_tables : (allAtoms (Jvm.Cond.code x code maxLocals ret :: tables_1)).before args0 about1 = true := by
  rw [allAtoms_all]
  show words1.all (fun c => c.before args0 about1) = true
  refine all_split ?_ w_codes
  rw [← List.take_append_drop 24 words1, List.all_append, w_t1, w_t2]
  rfl
set_option maxRecDepth 65536 in
theorem w_case : (Jvm.Cond.and given_1 narrow_1).before args0 about1 = true := by decide +kernel
theorem w_applies : (headSpec (Jvm.Cond.code x code maxLocals ret :: tables_1) room_1).applies x e0.platform about1 = true :=
  (Spec.applies_iff w_frames).mpr ⟨w_running, w_runnable, w_alone, w_named, w_hears, w_ripe, w_room, w_tables⟩
theorem atStart : AtStart classFile x code maxLocals ret World_1 tables_1 room_1 Calls_1 rest_1 Pre_1 launch0 p0 e0 about1 theMethod args0 below0 :=
  ⟨lists_1, trivial, launch0.admits_env _ _ _, launch0.least_env, fairChoices_fair.cas, fairChoices_fair.clock, w_frames, w_args, w_heap, w_applies, trivial, trivial, w_case⟩
end start1
theorem witness_1 : WitnessClaimed_1 := ⟨start1.p0, start1.e0, start1.about1, start1.theMethod, start1.args0, start1.below0, start1.atStart⟩
end Jvm.Pilot.@@N@@
