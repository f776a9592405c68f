import JvmDerived
import JvmDerived.Pilot.@@N@@Statement
import JvmDerived.Pilot.@@N@@Code
set_option linter.unusedVariables false
set_option linter.unusedSimpArgs false
namespace Jvm.Own
open Sem ClassFile Op Lib Jvm.Stand Jvm.Free Jvm.LawKit Jvm.RoadKit
/-- from the state A the run comes to an end that meets G -/
def Goes (tb : Tables) (e : Env) (below : List Frame) (G : Outcome → State → Prop) (A : State) : Prop := ∃ s₂ o, Steps tb e below A s₂ ∧ s₂.status = .running ∧ Ended s₂ below o ∧ G o s₂
/-- what a body's walk may lean on throughout -/
def Ctx (p : Program) (Z s : State) (m : MethodId) (meth : Method) (c : Code) (bs : ByteArray) (own : String) (maxL : Nat) (ret : Option FieldType) : Prop :=
  p.tables.exec = Jvm.exec ∧ Z.Warmed39 s.vm ∧ c.code = bs ∧ c.maxLocals = maxL ∧ s.vm.findClass own = some m.cls ∧ meth.sig.returnType = ret ∧ meth.locks = false
section Kit
variable {p : Program} {l : Launch} {e : Env} {R : Room} {s : State} {m : MethodId} {args : Array Value} {below : List Frame} {meth : Method} {c : Code} {T : State} {locs : List Loc} {cells slots : Nat} {Z : State} {a0 : Array Value} {h : Heap} {G : Outcome → State → Prop} {bs : ByteArray} {own : String} {maxL : Nat} {ret : Option FieldType}
theorem Goes.on {tb : Tables} {A B : State} (k : ∀ t, Steps tb e below B t → Steps tb e below A t) (h : Goes tb e below G B) : Goes tb e below G A := by
  obtain ⟨s2, o, h1, h2⟩ := h
  exact ⟨s2, o, k _ h1, h2⟩
theorem Goes.to {tb : Tables} {A B : State} (q : A = B) (h : Goes tb e below G B) : Goes tb e below G A := q ▸ h
theorem body_of {y : MethodName} {bytes : ByteArray} {ws : List Cond} {as' : Array Value} {h0 : Heap} {Q : Option Value → Heap → List Loc → Prop} (hplain : plainFor y = true)
    (H : ∀ p e s m below meth c s₁ G, Ctx p Z s m meth c bytes y.cls maxL ret → meth.name = y.name → Stand p l e R s m as' below meth c s₁ [] 0 0 → s₁.heap = h0 →
      (∀ (v : Option Value) (L : List Loc) (T' : State), Q v T'.heap L → s.WarmedH T'.vm → s.sameButNew ({ T' with vm := s.vm } : State) L R.cells R.slots → G (.returned v) T') →
      Goes p.tables e below G (s₁.setTop (entryFrame m as' maxL))) :
    MetFree l y (head1 (Cond.code y bytes maxL ret :: ws) R) (fun a U => a = as' ∧ Z.Warmed39 U.vm ∧ U.heap = h0) (fun _ _ _ _ _ => True) (fun _ U o U' => ∃ v L, o = .returned v ∧ Q v U'.heap L ∧ FrameEnd U o U' L R.cells R.slots) := by
  refine MetFree.of_bodySF hplain hisR ?_
  intro p e s m args below meth c s₁ Bd hml0 hP hK
  obtain ⟨rfl, hZ, hh⟩ := hP
  exact H p e s m below meth c s₁ _ ⟨Bd.exec, hZ, Bd.bytes, hml0, findClass_of_methodNamed Bd.named, Bd.returns, BodyLoose.notSynchronized Bd⟩ (name_of_methodNamed Bd.named Bd.method).1 (Stand.of_body Bd) (by rw [← hh, Bd.state]; rfl)
    (fun v L T' hQ hW hS => ⟨v, L, rfl, hQ, ⟨_, rfl⟩, hW, hS⟩)

theorem g_iloadN (C : Ctx p Z s m meth c bs own maxL ret) (X : Stand p l e R s m args below meth c T locs cells slots) {pc pc' : Nat} {ls : Array Slot} {st : List Value} {k : Fin 4} {v : Int32} (hd : decode bs pc = .ok (.iload_n k, 1)) (hp : pc + 1 = pc') (hl : ls[k.val]? = some (.val (.int v)))
    (k : Goes p.tables e below G (T.setTop (mkF m pc' ls (.int v :: st)))) : Goes p.tables e below G (T.setTop (mkF m pc ls st)) := by
  subst hp
  exact Goes.on (fun _ k => XS.iloadN X.here C.1 rfl (hb C.2.2.1 hd) hl k) k
theorem g_iload (C : Ctx p Z s m meth c bs own maxL ret) (X : Stand p l e R s m args below meth c T locs cells slots) {pc pc' : Nat} {ls : Array Slot} {st : List Value} {k : Nat} {v : Int32} (hd : decode bs pc = .ok (.iload k, 2)) (hp : pc + 2 = pc') (hl : ls[k]? = some (.val (.int v)))
    (k : Goes p.tables e below G (T.setTop (mkF m pc' ls (.int v :: st)))) : Goes p.tables e below G (T.setTop (mkF m pc ls st)) := by
  subst hp
  exact Goes.on (fun _ k => XS.iload X.here C.1 rfl (hb C.2.2.1 hd) hl k) k
theorem g_istoreN (C : Ctx p Z s m meth c bs own maxL ret) (X : Stand p l e R s m args below meth c T locs cells slots) {pc pc' : Nat} {ls ls' : Array Slot} {st : List Value} {k : Fin 4} {v w : Int32} (hd : decode bs pc = .ok (.istore_n k, 1)) (hp : pc + 1 = pc') (hv : v = w) (hl : storeLocals ls k.val (.int w) = some ls')
    (k : Goes p.tables e below G (T.setTop (mkF m pc' ls' st))) : Goes p.tables e below G (T.setTop (mkF m pc ls (.int v :: st))) := by
  subst hp hv
  exact Goes.on (fun _ k => XS.istoreN X.here C.1 rfl (hb C.2.2.1 hd) rfl hl k) k
theorem g_istore (C : Ctx p Z s m meth c bs own maxL ret) (X : Stand p l e R s m args below meth c T locs cells slots) {pc pc' : Nat} {ls ls' : Array Slot} {st : List Value} {k : Nat} {v w : Int32} (hd : decode bs pc = .ok (.istore k, 2)) (hp : pc + 2 = pc') (hv : v = w) (hl : storeLocals ls k (.int w) = some ls')
    (k : Goes p.tables e below G (T.setTop (mkF m pc' ls' st))) : Goes p.tables e below G (T.setTop (mkF m pc ls (.int v :: st))) := by
  subst hp hv
  exact Goes.on (fun _ k => XS.istore X.here C.1 rfl (hb C.2.2.1 hd) rfl hl k) k
theorem g_lloadN (C : Ctx p Z s m meth c bs own maxL ret) (X : Stand p l e R s m args below meth c T locs cells slots) {pc pc' : Nat} {ls : Array Slot} {st : List Value} {k : Fin 4} {v : Int64} (hd : decode bs pc = .ok (.lload_n k, 1)) (hp : pc + 1 = pc') (hl : ls[k.val]? = some (.val (.long v)))
    (k : Goes p.tables e below G (T.setTop (mkF m pc' ls (.long v :: st)))) : Goes p.tables e below G (T.setTop (mkF m pc ls st)) := by
  subst hp
  exact Goes.on (fun _ k => XT.lloadN X.here C.1 rfl (hb C.2.2.1 hd) hl k) k
theorem g_lload (C : Ctx p Z s m meth c bs own maxL ret) (X : Stand p l e R s m args below meth c T locs cells slots) {pc pc' : Nat} {ls : Array Slot} {st : List Value} {k : Nat} {v : Int64} (hd : decode bs pc = .ok (.lload k, 2)) (hp : pc + 2 = pc') (hl : ls[k]? = some (.val (.long v)))
    (k : Goes p.tables e below G (T.setTop (mkF m pc' ls (.long v :: st)))) : Goes p.tables e below G (T.setTop (mkF m pc ls st)) := by
  subst hp
  exact Goes.on (fun _ k => XT.lload X.here C.1 rfl (hb C.2.2.1 hd) hl k) k
theorem g_lstoreN (C : Ctx p Z s m meth c bs own maxL ret) (X : Stand p l e R s m args below meth c T locs cells slots) {pc pc' : Nat} {ls ls' : Array Slot} {st : List Value} {k : Fin 4} {v w : Int64} (hd : decode bs pc = .ok (.lstore_n k, 1)) (hp : pc + 1 = pc') (hv : v = w) (hl : storeLocals ls k.val (.long w) = some ls')
    (k : Goes p.tables e below G (T.setTop (mkF m pc' ls' st))) : Goes p.tables e below G (T.setTop (mkF m pc ls (.long v :: st))) := by
  subst hp hv
  exact Goes.on (fun _ k => XT.lstoreN X.here C.1 rfl (hb C.2.2.1 hd) rfl hl k) k
theorem g_lstore (C : Ctx p Z s m meth c bs own maxL ret) (X : Stand p l e R s m args below meth c T locs cells slots) {pc pc' : Nat} {ls ls' : Array Slot} {st : List Value} {k : Nat} {v w : Int64} (hd : decode bs pc = .ok (.lstore k, 2)) (hp : pc + 2 = pc') (hv : v = w) (hl : storeLocals ls k (.long w) = some ls')
    (k : Goes p.tables e below G (T.setTop (mkF m pc' ls' st))) : Goes p.tables e below G (T.setTop (mkF m pc ls (.long v :: st))) := by
  subst hp hv
  exact Goes.on (fun _ k => XT.lstore X.here C.1 rfl (hb C.2.2.1 hd) rfl hl k) k
theorem g_aloadN (C : Ctx p Z s m meth c bs own maxL ret) (X : Stand p l e R s m args below meth c T locs cells slots) {pc pc' : Nat} {ls : Array Slot} {st : List Value} {k : Fin 4} {v : Value} (hd : decode bs pc = .ok (.aload_n k, 1)) (hp : pc + 1 = pc') (hl : ls[k.val]? = some (.val v)) (hv : v.isRef = true)
    (k : Goes p.tables e below G (T.setTop (mkF m pc' ls (v :: st)))) : Goes p.tables e below G (T.setTop (mkF m pc ls st)) := by
  subst hp
  exact Goes.on (fun _ k => XS.aloadN X.here C.1 rfl (hb C.2.2.1 hd) hl hv k) k
theorem g_aload (C : Ctx p Z s m meth c bs own maxL ret) (X : Stand p l e R s m args below meth c T locs cells slots) {pc pc' : Nat} {ls : Array Slot} {st : List Value} {k : Nat} {v : Value} (hd : decode bs pc = .ok (.aload k, 2)) (hp : pc + 2 = pc') (hl : ls[k]? = some (.val v)) (hv : v.isRef = true)
    (k : Goes p.tables e below G (T.setTop (mkF m pc' ls (v :: st)))) : Goes p.tables e below G (T.setTop (mkF m pc ls st)) := by
  subst hp
  exact Goes.on (fun _ k => XS.aload X.here C.1 rfl (hb C.2.2.1 hd) hl hv k) k
theorem g_astoreN (C : Ctx p Z s m meth c bs own maxL ret) (X : Stand p l e R s m args below meth c T locs cells slots) {pc pc' : Nat} {ls ls' : Array Slot} {st : List Value} {k : Fin 4} {v : Value} (hd : decode bs pc = .ok (.astore_n k, 1)) (hp : pc + 1 = pc') (hv : v.isRef = true) (hl : storeLocals ls k.val v = some ls')
    (k : Goes p.tables e below G (T.setTop (mkF m pc' ls' st))) : Goes p.tables e below G (T.setTop (mkF m pc ls (v :: st))) := by
  subst hp
  exact Goes.on (fun _ k => XS.astoreN X.here C.1 rfl (hb C.2.2.1 hd) rfl hv hl k) k
theorem g_astore (C : Ctx p Z s m meth c bs own maxL ret) (X : Stand p l e R s m args below meth c T locs cells slots) {pc pc' : Nat} {ls ls' : Array Slot} {st : List Value} {k : Nat} {v : Value} (hd : decode bs pc = .ok (.astore k, 2)) (hp : pc + 2 = pc') (hv : v.isRef = true) (hl : storeLocals ls k v = some ls')
    (k : Goes p.tables e below G (T.setTop (mkF m pc' ls' st))) : Goes p.tables e below G (T.setTop (mkF m pc ls (v :: st))) := by
  subst hp
  exact Goes.on (fun _ k => XS.astore X.here C.1 rfl (hb C.2.2.1 hd) rfl hv hl k) k
theorem g_iconst (C : Ctx p Z s m meth c bs own maxL ret) (X : Stand p l e R s m args below meth c T locs cells slots) {pc pc' : Nat} {ls : Array Slot} {st : List Value} {i : Int} {v : Int32} (hd : decode bs pc = .ok (.iconst i, 1)) (hp : pc + 1 = pc') (hv : Int32.ofInt i = v)
    (k : Goes p.tables e below G (T.setTop (mkF m pc' ls (.int v :: st)))) : Goes p.tables e below G (T.setTop (mkF m pc ls st)) := by
  subst hp hv
  exact Goes.on (fun _ k => XS.iconst X.here C.1 rfl (hb C.2.2.1 hd) k) k
theorem g_bipush (C : Ctx p Z s m meth c bs own maxL ret) (X : Stand p l e R s m args below meth c T locs cells slots) {pc pc' : Nat} {ls : Array Slot} {st : List Value} {i : Int} {v : Int32} (hd : decode bs pc = .ok (.bipush i, 2)) (hp : pc + 2 = pc') (hv : (Int8.ofInt i).toInt32 = v)
    (k : Goes p.tables e below G (T.setTop (mkF m pc' ls (.int v :: st)))) : Goes p.tables e below G (T.setTop (mkF m pc ls st)) := by
  subst hp hv
  exact Goes.on (fun _ k => XS.bipush X.here C.1 rfl (hb C.2.2.1 hd) k) k
theorem g_sipush (C : Ctx p Z s m meth c bs own maxL ret) (X : Stand p l e R s m args below meth c T locs cells slots) {pc pc' : Nat} {ls : Array Slot} {st : List Value} {i : Int} {v : Int32} (hd : decode bs pc = .ok (.sipush i, 3)) (hp : pc + 3 = pc') (hv : (Int16.ofInt i).toInt32 = v)
    (k : Goes p.tables e below G (T.setTop (mkF m pc' ls (.int v :: st)))) : Goes p.tables e below G (T.setTop (mkF m pc ls st)) := by
  subst hp hv
  exact Goes.on (fun _ k => XS.sipush X.here C.1 rfl (hb C.2.2.1 hd) k) k
theorem g_lconst (C : Ctx p Z s m meth c bs own maxL ret) (X : Stand p l e R s m args below meth c T locs cells slots) {pc pc' : Nat} {ls : Array Slot} {st : List Value} {i : Fin 2} {v : Int64} (hd : decode bs pc = .ok (.lconst i, 1)) (hp : pc + 1 = pc') (hv : Int64.ofNat i = v)
    (k : Goes p.tables e below G (T.setTop (mkF m pc' ls (.long v :: st)))) : Goes p.tables e below G (T.setTop (mkF m pc ls st)) := by
  subst hp hv
  exact Goes.on (fun _ k => XT.lconst X.here C.1 rfl (hb C.2.2.1 hd) k) k
theorem g_aconstNull (C : Ctx p Z s m meth c bs own maxL ret) (X : Stand p l e R s m args below meth c T locs cells slots) {pc pc' : Nat} {ls : Array Slot} {st : List Value}  (hd : decode bs pc = .ok (.aconst_null, 1)) (hp : pc + 1 = pc')
    (k : Goes p.tables e below G (T.setTop (mkF m pc' ls (.null :: st)))) : Goes p.tables e below G (T.setTop (mkF m pc ls st)) := by
  subst hp
  exact Goes.on (fun _ k => XS.aconstNull X.here C.1 rfl (hb C.2.2.1 hd) k) k
theorem g_iadd (C : Ctx p Z s m meth c bs own maxL ret) (X : Stand p l e R s m args below meth c T locs cells slots) {pc pc' : Nat} {ls : Array Slot} {st : List Value} {x y : Int32} (hd : decode bs pc = .ok (.iadd, 1)) (hp : pc + 1 = pc')
    (k : Goes p.tables e below G (T.setTop (mkF m pc' ls (.int (x + y) :: st)))) : Goes p.tables e below G (T.setTop (mkF m pc ls (.int y :: .int x :: st))) := by
  subst hp
  exact Goes.on (fun _ k => XS.iadd X.here C.1 rfl (hb C.2.2.1 hd) rfl k) k
theorem g_isub (C : Ctx p Z s m meth c bs own maxL ret) (X : Stand p l e R s m args below meth c T locs cells slots) {pc pc' : Nat} {ls : Array Slot} {st : List Value} {x y : Int32} (hd : decode bs pc = .ok (.isub, 1)) (hp : pc + 1 = pc')
    (k : Goes p.tables e below G (T.setTop (mkF m pc' ls (.int (x - y) :: st)))) : Goes p.tables e below G (T.setTop (mkF m pc ls (.int y :: .int x :: st))) := by
  subst hp
  exact Goes.on (fun _ k => XS.isub X.here C.1 rfl (hb C.2.2.1 hd) rfl k) k
theorem g_imul (C : Ctx p Z s m meth c bs own maxL ret) (X : Stand p l e R s m args below meth c T locs cells slots) {pc pc' : Nat} {ls : Array Slot} {st : List Value} {x y : Int32} (hd : decode bs pc = .ok (.imul, 1)) (hp : pc + 1 = pc')
    (k : Goes p.tables e below G (T.setTop (mkF m pc' ls (.int (x * y) :: st)))) : Goes p.tables e below G (T.setTop (mkF m pc ls (.int y :: .int x :: st))) := by
  subst hp
  exact Goes.on (fun _ k => XS.imul X.here C.1 rfl (hb C.2.2.1 hd) rfl k) k
theorem g_iand (C : Ctx p Z s m meth c bs own maxL ret) (X : Stand p l e R s m args below meth c T locs cells slots) {pc pc' : Nat} {ls : Array Slot} {st : List Value} {x y : Int32} (hd : decode bs pc = .ok (.iand, 1)) (hp : pc + 1 = pc')
    (k : Goes p.tables e below G (T.setTop (mkF m pc' ls (.int (x &&& y) :: st)))) : Goes p.tables e below G (T.setTop (mkF m pc ls (.int y :: .int x :: st))) := by
  subst hp
  exact Goes.on (fun _ k => XS.iand X.here C.1 rfl (hb C.2.2.1 hd) rfl k) k
theorem g_ior (C : Ctx p Z s m meth c bs own maxL ret) (X : Stand p l e R s m args below meth c T locs cells slots) {pc pc' : Nat} {ls : Array Slot} {st : List Value} {x y : Int32} (hd : decode bs pc = .ok (.ior, 1)) (hp : pc + 1 = pc')
    (k : Goes p.tables e below G (T.setTop (mkF m pc' ls (.int (x ||| y) :: st)))) : Goes p.tables e below G (T.setTop (mkF m pc ls (.int y :: .int x :: st))) := by
  subst hp
  exact Goes.on (fun _ k => XT.ior X.here C.1 rfl (hb C.2.2.1 hd) rfl k) k
theorem g_ixor (C : Ctx p Z s m meth c bs own maxL ret) (X : Stand p l e R s m args below meth c T locs cells slots) {pc pc' : Nat} {ls : Array Slot} {st : List Value} {x y : Int32} (hd : decode bs pc = .ok (.ixor, 1)) (hp : pc + 1 = pc')
    (k : Goes p.tables e below G (T.setTop (mkF m pc' ls (.int (x ^^^ y) :: st)))) : Goes p.tables e below G (T.setTop (mkF m pc ls (.int y :: .int x :: st))) := by
  subst hp
  exact Goes.on (fun _ k => XT.ixor X.here C.1 rfl (hb C.2.2.1 hd) rfl k) k
theorem g_ishl (C : Ctx p Z s m meth c bs own maxL ret) (X : Stand p l e R s m args below meth c T locs cells slots) {pc pc' : Nat} {ls : Array Slot} {st : List Value} {x y : Int32} (hd : decode bs pc = .ok (.ishl, 1)) (hp : pc + 1 = pc')
    (k : Goes p.tables e below G (T.setTop (mkF m pc' ls (.int (x <<< (y &&& 31)) :: st)))) : Goes p.tables e below G (T.setTop (mkF m pc ls (.int y :: .int x :: st))) := by
  subst hp
  exact Goes.on (fun _ k => XT.ishl X.here C.1 rfl (hb C.2.2.1 hd) rfl k) k
theorem g_ishr (C : Ctx p Z s m meth c bs own maxL ret) (X : Stand p l e R s m args below meth c T locs cells slots) {pc pc' : Nat} {ls : Array Slot} {st : List Value} {x y : Int32} (hd : decode bs pc = .ok (.ishr, 1)) (hp : pc + 1 = pc')
    (k : Goes p.tables e below G (T.setTop (mkF m pc' ls (.int (x >>> (y &&& 31)) :: st)))) : Goes p.tables e below G (T.setTop (mkF m pc ls (.int y :: .int x :: st))) := by
  subst hp
  exact Goes.on (fun _ k => XT.ishr X.here C.1 rfl (hb C.2.2.1 hd) rfl k) k
theorem g_iushr (C : Ctx p Z s m meth c bs own maxL ret) (X : Stand p l e R s m args below meth c T locs cells slots) {pc pc' : Nat} {ls : Array Slot} {st : List Value} {x y : Int32} (hd : decode bs pc = .ok (.iushr, 1)) (hp : pc + 1 = pc')
    (k : Goes p.tables e below G (T.setTop (mkF m pc' ls (.int (XT.ushr x y) :: st)))) : Goes p.tables e below G (T.setTop (mkF m pc ls (.int y :: .int x :: st))) := by
  subst hp
  exact Goes.on (fun _ k => XT.iushr X.here C.1 rfl (hb C.2.2.1 hd) rfl k) k
theorem g_ladd (C : Ctx p Z s m meth c bs own maxL ret) (X : Stand p l e R s m args below meth c T locs cells slots) {pc pc' : Nat} {ls : Array Slot} {st : List Value} {x y : Int64} (hd : decode bs pc = .ok (.ladd, 1)) (hp : pc + 1 = pc')
    (k : Goes p.tables e below G (T.setTop (mkF m pc' ls (.long (x + y) :: st)))) : Goes p.tables e below G (T.setTop (mkF m pc ls (.long y :: .long x :: st))) := by
  subst hp
  exact Goes.on (fun _ k => XT.ladd X.here C.1 rfl (hb C.2.2.1 hd) rfl k) k
theorem g_lsub (C : Ctx p Z s m meth c bs own maxL ret) (X : Stand p l e R s m args below meth c T locs cells slots) {pc pc' : Nat} {ls : Array Slot} {st : List Value} {x y : Int64} (hd : decode bs pc = .ok (.lsub, 1)) (hp : pc + 1 = pc')
    (k : Goes p.tables e below G (T.setTop (mkF m pc' ls (.long (x - y) :: st)))) : Goes p.tables e below G (T.setTop (mkF m pc ls (.long y :: .long x :: st))) := by
  subst hp
  exact Goes.on (fun _ k => XT.lsub X.here C.1 rfl (hb C.2.2.1 hd) rfl k) k
theorem g_lmul (C : Ctx p Z s m meth c bs own maxL ret) (X : Stand p l e R s m args below meth c T locs cells slots) {pc pc' : Nat} {ls : Array Slot} {st : List Value} {x y : Int64} (hd : decode bs pc = .ok (.lmul, 1)) (hp : pc + 1 = pc')
    (k : Goes p.tables e below G (T.setTop (mkF m pc' ls (.long (x * y) :: st)))) : Goes p.tables e below G (T.setTop (mkF m pc ls (.long y :: .long x :: st))) := by
  subst hp
  exact Goes.on (fun _ k => XT.lmul X.here C.1 rfl (hb C.2.2.1 hd) rfl k) k
theorem g_land (C : Ctx p Z s m meth c bs own maxL ret) (X : Stand p l e R s m args below meth c T locs cells slots) {pc pc' : Nat} {ls : Array Slot} {st : List Value} {x y : Int64} (hd : decode bs pc = .ok (.land, 1)) (hp : pc + 1 = pc')
    (k : Goes p.tables e below G (T.setTop (mkF m pc' ls (.long (x &&& y) :: st)))) : Goes p.tables e below G (T.setTop (mkF m pc ls (.long y :: .long x :: st))) := by
  subst hp
  exact Goes.on (fun _ k => XT.land X.here C.1 rfl (hb C.2.2.1 hd) rfl k) k
theorem g_lor (C : Ctx p Z s m meth c bs own maxL ret) (X : Stand p l e R s m args below meth c T locs cells slots) {pc pc' : Nat} {ls : Array Slot} {st : List Value} {x y : Int64} (hd : decode bs pc = .ok (.lor, 1)) (hp : pc + 1 = pc')
    (k : Goes p.tables e below G (T.setTop (mkF m pc' ls (.long (x ||| y) :: st)))) : Goes p.tables e below G (T.setTop (mkF m pc ls (.long y :: .long x :: st))) := by
  subst hp
  exact Goes.on (fun _ k => XT.lor X.here C.1 rfl (hb C.2.2.1 hd) rfl k) k
theorem g_lxor (C : Ctx p Z s m meth c bs own maxL ret) (X : Stand p l e R s m args below meth c T locs cells slots) {pc pc' : Nat} {ls : Array Slot} {st : List Value} {x y : Int64} (hd : decode bs pc = .ok (.lxor, 1)) (hp : pc + 1 = pc')
    (k : Goes p.tables e below G (T.setTop (mkF m pc' ls (.long (x ^^^ y) :: st)))) : Goes p.tables e below G (T.setTop (mkF m pc ls (.long y :: .long x :: st))) := by
  subst hp
  exact Goes.on (fun _ k => XT.lxor X.here C.1 rfl (hb C.2.2.1 hd) rfl k) k
theorem g_lshl (C : Ctx p Z s m meth c bs own maxL ret) (X : Stand p l e R s m args below meth c T locs cells slots) {pc pc' : Nat} {ls : Array Slot} {st : List Value} {x : Int64} {y : Int32} (hd : decode bs pc = .ok (.lshl, 1)) (hp : pc + 1 = pc')
    (k : Goes p.tables e below G (T.setTop (mkF m pc' ls (.long (x <<< (y.toInt64 &&& 63)) :: st)))) : Goes p.tables e below G (T.setTop (mkF m pc ls (.int y :: .long x :: st))) := by
  subst hp
  exact Goes.on (fun _ k => XT.lshl X.here C.1 rfl (hb C.2.2.1 hd) rfl k) k
theorem g_lshr (C : Ctx p Z s m meth c bs own maxL ret) (X : Stand p l e R s m args below meth c T locs cells slots) {pc pc' : Nat} {ls : Array Slot} {st : List Value} {x : Int64} {y : Int32} (hd : decode bs pc = .ok (.lshr, 1)) (hp : pc + 1 = pc')
    (k : Goes p.tables e below G (T.setTop (mkF m pc' ls (.long (x >>> (y.toInt64 &&& 63)) :: st)))) : Goes p.tables e below G (T.setTop (mkF m pc ls (.int y :: .long x :: st))) := by
  subst hp
  exact Goes.on (fun _ k => XT.lshr X.here C.1 rfl (hb C.2.2.1 hd) rfl k) k
theorem g_lushr (C : Ctx p Z s m meth c bs own maxL ret) (X : Stand p l e R s m args below meth c T locs cells slots) {pc pc' : Nat} {ls : Array Slot} {st : List Value} {x : Int64} {y : Int32} (hd : decode bs pc = .ok (.lushr, 1)) (hp : pc + 1 = pc')
    (k : Goes p.tables e below G (T.setTop (mkF m pc' ls (.long (XT.ushrL x y) :: st)))) : Goes p.tables e below G (T.setTop (mkF m pc ls (.int y :: .long x :: st))) := by
  subst hp
  exact Goes.on (fun _ k => XT.lushr X.here C.1 rfl (hb C.2.2.1 hd) rfl k) k
theorem g_idiv (C : Ctx p Z s m meth c bs own maxL ret) (X : Stand p l e R s m args below meth c T locs cells slots) {pc pc' : Nat} {ls : Array Slot} {st : List Value} {x y : Int32} (hd : decode bs pc = .ok (.idiv, 1)) (hp : pc + 1 = pc') (hy : y ≠ 0)
    (k : Goes p.tables e below G (T.setTop (mkF m pc' ls (.int (x / y) :: st)))) : Goes p.tables e below G (T.setTop (mkF m pc ls (.int y :: .int x :: st))) := by
  subst hp
  exact Goes.on (fun _ k => XS.idiv X.here C.1 rfl (hb C.2.2.1 hd) rfl hy k) k
theorem g_ldiv (C : Ctx p Z s m meth c bs own maxL ret) (X : Stand p l e R s m args below meth c T locs cells slots) {pc pc' : Nat} {ls : Array Slot} {st : List Value} {x y : Int64} (hd : decode bs pc = .ok (.ldiv, 1)) (hp : pc + 1 = pc') (hy : y ≠ 0)
    (k : Goes p.tables e below G (T.setTop (mkF m pc' ls (.long (x / y) :: st)))) : Goes p.tables e below G (T.setTop (mkF m pc ls (.long y :: .long x :: st))) := by
  subst hp
  exact Goes.on (fun _ k => XT.ldiv X.here C.1 rfl (hb C.2.2.1 hd) rfl hy k) k
theorem g_irem (C : Ctx p Z s m meth c bs own maxL ret) (X : Stand p l e R s m args below meth c T locs cells slots) {pc pc' : Nat} {ls : Array Slot} {st : List Value} {x y : Int32} (hd : decode bs pc = .ok (.irem, 1)) (hp : pc + 1 = pc') (hy : y ≠ 0)
    (k : Goes p.tables e below G (T.setTop (mkF m pc' ls (.int (x % y) :: st)))) : Goes p.tables e below G (T.setTop (mkF m pc ls (.int y :: .int x :: st))) := by
  subst hp
  exact Goes.on (fun _ k => iremM X C.1 rfl (hb C.2.2.1 hd) rfl hy k) k
theorem g_lrem (C : Ctx p Z s m meth c bs own maxL ret) (X : Stand p l e R s m args below meth c T locs cells slots) {pc pc' : Nat} {ls : Array Slot} {st : List Value} {x y : Int64} (hd : decode bs pc = .ok (.lrem, 1)) (hp : pc + 1 = pc') (hy : y ≠ 0)
    (k : Goes p.tables e below G (T.setTop (mkF m pc' ls (.long (x - (x / y) * y) :: st)))) : Goes p.tables e below G (T.setTop (mkF m pc ls (.long y :: .long x :: st))) := by
  subst hp
  exact Goes.on (fun _ k => XT.lrem X.here C.1 rfl (hb C.2.2.1 hd) rfl hy k) k
theorem g_ineg (C : Ctx p Z s m meth c bs own maxL ret) (X : Stand p l e R s m args below meth c T locs cells slots) {pc pc' : Nat} {ls : Array Slot} {st : List Value} {x : Int32} (hd : decode bs pc = .ok (.ineg, 1)) (hp : pc + 1 = pc')
    (k : Goes p.tables e below G (T.setTop (mkF m pc' ls (.int (-x) :: st)))) : Goes p.tables e below G (T.setTop (mkF m pc ls (.int x :: st))) := by
  subst hp
  exact Goes.on (fun _ k => XS.ineg X.here C.1 rfl (hb C.2.2.1 hd) rfl k) k
theorem g_lneg (C : Ctx p Z s m meth c bs own maxL ret) (X : Stand p l e R s m args below meth c T locs cells slots) {pc pc' : Nat} {ls : Array Slot} {st : List Value} {x : Int64} (hd : decode bs pc = .ok (.lneg, 1)) (hp : pc + 1 = pc')
    (k : Goes p.tables e below G (T.setTop (mkF m pc' ls (.long (-x) :: st)))) : Goes p.tables e below G (T.setTop (mkF m pc ls (.long x :: st))) := by
  subst hp
  exact Goes.on (fun _ k => XT.lneg X.here C.1 rfl (hb C.2.2.1 hd) rfl k) k
theorem g_i2l (C : Ctx p Z s m meth c bs own maxL ret) (X : Stand p l e R s m args below meth c T locs cells slots) {pc pc' : Nat} {ls : Array Slot} {st : List Value} {x : Int32} (hd : decode bs pc = .ok (.i2l, 1)) (hp : pc + 1 = pc')
    (k : Goes p.tables e below G (T.setTop (mkF m pc' ls (.long x.toInt64 :: st)))) : Goes p.tables e below G (T.setTop (mkF m pc ls (.int x :: st))) := by
  subst hp
  exact Goes.on (fun _ k => XT.i2l X.here C.1 rfl (hb C.2.2.1 hd) rfl k) k
theorem g_l2i (C : Ctx p Z s m meth c bs own maxL ret) (X : Stand p l e R s m args below meth c T locs cells slots) {pc pc' : Nat} {ls : Array Slot} {st : List Value} {x : Int64} (hd : decode bs pc = .ok (.l2i, 1)) (hp : pc + 1 = pc')
    (k : Goes p.tables e below G (T.setTop (mkF m pc' ls (.int x.toInt32 :: st)))) : Goes p.tables e below G (T.setTop (mkF m pc ls (.long x :: st))) := by
  subst hp
  exact Goes.on (fun _ k => XT.l2i X.here C.1 rfl (hb C.2.2.1 hd) rfl k) k
theorem g_i2c (C : Ctx p Z s m meth c bs own maxL ret) (X : Stand p l e R s m args below meth c T locs cells slots) {pc pc' : Nat} {ls : Array Slot} {st : List Value} {x : Int32} (hd : decode bs pc = .ok (.i2c, 1)) (hp : pc + 1 = pc')
    (k : Goes p.tables e below G (T.setTop (mkF m pc' ls (.int x.toUInt32.toUInt16.toUInt32.toInt32 :: st)))) : Goes p.tables e below G (T.setTop (mkF m pc ls (.int x :: st))) := by
  subst hp
  exact Goes.on (fun _ k => XT.i2c X.here C.1 rfl (hb C.2.2.1 hd) rfl k) k
theorem g_i2b (C : Ctx p Z s m meth c bs own maxL ret) (X : Stand p l e R s m args below meth c T locs cells slots) {pc pc' : Nat} {ls : Array Slot} {st : List Value} {x : Int32} (hd : decode bs pc = .ok (.i2b, 1)) (hp : pc + 1 = pc')
    (k : Goes p.tables e below G (T.setTop (mkF m pc' ls (.int x.toInt8.toInt32 :: st)))) : Goes p.tables e below G (T.setTop (mkF m pc ls (.int x :: st))) := by
  subst hp
  exact Goes.on (fun _ k => XT.i2b X.here C.1 rfl (hb C.2.2.1 hd) rfl k) k
theorem g_i2s (C : Ctx p Z s m meth c bs own maxL ret) (X : Stand p l e R s m args below meth c T locs cells slots) {pc pc' : Nat} {ls : Array Slot} {st : List Value} {x : Int32} (hd : decode bs pc = .ok (.i2s, 1)) (hp : pc + 1 = pc')
    (k : Goes p.tables e below G (T.setTop (mkF m pc' ls (.int x.toInt16.toInt32 :: st)))) : Goes p.tables e below G (T.setTop (mkF m pc ls (.int x :: st))) := by
  subst hp
  exact Goes.on (fun _ k => XT.i2s X.here C.1 rfl (hb C.2.2.1 hd) rfl k) k
theorem g_dup (C : Ctx p Z s m meth c bs own maxL ret) (X : Stand p l e R s m args below meth c T locs cells slots) {pc pc' : Nat} {ls : Array Slot} {st : List Value} {x : Value} (hd : decode bs pc = .ok (.dup, 1)) (hp : pc + 1 = pc') (hc : x.category = 1)
    (k : Goes p.tables e below G (T.setTop (mkF m pc' ls (x :: x :: st)))) : Goes p.tables e below G (T.setTop (mkF m pc ls (x :: st))) := by
  subst hp
  exact Goes.on (fun _ k => XS.dup X.here C.1 rfl (hb C.2.2.1 hd) rfl hc k) k
theorem g_dupX1 (C : Ctx p Z s m meth c bs own maxL ret) (X : Stand p l e R s m args below meth c T locs cells slots) {pc pc' : Nat} {ls : Array Slot} {st : List Value} {x y : Value} (hd : decode bs pc = .ok (.dup_x1, 1)) (hp : pc + 1 = pc') (hc : x.category = 1) (hc' : y.category = 1)
    (k : Goes p.tables e below G (T.setTop (mkF m pc' ls (x :: y :: x :: st)))) : Goes p.tables e below G (T.setTop (mkF m pc ls (x :: y :: st))) := by
  subst hp
  exact Goes.on (fun _ k => XT.dupX1 X.here C.1 rfl (hb C.2.2.1 hd) rfl hc hc' k) k
theorem g_dup2 (C : Ctx p Z s m meth c bs own maxL ret) (X : Stand p l e R s m args below meth c T locs cells slots) {pc pc' : Nat} {ls : Array Slot} {st : List Value} {x y : Value} (hd : decode bs pc = .ok (.dup2, 1)) (hp : pc + 1 = pc') (hc : x.category = 1) (hc' : y.category = 1)
    (k : Goes p.tables e below G (T.setTop (mkF m pc' ls (x :: y :: x :: y :: st)))) : Goes p.tables e below G (T.setTop (mkF m pc ls (x :: y :: st))) := by
  subst hp
  exact Goes.on (fun _ k => XT.dup2 X.here C.1 rfl (hb C.2.2.1 hd) rfl hc hc' k) k
theorem g_dup2L (C : Ctx p Z s m meth c bs own maxL ret) (X : Stand p l e R s m args below meth c T locs cells slots) {pc pc' : Nat} {ls : Array Slot} {st : List Value} {x : Int64} (hd : decode bs pc = .ok (.dup2, 1)) (hp : pc + 1 = pc')
    (k : Goes p.tables e below G (T.setTop (mkF m pc' ls (.long x :: .long x :: st)))) : Goes p.tables e below G (T.setTop (mkF m pc ls (.long x :: st))) := by
  subst hp
  exact Goes.on (fun _ k => XT.dup2L X.here C.1 rfl (hb C.2.2.1 hd) rfl k) k
theorem g_pop (C : Ctx p Z s m meth c bs own maxL ret) (X : Stand p l e R s m args below meth c T locs cells slots) {pc pc' : Nat} {ls : Array Slot} {st : List Value} {x : Value} (hd : decode bs pc = .ok (.pop, 1)) (hp : pc + 1 = pc') (hc : x.category = 1)
    (k : Goes p.tables e below G (T.setTop (mkF m pc' ls st))) : Goes p.tables e below G (T.setTop (mkF m pc ls (x :: st))) := by
  subst hp
  exact Goes.on (fun _ k => XT.pop X.here C.1 rfl (hb C.2.2.1 hd) rfl hc k) k
theorem g_iinc (C : Ctx p Z s m meth c bs own maxL ret) (X : Stand p l e R s m args below meth c T locs cells slots) {pc pc' : Nat} {ls ls' : Array Slot} {st : List Value} {k : Nat} {cst : Int} {x w : Int32} (hd : decode bs pc = .ok (.iinc k cst, 3)) (hp : pc + 3 = pc') (hl : ls[k]? = some (.val (.int x))) (hv : x + Int32.ofInt cst = w) (hl' : storeLocals ls k (.int w) = some ls')
    (k : Goes p.tables e below G (T.setTop (mkF m pc' ls' st))) : Goes p.tables e below G (T.setTop (mkF m pc ls st)) := by
  subst hp hv
  exact Goes.on (fun _ k => XS.iinc X.here C.1 rfl (hb C.2.2.1 hd) hl hl' k) k
theorem g_dloadN (C : Ctx p Z s m meth c bs own maxL ret) (X : Stand p l e R s m args below meth c T locs cells slots) {pc pc' : Nat} {ls : Array Slot} {st : List Value} {k : Fin 4} {v : UInt64} (hd : decode bs pc = .ok (.dload_n k, 1)) (hp : pc + 1 = pc') (hl : ls[k.val]? = some (.val (.double v)))
    (k : Goes p.tables e below G (T.setTop (mkF m pc' ls (.double v :: st)))) : Goes p.tables e below G (T.setTop (mkF m pc ls st)) := by
  subst hp
  exact Goes.on (fun _ k => XS.dloadN X.here C.1 rfl (hb C.2.2.1 hd) hl k) k
theorem g_dload (C : Ctx p Z s m meth c bs own maxL ret) (X : Stand p l e R s m args below meth c T locs cells slots) {pc pc' : Nat} {ls : Array Slot} {st : List Value} {k : Nat} {v : UInt64} (hd : decode bs pc = .ok (.dload k, 2)) (hp : pc + 2 = pc') (hl : ls[k]? = some (.val (.double v)))
    (k : Goes p.tables e below G (T.setTop (mkF m pc' ls (.double v :: st)))) : Goes p.tables e below G (T.setTop (mkF m pc ls st)) := by
  subst hp
  exact Goes.on (fun _ k => XS.dload X.here C.1 rfl (hb C.2.2.1 hd) hl k) k
theorem g_dstore (C : Ctx p Z s m meth c bs own maxL ret) (X : Stand p l e R s m args below meth c T locs cells slots) {pc pc' : Nat} {ls ls' : Array Slot} {st : List Value} {k : Nat} {v w : UInt64} (hd : decode bs pc = .ok (.dstore k, 2)) (hp : pc + 2 = pc') (hv : v = w) (hl : storeLocals ls k (.double w) = some ls')
    (k : Goes p.tables e below G (T.setTop (mkF m pc' ls' st))) : Goes p.tables e below G (T.setTop (mkF m pc ls (.double v :: st))) := by
  subst hp hv
  exact Goes.on (fun _ k => XS.dstore X.here C.1 rfl (hb C.2.2.1 hd) rfl hl k) k
theorem g_i2d (C : Ctx p Z s m meth c bs own maxL ret) (X : Stand p l e R s m args below meth c T locs cells slots) {pc pc' : Nat} {ls : Array Slot} {st : List Value} {x : Int32} (hd : decode bs pc = .ok (.i2d, 1)) (hp : pc + 1 = pc')
    (k : Goes p.tables e below G (T.setTop (mkF m pc' ls (.double (FP.i2d x) :: st)))) : Goes p.tables e below G (T.setTop (mkF m pc ls (.int x :: st))) := by
  subst hp
  exact Goes.on (fun _ k => XS.i2dS X.here C.1 rfl (hb C.2.2.1 hd) rfl rfl k) k
theorem g_goto (C : Ctx p Z s m meth c bs own maxL ret) (X : Stand p l e R s m args below meth c T locs cells slots) {pc pc' : Nat} {ls : Array Slot} {st : List Value} {o : Int} (hd : decode bs pc = .ok (.goto o, 3)) (ho : 0 ≤ (pc : Int) + o) (hp : ((pc : Int) + o).toNat = pc')
    (k : Goes p.tables e below G (T.setTop (mkF m pc' ls st))) : Goes p.tables e below G (T.setTop (mkF m pc ls st)) :=
  Goes.on (fun _ k => XS.goto X.here C.1 rfl (pc0 := pc) (pc' := pc') rfl (hb C.2.2.1 hd) ho hp k) k
theorem cmpL_lt (x y : Int64) : XT.cmpL x y < 0 ↔ x < y := by unfold XT.cmpL; split <;> (try split) <;> simp_all [Int64.lt_iff_toInt_lt, ← Int64.toInt_inj] <;> omega
theorem cmpL_gt (x y : Int64) : 0 < XT.cmpL x y ↔ y < x := by unfold XT.cmpL; split <;> (try split) <;> simp_all [Int64.lt_iff_toInt_lt, ← Int64.toInt_inj] <;> omega
theorem cmpL_eq (x y : Int64) : XT.cmpL x y = 0 ↔ x = y := by unfold XT.cmpL; split <;> (try split) <;> simp_all [Int64.lt_iff_toInt_lt, ← Int64.toInt_inj] <;> omega
theorem g_icmp_eq (C : Ctx p Z s m meth c bs own maxL ret) (X : Stand p l e R s m args below meth c T locs cells slots) {pc pcT pcN : Nat} {ls : Array Slot} {st : List Value} {x y : Int32} {o : Int} (hd : decode bs pc = .ok (.if_icmp .eq o, 3)) (ho : 0 ≤ (pc : Int) + o) (hp : ((pc : Int) + o).toNat = pcT) (hq : pc + 3 = pcN)
    (hyes : x = y → Goes p.tables e below G (T.setTop (mkF m pcT ls st))) (hno : ¬ x = y → Goes p.tables e below G (T.setTop (mkF m pcN ls st))) : Goes p.tables e below G (T.setTop (mkF m pc ls (.int y :: .int x :: st))) := by
  subst hq
  by_cases q : x = y
  · exact Goes.on (fun _ k => XS.icmpYes X.here C.1 rfl (pc0 := pc) (pc' := pcT) rfl (hb C.2.2.1 hd) rfl (teq q).1 ho hp k) (hyes q)
  · exact Goes.on (fun _ k => XS.icmpNo X.here C.1 rfl (hb C.2.2.1 hd) rfl (feq q).1 k) (hno q)
theorem g_if_eq (C : Ctx p Z s m meth c bs own maxL ret) (X : Stand p l e R s m args below meth c T locs cells slots) {pc pcT pcN : Nat} {ls : Array Slot} {st : List Value} {x : Int32} {o : Int} (hd : decode bs pc = .ok (.ifCond .eq o, 3)) (ho : 0 ≤ (pc : Int) + o) (hp : ((pc : Int) + o).toNat = pcT) (hq : pc + 3 = pcN)
    (hyes : x = (0 : Int32) → Goes p.tables e below G (T.setTop (mkF m pcT ls st))) (hno : ¬ x = (0 : Int32) → Goes p.tables e below G (T.setTop (mkF m pcN ls st))) : Goes p.tables e below G (T.setTop (mkF m pc ls (.int x :: st))) := by
  subst hq
  by_cases q : x = (0 : Int32)
  · exact Goes.on (fun _ k => XS.ifYes X.here C.1 rfl (pc0 := pc) (pc' := pcT) rfl (hb C.2.2.1 hd) rfl ((if0 _ _).trans (teq q).1) ho hp k) (hyes q)
  · exact Goes.on (fun _ k => XS.ifNo X.here C.1 rfl (hb C.2.2.1 hd) rfl ((if0 _ _).trans (feq q).1) k) (hno q)
theorem g_lcmp_eq (C : Ctx p Z s m meth c bs own maxL ret) (X : Stand p l e R s m args below meth c T locs cells slots) {pc pc1 pcT pcN : Nat} {ls : Array Slot} {st : List Value} {x y : Int64} {o : Int} (hd : decode bs pc = .ok (.lcmp, 1)) (h1 : pc + 1 = pc1) (hd1 : decode bs pc1 = .ok (.ifCond .eq o, 3)) (ho : 0 ≤ (pc1 : Int) + o) (hp : ((pc1 : Int) + o).toNat = pcT) (hq : pc1 + 3 = pcN)
    (hyes : x = y → Goes p.tables e below G (T.setTop (mkF m pcT ls st))) (hno : ¬ x = y → Goes p.tables e below G (T.setTop (mkF m pcN ls st))) : Goes p.tables e below G (T.setTop (mkF m pc ls (.long y :: .long x :: st))) := by
  subst h1
  exact Goes.on (fun _ k => XT.lcmp X.here C.1 rfl (hb C.2.2.1 hd) rfl k) (g_if_eq C X hd1 ho hp hq (fun q => hyes ((cmpL_eq x y).mp q)) (fun q => hno ((not_congr (cmpL_eq x y)).mp q)))
theorem g_icmp_ne (C : Ctx p Z s m meth c bs own maxL ret) (X : Stand p l e R s m args below meth c T locs cells slots) {pc pcT pcN : Nat} {ls : Array Slot} {st : List Value} {x y : Int32} {o : Int} (hd : decode bs pc = .ok (.if_icmp .ne o, 3)) (ho : 0 ≤ (pc : Int) + o) (hp : ((pc : Int) + o).toNat = pcT) (hq : pc + 3 = pcN)
    (hyes : ¬ x = y → Goes p.tables e below G (T.setTop (mkF m pcT ls st))) (hno : x = y → Goes p.tables e below G (T.setTop (mkF m pcN ls st))) : Goes p.tables e below G (T.setTop (mkF m pc ls (.int y :: .int x :: st))) := by
  subst hq
  by_cases q : x = y
  · exact Goes.on (fun _ k => XS.icmpNo X.here C.1 rfl (hb C.2.2.1 hd) rfl (teq q).2 k) (hno q)
  · exact Goes.on (fun _ k => XS.icmpYes X.here C.1 rfl (pc0 := pc) (pc' := pcT) rfl (hb C.2.2.1 hd) rfl (feq q).2 ho hp k) (hyes q)
theorem g_if_ne (C : Ctx p Z s m meth c bs own maxL ret) (X : Stand p l e R s m args below meth c T locs cells slots) {pc pcT pcN : Nat} {ls : Array Slot} {st : List Value} {x : Int32} {o : Int} (hd : decode bs pc = .ok (.ifCond .ne o, 3)) (ho : 0 ≤ (pc : Int) + o) (hp : ((pc : Int) + o).toNat = pcT) (hq : pc + 3 = pcN)
    (hyes : ¬ x = (0 : Int32) → Goes p.tables e below G (T.setTop (mkF m pcT ls st))) (hno : x = (0 : Int32) → Goes p.tables e below G (T.setTop (mkF m pcN ls st))) : Goes p.tables e below G (T.setTop (mkF m pc ls (.int x :: st))) := by
  subst hq
  by_cases q : x = (0 : Int32)
  · exact Goes.on (fun _ k => XS.ifNo X.here C.1 rfl (hb C.2.2.1 hd) rfl ((if0 _ _).trans (teq q).2) k) (hno q)
  · exact Goes.on (fun _ k => XS.ifYes X.here C.1 rfl (pc0 := pc) (pc' := pcT) rfl (hb C.2.2.1 hd) rfl ((if0 _ _).trans (feq q).2) ho hp k) (hyes q)
theorem g_lcmp_ne (C : Ctx p Z s m meth c bs own maxL ret) (X : Stand p l e R s m args below meth c T locs cells slots) {pc pc1 pcT pcN : Nat} {ls : Array Slot} {st : List Value} {x y : Int64} {o : Int} (hd : decode bs pc = .ok (.lcmp, 1)) (h1 : pc + 1 = pc1) (hd1 : decode bs pc1 = .ok (.ifCond .ne o, 3)) (ho : 0 ≤ (pc1 : Int) + o) (hp : ((pc1 : Int) + o).toNat = pcT) (hq : pc1 + 3 = pcN)
    (hyes : ¬ x = y → Goes p.tables e below G (T.setTop (mkF m pcT ls st))) (hno : x = y → Goes p.tables e below G (T.setTop (mkF m pcN ls st))) : Goes p.tables e below G (T.setTop (mkF m pc ls (.long y :: .long x :: st))) := by
  subst h1
  exact Goes.on (fun _ k => XT.lcmp X.here C.1 rfl (hb C.2.2.1 hd) rfl k) (g_if_ne C X hd1 ho hp hq (fun q => hyes ((not_congr (cmpL_eq x y)).mp q)) (fun q => hno ((cmpL_eq x y).mp q)))
theorem g_icmp_lt (C : Ctx p Z s m meth c bs own maxL ret) (X : Stand p l e R s m args below meth c T locs cells slots) {pc pcT pcN : Nat} {ls : Array Slot} {st : List Value} {x y : Int32} {o : Int} (hd : decode bs pc = .ok (.if_icmp .lt o, 3)) (ho : 0 ≤ (pc : Int) + o) (hp : ((pc : Int) + o).toNat = pcT) (hq : pc + 3 = pcN)
    (hyes : x < y → Goes p.tables e below G (T.setTop (mkF m pcT ls st))) (hno : ¬ x < y → Goes p.tables e below G (T.setTop (mkF m pcN ls st))) : Goes p.tables e below G (T.setTop (mkF m pc ls (.int y :: .int x :: st))) := by
  subst hq
  by_cases q : x < y
  · exact Goes.on (fun _ k => XS.icmpYes X.here C.1 rfl (pc0 := pc) (pc' := pcT) rfl (hb C.2.2.1 hd) rfl (tlt q).1 ho hp k) (hyes q)
  · exact Goes.on (fun _ k => XS.icmpNo X.here C.1 rfl (hb C.2.2.1 hd) rfl (flt q).1 k) (hno q)
theorem g_if_lt (C : Ctx p Z s m meth c bs own maxL ret) (X : Stand p l e R s m args below meth c T locs cells slots) {pc pcT pcN : Nat} {ls : Array Slot} {st : List Value} {x : Int32} {o : Int} (hd : decode bs pc = .ok (.ifCond .lt o, 3)) (ho : 0 ≤ (pc : Int) + o) (hp : ((pc : Int) + o).toNat = pcT) (hq : pc + 3 = pcN)
    (hyes : x < (0 : Int32) → Goes p.tables e below G (T.setTop (mkF m pcT ls st))) (hno : ¬ x < (0 : Int32) → Goes p.tables e below G (T.setTop (mkF m pcN ls st))) : Goes p.tables e below G (T.setTop (mkF m pc ls (.int x :: st))) := by
  subst hq
  by_cases q : x < (0 : Int32)
  · exact Goes.on (fun _ k => XS.ifYes X.here C.1 rfl (pc0 := pc) (pc' := pcT) rfl (hb C.2.2.1 hd) rfl ((if0 _ _).trans (tlt q).1) ho hp k) (hyes q)
  · exact Goes.on (fun _ k => XS.ifNo X.here C.1 rfl (hb C.2.2.1 hd) rfl ((if0 _ _).trans (flt q).1) k) (hno q)
theorem g_lcmp_lt (C : Ctx p Z s m meth c bs own maxL ret) (X : Stand p l e R s m args below meth c T locs cells slots) {pc pc1 pcT pcN : Nat} {ls : Array Slot} {st : List Value} {x y : Int64} {o : Int} (hd : decode bs pc = .ok (.lcmp, 1)) (h1 : pc + 1 = pc1) (hd1 : decode bs pc1 = .ok (.ifCond .lt o, 3)) (ho : 0 ≤ (pc1 : Int) + o) (hp : ((pc1 : Int) + o).toNat = pcT) (hq : pc1 + 3 = pcN)
    (hyes : x < y → Goes p.tables e below G (T.setTop (mkF m pcT ls st))) (hno : ¬ x < y → Goes p.tables e below G (T.setTop (mkF m pcN ls st))) : Goes p.tables e below G (T.setTop (mkF m pc ls (.long y :: .long x :: st))) := by
  subst h1
  exact Goes.on (fun _ k => XT.lcmp X.here C.1 rfl (hb C.2.2.1 hd) rfl k) (g_if_lt C X hd1 ho hp hq (fun q => hyes ((cmpL_lt x y).mp q)) (fun q => hno ((not_congr (cmpL_lt x y)).mp q)))
theorem g_icmp_ge (C : Ctx p Z s m meth c bs own maxL ret) (X : Stand p l e R s m args below meth c T locs cells slots) {pc pcT pcN : Nat} {ls : Array Slot} {st : List Value} {x y : Int32} {o : Int} (hd : decode bs pc = .ok (.if_icmp .ge o, 3)) (ho : 0 ≤ (pc : Int) + o) (hp : ((pc : Int) + o).toNat = pcT) (hq : pc + 3 = pcN)
    (hyes : ¬ x < y → Goes p.tables e below G (T.setTop (mkF m pcT ls st))) (hno : x < y → Goes p.tables e below G (T.setTop (mkF m pcN ls st))) : Goes p.tables e below G (T.setTop (mkF m pc ls (.int y :: .int x :: st))) := by
  subst hq
  by_cases q : x < y
  · exact Goes.on (fun _ k => XS.icmpNo X.here C.1 rfl (hb C.2.2.1 hd) rfl (tlt q).2.1 k) (hno q)
  · exact Goes.on (fun _ k => XS.icmpYes X.here C.1 rfl (pc0 := pc) (pc' := pcT) rfl (hb C.2.2.1 hd) rfl (flt q).2.1 ho hp k) (hyes q)
theorem g_if_ge (C : Ctx p Z s m meth c bs own maxL ret) (X : Stand p l e R s m args below meth c T locs cells slots) {pc pcT pcN : Nat} {ls : Array Slot} {st : List Value} {x : Int32} {o : Int} (hd : decode bs pc = .ok (.ifCond .ge o, 3)) (ho : 0 ≤ (pc : Int) + o) (hp : ((pc : Int) + o).toNat = pcT) (hq : pc + 3 = pcN)
    (hyes : ¬ x < (0 : Int32) → Goes p.tables e below G (T.setTop (mkF m pcT ls st))) (hno : x < (0 : Int32) → Goes p.tables e below G (T.setTop (mkF m pcN ls st))) : Goes p.tables e below G (T.setTop (mkF m pc ls (.int x :: st))) := by
  subst hq
  by_cases q : x < (0 : Int32)
  · exact Goes.on (fun _ k => XS.ifNo X.here C.1 rfl (hb C.2.2.1 hd) rfl ((if0 _ _).trans (tlt q).2.1) k) (hno q)
  · exact Goes.on (fun _ k => XS.ifYes X.here C.1 rfl (pc0 := pc) (pc' := pcT) rfl (hb C.2.2.1 hd) rfl ((if0 _ _).trans (flt q).2.1) ho hp k) (hyes q)
theorem g_lcmp_ge (C : Ctx p Z s m meth c bs own maxL ret) (X : Stand p l e R s m args below meth c T locs cells slots) {pc pc1 pcT pcN : Nat} {ls : Array Slot} {st : List Value} {x y : Int64} {o : Int} (hd : decode bs pc = .ok (.lcmp, 1)) (h1 : pc + 1 = pc1) (hd1 : decode bs pc1 = .ok (.ifCond .ge o, 3)) (ho : 0 ≤ (pc1 : Int) + o) (hp : ((pc1 : Int) + o).toNat = pcT) (hq : pc1 + 3 = pcN)
    (hyes : ¬ x < y → Goes p.tables e below G (T.setTop (mkF m pcT ls st))) (hno : x < y → Goes p.tables e below G (T.setTop (mkF m pcN ls st))) : Goes p.tables e below G (T.setTop (mkF m pc ls (.long y :: .long x :: st))) := by
  subst h1
  exact Goes.on (fun _ k => XT.lcmp X.here C.1 rfl (hb C.2.2.1 hd) rfl k) (g_if_ge C X hd1 ho hp hq (fun q => hyes ((not_congr (cmpL_lt x y)).mp q)) (fun q => hno ((cmpL_lt x y).mp q)))
theorem g_icmp_gt (C : Ctx p Z s m meth c bs own maxL ret) (X : Stand p l e R s m args below meth c T locs cells slots) {pc pcT pcN : Nat} {ls : Array Slot} {st : List Value} {x y : Int32} {o : Int} (hd : decode bs pc = .ok (.if_icmp .gt o, 3)) (ho : 0 ≤ (pc : Int) + o) (hp : ((pc : Int) + o).toNat = pcT) (hq : pc + 3 = pcN)
    (hyes : y < x → Goes p.tables e below G (T.setTop (mkF m pcT ls st))) (hno : ¬ y < x → Goes p.tables e below G (T.setTop (mkF m pcN ls st))) : Goes p.tables e below G (T.setTop (mkF m pc ls (.int y :: .int x :: st))) := by
  subst hq
  by_cases q : y < x
  · exact Goes.on (fun _ k => XS.icmpYes X.here C.1 rfl (pc0 := pc) (pc' := pcT) rfl (hb C.2.2.1 hd) rfl (tlt q).2.2.1 ho hp k) (hyes q)
  · exact Goes.on (fun _ k => XS.icmpNo X.here C.1 rfl (hb C.2.2.1 hd) rfl (flt q).2.2.1 k) (hno q)
theorem g_if_gt (C : Ctx p Z s m meth c bs own maxL ret) (X : Stand p l e R s m args below meth c T locs cells slots) {pc pcT pcN : Nat} {ls : Array Slot} {st : List Value} {x : Int32} {o : Int} (hd : decode bs pc = .ok (.ifCond .gt o, 3)) (ho : 0 ≤ (pc : Int) + o) (hp : ((pc : Int) + o).toNat = pcT) (hq : pc + 3 = pcN)
    (hyes : (0 : Int32) < x → Goes p.tables e below G (T.setTop (mkF m pcT ls st))) (hno : ¬ (0 : Int32) < x → Goes p.tables e below G (T.setTop (mkF m pcN ls st))) : Goes p.tables e below G (T.setTop (mkF m pc ls (.int x :: st))) := by
  subst hq
  by_cases q : (0 : Int32) < x
  · exact Goes.on (fun _ k => XS.ifYes X.here C.1 rfl (pc0 := pc) (pc' := pcT) rfl (hb C.2.2.1 hd) rfl ((if0 _ _).trans (tlt q).2.2.1) ho hp k) (hyes q)
  · exact Goes.on (fun _ k => XS.ifNo X.here C.1 rfl (hb C.2.2.1 hd) rfl ((if0 _ _).trans (flt q).2.2.1) k) (hno q)
theorem g_lcmp_gt (C : Ctx p Z s m meth c bs own maxL ret) (X : Stand p l e R s m args below meth c T locs cells slots) {pc pc1 pcT pcN : Nat} {ls : Array Slot} {st : List Value} {x y : Int64} {o : Int} (hd : decode bs pc = .ok (.lcmp, 1)) (h1 : pc + 1 = pc1) (hd1 : decode bs pc1 = .ok (.ifCond .gt o, 3)) (ho : 0 ≤ (pc1 : Int) + o) (hp : ((pc1 : Int) + o).toNat = pcT) (hq : pc1 + 3 = pcN)
    (hyes : y < x → Goes p.tables e below G (T.setTop (mkF m pcT ls st))) (hno : ¬ y < x → Goes p.tables e below G (T.setTop (mkF m pcN ls st))) : Goes p.tables e below G (T.setTop (mkF m pc ls (.long y :: .long x :: st))) := by
  subst h1
  exact Goes.on (fun _ k => XT.lcmp X.here C.1 rfl (hb C.2.2.1 hd) rfl k) (g_if_gt C X hd1 ho hp hq (fun q => hyes ((cmpL_gt x y).mp q)) (fun q => hno ((not_congr (cmpL_gt x y)).mp q)))
theorem g_icmp_le (C : Ctx p Z s m meth c bs own maxL ret) (X : Stand p l e R s m args below meth c T locs cells slots) {pc pcT pcN : Nat} {ls : Array Slot} {st : List Value} {x y : Int32} {o : Int} (hd : decode bs pc = .ok (.if_icmp .le o, 3)) (ho : 0 ≤ (pc : Int) + o) (hp : ((pc : Int) + o).toNat = pcT) (hq : pc + 3 = pcN)
    (hyes : ¬ y < x → Goes p.tables e below G (T.setTop (mkF m pcT ls st))) (hno : y < x → Goes p.tables e below G (T.setTop (mkF m pcN ls st))) : Goes p.tables e below G (T.setTop (mkF m pc ls (.int y :: .int x :: st))) := by
  subst hq
  by_cases q : y < x
  · exact Goes.on (fun _ k => XS.icmpNo X.here C.1 rfl (hb C.2.2.1 hd) rfl (tlt q).2.2.2 k) (hno q)
  · exact Goes.on (fun _ k => XS.icmpYes X.here C.1 rfl (pc0 := pc) (pc' := pcT) rfl (hb C.2.2.1 hd) rfl (flt q).2.2.2 ho hp k) (hyes q)
theorem g_if_le (C : Ctx p Z s m meth c bs own maxL ret) (X : Stand p l e R s m args below meth c T locs cells slots) {pc pcT pcN : Nat} {ls : Array Slot} {st : List Value} {x : Int32} {o : Int} (hd : decode bs pc = .ok (.ifCond .le o, 3)) (ho : 0 ≤ (pc : Int) + o) (hp : ((pc : Int) + o).toNat = pcT) (hq : pc + 3 = pcN)
    (hyes : ¬ (0 : Int32) < x → Goes p.tables e below G (T.setTop (mkF m pcT ls st))) (hno : (0 : Int32) < x → Goes p.tables e below G (T.setTop (mkF m pcN ls st))) : Goes p.tables e below G (T.setTop (mkF m pc ls (.int x :: st))) := by
  subst hq
  by_cases q : (0 : Int32) < x
  · exact Goes.on (fun _ k => XS.ifNo X.here C.1 rfl (hb C.2.2.1 hd) rfl ((if0 _ _).trans (tlt q).2.2.2) k) (hno q)
  · exact Goes.on (fun _ k => XS.ifYes X.here C.1 rfl (pc0 := pc) (pc' := pcT) rfl (hb C.2.2.1 hd) rfl ((if0 _ _).trans (flt q).2.2.2) ho hp k) (hyes q)
theorem g_lcmp_le (C : Ctx p Z s m meth c bs own maxL ret) (X : Stand p l e R s m args below meth c T locs cells slots) {pc pc1 pcT pcN : Nat} {ls : Array Slot} {st : List Value} {x y : Int64} {o : Int} (hd : decode bs pc = .ok (.lcmp, 1)) (h1 : pc + 1 = pc1) (hd1 : decode bs pc1 = .ok (.ifCond .le o, 3)) (ho : 0 ≤ (pc1 : Int) + o) (hp : ((pc1 : Int) + o).toNat = pcT) (hq : pc1 + 3 = pcN)
    (hyes : ¬ y < x → Goes p.tables e below G (T.setTop (mkF m pcT ls st))) (hno : y < x → Goes p.tables e below G (T.setTop (mkF m pcN ls st))) : Goes p.tables e below G (T.setTop (mkF m pc ls (.long y :: .long x :: st))) := by
  subst h1
  exact Goes.on (fun _ k => XT.lcmp X.here C.1 rfl (hb C.2.2.1 hd) rfl k) (g_if_le C X hd1 ho hp hq (fun q => hyes ((not_congr (cmpL_gt x y)).mp q)) (fun q => hno ((cmpL_gt x y).mp q)))
theorem g_ldc (C : Ctx p Z s m meth c bs own maxL ret) (X : Stand p l e R s m args below meth c T locs cells slots) {pc pc' : Nat} {ls : Array Slot} {st : List Value} {i : Nat} {v : Int32} (w : (Cond.constant own i v).before a0 Z = true) (hd : decode bs pc = .ok (.ldc i, 2)) (hp : pc + 2 = pc') (k : Goes p.tables e below G (T.setTop (mkF m pc' ls (.int v :: st)))) : Goes p.tables e below G (T.setTop (mkF m pc ls st)) := by
  subst hp
  exact Goes.on (fun _ k => X.ldcInt C.1 C.2.2.2.2.1 (mvT C.2.1 w) (g := mkF m pc ls st) rfl (hb C.2.2.1 hd) _ k) k
theorem g_ldc2 (C : Ctx p Z s m meth c bs own maxL ret) (X : Stand p l e R s m args below meth c T locs cells slots) {pc pc' : Nat} {ls : Array Slot} {st : List Value} {i : Nat} {v : Int64} (w : (Cond.constantLong own i v).before a0 Z = true) (hd : decode bs pc = .ok (.ldc2_w i, 3)) (hp : pc + 3 = pc') (k : Goes p.tables e below G (T.setTop (mkF m pc' ls (.long v :: st)))) : Goes p.tables e below G (T.setTop (mkF m pc ls st)) := by
  subst hp
  exact Goes.on (fun _ k => X.ldc2Long C.1 C.2.2.2.2.1 (mvT C.2.1 w) (g := mkF m pc ls st) rfl (hb C.2.2.1 hd) _ k) k
theorem g_retN {t : FieldType} (C : Ctx p Z s m meth c bs own maxL (some t)) (X : Stand p l e R s m args below meth c T locs cells slots) {Q : Option Value → Heap → List Loc → Prop} (K : ∀ (v : Option Value) (L : List Loc) (T' : State), Q v T'.heap L → s.WarmedH T'.vm → s.sameButNew ({ T' with vm := s.vm } : State) L R.cells R.slots → G (.returned v) T') {pc : Nat} {ls : Array Slot} {rest : List Value} {z : Int32} (ht : t = .boolean ∨ t = .byte ∨ t = .char ∨ t = .short) (hd : decode bs pc = .ok (.ireturn, 1)) (hc : cells ≤ R.cells) (hs : slots ≤ R.slots) (eT : T.heap = h) (hQ : Q (some (.int (nar t z))) h locs) : Goes p.tables e below G (T.setTop (mkF m pc ls (.int z :: rest))) := by
  have hlk : meth.locks = false := C.2.2.2.2.2.2
  obtain ⟨fs, hr, hrun, hended, hW, hsame⟩ := X.leave (v := some (.int (nar t z))) (fun q => by rw [C.2.2.2.2.2.1] at q; cases q) hlk
  refine ⟨_, _, ?_, hrun, hended, K _ locs _ (by show Q _ T.heap locs; rw [eT]; exact hQ) hW (hsame.mono hc hs)⟩
  exact retN X C.1 C.2.2.2.2.2.1 ht (hb C.2.2.1 hd) hr
theorem g_retI (C : Ctx p Z s m meth c bs own maxL (some .int)) (X : Stand p l e R s m args below meth c T locs cells slots) {Q : Option Value → Heap → List Loc → Prop} (K : ∀ (v : Option Value) (L : List Loc) (T' : State), Q v T'.heap L → s.WarmedH T'.vm → s.sameButNew ({ T' with vm := s.vm } : State) L R.cells R.slots → G (.returned v) T') {pc : Nat} {ls : Array Slot} {rest : List Value} {z : Int32} (hd : decode bs pc = .ok (.ireturn, 1)) (hc : cells ≤ R.cells) (hs : slots ≤ R.slots) (eT : T.heap = h) (hQ : Q (some (.int z)) h locs) : Goes p.tables e below G (T.setTop (mkF m pc ls (.int z :: rest))) := by
  have hlk : meth.locks = false := C.2.2.2.2.2.2
  obtain ⟨fs, hr, hrun, hended, hW, hsame⟩ := X.leave (v := some (.int z)) (fun q => by rw [C.2.2.2.2.2.1] at q; cases q) hlk
  refine ⟨_, _, ?_, hrun, hended, K _ locs _ (by show Q _ T.heap locs; rw [eT]; exact hQ) hW (hsame.mono hc hs)⟩
  exact retOut X C.1 (w := .int z) (i := .ireturn) C.2.2.2.2.2.1 rfl (Or.inl ⟨rfl, Or.inl rfl, z, rfl⟩) (hb C.2.2.1 hd) hr
theorem g_retJ (C : Ctx p Z s m meth c bs own maxL (some .long)) (X : Stand p l e R s m args below meth c T locs cells slots) {Q : Option Value → Heap → List Loc → Prop} (K : ∀ (v : Option Value) (L : List Loc) (T' : State), Q v T'.heap L → s.WarmedH T'.vm → s.sameButNew ({ T' with vm := s.vm } : State) L R.cells R.slots → G (.returned v) T') {pc : Nat} {ls : Array Slot} {rest : List Value} {z : Int64} (hd : decode bs pc = .ok (.lreturn, 1)) (hc : cells ≤ R.cells) (hs : slots ≤ R.slots) (eT : T.heap = h) (hQ : Q (some (.long z)) h locs) : Goes p.tables e below G (T.setTop (mkF m pc ls (.long z :: rest))) := by
  have hlk : meth.locks = false := C.2.2.2.2.2.2
  obtain ⟨fs, hr, hrun, hended, hW, hsame⟩ := X.leave (v := some (.long z)) (fun q => by rw [C.2.2.2.2.2.1] at q; cases q) hlk
  refine ⟨_, _, ?_, hrun, hended, K _ locs _ (by show Q _ T.heap locs; rw [eT]; exact hQ) hW (hsame.mono hc hs)⟩
  exact retOut X C.1 (w := .long z) (i := .lreturn) C.2.2.2.2.2.1 rfl (Or.inr (Or.inl ⟨rfl, rfl, z, rfl⟩)) (hb C.2.2.1 hd) hr
theorem g_retA {t : FieldType} (C : Ctx p Z s m meth c bs own maxL (some t)) (X : Stand p l e R s m args below meth c T locs cells slots) {Q : Option Value → Heap → List Loc → Prop} (K : ∀ (v : Option Value) (L : List Loc) (T' : State), Q v T'.heap L → s.WarmedH T'.vm → s.sameButNew ({ T' with vm := s.vm } : State) L R.cells R.slots → G (.returned v) T') {pc : Nat} {ls : Array Slot} {rest : List Value} {w : Value} (ht : t.isReference = true) (hn : narrow t w = w) (hw : w.isRef = true) (hd : decode bs pc = .ok (.areturn, 1)) (hc : cells ≤ R.cells) (hs : slots ≤ R.slots) (eT : T.heap = h) (hQ : Q (some w) h locs) : Goes p.tables e below G (T.setTop (mkF m pc ls (w :: rest))) := by
  have hlk : meth.locks = false := C.2.2.2.2.2.2
  obtain ⟨fs, hr, hrun, hended, hW, hsame⟩ := X.leave (v := some w) (fun q => by rw [C.2.2.2.2.2.1] at q; cases q) hlk
  refine ⟨_, _, ?_, hrun, hended, K _ locs _ (by show Q _ T.heap locs; rw [eT]; exact hQ) hW (hsame.mono hc hs)⟩
  exact retOut X C.1 (w := w) (i := .areturn) C.2.2.2.2.2.1 hn (Or.inr (Or.inr (Or.inr (Or.inr ⟨rfl, ht, hw⟩)))) (hb C.2.2.1 hd) hr
theorem g_retV (C : Ctx p Z s m meth c bs own maxL (none)) (X : Stand p l e R s m args below meth c T locs cells slots) {Q : Option Value → Heap → List Loc → Prop} (K : ∀ (v : Option Value) (L : List Loc) (T' : State), Q v T'.heap L → s.WarmedH T'.vm → s.sameButNew ({ T' with vm := s.vm } : State) L R.cells R.slots → G (.returned v) T') {pc : Nat} {ls : Array Slot}  (hd : decode bs pc = .ok (.return_, 1)) (hc : cells ≤ R.cells) (hs : slots ≤ R.slots) (eT : T.heap = h) (hQ : Q (none) h locs) : Goes p.tables e below G (T.setTop (mkF m pc ls [])) := by
  have hlk : meth.locks = false := C.2.2.2.2.2.2
  obtain ⟨fs, hr, hrun, hended, hW, hsame⟩ := X.leave (v := none) (fun _ => rfl) hlk
  refine ⟨_, _, ?_, hrun, hended, K _ locs _ (by show Q _ T.heap locs; rw [eT]; exact hQ) hW (hsame.mono hc hs)⟩
  exact X.returnOut C.1 C.2.2.2.2.2.1 (hb C.2.2.1 hd) hr
theorem g_getF (C : Ctx p Z s m meth c bs own maxL ret) (X : Stand p l e R s m args below meth c T locs cells slots) {pc pc' : Nat} {ls : Array Slot} {st : List Value} {R0 O n d : String} {index : Nat} {a : Addr} {v : Value} (w : (Cond.fieldLink own index R0 n d).before a0 Z = true) (via : Via Z R0 O n d) (eT : T.heap = h) (F : Fld Z h a O n d v) (hd : decode bs pc = .ok (.getfield index, 3)) (hp : pc + 3 = pc')
    (k : ∀ T' : State, Stand p l e R s m args below meth c T' locs cells slots → T'.heap = h → Goes p.tables e below G (T'.setTop (mkF m pc' ls (v :: st)))) : Goes p.tables e below G (T.setTop (mkF m pc ls (.ref a :: st))) := by
  subst hp
  obtain ⟨T', X', e', st'⟩ := getF X C.1 C.2.1 C.2.2.2.2.1 (host := "") (Or.inl w) via eT F (g := mkF m pc ls (.ref a :: st)) rfl rfl (hb C.2.2.1 hd)
  exact Goes.on (fun t k => st' t k) (k T' X' e')
theorem g_getS (C : Ctx p Z s m meth c bs own maxL ret) (X : Stand p l e R s m args below meth c T locs cells slots) {pc pc' : Nat} {ls : Array Slot} {st : List Value} {R0 O n d : String} {index : Nat} {v : Value} (w : (Cond.fieldLink own index R0 n d).before a0 Z = true) (via : Via Z R0 O n d) (eT : T.heap = h) (F : Sta Z h O n d v) (hd : decode bs pc = .ok (.getstatic index, 3)) (hp : pc + 3 = pc')
    (k : ∀ T' : State, Stand p l e R s m args below meth c T' locs cells slots → T'.heap = h → Goes p.tables e below G (T'.setTop (mkF m pc' ls (v :: st)))) : Goes p.tables e below G (T.setTop (mkF m pc ls st)) := by
  subst hp
  obtain ⟨T', X', e', st'⟩ := getS2 X C.1 C.2.1 C.2.2.2.2.1 (host := "") (Or.inl w) via eT F (g := mkF m pc ls st) rfl (hb C.2.2.1 hd)
  exact Goes.on (fun t k => st' t k) (k T' X' e')
theorem g_getFN (C : Ctx p Z s m meth c bs own maxL ret) (X : Stand p l e R s m args below meth c T locs cells slots) {pc pc' : Nat} {ls : Array Slot} {st : List Value} {R0 O n d host : String} {index : Nat} {a : Addr} {v : Value} (w : (Cond.fieldLinkNest own index R0 n d host).before a0 Z = true) (via : Via Z R0 O n d) (eT : T.heap = h) (F : Fld Z h a O n d v) (hd : decode bs pc = .ok (.getfield index, 3)) (hp : pc + 3 = pc')
    (k : ∀ T' : State, Stand p l e R s m args below meth c T' locs cells slots → T'.heap = h → Goes p.tables e below G (T'.setTop (mkF m pc' ls (v :: st)))) : Goes p.tables e below G (T.setTop (mkF m pc ls (.ref a :: st))) := by
  subst hp
  obtain ⟨T', X', e', st'⟩ := getF X C.1 C.2.1 C.2.2.2.2.1 (Or.inr w) via eT F (g := mkF m pc ls (.ref a :: st)) rfl rfl (hb C.2.2.1 hd)
  exact Goes.on (fun t k => st' t k) (k T' X' e')
theorem g_putF (C : Ctx p Z s m meth c bs own maxL ret) (X : Stand p l e R s m args below meth c T locs cells slots) {pc pc' : Nat} {ls : Array Slot} {st : List Value} {R0 O n d K : String} {index kk : Nat} {ty : FieldType} {a : Addr} {v old : Value} (w : (Cond.fieldLink own index R0 n d).before a0 Z = true) (via : Via Z R0 O n d) (eT : T.heap = h) (F : Fld Z h a O n d old) (E : Exa Z h a K) (L : (Cond.lays K O n d).before a0 Z = true ∨ ((Cond.laysFinal K O n d).before a0 Z = true ∧ own = O ∧ meth.name = "<init>")) (wi : (Cond.instantiable K kk).before a0 Z = true) (hty : parseFieldDescriptor d = some ty) (hn : narrow ty v = v) (hf : fits ty v = true) (hd : decode bs pc = .ok (.putfield index, 3)) (hp : pc + 3 = pc')
    (k : ∀ (T' : State) (h' : Heap), Stand p l e R s m args below meth c T' (locs ++ [⟨a, Jvm.RoadKit.slotOf Z O n d⟩]) cells slots → T'.heap = h' → Wr h h' a (Jvm.RoadKit.slotOf Z O n d) v → Goes p.tables e below G (T'.setTop (mkF m pc' ls st))) : Goes p.tables e below G (T.setTop (mkF m pc ls (v :: .ref a :: st))) := by
  subst hp
  obtain ⟨T', h', X', e', W', st'⟩ := putF X C.1 C.2.1 C.2.2.2.2.1 (host := "") (Or.inl w) via eT F E L wi hty hn hf (g := mkF m pc ls (v :: .ref a :: st)) rfl rfl (hb C.2.2.1 hd)
  exact Goes.on (fun t k => st' t k) (k T' h' X' e' W')
theorem g_putFN (C : Ctx p Z s m meth c bs own maxL ret) (X : Stand p l e R s m args below meth c T locs cells slots) {pc pc' : Nat} {ls : Array Slot} {st : List Value} {R0 O n d K : String} {index kk : Nat} {ty : FieldType} {a : Addr} {v old v' : Value} (w : (Cond.fieldLink own index R0 n d).before a0 Z = true) (via : Via Z R0 O n d) (eT : T.heap = h) (F : Fld Z h a O n d old) (E : Exa Z h a K) (L : (Cond.lays K O n d).before a0 Z = true ∨ ((Cond.laysFinal K O n d).before a0 Z = true ∧ own = O ∧ meth.name = "<init>")) (wi : (Cond.instantiable K kk).before a0 Z = true) (hty : parseFieldDescriptor d = some ty) (hn : narrow ty v = v') (hf : fits ty v' = true) (hd : decode bs pc = .ok (.putfield index, 3)) (hp : pc + 3 = pc')
    (k : ∀ (T' : State) (h' : Heap), Stand p l e R s m args below meth c T' (locs ++ [⟨a, Jvm.RoadKit.slotOf Z O n d⟩]) cells slots → T'.heap = h' → Wr h h' a (Jvm.RoadKit.slotOf Z O n d) v' → Goes p.tables e below G (T'.setTop (mkF m pc' ls st))) : Goes p.tables e below G (T.setTop (mkF m pc ls (v :: .ref a :: st))) := by
  subst hp
  obtain ⟨T', h', X', e', W', st'⟩ := putFN X C.1 C.2.1 C.2.2.2.2.1 w via eT F E L wi hty hn hf (g := mkF m pc ls (v :: .ref a :: st)) rfl rfl (hb C.2.2.1 hd)
  exact Goes.on (fun t k => st' t k) (k T' h' X' e' W')
theorem g_new (C : Ctx p Z s m meth c bs own maxL ret) (X : Stand p l e R s m args below meth c T locs cells slots) {pc pc' : Nat} {ls : Array Slot} {st : List Value} {K : String} {index n : Nat} (w : (Cond.classLink own index K).before a0 Z = true) (wi : (Cond.instantiable K n).before a0 Z = true) (wz : (Cond.initialized K).before a0 Z = true) (eT : T.heap = h) (hd : decode bs pc = .ok (.new index, 3)) (hp : pc + 3 = pc') (hc : cells + 1 ≤ R.cells) (hs : slots + n ≤ R.slots)
    (k : ∀ (T' : State) (h' : Heap) (b : Addr), Stand p l e R s m args below meth c T' locs (cells + 1) (slots + n) → T'.heap = h' → b = h.size → Ext h h' → Exa Z h' b K → (∀ {O nm d : String} {ty : FieldType}, Laid Z a0 K O nm d → parseFieldDescriptor d = some ty → Fld Z h' b O nm d (defaultValue ty)) → Goes p.tables e below G (T'.setTop (mkF m pc' ls (.ref b :: st)))) : Goes p.tables e below G (T.setTop (mkF m pc ls st)) := by
  subst hp
  obtain ⟨T', h', X', e', E', A', D', -, st'⟩ := newO X C.1 C.2.1 C.2.2.2.2.1 w wi wz eT (g := mkF m pc ls st) rfl (hb C.2.2.1 hd) hc hs
  exact Goes.on (fun t k => st' t k) (k T' h' h.size X' e' rfl E' A' D')
theorem g_initO (C : Ctx p Z s m meth c bs own maxL ret) (X : Stand p l e R s m args below meth c T locs cells slots) {pc pc' : Nat} {ls : Array Slot} {st : List Value} {idx : Nat} {a : Addr} (w1 : (Cond.methodLink own idx Lib.objectInit).before a0 Z = true) (w2 : (Cond.instanceMethod Lib.objectInit).before a0 Z = true) (w3 : (Cond.code Lib.objectInit ⟨#[0xb1]⟩ 1 none).before a0 Z = true) (eT : T.heap = h) (hls : ls.size = maxL) (hd : decode bs pc = .ok (.invokespecial idx, 3)) (hp : pc + 3 = pc') (hf : 1 ≤ R.frames) {W : Nat} (hW : (st.map fun v => v.category).sum ≤ W) (hl : W + 12 ≤ R.locals)
    (k : ∀ T' : State, Stand p l e R s m args below meth c T' locs cells slots → T'.heap = h → Goes p.tables e below G (T'.setTop (mkF m pc' ls st))) : Goes p.tables e below G (T.setTop (mkF m pc ls (.ref a :: st))) := by
  subst hp
  obtain ⟨T', X', e', st'⟩ := initO X C.1 C.2.1 C.2.2.2.2.1 w1 w2 w3 eT (g := mkF m pc ls (.ref a :: st)) rfl (by rw [C.2.2.2.1]; exact hls) rfl (hb C.2.2.1 hd) hf (W := W) (by show 2 * 0 + _ ≤ _; omega) hl
  exact Goes.on (fun t k => st' t k) (k T' X' e')
theorem g_callS (C : Ctx p Z s m meth c bs own maxL ret) (X : Stand p l e R s m args below meth c T locs cells slots) {pc pc' : Nat} {ls : Array Slot} {y : MethodName} {index : Nat} {bytes : ByteArray} {maxY : Nat} {retY : Option FieldType} {rm : Room} {W : Nat} {Q : Option Value → Heap → List Loc → Prop} {ps : List FieldType} {rr : Option FieldType} {argsL rest stk : List Value} (w1 : (Cond.methodLink own index y).before a0 Z = true) (w2 : (Cond.static y).before a0 Z = true) (w3 : (Cond.initialized y.cls).before a0 Z = true) (w4 : (Cond.code y bytes maxY retY).before a0 Z = true) (hy : y.cls ≠ "java/lang/invoke/MethodHandle" ∧ y.cls ≠ "java/lang/invoke/VarHandle") (hd : decode bs pc = .ok (.invokestatic index, 3)) (hM : MetFree l y (head1 [Cond.code y bytes maxY retY] rm) (fun a' U => a' = argsL.toArray ∧ Z.Warmed39 U.vm ∧ U.heap = h) (fun _ _ _ _ _ => True) (fun _ U o U' => ∃ v L, o = .returned v ∧ Q v U'.heap L ∧ FrameEnd U o U' L rm.cells rm.slots)) (hf : rm.frames + 1 ≤ R.frames) (hl : W + (maxY + 11) + rm.locals ≤ R.locals) (hls : ls.size = maxL) (hpd : parseMethodDescriptor y.desc = some ⟨ps, rr⟩) (hlen : argsL.length = ps.length) (hst : stk = argsL.reverse ++ rest) (hW : (rest.map fun v => v.category).sum ≤ W) (eT : T.heap = h) (hc : cells + rm.cells ≤ R.cells) (hs : slots + rm.slots ≤ R.slots) (hp : pc + 3 = pc')
    (k : ∀ (v : Option Value) (T' : State) (L : List Loc), Stand p l e R s m args below meth c T' (locs ++ L) (cells + rm.cells) (slots + rm.slots) → Q v T'.heap L → Goes p.tables e below G (T'.setTop (mkF m pc' ls (v.toList ++ rest)))) : Goes p.tables e below G (T.setTop (mkF m pc ls stk)) := by
  subst hp hst
  obtain ⟨v, _, ⟨T', L', k', n'⟩, -, X', ⟨L, hQ, l1, l2, l3⟩, st'⟩ := Jvm.LawKit.callS X C.1 (y := y) C.2.2.2.2.1 (mvT C.2.1 w1) (mvT C.2.1 w2) (mvT C.2.1 w3) (mvT C.2.1 w4) hy (backOf (W := W) hM C.2.1 w4 w3 hf hl) (g := mkF m pc ls (argsL.reverse ++ rest)) rfl (by rw [C.2.2.2.1]; exact hls) (argsL := argsL) (rest := rest) (lenOf hpd hlen) rfl (by show 2 * 0 + _ ≤ _; omega) (hb C.2.2.1 hd) (fun _ _ => ⟨rfl, eT, hc, hs⟩)
  dsimp only [Pt.U, Pt.locs, Pt.cells, Pt.slots] at X' l1 l2 l3 st' hQ
  subst l1 l2 l3
  exact Goes.on (fun t k => st' t k) (k v T' L X' hQ)
theorem g_callI (C : Ctx p Z s m meth c bs own maxL ret) (X : Stand p l e R s m args below meth c T locs cells slots) {pc pc' : Nat} {ls : Array Slot} {a : Addr} {y : MethodName} {index : Nat} {bytes : ByteArray} {maxY : Nat} {rm : Room} {W : Nat} {Q : Option Value → Heap → List Loc → Prop} {ps : List FieldType} {rr : Option FieldType} {argsL rest stk : List Value} (hn : y.name = "<init>") (w1 : (Cond.methodLink own index y).before a0 Z = true) (w2 : (Cond.instanceMethod y).before a0 Z = true) (w3 : (Cond.initialized y.cls).before a0 Z = true) (w4 : (Cond.code y bytes maxY none).before a0 Z = true) (hy : y.cls ≠ "java/lang/invoke/MethodHandle" ∧ y.cls ≠ "java/lang/invoke/VarHandle") (hd : decode bs pc = .ok (.invokespecial index, 3)) (hM : MetFree l y (head1 [Cond.code y bytes maxY none] rm) (fun a' U => a' = (.ref a :: argsL).toArray ∧ Z.Warmed39 U.vm ∧ U.heap = h) (fun _ _ _ _ _ => True) (fun _ U o U' => ∃ v L, o = .returned v ∧ Q v U'.heap L ∧ FrameEnd U o U' L rm.cells rm.slots)) (hf : rm.frames + 1 ≤ R.frames) (hl : W + (maxY + 11) + rm.locals ≤ R.locals) (hls : ls.size = maxL) (hpd : parseMethodDescriptor y.desc = some ⟨ps, rr⟩) (hlen : argsL.length = ps.length) (hst : stk = argsL.reverse ++ .ref a :: rest) (hW : (rest.map fun v => v.category).sum ≤ W) (eT : T.heap = h) (hc : cells + rm.cells ≤ R.cells) (hs : slots + rm.slots ≤ R.slots) (hp : pc + 3 = pc')
    (k : ∀ (v : Option Value) (T' : State) (L : List Loc), Stand p l e R s m args below meth c T' (locs ++ L) (cells + rm.cells) (slots + rm.slots) → Q v T'.heap L → Goes p.tables e below G (T'.setTop (mkF m pc' ls (v.toList ++ rest)))) : Goes p.tables e below G (T.setTop (mkF m pc ls stk)) := by
  subst hp hst
  obtain ⟨v, _, ⟨T', L', k', n'⟩, -, X', ⟨L, hQ, l1, l2, l3⟩, st'⟩ := X.specialBack C.1 (y := y) hn C.2.2.2.2.1 (mvT C.2.1 w1) (mvT C.2.1 w2) (mvT C.2.1 w4) hy (backOf (W := W) hM C.2.1 w4 w3 hf hl) (g := mkF m pc ls (argsL.reverse ++ .ref a :: rest)) rfl (by rw [C.2.2.2.1]; exact hls) (Steps.refl _) (a := a) (argsL := argsL) (rest := rest) (lenOf hpd hlen) rfl (by show 2 * 0 + _ ≤ _; omega) (hb C.2.2.1 hd) (fun _ _ => ⟨rfl, eT, hc, hs⟩)
  dsimp only [Pt.U, Pt.locs, Pt.cells, Pt.slots] at X' l1 l2 l3 st' hQ
  subst l1 l2 l3
  exact Goes.on (fun t k => st'.trans k) (k v T' L X' hQ)
theorem g_callV (C : Ctx p Z s m meth c bs own maxL ret) (X : Stand p l e R s m args below meth c T locs cells slots) {pc pc' : Nat} {ls : Array Slot} {a : Addr} {K : String} {y z : MethodName} {index : Nat} {bytes : ByteArray} {maxY : Nat} {retY : Option FieldType} {rm : Room} {W : Nat} {Q : Option Value → Heap → List Loc → Prop} {ps : List FieldType} {rr : Option FieldType} {argsL rest stk : List Value} (w1 : (Cond.methodLink own index y).before a0 Z = true) (w2 : (Cond.declares y).before a0 Z = true) (hnf : NotFace s y) (w3 : (Cond.selects K y z).before a0 Z = true) (w4 : (Cond.instanceMethod z).before a0 Z = true) (w5 : (Cond.code z bytes maxY retY).before a0 Z = true) (w6 : (Cond.initialized z.cls).before a0 Z = true) (hy : y.cls ≠ "java/lang/invoke/MethodHandle" ∧ y.cls ≠ "java/lang/invoke/VarHandle") (E : Exa Z h a K) (hd : decode bs pc = .ok (.invokevirtual index, 3)) (hM : MetFree l z (head1 [Cond.code z bytes maxY retY] rm) (fun a' U => a' = (.ref a :: argsL).toArray ∧ Z.Warmed39 U.vm ∧ U.heap = h) (fun _ _ _ _ _ => True) (fun _ U o U' => ∃ v L, o = .returned v ∧ Q v U'.heap L ∧ FrameEnd U o U' L rm.cells rm.slots)) (hf : rm.frames + 1 ≤ R.frames) (hl : W + (maxY + 11) + rm.locals ≤ R.locals) (hls : ls.size = maxL) (hpd : parseMethodDescriptor y.desc = some ⟨ps, rr⟩) (hlen : argsL.length = ps.length) (hst : stk = argsL.reverse ++ .ref a :: rest) (hW : (rest.map fun v => v.category).sum ≤ W) (eT : T.heap = h) (hc : cells + rm.cells ≤ R.cells) (hs : slots + rm.slots ≤ R.slots) (hp : pc + 3 = pc')
    (k : ∀ (v : Option Value) (T' : State) (L : List Loc), Stand p l e R s m args below meth c T' (locs ++ L) (cells + rm.cells) (slots + rm.slots) → Q v T'.heap L → Goes p.tables e below G (T'.setTop (mkF m pc' ls (v.toList ++ rest)))) : Goes p.tables e below G (T.setTop (mkF m pc ls stk)) := by
  subst hp hst
  obtain ⟨cq, kq, qa, qb, qc⟩ := isOf C.2.1 eT E
  obtain ⟨v, _, ⟨T', L', k', n'⟩, -, X', ⟨L, hQ, l1, l2, l3⟩, st'⟩ := X.virtualBack C.1 (y := y) (z := z) C.2.2.2.2.1 (mvT C.2.1 w1) (mvT C.2.1 w2) hnf (mvT C.2.1 w3) (mvT C.2.1 w4) hy (backOf (W := W) hM C.2.1 w5 w6 hf hl) qa qc (g := mkF m pc ls (argsL.reverse ++ .ref a :: rest)) rfl (by rw [C.2.2.2.1]; exact hls) (Steps.refl _) (argsL := argsL) (rest := rest) (lenOf hpd hlen) rfl (by show 2 * 0 + _ ≤ _; omega) (hb C.2.2.1 hd) (fun _ _ => ⟨rfl, eT, hc, hs⟩)
  dsimp only [Pt.U, Pt.locs, Pt.cells, Pt.slots] at X' l1 l2 l3 st' hQ
  subst l1 l2 l3
  exact Goes.on (fun t k => st'.trans k) (k v T' L X' hQ)
theorem g_callVU (C : Ctx p Z s m meth c bs own maxL ret) (X : Stand p l e R s m args below meth c T locs cells slots) {pc pc' : Nat} {ls : Array Slot} {a : Addr} {K owner : String} {y z : MethodName} {index : Nat} {bytes : ByteArray} {maxY : Nat} {retY : Option FieldType} {rm : Room} {W : Nat} {Q : Option Value → Heap → List Loc → Prop} {ps : List FieldType} {rr : Option FieldType} {argsL rest stk : List Value} (w1 : (Cond.methodLink own index y).before a0 Z = true) (w2 : (Cond.sameMethod y.cls owner y.name y.desc).before a0 Z = true) (w2' : (Cond.declares ⟨owner, y.name, y.desc⟩).before a0 Z = true) (w3 : (Cond.selects K y z).before a0 Z = true) (w4 : (Cond.instanceMethod z).before a0 Z = true) (w5 : (Cond.code z bytes maxY retY).before a0 Z = true) (w6 : (Cond.initialized z.cls).before a0 Z = true) (hy : owner ≠ "java/lang/invoke/MethodHandle" ∧ owner ≠ "java/lang/invoke/VarHandle") (E : Exa Z h a K) (hd : decode bs pc = .ok (.invokevirtual index, 3)) (hM : MetFree l z (head1 [Cond.code z bytes maxY retY] rm) (fun a' U => a' = (.ref a :: argsL).toArray ∧ Z.Warmed39 U.vm ∧ U.heap = h) (fun _ _ _ _ _ => True) (fun _ U o U' => ∃ v L, o = .returned v ∧ Q v U'.heap L ∧ FrameEnd U o U' L rm.cells rm.slots)) (hf : rm.frames + 1 ≤ R.frames) (hl : W + (maxY + 11) + rm.locals ≤ R.locals) (hls : ls.size = maxL) (hpd : parseMethodDescriptor y.desc = some ⟨ps, rr⟩) (hlen : argsL.length = ps.length) (hst : stk = argsL.reverse ++ .ref a :: rest) (hW : (rest.map fun v => v.category).sum ≤ W) (eT : T.heap = h) (hc : cells + rm.cells ≤ R.cells) (hs : slots + rm.slots ≤ R.slots) (hp : pc + 3 = pc')
    (k : ∀ (v : Option Value) (T' : State) (L : List Loc), Stand p l e R s m args below meth c T' (locs ++ L) (cells + rm.cells) (slots + rm.slots) → Q v T'.heap L → Goes p.tables e below G (T'.setTop (mkF m pc' ls (v.toList ++ rest)))) : Goes p.tables e below G (T.setTop (mkF m pc ls stk)) := by
  subst hp hst
  obtain ⟨cq, kq, qa, qb, qc⟩ := isOf C.2.1 eT E
  obtain ⟨v, _, ⟨T', L', k', n'⟩, -, X', ⟨L, hQ, l1, l2, l3⟩, st'⟩ := X.virtualBackUp C.1 (x := y) (y := z) C.2.2.2.2.1 (mvT C.2.1 w1) (mvT C.2.1 w2) (mvT C.2.1 w2') hy (mvT C.2.1 w3) (mvT C.2.1 w4) (backOf (W := W) hM C.2.1 w5 w6 hf hl) qa qc (g := mkF m pc ls (argsL.reverse ++ .ref a :: rest)) rfl (by rw [C.2.2.2.1]; exact hls) (Steps.refl _) (argsL := argsL) (rest := rest) (lenOf hpd hlen) rfl (by show 2 * 0 + _ ≤ _; omega) (hb C.2.2.1 hd) (fun _ _ => ⟨rfl, eT, hc, hs⟩)
  dsimp only [Pt.U, Pt.locs, Pt.cells, Pt.slots] at X' l1 l2 l3 st' hQ
  subst l1 l2 l3
  exact Goes.on (fun t k => st'.trans k) (k v T' L X' hQ)
theorem g_ifnullY (C : Ctx p Z s m meth c bs own maxL ret) (X : Stand p l e R s m args below meth c T locs cells slots) {pc pc' : Nat} {ls : Array Slot} {st : List Value}  {o : Int} (hd : decode bs pc = .ok (.ifnull o, 3)) (ho : 0 ≤ (pc : Int) + o) (hp : ((pc : Int) + o).toNat = pc')
    (k : Goes p.tables e below G (T.setTop (mkF m pc' ls st))) : Goes p.tables e below G (T.setTop (mkF m pc ls (.null :: st))) :=
  Goes.on (fun _ k => XS.ifnullYes X.here C.1 rfl (pc0 := pc) (pc' := pc') rfl (hb C.2.2.1 hd) rfl ho hp k) k
theorem g_ifnullN (C : Ctx p Z s m meth c bs own maxL ret) (X : Stand p l e R s m args below meth c T locs cells slots) {pc pc' : Nat} {ls : Array Slot} {st : List Value} {b : Addr} {o : Int} (hd : decode bs pc = .ok (.ifnull o, 3)) (hp : pc + 3 = pc')
    (k : Goes p.tables e below G (T.setTop (mkF m pc' ls st))) : Goes p.tables e below G (T.setTop (mkF m pc ls (.ref b :: st))) := by
  subst hp
  exact Goes.on (fun _ k => XS.ifnullNo X.here C.1 rfl (hb C.2.2.1 hd) rfl k) k
theorem g_ifnonnullY (C : Ctx p Z s m meth c bs own maxL ret) (X : Stand p l e R s m args below meth c T locs cells slots) {pc pc' : Nat} {ls : Array Slot} {st : List Value} {b : Addr} {o : Int} (hd : decode bs pc = .ok (.ifnonnull o, 3)) (ho : 0 ≤ (pc : Int) + o) (hp : ((pc : Int) + o).toNat = pc')
    (k : Goes p.tables e below G (T.setTop (mkF m pc' ls st))) : Goes p.tables e below G (T.setTop (mkF m pc ls (.ref b :: st))) :=
  Goes.on (fun _ k => XT.ifnonnullYes X.here C.1 rfl (pc0 := pc) (pc' := pc') rfl (hb C.2.2.1 hd) rfl ho hp k) k
theorem g_ifnonnullN (C : Ctx p Z s m meth c bs own maxL ret) (X : Stand p l e R s m args below meth c T locs cells slots) {pc pc' : Nat} {ls : Array Slot} {st : List Value}  {o : Int} (hd : decode bs pc = .ok (.ifnonnull o, 3)) (hp : pc + 3 = pc')
    (k : Goes p.tables e below G (T.setTop (mkF m pc' ls st))) : Goes p.tables e below G (T.setTop (mkF m pc ls (.null :: st))) := by
  subst hp
  exact Goes.on (fun _ k => XT.ifnonnullNo X.here C.1 rfl (hb C.2.2.1 hd) rfl k) k
theorem g_acmp_eq (C : Ctx p Z s m meth c bs own maxL ret) (X : Stand p l e R s m args below meth c T locs cells slots) {pc pcT pcN : Nat} {ls : Array Slot} {st : List Value} {x y : Value} {o : Int} (h1 : x.isRef = true) (h2 : y.isRef = true) (hd : decode bs pc = .ok (.if_acmp .eq o, 3)) (ho : 0 ≤ (pc : Int) + o) (hp : ((pc : Int) + o).toNat = pcT) (hq : pc + 3 = pcN)
    (hyes : x = y → Goes p.tables e below G (T.setTop (mkF m pcT ls st))) (hno : ¬ x = y → Goes p.tables e below G (T.setTop (mkF m pcN ls st))) : Goes p.tables e below G (T.setTop (mkF m pc ls (y :: x :: st))) := by
  subst hq
  by_cases q : x = y
  · exact Goes.on (fun _ k => XT.acmpYes X.here C.1 rfl (pc0 := pc) (pc' := pcT) rfl (hb C.2.2.1 hd) rfl h1 h2 (by simp [XT.acmp, q]) ho hp k) (hyes q)
  · exact Goes.on (fun _ k => XT.acmpNo X.here C.1 rfl (hb C.2.2.1 hd) rfl h1 h2 (by simp [XT.acmp, q]) k) (hno q)
theorem g_acmp_ne (C : Ctx p Z s m meth c bs own maxL ret) (X : Stand p l e R s m args below meth c T locs cells slots) {pc pcT pcN : Nat} {ls : Array Slot} {st : List Value} {x y : Value} {o : Int} (h1 : x.isRef = true) (h2 : y.isRef = true) (hd : decode bs pc = .ok (.if_acmp .ne o, 3)) (ho : 0 ≤ (pc : Int) + o) (hp : ((pc : Int) + o).toNat = pcT) (hq : pc + 3 = pcN)
    (hyes : ¬ x = y → Goes p.tables e below G (T.setTop (mkF m pcT ls st))) (hno : x = y → Goes p.tables e below G (T.setTop (mkF m pcN ls st))) : Goes p.tables e below G (T.setTop (mkF m pc ls (y :: x :: st))) := by
  subst hq
  by_cases q : x = y
  · exact Goes.on (fun _ k => XT.acmpNo X.here C.1 rfl (hb C.2.2.1 hd) rfl h1 h2 (by simp [XT.acmp, q]) k) (hno q)
  · exact Goes.on (fun _ k => XT.acmpYes X.here C.1 rfl (pc0 := pc) (pc' := pcT) rfl (hb C.2.2.1 hd) rfl h1 h2 (by simp [XT.acmp, q]) ho hp k) (hyes q)
theorem g_tsw (C : Ctx p Z s m meth c bs own maxL ret) (X : Stand p l e R s m args below meth c T locs cells slots) {pc pc' : Nat} {ls : Array Slot} {st : List Value} {dflt low high : Int} {offs : Array Int} {len : Nat} {o : Int} {i : Int32} (hd : decode bs pc = .ok (.tableswitch dflt low high offs, len)) (hin : ¬ (i.toInt < low ∨ i.toInt > high)) (hoff : offs[(i.toInt - low).toNat]? = some o) (ho : 0 ≤ (pc : Int) + o) (hp : ((pc : Int) + o).toNat = pc')
    (k : Goes p.tables e below G (T.setTop (mkF m pc' ls st))) : Goes p.tables e below G (T.setTop (mkF m pc ls (.int i :: st))) :=
  Goes.on (fun _ k => XS.tswIn X.here C.1 rfl (pc0 := pc) (pc' := pc') rfl (hb C.2.2.1 hd) rfl hin hoff ho hp k) k
theorem ne_of_fld {a b : Addr} {K n d : String} {v w : Value} (F : Fld Z h a K n d v) (F' : Fld Z h b K n d w) (hv : v ≠ w) : a ≠ b := fun q => by
  subst q
  obtain ⟨c1, f1, k1, i1, g1, a1, a2, -, -, -, -, a7⟩ := F
  obtain ⟨c2, f2, k2, i2, g2, b1, b2, -, -, -, -, b7⟩ := F'
  cases a1.symm.trans b1
  cases a2.symm.trans b2
  exact hv (Option.some.inj (a7.symm.trans b7))
theorem ref_of_exactly {t : Term} {K : String} (hx : (Cond.exactly t K).value args s none s [] = some true) : ∃ a, t.eval args s none [] s = some (.ref a) ∧ Exa s s.heap a K := by
  obtain ⟨a, -, -, -, e1, -⟩ := Cond.exactly_spec (Cond.before_iff.mpr hx)
  exact ⟨a, e1, Exa.start e1 hx⟩
theorem fldI_of {t : Term} {K n d : String} {k : Int32} {a : Addr} (ht : t.eval args s none [] s = some (.ref a)) (hx : (Cond.eq (.field t K n d) (.int k)).value args s none s [] = some true) : Fld s s.heap a K n d (.int k) := by
  obtain ⟨x, y, e1, e2, k1, k2⟩ := cmp_v (Or.inl hx)
  have e3 : y = .int k := (Option.some.inj e2).symm
  subst e3
  obtain ⟨z, rfl⟩ : ∃ z, x = .int z := k2
  have e4 := e1
  rw [fld_at ht] at e4
  have e5 : z = k := by
    simp only [Cond.value, e1, e2] at hx
    simpa using hx
  subst e5
  exact Fld.start e4
theorem fldN_of {t : Term} {K n d : String} {a : Addr} (ht : t.eval args s none [] s = some (.ref a)) (hx : (Cond.eq (.field t K n d) .null).value args s none s [] = some true) : Fld s s.heap a K n d .null := by
  have e := null_v hx
  rw [fld_at ht] at e
  exact Fld.start e
theorem fldR_of {t u : Term} {K n d : String} {a b : Addr} (ht : t.eval args s none [] s = some (.ref a)) (hu : u.eval args s none [] s = some (.ref b)) (hx : (Cond.eq (.field t K n d) u).value args s none s [] = some true) : Fld s s.heap a K n d (.ref b) := by
  obtain ⟨x, y, e1, e2, k1, k2⟩ := cmp_v (Or.inl hx)
  cases e2.symm.trans hu
  have hr : x.isRef = true := k2.2
  have e5 := gotT (eq_R e1 e2 hr rfl) hx
  subst e5
  rw [fld_at ht] at e1
  exact Fld.start e1
end Kit
end Jvm.Own

namespace Jvm.Pilot.@@N@@
open Jvm Jvm.ClassFile Sem Op Lib Jvm.Free Jvm.Stand Jvm.LawKit Jvm.RoadKit Jvm.Own Bundle Jvm.Pilot.@@N@@.Jvm.D
theorem ef_1 (m : MethodId) (x0 : Int32) (x1 : Int32) : entryFrame m #[(.int x0), (.int x1)] 2 = mkF m 0 #[.val (.int x0), .val (.int x1)] [] := by first | (simp [entryFrame, mkF, argsToLocals, Value.category]; done) | rfl
theorem d1_0 : decode jdk_29_method_69_code 0 = .ok (.iload_n 0, 1) := by decide +kernel
theorem d1_1 : decode jdk_29_method_69_code 1 = .ok (.iload_n 1, 1) := by decide +kernel
theorem d1_2 : decode jdk_29_method_69_code 2 = .ok (.if_icmp .gt 7, 3) := by decide +kernel
theorem d1_9 : decode jdk_29_method_69_code 9 = .ok (.iload_n 1, 1) := by decide +kernel
theorem d1_10 : decode jdk_29_method_69_code 10 = .ok (.ireturn, 1) := by decide +kernel
theorem d1_5 : decode jdk_29_method_69_code 5 = .ok (.iload_n 0, 1) := by decide +kernel
theorem d1_6 : decode jdk_29_method_69_code 6 = .ok (.goto 4, 3) := by decide +kernel
def f1 (x0 : Int32) (x1 : Int32) : Int32 := if x1 < x0 then x1 else x0
def Q1 (Z : State) (x0 : Int32) (x1 : Int32) (h0 : Heap) (n0 : Nat) (v : Option Value) (h : Heap) (L : List Loc) : Prop := v = some (.int (f1 x0 x1)) ∧ Fr n0 L ∧ h = h0
set_option maxRecDepth 65536 in
set_option maxHeartbeats 40000000 in
theorem rm1 (l : Launch) (Z : State) (a0 : Array Value) (hw : ∀ d ∈ tables_1, d.before a0 Z = true) (ws : List Jvm.Cond) (x0 : Int32) (x1 : Int32) (h0 : Heap) (n0 : Nat) (Z0 : n0 ≤ h0.size) :
    MetFree l (⟨"java/lang/Math", "min", "(II)I"⟩ : MethodName) (head1 (Jvm.Cond.code (⟨"java/lang/Math", "min", "(II)I"⟩ : MethodName) jdk_29_method_69_code 2 (some .int) :: ws) ({ frames := 0, cells := 0, slots := 0, locals := 0 } : Room)) (fun a U => a = #[(.int x0), (.int x1)] ∧ Z.Warmed39 U.vm ∧ U.heap = h0) (fun _ _ _ _ _ => True) (fun _ U o U' => ∃ v L, o = .returned v ∧ Q1 Z x0 x1 h0 n0 v U'.heap L ∧ FrameEnd U o U' L ({ frames := 0, cells := 0, slots := 0, locals := 0 } : Room).cells ({ frames := 0, cells := 0, slots := 0, locals := 0 } : Room).slots) := by
  refine body_of (y := (⟨"java/lang/Math", "min", "(II)I"⟩ : MethodName)) (Q := Q1 Z x0 x1 h0 n0) (Jvm.Free.JP.mathPlain rfl (by decide +kernel)) ?_
  intro p e s m below meth c T0 G C hnm X0 e0 K
  have N0 := Fr.nil n0
  refine Goes.to (congrArg T0.setTop (ef_1 m x0 x1)) ?_
  refine g_iloadN C X0 d1_0 (pc' := 1) rfl rfl ?_
  refine g_iloadN C X0 d1_1 (pc' := 2) rfl rfl ?_
  refine g_icmp_gt C X0 d1_2 (pcT := 9) (pcN := 5) (by decide) (by decide) rfl (fun hc2 => ?_) (fun hc2 => ?_)
  · refine g_iloadN C X0 d1_9 (pc' := 10) rfl rfl ?_
    exact g_retI C X0 K d1_10 (by decide) (by decide) e0 ⟨by (unfold f1; rw [if_pos hc2]) <;> rfl, N0, rfl⟩
  · refine g_iloadN C X0 d1_5 (pc' := 6) rfl rfl ?_
    refine g_goto C X0 d1_6 (pc' := 10) (by decide) (by decide) ?_
    exact g_retI C X0 K d1_10 (by decide) (by decide) e0 ⟨by (unfold f1; rw [if_neg hc2]) <;> rfl, N0, rfl⟩
theorem ef_2 (m : MethodId) (x0 : Int32) (x1 : Int32) : entryFrame m #[(.int x0), (.int x1)] 2 = mkF m 0 #[.val (.int x0), .val (.int x1)] [] := by first | (simp [entryFrame, mkF, argsToLocals, Value.category]; done) | rfl
theorem d2_0 : decode jdk_29_method_65_code 0 = .ok (.iload_n 0, 1) := by decide +kernel
theorem d2_1 : decode jdk_29_method_65_code 1 = .ok (.iload_n 1, 1) := by decide +kernel
theorem d2_2 : decode jdk_29_method_65_code 2 = .ok (.if_icmp .lt 7, 3) := by decide +kernel
theorem d2_9 : decode jdk_29_method_65_code 9 = .ok (.iload_n 1, 1) := by decide +kernel
theorem d2_10 : decode jdk_29_method_65_code 10 = .ok (.ireturn, 1) := by decide +kernel
theorem d2_5 : decode jdk_29_method_65_code 5 = .ok (.iload_n 0, 1) := by decide +kernel
theorem d2_6 : decode jdk_29_method_65_code 6 = .ok (.goto 4, 3) := by decide +kernel
def f2 (x0 : Int32) (x1 : Int32) : Int32 := if x0 < x1 then x1 else x0
def Q2 (Z : State) (x0 : Int32) (x1 : Int32) (h0 : Heap) (n0 : Nat) (v : Option Value) (h : Heap) (L : List Loc) : Prop := v = some (.int (f2 x0 x1)) ∧ Fr n0 L ∧ h = h0
set_option maxRecDepth 65536 in
set_option maxHeartbeats 40000000 in
theorem rm2 (l : Launch) (Z : State) (a0 : Array Value) (hw : ∀ d ∈ tables_1, d.before a0 Z = true) (ws : List Jvm.Cond) (x0 : Int32) (x1 : Int32) (h0 : Heap) (n0 : Nat) (Z0 : n0 ≤ h0.size) :
    MetFree l (⟨"java/lang/Math", "max", "(II)I"⟩ : MethodName) (head1 (Jvm.Cond.code (⟨"java/lang/Math", "max", "(II)I"⟩ : MethodName) jdk_29_method_65_code 2 (some .int) :: ws) ({ frames := 0, cells := 0, slots := 0, locals := 0 } : Room)) (fun a U => a = #[(.int x0), (.int x1)] ∧ Z.Warmed39 U.vm ∧ U.heap = h0) (fun _ _ _ _ _ => True) (fun _ U o U' => ∃ v L, o = .returned v ∧ Q2 Z x0 x1 h0 n0 v U'.heap L ∧ FrameEnd U o U' L ({ frames := 0, cells := 0, slots := 0, locals := 0 } : Room).cells ({ frames := 0, cells := 0, slots := 0, locals := 0 } : Room).slots) := by
  refine body_of (y := (⟨"java/lang/Math", "max", "(II)I"⟩ : MethodName)) (Q := Q2 Z x0 x1 h0 n0) (Jvm.Free.JP.mathPlain rfl (by decide +kernel)) ?_
  intro p e s m below meth c T0 G C hnm X0 e0 K
  have N0 := Fr.nil n0
  refine Goes.to (congrArg T0.setTop (ef_2 m x0 x1)) ?_
  refine g_iloadN C X0 d2_0 (pc' := 1) rfl rfl ?_
  refine g_iloadN C X0 d2_1 (pc' := 2) rfl rfl ?_
  refine g_icmp_lt C X0 d2_2 (pcT := 9) (pcN := 5) (by decide) (by decide) rfl (fun hc2 => ?_) (fun hc2 => ?_)
  · refine g_iloadN C X0 d2_9 (pc' := 10) rfl rfl ?_
    exact g_retI C X0 K d2_10 (by decide) (by decide) e0 ⟨by (unfold f2; rw [if_pos hc2]) <;> rfl, N0, rfl⟩
  · refine g_iloadN C X0 d2_5 (pc' := 6) rfl rfl ?_
    refine g_goto C X0 d2_6 (pc' := 10) (by decide) (by decide) ?_
    exact g_retI C X0 K d2_10 (by decide) (by decide) e0 ⟨by (unfold f2; rw [if_neg hc2]) <;> rfl, N0, rfl⟩
theorem ef_4 (m : MethodId) (o1 : Addr) : entryFrame m #[(.ref o1)] 1 = mkF m 0 #[.val (.ref o1)] [] := by first | (simp [entryFrame, mkF, argsToLocals, Value.category]; done) | rfl
theorem d4_0 : decode jdk_30_method_1_code 0 = .ok (.aload_n 0, 1) := by decide +kernel
theorem d4_1 : decode jdk_30_method_1_code 1 = .ok (.invokespecial 1, 3) := by decide +kernel
theorem w_18 {Z : State} {a0 : Array Value} (hw : ∀ d ∈ tables_1, d.before a0 Z = true) : Jvm.Cond.before (Jvm.Cond.methodLink "java/lang/Record" (1 : Nat) ({ cls := "java/lang/Object", name := "<init>", desc := "()V" } : Jvm.MethodName)) a0 Z = true := hw _ (List.mem_of_getElem? (i := 18) rfl)
theorem w_19 {Z : State} {a0 : Array Value} (hw : ∀ d ∈ tables_1, d.before a0 Z = true) : Jvm.Cond.before (Jvm.Cond.instanceMethod ({ cls := "java/lang/Object", name := "<init>", desc := "()V" } : Jvm.MethodName)) a0 Z = true := hw _ (List.mem_of_getElem? (i := 19) rfl)
theorem w_20 {Z : State} {a0 : Array Value} (hw : ∀ d ∈ tables_1, d.before a0 Z = true) : Jvm.Cond.before (Jvm.Cond.code ({ cls := "java/lang/Object", name := "<init>", desc := "()V" } : Jvm.MethodName) object_method_1_code (1 : Nat) (Option.none : Option Jvm.ClassFile.FieldType)) a0 Z = true := hw _ (List.mem_of_getElem? (i := 20) rfl)
theorem d4_4 : decode jdk_30_method_1_code 4 = .ok (.return_, 1) := by decide +kernel
def Q4 (Z : State) (o1 : Addr) (h0 : Heap) (n0 : Nat) (v : Option Value) (h : Heap) (L : List Loc) : Prop := v = none ∧ Fr n0 L ∧ h = h0
theorem pn_4 : plainName "java/lang/Record" = true := by first | (simp [plainName, overriddenIn]; done) | decide +kernel
set_option maxRecDepth 65536 in
set_option maxHeartbeats 40000000 in
theorem rm4 (l : Launch) (Z : State) (a0 : Array Value) (hw : ∀ d ∈ tables_1, d.before a0 Z = true) (ws : List Jvm.Cond) (o1 : Addr) (h0 : Heap) (n0 : Nat) (Z0 : n0 ≤ h0.size) :
    MetFree l (⟨"java/lang/Record", "<init>", "()V"⟩ : MethodName) (head1 (Jvm.Cond.code (⟨"java/lang/Record", "<init>", "()V"⟩ : MethodName) jdk_30_method_1_code 1 none :: ws) ({ frames := 1, cells := 0, slots := 0, locals := 12 } : Room)) (fun a U => a = #[(.ref o1)] ∧ Z.Warmed39 U.vm ∧ U.heap = h0) (fun _ _ _ _ _ => True) (fun _ U o U' => ∃ v L, o = .returned v ∧ Q4 Z o1 h0 n0 v U'.heap L ∧ FrameEnd U o U' L ({ frames := 1, cells := 0, slots := 0, locals := 12 } : Room).cells ({ frames := 1, cells := 0, slots := 0, locals := 12 } : Room).slots) := by
  refine body_of (y := (⟨"java/lang/Record", "<init>", "()V"⟩ : MethodName)) (Q := Q4 Z o1 h0 n0) (plainFor_of_name pn_4) ?_
  intro p e s m below meth c T0 G C hnm X0 e0 K
  have N0 := Fr.nil n0
  refine Goes.to (congrArg T0.setTop (ef_4 m o1)) ?_
  refine g_aloadN C X0 d4_0 (pc' := 1) rfl rfl rfl ?_
  refine g_initO C X0 (w_18 hw) (w_19 hw) (w_20 hw) e0 rfl d4_1 (pc' := 4) rfl (by decide) (W := 0) (Nat.le_of_eq rfl) (by decide) (fun T1 X1 e1 => ?_)
  exact g_retV C X1 K d4_4 (by decide) (by decide) e1 ⟨rfl, N0, rfl⟩
theorem ef_3 (m : MethodId) (o1 : Addr) (i1 : Int32) (i2 : Int32) : entryFrame m #[(.ref o1), (.int i1), (.int i2)] 3 = mkF m 0 #[.val (.ref o1), .val (.int i1), .val (.int i2)] [] := by first | (simp [entryFrame, mkF, argsToLocals, Value.category]; done) | rfl
theorem d3_0 : decode prog_13_method_1_code 0 = .ok (.aload_n 0, 1) := by decide +kernel
theorem d3_1 : decode prog_13_method_1_code 1 = .ok (.invokespecial 1, 3) := by decide +kernel
theorem w_17 {Z : State} {a0 : Array Value} (hw : ∀ d ∈ tables_1, d.before a0 Z = true) : Jvm.Cond.before (Jvm.Cond.code ({ cls := "java/lang/Record", name := "<init>", desc := "()V" } : Jvm.MethodName) jdk_30_method_1_code (1 : Nat) (Option.none : Option Jvm.ClassFile.FieldType)) a0 Z = true := hw _ (List.mem_of_getElem? (i := 17) rfl)
theorem w_16 {Z : State} {a0 : Array Value} (hw : ∀ d ∈ tables_1, d.before a0 Z = true) : Jvm.Cond.before (Jvm.Cond.initialized "java/lang/Record") a0 Z = true := hw _ (List.mem_of_getElem? (i := 16) rfl)
theorem w_13 {Z : State} {a0 : Array Value} (hw : ∀ d ∈ tables_1, d.before a0 Z = true) : Jvm.Cond.before (Jvm.Cond.methodLink "com/example/hanko/hanko/access/LabelRange" (1 : Nat) ({ cls := "java/lang/Record", name := "<init>", desc := "()V" } : Jvm.MethodName)) a0 Z = true := hw _ (List.mem_of_getElem? (i := 13) rfl)
theorem pd_0 : parseMethodDescriptor "()V" = some ⟨[], none⟩ := by decide +kernel
theorem w_14 {Z : State} {a0 : Array Value} (hw : ∀ d ∈ tables_1, d.before a0 Z = true) : Jvm.Cond.before (Jvm.Cond.instanceMethod ({ cls := "java/lang/Record", name := "<init>", desc := "()V" } : Jvm.MethodName)) a0 Z = true := hw _ (List.mem_of_getElem? (i := 14) rfl)
theorem d3_4 : decode prog_13_method_1_code 4 = .ok (.iload_n 1, 1) := by decide +kernel
theorem d3_5 : decode prog_13_method_1_code 5 = .ok (.iload_n 2, 1) := by decide +kernel
theorem d3_6 : decode prog_13_method_1_code 6 = .ok (.if_icmp .le 21, 3) := by decide +kernel
theorem d3_27 : decode prog_13_method_1_code 27 = .ok (.aload_n 0, 1) := by decide +kernel
theorem d3_28 : decode prog_13_method_1_code 28 = .ok (.iload_n 1, 1) := by decide +kernel
theorem d3_29 : decode prog_13_method_1_code 29 = .ok (.putfield 22, 3) := by decide +kernel
theorem w_22 {Z : State} {a0 : Array Value} (hw : ∀ d ∈ tables_1, d.before a0 Z = true) : Jvm.Cond.before (Jvm.Cond.laysFinal "com/example/hanko/hanko/access/LabelRange" "com/example/hanko/hanko/access/LabelRange" "min" "I") a0 Z = true := hw _ (List.mem_of_getElem? (i := 22) rfl)
theorem w_21 {Z : State} {a0 : Array Value} (hw : ∀ d ∈ tables_1, d.before a0 Z = true) : Jvm.Cond.before (Jvm.Cond.fieldLink "com/example/hanko/hanko/access/LabelRange" (22 : Nat) "com/example/hanko/hanko/access/LabelRange" "min" "I") a0 Z = true := hw _ (List.mem_of_getElem? (i := 21) rfl)
theorem w_8 {Z : State} {a0 : Array Value} (hw : ∀ d ∈ tables_1, d.before a0 Z = true) : Jvm.Cond.before (Jvm.Cond.instantiable "com/example/hanko/hanko/access/LabelRange" (2 : Nat)) a0 Z = true := hw _ (List.mem_of_getElem? (i := 8) rfl)
theorem w_24 {Z : State} {a0 : Array Value} (hw : ∀ d ∈ tables_1, d.before a0 Z = true) : Jvm.Cond.before (Jvm.Cond.laysFinal "com/example/hanko/hanko/access/LabelRange" "com/example/hanko/hanko/access/LabelRange" "max" "I") a0 Z = true := hw _ (List.mem_of_getElem? (i := 24) rfl)
theorem d3_32 : decode prog_13_method_1_code 32 = .ok (.aload_n 0, 1) := by decide +kernel
theorem d3_33 : decode prog_13_method_1_code 33 = .ok (.iload_n 2, 1) := by decide +kernel
theorem d3_34 : decode prog_13_method_1_code 34 = .ok (.putfield 26, 3) := by decide +kernel
theorem w_23 {Z : State} {a0 : Array Value} (hw : ∀ d ∈ tables_1, d.before a0 Z = true) : Jvm.Cond.before (Jvm.Cond.fieldLink "com/example/hanko/hanko/access/LabelRange" (26 : Nat) "com/example/hanko/hanko/access/LabelRange" "max" "I") a0 Z = true := hw _ (List.mem_of_getElem? (i := 23) rfl)
theorem d3_37 : decode prog_13_method_1_code 37 = .ok (.return_, 1) := by decide +kernel
def Q3 (Z : State) (o1 : Addr) (i1 : Int32) (i2 : Int32) (h0 : Heap) (n0 : Nat) (v : Option Value) (h : Heap) (L : List Loc) : Prop := v = none ∧ Fr n0 L ∧ Keep h0 h [o1] ∧ Exa Z h o1 "com/example/hanko/hanko/access/LabelRange" ∧ Fld Z h o1 "com/example/hanko/hanko/access/LabelRange" "min" "I" (.int i1) ∧ Fld Z h o1 "com/example/hanko/hanko/access/LabelRange" "max" "I" (.int i2)
theorem pn_3 : plainName "com/example/hanko/hanko/access/LabelRange" = true := by first | (simp [plainName, overriddenIn]; done) | decide +kernel
set_option maxRecDepth 65536 in
set_option maxHeartbeats 40000000 in
theorem rm3 (l : Launch) (Z : State) (a0 : Array Value) (hw : ∀ d ∈ tables_1, d.before a0 Z = true) (ws : List Jvm.Cond) (o1 : Addr) (i1 : Int32) (i2 : Int32) (h0 : Heap) (n0 : Nat) (Z0 : n0 ≤ h0.size) (F0 : Exa Z h0 o1 "com/example/hanko/hanko/access/LabelRange") (F1 : Fld Z h0 o1 "com/example/hanko/hanko/access/LabelRange" "min" "I" (.int (0 : Int32))) (F2 : Fld Z h0 o1 "com/example/hanko/hanko/access/LabelRange" "max" "I" (.int (0 : Int32))) (gn_o1 : n0 ≤ o1) (hle : ¬ i2 < i1) :
    MetFree l (⟨"com/example/hanko/hanko/access/LabelRange", "<init>", "(II)V"⟩ : MethodName) (head1 (Jvm.Cond.code (⟨"com/example/hanko/hanko/access/LabelRange", "<init>", "(II)V"⟩ : MethodName) prog_13_method_1_code 3 none :: ws) ({ frames := 2, cells := 0, slots := 0, locals := 24 } : Room)) (fun a U => a = #[(.ref o1), (.int i1), (.int i2)] ∧ Z.Warmed39 U.vm ∧ U.heap = h0) (fun _ _ _ _ _ => True) (fun _ U o U' => ∃ v L, o = .returned v ∧ Q3 Z o1 i1 i2 h0 n0 v U'.heap L ∧ FrameEnd U o U' L ({ frames := 2, cells := 0, slots := 0, locals := 24 } : Room).cells ({ frames := 2, cells := 0, slots := 0, locals := 24 } : Room).slots) := by
  refine body_of (y := (⟨"com/example/hanko/hanko/access/LabelRange", "<init>", "(II)V"⟩ : MethodName)) (Q := Q3 Z o1 i1 i2 h0 n0) (plainFor_of_name pn_3) ?_
  intro p e s m below meth c T0 G C hnm X0 e0 K
  have N0 := Fr.nil n0
  refine Goes.to (congrArg T0.setTop (ef_3 m o1 i1 i2)) ?_
  have K00 := Keep.refl h0 [o1]
  refine g_aloadN C X0 d3_0 (pc' := 1) rfl rfl rfl ?_
  refine g_callI C X0 rfl (w_13 hw) (w_14 hw) (w_16 hw) (w_17 hw) (by decide) d3_1 (rm4 l Z a0 hw [] o1 h0 n0 Z0 ) (by decide) (by decide) rfl pd_0 rfl (argsL := []) (rest := []) rfl (W := 0) (Nat.le_of_eq rfl) e0 (by decide) (by decide) (pc' := 4) rfl (fun u1 T1 L1 X1 hQ1 => ?_)
  obtain ⟨rfl, Nq1, eq1⟩ := hQ1
  have N1 := Fr.app N0 Nq1
  show Goes p.tables e below G (T1.setTop (mkF m 4 #[.val (.ref o1), .val (.int i1), .val (.int i2)] []))
  refine g_iloadN C X1 d3_4 (pc' := 5) rfl rfl ?_
  refine g_iloadN C X1 d3_5 (pc' := 6) rfl rfl ?_
  refine g_icmp_le C X1 d3_6 (pcT := 27) (pcN := 9) (by decide) (by decide) rfl (fun hc6 => ?_) (fun hc6 => absurd hc6 hle)
  refine g_aloadN C X1 d3_27 (pc' := 28) rfl rfl rfl ?_
  refine g_iloadN C X1 d3_28 (pc' := 29) rfl rfl ?_
  refine g_putF C X1 (w_21 hw) Via.refl eq1 F1 F0 (Or.inr ⟨(w_22 hw), rfl, hnm⟩) (w_8 hw) (ty := .int) (by decide) rfl rfl d3_29 (pc' := 32) rfl (fun T2 h2 X2 e2 W2 => ?_)
  have f3 := F0.wr W2
  have f4 := F1.same W2
  have f5 := F2.other W2 (Or.inr (slot_ne (Or.inr (w_24 hw)) (Or.inr (w_22 hw)) (by decide) (t := .int) (t' := .int) (by decide) (by decide)))
  have N2 := Fr.snoc X2 N1 gn_o1
  have Z2 := Nat.le_trans Z0 (Nat.le_of_eq W2.size.symm)
  have K2 := K00.wr W2 (Or.inl (List.mem_of_getElem? (i := 0) rfl))
  refine g_aloadN C X2 d3_32 (pc' := 33) rfl rfl rfl ?_
  refine g_iloadN C X2 d3_33 (pc' := 34) rfl rfl ?_
  refine g_putF C X2 (w_23 hw) Via.refl e2 f5 f3 (Or.inr ⟨(w_24 hw), rfl, hnm⟩) (w_8 hw) (ty := .int) (by decide) rfl rfl d3_34 (pc' := 37) rfl (fun T6 h6 X6 e6 W6 => ?_)
  have f7 := f3.wr W6
  have f8 := f4.other W6 (Or.inr (slot_ne (Or.inr (w_22 hw)) (Or.inr (w_24 hw)) (by decide) (t := .int) (t' := .int) (by decide) (by decide)))
  have f9 := f5.same W6
  have N6 := Fr.snoc X6 N2 gn_o1
  have Z6 := Nat.le_trans Z2 (Nat.le_of_eq W6.size.symm)
  have K6 := K2.wr W6 (Or.inl (List.mem_of_getElem? (i := 0) rfl))
  exact g_retV C X6 K d3_37 (by decide) (by decide) e6 ⟨rfl, N6, K6, f7, f8, f9⟩
theorem ef_7 (m : MethodId) (o1 : Addr) : entryFrame m #[(.ref o1)] 1 = mkF m 0 #[.val (.ref o1)] [] := by first | (simp [entryFrame, mkF, argsToLocals, Value.category]; done) | rfl
theorem d7_0 : decode prog_13_method_13_code 0 = .ok (.aload_n 0, 1) := by decide +kernel
theorem d7_1 : decode prog_13_method_13_code 1 = .ok (.getfield 22, 3) := by decide +kernel
theorem d7_4 : decode prog_13_method_13_code 4 = .ok (.ireturn, 1) := by decide +kernel
def Q7 (Z : State) (o1 : Addr) (i1 : Int32) (h0 : Heap) (n0 : Nat) (v : Option Value) (h : Heap) (L : List Loc) : Prop := v = some (.int i1) ∧ Fr n0 L ∧ h = h0
set_option maxRecDepth 65536 in
set_option maxHeartbeats 40000000 in
theorem rm7 (l : Launch) (Z : State) (a0 : Array Value) (hw : ∀ d ∈ tables_1, d.before a0 Z = true) (ws : List Jvm.Cond) (o1 : Addr) (i1 : Int32) (h0 : Heap) (n0 : Nat) (Z0 : n0 ≤ h0.size) (F0 : Fld Z h0 o1 "com/example/hanko/hanko/access/LabelRange" "min" "I" (.int i1)) :
    MetFree l (⟨"com/example/hanko/hanko/access/LabelRange", "min", "()I"⟩ : MethodName) (head1 (Jvm.Cond.code (⟨"com/example/hanko/hanko/access/LabelRange", "min", "()I"⟩ : MethodName) prog_13_method_13_code 1 (some .int) :: ws) ({ frames := 0, cells := 0, slots := 0, locals := 0 } : Room)) (fun a U => a = #[(.ref o1)] ∧ Z.Warmed39 U.vm ∧ U.heap = h0) (fun _ _ _ _ _ => True) (fun _ U o U' => ∃ v L, o = .returned v ∧ Q7 Z o1 i1 h0 n0 v U'.heap L ∧ FrameEnd U o U' L ({ frames := 0, cells := 0, slots := 0, locals := 0 } : Room).cells ({ frames := 0, cells := 0, slots := 0, locals := 0 } : Room).slots) := by
  refine body_of (y := (⟨"com/example/hanko/hanko/access/LabelRange", "min", "()I"⟩ : MethodName)) (Q := Q7 Z o1 i1 h0 n0) (plainFor_of_name pn_3) ?_
  intro p e s m below meth c T0 G C hnm X0 e0 K
  have N0 := Fr.nil n0
  refine Goes.to (congrArg T0.setTop (ef_7 m o1)) ?_
  refine g_aloadN C X0 d7_0 (pc' := 1) rfl rfl rfl ?_
  refine g_getF C X0 (w_21 hw) Via.refl e0 F0 d7_1 (pc' := 4) rfl (fun T1 X1 e1 => ?_)
  exact g_retI C X1 K d7_4 (by decide) (by decide) e1 ⟨rfl, N0, rfl⟩
theorem ef_8 (m : MethodId) (o1 : Addr) : entryFrame m #[(.ref o1)] 1 = mkF m 0 #[.val (.ref o1)] [] := by first | (simp [entryFrame, mkF, argsToLocals, Value.category]; done) | rfl
theorem d8_0 : decode prog_13_method_14_code 0 = .ok (.aload_n 0, 1) := by decide +kernel
theorem d8_1 : decode prog_13_method_14_code 1 = .ok (.getfield 26, 3) := by decide +kernel
theorem d8_4 : decode prog_13_method_14_code 4 = .ok (.ireturn, 1) := by decide +kernel
def Q8 (Z : State) (o1 : Addr) (i1 : Int32) (h0 : Heap) (n0 : Nat) (v : Option Value) (h : Heap) (L : List Loc) : Prop := v = some (.int i1) ∧ Fr n0 L ∧ h = h0
set_option maxRecDepth 65536 in
set_option maxHeartbeats 40000000 in
theorem rm8 (l : Launch) (Z : State) (a0 : Array Value) (hw : ∀ d ∈ tables_1, d.before a0 Z = true) (ws : List Jvm.Cond) (o1 : Addr) (i1 : Int32) (h0 : Heap) (n0 : Nat) (Z0 : n0 ≤ h0.size) (F0 : Fld Z h0 o1 "com/example/hanko/hanko/access/LabelRange" "max" "I" (.int i1)) :
    MetFree l (⟨"com/example/hanko/hanko/access/LabelRange", "max", "()I"⟩ : MethodName) (head1 (Jvm.Cond.code (⟨"com/example/hanko/hanko/access/LabelRange", "max", "()I"⟩ : MethodName) prog_13_method_14_code 1 (some .int) :: ws) ({ frames := 0, cells := 0, slots := 0, locals := 0 } : Room)) (fun a U => a = #[(.ref o1)] ∧ Z.Warmed39 U.vm ∧ U.heap = h0) (fun _ _ _ _ _ => True) (fun _ U o U' => ∃ v L, o = .returned v ∧ Q8 Z o1 i1 h0 n0 v U'.heap L ∧ FrameEnd U o U' L ({ frames := 0, cells := 0, slots := 0, locals := 0 } : Room).cells ({ frames := 0, cells := 0, slots := 0, locals := 0 } : Room).slots) := by
  refine body_of (y := (⟨"com/example/hanko/hanko/access/LabelRange", "max", "()I"⟩ : MethodName)) (Q := Q8 Z o1 i1 h0 n0) (plainFor_of_name pn_3) ?_
  intro p e s m below meth c T0 G C hnm X0 e0 K
  have N0 := Fr.nil n0
  refine Goes.to (congrArg T0.setTop (ef_8 m o1)) ?_
  refine g_aloadN C X0 d8_0 (pc' := 1) rfl rfl rfl ?_
  refine g_getF C X0 (w_23 hw) Via.refl e0 F0 d8_1 (pc' := 4) rfl (fun T1 X1 e1 => ?_)
  exact g_retI C X1 K d8_4 (by decide) (by decide) e1 ⟨rfl, N0, rfl⟩
theorem ef_9 (m : MethodId) (o1 : Addr) (i1 : Int32) : entryFrame m #[(.ref o1), (.int i1)] 2 = mkF m 0 #[.val (.ref o1), .val (.int i1)] [] := by first | (simp [entryFrame, mkF, argsToLocals, Value.category]; done) | rfl
theorem d9_0 : decode prog_13_method_6_code 0 = .ok (.aload_n 0, 1) := by decide +kernel
theorem d9_1 : decode prog_13_method_6_code 1 = .ok (.getfield 22, 3) := by decide +kernel
theorem d9_4 : decode prog_13_method_6_code 4 = .ok (.iload_n 1, 1) := by decide +kernel
theorem d9_5 : decode prog_13_method_6_code 5 = .ok (.if_icmp .gt 15, 3) := by decide +kernel
theorem d9_20 : decode prog_13_method_6_code 20 = .ok (.iconst 0, 1) := by decide +kernel
theorem d9_21 : decode prog_13_method_6_code 21 = .ok (.ireturn, 1) := by decide +kernel
theorem d9_8 : decode prog_13_method_6_code 8 = .ok (.iload_n 1, 1) := by decide +kernel
theorem d9_9 : decode prog_13_method_6_code 9 = .ok (.aload_n 0, 1) := by decide +kernel
theorem d9_10 : decode prog_13_method_6_code 10 = .ok (.getfield 26, 3) := by decide +kernel
theorem d9_13 : decode prog_13_method_6_code 13 = .ok (.if_icmp .gt 7, 3) := by decide +kernel
theorem d9_16 : decode prog_13_method_6_code 16 = .ok (.iconst 1, 1) := by decide +kernel
theorem d9_17 : decode prog_13_method_6_code 17 = .ok (.goto 4, 3) := by decide +kernel
def fCon (i1 : Int32) (i2 : Int32) (i3 : Int32) : Int32 := if i1 < i2 then (0 : Int32) else if i3 < i1 then (0 : Int32) else (1 : Int32)
def Q9 (Z : State) (o1 : Addr) (i1 : Int32) (i2 : Int32) (i3 : Int32) (h0 : Heap) (n0 : Nat) (v : Option Value) (h : Heap) (L : List Loc) : Prop := v = some (.int (fCon i1 i2 i3)) ∧ Fr n0 L ∧ h = h0
set_option maxRecDepth 65536 in
set_option maxHeartbeats 40000000 in
theorem rm9 (l : Launch) (Z : State) (a0 : Array Value) (hw : ∀ d ∈ tables_1, d.before a0 Z = true) (ws : List Jvm.Cond) (o1 : Addr) (i1 : Int32) (i2 : Int32) (i3 : Int32) (h0 : Heap) (n0 : Nat) (Z0 : n0 ≤ h0.size) (F0 : Fld Z h0 o1 "com/example/hanko/hanko/access/LabelRange" "min" "I" (.int i2)) (F1 : Fld Z h0 o1 "com/example/hanko/hanko/access/LabelRange" "max" "I" (.int i3)) :
    MetFree l (⟨"com/example/hanko/hanko/access/LabelRange", "contains", "(I)Z"⟩ : MethodName) (head1 (Jvm.Cond.code (⟨"com/example/hanko/hanko/access/LabelRange", "contains", "(I)Z"⟩ : MethodName) prog_13_method_6_code 2 (some .boolean) :: ws) ({ frames := 0, cells := 0, slots := 0, locals := 0 } : Room)) (fun a U => a = #[(.ref o1), (.int i1)] ∧ Z.Warmed39 U.vm ∧ U.heap = h0) (fun _ _ _ _ _ => True) (fun _ U o U' => ∃ v L, o = .returned v ∧ Q9 Z o1 i1 i2 i3 h0 n0 v U'.heap L ∧ FrameEnd U o U' L ({ frames := 0, cells := 0, slots := 0, locals := 0 } : Room).cells ({ frames := 0, cells := 0, slots := 0, locals := 0 } : Room).slots) := by
  refine body_of (y := (⟨"com/example/hanko/hanko/access/LabelRange", "contains", "(I)Z"⟩ : MethodName)) (Q := Q9 Z o1 i1 i2 i3 h0 n0) (plainFor_of_name pn_3) ?_
  intro p e s m below meth c T0 G C hnm X0 e0 K
  have N0 := Fr.nil n0
  refine Goes.to (congrArg T0.setTop (ef_9 m o1 i1)) ?_
  refine g_aloadN C X0 d9_0 (pc' := 1) rfl rfl rfl ?_
  refine g_getF C X0 (w_21 hw) Via.refl e0 F0 d9_1 (pc' := 4) rfl (fun T1 X1 e1 => ?_)
  refine g_iloadN C X1 d9_4 (pc' := 5) rfl rfl ?_
  refine g_icmp_gt C X1 d9_5 (pcT := 20) (pcN := 8) (by decide) (by decide) rfl (fun hc5 => ?_) (fun hc5 => ?_)
  · refine g_iconst C X1 d9_20 (pc' := 21) rfl (v := 0) rfl ?_
    exact g_retN C X1 K (by simp) d9_21 (by decide) (by decide) e1 ⟨(by (unfold fCon; rw [if_pos hc5]) <;> rfl), N0, rfl⟩
  · refine g_iloadN C X1 d9_8 (pc' := 9) rfl rfl ?_
    refine g_aloadN C X1 d9_9 (pc' := 10) rfl rfl rfl ?_
    refine g_getF C X1 (w_23 hw) Via.refl e1 F1 d9_10 (pc' := 13) rfl (fun T2 X2 e2 => ?_)
    refine g_icmp_gt C X2 d9_13 (pcT := 20) (pcN := 16) (by decide) (by decide) rfl (fun hc13 => ?_) (fun hc13 => ?_)
    · refine g_iconst C X2 d9_20 (pc' := 21) rfl (v := 0) rfl ?_
      exact g_retN C X2 K (by simp) d9_21 (by decide) (by decide) e2 ⟨(by (unfold fCon; rw [if_neg hc5, if_pos hc13]) <;> rfl), N0, rfl⟩
    · refine g_iconst C X2 d9_16 (pc' := 17) rfl (v := 1) rfl ?_
      refine g_goto C X2 d9_17 (pc' := 21) (by decide) (by decide) ?_
      exact g_retN C X2 K (by simp) d9_21 (by decide) (by decide) e2 ⟨(by (unfold fCon; rw [if_neg hc5, if_neg hc13]) <;> rfl), N0, rfl⟩
theorem own_min (a b : Int32) : (f1 a b).toInt = min a.toInt b.toInt := by
  unfold f1; split <;> rename_i h <;> rw [Int32.lt_iff_toInt_lt] at h <;> omega
theorem own_max (a b : Int32) : (f2 a b).toInt = max a.toInt b.toInt := by
  unfold f2; split <;> rename_i h <;> rw [Int32.lt_iff_toInt_lt] at h <;> omega
theorem own_span {x y u v : Int32} (h : ¬ y < x) (h2 : ¬ v < u) : ¬ f2 y v < f1 x u := by
  rw [Int32.lt_iff_toInt_lt] at h h2 ⊢; rw [own_min, own_max]; omega
theorem ef_6 (m : MethodId) (o1 : Addr) (o2 : Addr) : entryFrame m #[(.ref o1), (.ref o2)] 2 = mkF m 0 #[.val (.ref o1), .val (.ref o2)] [] := by first | (simp [entryFrame, mkF, argsToLocals, Value.category]; done) | rfl
theorem d6_0 : decode prog_13_method_5_code 0 = .ok (.new 10, 3) := by decide +kernel
theorem w_30 {Z : State} {a0 : Array Value} (hw : ∀ d ∈ tables_1, d.before a0 Z = true) : Jvm.Cond.before (Jvm.Cond.classLink "com/example/hanko/hanko/access/LabelRange" (10 : Nat) "com/example/hanko/hanko/access/LabelRange") a0 Z = true := hw _ (List.mem_of_getElem? (i := 30) rfl)
theorem w_9 {Z : State} {a0 : Array Value} (hw : ∀ d ∈ tables_1, d.before a0 Z = true) : Jvm.Cond.before (Jvm.Cond.initialized "com/example/hanko/hanko/access/LabelRange") a0 Z = true := hw _ (List.mem_of_getElem? (i := 9) rfl)
theorem d6_3 : decode prog_13_method_5_code 3 = .ok (.dup, 1) := by decide +kernel
theorem d6_4 : decode prog_13_method_5_code 4 = .ok (.aload_n 0, 1) := by decide +kernel
theorem d6_5 : decode prog_13_method_5_code 5 = .ok (.getfield 22, 3) := by decide +kernel
theorem d6_8 : decode prog_13_method_5_code 8 = .ok (.aload_n 1, 1) := by decide +kernel
theorem d6_9 : decode prog_13_method_5_code 9 = .ok (.getfield 22, 3) := by decide +kernel
theorem d6_12 : decode prog_13_method_5_code 12 = .ok (.invokestatic 92, 3) := by decide +kernel
theorem w_3 {Z : State} {a0 : Array Value} (hw : ∀ d ∈ tables_1, d.before a0 Z = true) : Jvm.Cond.before (Jvm.Cond.code ({ cls := "java/lang/Math", name := "min", desc := "(II)I" } : Jvm.MethodName) jdk_29_method_69_code (2 : Nat) (Option.some Jvm.ClassFile.FieldType.int)) a0 Z = true := hw _ (List.mem_of_getElem? (i := 3) rfl)
theorem w_2 {Z : State} {a0 : Array Value} (hw : ∀ d ∈ tables_1, d.before a0 Z = true) : Jvm.Cond.before (Jvm.Cond.initialized "java/lang/Math") a0 Z = true := hw _ (List.mem_of_getElem? (i := 2) rfl)
theorem w_31 {Z : State} {a0 : Array Value} (hw : ∀ d ∈ tables_1, d.before a0 Z = true) : Jvm.Cond.before (Jvm.Cond.methodLink "com/example/hanko/hanko/access/LabelRange" (92 : Nat) ({ cls := "java/lang/Math", name := "min", desc := "(II)I" } : Jvm.MethodName)) a0 Z = true := hw _ (List.mem_of_getElem? (i := 31) rfl)
theorem pd_1 : parseMethodDescriptor "(II)I" = some ⟨[.int, .int], some .int⟩ := by decide +kernel
theorem w_1 {Z : State} {a0 : Array Value} (hw : ∀ d ∈ tables_1, d.before a0 Z = true) : Jvm.Cond.before (Jvm.Cond.static ({ cls := "java/lang/Math", name := "min", desc := "(II)I" } : Jvm.MethodName)) a0 Z = true := hw _ (List.mem_of_getElem? (i := 1) rfl)
theorem d6_15 : decode prog_13_method_5_code 15 = .ok (.aload_n 0, 1) := by decide +kernel
theorem d6_16 : decode prog_13_method_5_code 16 = .ok (.getfield 26, 3) := by decide +kernel
theorem d6_19 : decode prog_13_method_5_code 19 = .ok (.aload_n 1, 1) := by decide +kernel
theorem d6_20 : decode prog_13_method_5_code 20 = .ok (.getfield 26, 3) := by decide +kernel
theorem d6_23 : decode prog_13_method_5_code 23 = .ok (.invokestatic 97, 3) := by decide +kernel
theorem w_6 {Z : State} {a0 : Array Value} (hw : ∀ d ∈ tables_1, d.before a0 Z = true) : Jvm.Cond.before (Jvm.Cond.code ({ cls := "java/lang/Math", name := "max", desc := "(II)I" } : Jvm.MethodName) jdk_29_method_65_code (2 : Nat) (Option.some Jvm.ClassFile.FieldType.int)) a0 Z = true := hw _ (List.mem_of_getElem? (i := 6) rfl)
theorem w_32 {Z : State} {a0 : Array Value} (hw : ∀ d ∈ tables_1, d.before a0 Z = true) : Jvm.Cond.before (Jvm.Cond.methodLink "com/example/hanko/hanko/access/LabelRange" (97 : Nat) ({ cls := "java/lang/Math", name := "max", desc := "(II)I" } : Jvm.MethodName)) a0 Z = true := hw _ (List.mem_of_getElem? (i := 32) rfl)
theorem w_5 {Z : State} {a0 : Array Value} (hw : ∀ d ∈ tables_1, d.before a0 Z = true) : Jvm.Cond.before (Jvm.Cond.static ({ cls := "java/lang/Math", name := "max", desc := "(II)I" } : Jvm.MethodName)) a0 Z = true := hw _ (List.mem_of_getElem? (i := 5) rfl)
theorem d6_26 : decode prog_13_method_5_code 26 = .ok (.invokespecial 59, 3) := by decide +kernel
theorem w_12 {Z : State} {a0 : Array Value} (hw : ∀ d ∈ tables_1, d.before a0 Z = true) : Jvm.Cond.before (Jvm.Cond.code ({ cls := "com/example/hanko/hanko/access/LabelRange", name := "<init>", desc := "(II)V" } : Jvm.MethodName) prog_13_method_1_code (3 : Nat) (Option.none : Option Jvm.ClassFile.FieldType)) a0 Z = true := hw _ (List.mem_of_getElem? (i := 12) rfl)
theorem w_33 {Z : State} {a0 : Array Value} (hw : ∀ d ∈ tables_1, d.before a0 Z = true) : Jvm.Cond.before (Jvm.Cond.methodLink "com/example/hanko/hanko/access/LabelRange" (59 : Nat) ({ cls := "com/example/hanko/hanko/access/LabelRange", name := "<init>", desc := "(II)V" } : Jvm.MethodName)) a0 Z = true := hw _ (List.mem_of_getElem? (i := 33) rfl)
theorem pd_2 : parseMethodDescriptor "(II)V" = some ⟨[.int, .int], none⟩ := by decide +kernel
theorem w_11 {Z : State} {a0 : Array Value} (hw : ∀ d ∈ tables_1, d.before a0 Z = true) : Jvm.Cond.before (Jvm.Cond.instanceMethod ({ cls := "com/example/hanko/hanko/access/LabelRange", name := "<init>", desc := "(II)V" } : Jvm.MethodName)) a0 Z = true := hw _ (List.mem_of_getElem? (i := 11) rfl)
theorem d6_29 : decode prog_13_method_5_code 29 = .ok (.areturn, 1) := by decide +kernel
def Q6 (Z : State) (o1 : Addr) (o2 : Addr) (i1 : Int32) (i2 : Int32) (i3 : Int32) (i4 : Int32) (h0 : Heap) (n0 : Nat) (v : Option Value) (h : Heap) (L : List Loc) : Prop := ∃ o3 : Addr, v = some (.ref o3) ∧ Fr n0 L ∧ h0.size ≤ o3 ∧ Keep h0 h [] ∧ Exa Z h o3 "com/example/hanko/hanko/access/LabelRange" ∧ Fld Z h o3 "com/example/hanko/hanko/access/LabelRange" "min" "I" (.int (f1 i1 i3)) ∧ Fld Z h o3 "com/example/hanko/hanko/access/LabelRange" "max" "I" (.int (f2 i2 i4))
set_option maxRecDepth 65536 in
set_option maxHeartbeats 40000000 in
theorem rm6 (l : Launch) (Z : State) (a0 : Array Value) (hw : ∀ d ∈ tables_1, d.before a0 Z = true) (ws : List Jvm.Cond) (o1 : Addr) (o2 : Addr) (i1 : Int32) (i2 : Int32) (i3 : Int32) (i4 : Int32) (h0 : Heap) (n0 : Nat) (Z0 : n0 ≤ h0.size) (F0 : Exa Z h0 o1 "com/example/hanko/hanko/access/LabelRange") (F1 : Exa Z h0 o2 "com/example/hanko/hanko/access/LabelRange") (F2 : Fld Z h0 o1 "com/example/hanko/hanko/access/LabelRange" "min" "I" (.int i1)) (F3 : Fld Z h0 o1 "com/example/hanko/hanko/access/LabelRange" "max" "I" (.int i2)) (F4 : Fld Z h0 o2 "com/example/hanko/hanko/access/LabelRange" "min" "I" (.int i3)) (F5 : Fld Z h0 o2 "com/example/hanko/hanko/access/LabelRange" "max" "I" (.int i4)) (hxy : ¬ i2 < i1) (huv : ¬ i4 < i3) :
    MetFree l (⟨"com/example/hanko/hanko/access/LabelRange", "span", "(Lcom/example/hanko/hanko/access/LabelRange;)Lcom/example/hanko/hanko/access/LabelRange;"⟩ : MethodName) (head1 (Jvm.Cond.code (⟨"com/example/hanko/hanko/access/LabelRange", "span", "(Lcom/example/hanko/hanko/access/LabelRange;)Lcom/example/hanko/hanko/access/LabelRange;"⟩ : MethodName) prog_13_method_5_code 2 (some (.object "com/example/hanko/hanko/access/LabelRange")) :: ws) ({ frames := 3, cells := 1, slots := 2, locals := 39 } : Room)) (fun a U => a = #[(.ref o1), (.ref o2)] ∧ Z.Warmed39 U.vm ∧ U.heap = h0) (fun _ _ _ _ _ => True) (fun _ U o U' => ∃ v L, o = .returned v ∧ Q6 Z o1 o2 i1 i2 i3 i4 h0 n0 v U'.heap L ∧ FrameEnd U o U' L ({ frames := 3, cells := 1, slots := 2, locals := 39 } : Room).cells ({ frames := 3, cells := 1, slots := 2, locals := 39 } : Room).slots) := by
  refine body_of (y := (⟨"com/example/hanko/hanko/access/LabelRange", "span", "(Lcom/example/hanko/hanko/access/LabelRange;)Lcom/example/hanko/hanko/access/LabelRange;"⟩ : MethodName)) (Q := Q6 Z o1 o2 i1 i2 i3 i4 h0 n0) (plainFor_of_name pn_3) ?_
  intro p e s m below meth c T0 G C hnm X0 e0 K
  have N0 := Fr.nil n0
  refine Goes.to (congrArg T0.setTop (ef_6 m o1 o2)) ?_
  have K00 := Keep.refl h0 []
  refine g_new C X0 (w_30 hw) (w_8 hw) (w_9 hw) e0 d6_0 (pc' := 3) rfl (by decide) (by decide) (fun T1 h1 b1 X1 e1 g1 E1 A1 D1 => ?_)
  have n2 : o1 ≠ b1 := Nat.ne_of_lt (Nat.lt_of_lt_of_eq F0.lt g1.symm)
  have n3 : o2 ≠ b1 := Nat.ne_of_lt (Nat.lt_of_lt_of_eq F1.lt g1.symm)
  have f4 := F0.ext E1
  have f5 := F1.ext E1
  have f6 := F2.ext E1
  have f7 := F3.ext E1
  have f8 := F4.ext E1
  have f9 := F5.ext E1
  have gn_b1 : n0 ≤ b1 := Nat.le_trans Z0 (Nat.le_of_eq g1.symm)
  have Z1 := Nat.le_trans Z0 E1.1
  have sz_b1 : h0.size ≤ b1 := Nat.le_trans K00.1 (Nat.le_of_eq g1.symm)
  have K1 := K00.ext E1
  have f10 : Fld Z h1 b1 "com/example/hanko/hanko/access/LabelRange" "min" "I" (.int (0 : Int32)) := D1 (Or.inr (w_22 hw)) (ty := .int) (by decide)
  have f11 : Fld Z h1 b1 "com/example/hanko/hanko/access/LabelRange" "max" "I" (.int (0 : Int32)) := D1 (Or.inr (w_24 hw)) (ty := .int) (by decide)
  refine g_dup C X1 d6_3 (pc' := 4) rfl rfl ?_
  refine g_aloadN C X1 d6_4 (pc' := 5) rfl rfl rfl ?_
  refine g_getF C X1 (w_21 hw) Via.refl e1 f6 d6_5 (pc' := 8) rfl (fun T12 X12 e12 => ?_)
  refine g_aloadN C X12 d6_8 (pc' := 9) rfl rfl rfl ?_
  refine g_getF C X12 (w_21 hw) Via.refl e12 f8 d6_9 (pc' := 12) rfl (fun T13 X13 e13 => ?_)
  refine g_callS C X13 (w_31 hw) (w_1 hw) (w_2 hw) (w_3 hw) (by decide) d6_12 (rm1 l Z a0 hw [] i1 i3 h1 n0 Z1) (by decide) (by decide) rfl pd_1 rfl (argsL := [(.int i1), (.int i3)]) (rest := [(.ref b1), (.ref b1)]) rfl (W := 2) (Nat.le_of_eq rfl) e13 (by decide) (by decide) (pc' := 15) rfl (fun u14 T14 L14 X14 hQ14 => ?_)
  obtain ⟨rfl, Nq14, eq14⟩ := hQ14
  have N14 := Fr.app N0 Nq14
  show Goes p.tables e below G (T14.setTop (mkF m 15 #[.val (.ref o1), .val (.ref o2)] [(.int (f1 i1 i3)), (.ref b1), (.ref b1)]))
  refine g_aloadN C X14 d6_15 (pc' := 16) rfl rfl rfl ?_
  refine g_getF C X14 (w_23 hw) Via.refl eq14 f7 d6_16 (pc' := 19) rfl (fun T15 X15 e15 => ?_)
  refine g_aloadN C X15 d6_19 (pc' := 20) rfl rfl rfl ?_
  refine g_getF C X15 (w_23 hw) Via.refl e15 f9 d6_20 (pc' := 23) rfl (fun T16 X16 e16 => ?_)
  refine g_callS C X16 (w_32 hw) (w_5 hw) (w_2 hw) (w_6 hw) (by decide) d6_23 (rm2 l Z a0 hw [] i2 i4 h1 n0 Z1) (by decide) (by decide) rfl pd_1 rfl (argsL := [(.int i2), (.int i4)]) (rest := [(.int (f1 i1 i3)), (.ref b1), (.ref b1)]) rfl (W := 3) (Nat.le_of_eq rfl) e16 (by decide) (by decide) (pc' := 26) rfl (fun u17 T17 L17 X17 hQ17 => ?_)
  obtain ⟨rfl, Nq17, eq17⟩ := hQ17
  have N17 := Fr.app N14 Nq17
  show Goes p.tables e below G (T17.setTop (mkF m 26 #[.val (.ref o1), .val (.ref o2)] [(.int (f2 i2 i4)), (.int (f1 i1 i3)), (.ref b1), (.ref b1)]))
  refine g_callI C X17 rfl (w_33 hw) (w_11 hw) (w_9 hw) (w_12 hw) (by decide) d6_26 (rm3 l Z a0 hw [] b1 (f1 i1 i3) (f2 i2 i4) h1 n0 Z1 A1 f10 f11 gn_b1 (own_span hxy huv)) (by decide) (by decide) rfl pd_2 rfl (argsL := [(.int (f1 i1 i3)), (.int (f2 i2 i4))]) (rest := [(.ref b1)]) rfl (W := 1) (Nat.le_of_eq rfl) eq17 (by decide) (by decide) (pc' := 29) rfl (fun u18 T18 L18 X18 hQ18 => ?_)
  obtain ⟨rfl, Nq18, Kq18, q18_0, q18_1, q18_2⟩ := hQ18
  have N18 := Fr.app N17 Nq18
  have f19 := f4.keep Kq18
  have f20 := f5.keep Kq18
  have f21 := f6.keep Kq18 (ninS n2 nin0)
  have f22 := f7.keep Kq18 (ninS n2 nin0)
  have f23 := f8.keep Kq18 (ninS n3 nin0)
  have f24 := f9.keep Kq18 (ninS n3 nin0)
  have f25 := A1.keep Kq18
  have Z18 := Nat.le_trans Z1 Kq18.1
  have K18 := K1.trans Kq18 (allS (Or.inr sz_b1) all0)
  show Goes p.tables e below G (T18.setTop (mkF m 29 #[.val (.ref o1), .val (.ref o2)] [(.ref b1)]))
  exact g_retA C X18 K rfl rfl rfl d6_29 (by decide) (by decide) rfl ⟨b1, rfl, N18, sz_b1, K18, q18_0, q18_1, q18_2⟩
theorem own_mm (a b : Int32) : ¬ f2 a b < f1 a b := by
  rw [Int32.lt_iff_toInt_lt, own_min, own_max]; omega
theorem own_in {lo hi v : Int32} (h1 : f1 lo v = lo) (h2 : f2 hi v = hi) : fCon v lo hi = 1 := by
  have e1 := own_min lo v; have e2 := own_max hi v; rw [h1] at e1; rw [h2] at e2
  unfold fCon; rw [if_neg (by rw [Int32.lt_iff_toInt_lt]; omega), if_neg (by rw [Int32.lt_iff_toInt_lt]; omega)]
theorem own_lo {lo hi v : Int32} (h1 : ¬ f1 lo v = lo) : fCon v lo hi = 0 := by
  have e1 := own_min lo v; rw [← Int32.toInt_inj] at h1
  unfold fCon; rw [if_pos (by rw [Int32.lt_iff_toInt_lt]; omega)]
theorem own_hi {lo hi v : Int32} (h2 : ¬ f2 hi v = hi) : fCon v lo hi = 0 := by
  have e2 := own_max hi v; rw [← Int32.toInt_inj] at h2
  unfold fCon; split
  · rfl
  · rw [if_pos (by rw [Int32.lt_iff_toInt_lt]; omega)]
theorem ef_0 (m : MethodId) (p0 : Int32) (p1 : Int32) (p2 : Int32) (p3 : Int32) : entryFrame m #[(.int p0), (.int p1), (.int p2), (.int p3)] maxLocals = mkF m 0 #[.val (.int p0), .val (.int p1), .val (.int p2), .val (.int p3), .unset, .unset, .unset, .unset, .unset, .unset, .unset, .unset, .unset] [] := by first | (simp [entryFrame, mkF, argsToLocals, Value.category, maxLocals]; done) | rfl
theorem w_0 {Z : State} {a0 : Array Value} (hw : ∀ d ∈ tables_1, d.before a0 Z = true) : Jvm.Cond.before (Jvm.Cond.methodLink "com/example/hanko/hanko/access/LabelRangeContainsPinLaw" (7 : Nat) ({ cls := "java/lang/Math", name := "min", desc := "(II)I" } : Jvm.MethodName)) a0 Z = true := hw _ (List.mem_of_getElem? (i := 0) rfl)
theorem w_4 {Z : State} {a0 : Array Value} (hw : ∀ d ∈ tables_1, d.before a0 Z = true) : Jvm.Cond.before (Jvm.Cond.methodLink "com/example/hanko/hanko/access/LabelRangeContainsPinLaw" (13 : Nat) ({ cls := "java/lang/Math", name := "max", desc := "(II)I" } : Jvm.MethodName)) a0 Z = true := hw _ (List.mem_of_getElem? (i := 4) rfl)
theorem w_7 {Z : State} {a0 : Array Value} (hw : ∀ d ∈ tables_1, d.before a0 Z = true) : Jvm.Cond.before (Jvm.Cond.classLink "com/example/hanko/hanko/access/LabelRangeContainsPinLaw" (16 : Nat) "com/example/hanko/hanko/access/LabelRange") a0 Z = true := hw _ (List.mem_of_getElem? (i := 7) rfl)
theorem w_10 {Z : State} {a0 : Array Value} (hw : ∀ d ∈ tables_1, d.before a0 Z = true) : Jvm.Cond.before (Jvm.Cond.methodLink "com/example/hanko/hanko/access/LabelRangeContainsPinLaw" (18 : Nat) ({ cls := "com/example/hanko/hanko/access/LabelRange", name := "<init>", desc := "(II)V" } : Jvm.MethodName)) a0 Z = true := hw _ (List.mem_of_getElem? (i := 10) rfl)
theorem w_29 {Z : State} {a0 : Array Value} (hw : ∀ d ∈ tables_1, d.before a0 Z = true) : Jvm.Cond.before (Jvm.Cond.code ({ cls := "com/example/hanko/hanko/access/LabelRange", name := "span", desc := "(Lcom/example/hanko/hanko/access/LabelRange;)Lcom/example/hanko/hanko/access/LabelRange;" } : Jvm.MethodName) prog_13_method_5_code (2 : Nat) (Option.some (Jvm.ClassFile.FieldType.object "com/example/hanko/hanko/access/LabelRange"))) a0 Z = true := hw _ (List.mem_of_getElem? (i := 29) rfl)
theorem w_25 {Z : State} {a0 : Array Value} (hw : ∀ d ∈ tables_1, d.before a0 Z = true) : Jvm.Cond.before (Jvm.Cond.methodLink "com/example/hanko/hanko/access/LabelRangeContainsPinLaw" (21 : Nat) ({ cls := "com/example/hanko/hanko/access/LabelRange", name := "span", desc := "(Lcom/example/hanko/hanko/access/LabelRange;)Lcom/example/hanko/hanko/access/LabelRange;" } : Jvm.MethodName)) a0 Z = true := hw _ (List.mem_of_getElem? (i := 25) rfl)
theorem pd_3 : parseMethodDescriptor "(Lcom/example/hanko/hanko/access/LabelRange;)Lcom/example/hanko/hanko/access/LabelRange;" = some ⟨[(.object "com/example/hanko/hanko/access/LabelRange")], some (.object "com/example/hanko/hanko/access/LabelRange")⟩ := by decide +kernel
theorem w_28 {Z : State} {a0 : Array Value} (hw : ∀ d ∈ tables_1, d.before a0 Z = true) : Jvm.Cond.before (Jvm.Cond.selects "com/example/hanko/hanko/access/LabelRange" ({ cls := "com/example/hanko/hanko/access/LabelRange", name := "span", desc := "(Lcom/example/hanko/hanko/access/LabelRange;)Lcom/example/hanko/hanko/access/LabelRange;" } : Jvm.MethodName) ({ cls := "com/example/hanko/hanko/access/LabelRange", name := "span", desc := "(Lcom/example/hanko/hanko/access/LabelRange;)Lcom/example/hanko/hanko/access/LabelRange;" } : Jvm.MethodName)) a0 Z = true := hw _ (List.mem_of_getElem? (i := 28) rfl)
theorem w_26 {Z : State} {a0 : Array Value} (hw : ∀ d ∈ tables_1, d.before a0 Z = true) : Jvm.Cond.before (Jvm.Cond.declares ({ cls := "com/example/hanko/hanko/access/LabelRange", name := "span", desc := "(Lcom/example/hanko/hanko/access/LabelRange;)Lcom/example/hanko/hanko/access/LabelRange;" } : Jvm.MethodName)) a0 Z = true := hw _ (List.mem_of_getElem? (i := 26) rfl)
theorem w_27 {Z : State} {a0 : Array Value} (hw : ∀ d ∈ tables_1, d.before a0 Z = true) : Jvm.Cond.before (Jvm.Cond.instanceMethod ({ cls := "com/example/hanko/hanko/access/LabelRange", name := "span", desc := "(Lcom/example/hanko/hanko/access/LabelRange;)Lcom/example/hanko/hanko/access/LabelRange;" } : Jvm.MethodName)) a0 Z = true := hw _ (List.mem_of_getElem? (i := 27) rfl)
theorem w_38 {Z : State} {a0 : Array Value} (hw : ∀ d ∈ tables_1, d.before a0 Z = true) : Jvm.Cond.before (Jvm.Cond.code ({ cls := "com/example/hanko/hanko/access/LabelRange", name := "min", desc := "()I" } : Jvm.MethodName) prog_13_method_13_code (1 : Nat) (Option.some Jvm.ClassFile.FieldType.int)) a0 Z = true := hw _ (List.mem_of_getElem? (i := 38) rfl)
theorem w_34 {Z : State} {a0 : Array Value} (hw : ∀ d ∈ tables_1, d.before a0 Z = true) : Jvm.Cond.before (Jvm.Cond.methodLink "com/example/hanko/hanko/access/LabelRangeContainsPinLaw" (25 : Nat) ({ cls := "com/example/hanko/hanko/access/LabelRange", name := "min", desc := "()I" } : Jvm.MethodName)) a0 Z = true := hw _ (List.mem_of_getElem? (i := 34) rfl)
theorem pd_4 : parseMethodDescriptor "()I" = some ⟨[], some .int⟩ := by decide +kernel
theorem w_37 {Z : State} {a0 : Array Value} (hw : ∀ d ∈ tables_1, d.before a0 Z = true) : Jvm.Cond.before (Jvm.Cond.selects "com/example/hanko/hanko/access/LabelRange" ({ cls := "com/example/hanko/hanko/access/LabelRange", name := "min", desc := "()I" } : Jvm.MethodName) ({ cls := "com/example/hanko/hanko/access/LabelRange", name := "min", desc := "()I" } : Jvm.MethodName)) a0 Z = true := hw _ (List.mem_of_getElem? (i := 37) rfl)
theorem w_35 {Z : State} {a0 : Array Value} (hw : ∀ d ∈ tables_1, d.before a0 Z = true) : Jvm.Cond.before (Jvm.Cond.declares ({ cls := "com/example/hanko/hanko/access/LabelRange", name := "min", desc := "()I" } : Jvm.MethodName)) a0 Z = true := hw _ (List.mem_of_getElem? (i := 35) rfl)
theorem w_36 {Z : State} {a0 : Array Value} (hw : ∀ d ∈ tables_1, d.before a0 Z = true) : Jvm.Cond.before (Jvm.Cond.instanceMethod ({ cls := "com/example/hanko/hanko/access/LabelRange", name := "min", desc := "()I" } : Jvm.MethodName)) a0 Z = true := hw _ (List.mem_of_getElem? (i := 36) rfl)
theorem w_48 {Z : State} {a0 : Array Value} (hw : ∀ d ∈ tables_1, d.before a0 Z = true) : Jvm.Cond.before (Jvm.Cond.code ({ cls := "com/example/hanko/hanko/access/LabelRange", name := "contains", desc := "(I)Z" } : Jvm.MethodName) prog_13_method_6_code (2 : Nat) (Option.some Jvm.ClassFile.FieldType.boolean)) a0 Z = true := hw _ (List.mem_of_getElem? (i := 48) rfl)
theorem w_44 {Z : State} {a0 : Array Value} (hw : ∀ d ∈ tables_1, d.before a0 Z = true) : Jvm.Cond.before (Jvm.Cond.methodLink "com/example/hanko/hanko/access/LabelRangeContainsPinLaw" (30 : Nat) ({ cls := "com/example/hanko/hanko/access/LabelRange", name := "contains", desc := "(I)Z" } : Jvm.MethodName)) a0 Z = true := hw _ (List.mem_of_getElem? (i := 44) rfl)
theorem pd_5 : parseMethodDescriptor "(I)Z" = some ⟨[.int], some .boolean⟩ := by decide +kernel
theorem w_47 {Z : State} {a0 : Array Value} (hw : ∀ d ∈ tables_1, d.before a0 Z = true) : Jvm.Cond.before (Jvm.Cond.selects "com/example/hanko/hanko/access/LabelRange" ({ cls := "com/example/hanko/hanko/access/LabelRange", name := "contains", desc := "(I)Z" } : Jvm.MethodName) ({ cls := "com/example/hanko/hanko/access/LabelRange", name := "contains", desc := "(I)Z" } : Jvm.MethodName)) a0 Z = true := hw _ (List.mem_of_getElem? (i := 47) rfl)
theorem w_45 {Z : State} {a0 : Array Value} (hw : ∀ d ∈ tables_1, d.before a0 Z = true) : Jvm.Cond.before (Jvm.Cond.declares ({ cls := "com/example/hanko/hanko/access/LabelRange", name := "contains", desc := "(I)Z" } : Jvm.MethodName)) a0 Z = true := hw _ (List.mem_of_getElem? (i := 45) rfl)
theorem w_46 {Z : State} {a0 : Array Value} (hw : ∀ d ∈ tables_1, d.before a0 Z = true) : Jvm.Cond.before (Jvm.Cond.instanceMethod ({ cls := "com/example/hanko/hanko/access/LabelRange", name := "contains", desc := "(I)Z" } : Jvm.MethodName)) a0 Z = true := hw _ (List.mem_of_getElem? (i := 46) rfl)
theorem w_43 {Z : State} {a0 : Array Value} (hw : ∀ d ∈ tables_1, d.before a0 Z = true) : Jvm.Cond.before (Jvm.Cond.code ({ cls := "com/example/hanko/hanko/access/LabelRange", name := "max", desc := "()I" } : Jvm.MethodName) prog_13_method_14_code (1 : Nat) (Option.some Jvm.ClassFile.FieldType.int)) a0 Z = true := hw _ (List.mem_of_getElem? (i := 43) rfl)
theorem w_39 {Z : State} {a0 : Array Value} (hw : ∀ d ∈ tables_1, d.before a0 Z = true) : Jvm.Cond.before (Jvm.Cond.methodLink "com/example/hanko/hanko/access/LabelRangeContainsPinLaw" (28 : Nat) ({ cls := "com/example/hanko/hanko/access/LabelRange", name := "max", desc := "()I" } : Jvm.MethodName)) a0 Z = true := hw _ (List.mem_of_getElem? (i := 39) rfl)
theorem w_42 {Z : State} {a0 : Array Value} (hw : ∀ d ∈ tables_1, d.before a0 Z = true) : Jvm.Cond.before (Jvm.Cond.selects "com/example/hanko/hanko/access/LabelRange" ({ cls := "com/example/hanko/hanko/access/LabelRange", name := "max", desc := "()I" } : Jvm.MethodName) ({ cls := "com/example/hanko/hanko/access/LabelRange", name := "max", desc := "()I" } : Jvm.MethodName)) a0 Z = true := hw _ (List.mem_of_getElem? (i := 42) rfl)
theorem w_40 {Z : State} {a0 : Array Value} (hw : ∀ d ∈ tables_1, d.before a0 Z = true) : Jvm.Cond.before (Jvm.Cond.declares ({ cls := "com/example/hanko/hanko/access/LabelRange", name := "max", desc := "()I" } : Jvm.MethodName)) a0 Z = true := hw _ (List.mem_of_getElem? (i := 40) rfl)
theorem w_41 {Z : State} {a0 : Array Value} (hw : ∀ d ∈ tables_1, d.before a0 Z = true) : Jvm.Cond.before (Jvm.Cond.instanceMethod ({ cls := "com/example/hanko/hanko/access/LabelRange", name := "max", desc := "()I" } : Jvm.MethodName)) a0 Z = true := hw _ (List.mem_of_getElem? (i := 41) rfl)
def Q0 (Z : State) (p0 : Int32) (p1 : Int32) (p2 : Int32) (p3 : Int32) (h0 : Heap) (n0 : Nat) (v : Option Value) (h : Heap) (L : List Loc) : Prop := v = some (.int 1) ∧ Fr n0 L
theorem pn_0 : plainName "com/example/hanko/hanko/access/LabelRangeContainsPinLaw" = true := by first | (simp [plainName, overriddenIn]; done) | decide +kernel
set_option maxRecDepth 65536 in
set_option maxHeartbeats 40000000 in
theorem rm0 (l : Launch) (Z : State) (a0 : Array Value) (hw : ∀ d ∈ tables_1, d.before a0 Z = true) (ws : List Jvm.Cond) (p0 : Int32) (p1 : Int32) (p2 : Int32) (p3 : Int32) (h0 : Heap) (n0 : Nat) (Z0 : n0 ≤ h0.size) :
    MetFree l x (head1 (Jvm.Cond.code x code maxLocals ret :: ws) room_1) (fun a U => a = #[(.int p0), (.int p1), (.int p2), (.int p3)] ∧ Z.Warmed39 U.vm ∧ U.heap = h0) (fun _ _ _ _ _ => True) (fun _ U o U' => ∃ v L, o = .returned v ∧ Q0 Z p0 p1 p2 p3 h0 n0 v U'.heap L ∧ FrameEnd U o U' L room_1.cells room_1.slots) := by
  refine body_of (y := x) (Q := Q0 Z p0 p1 p2 p3 h0 n0) (plainFor_of_name pn_0) ?_
  intro p e s m below meth c T0 G C hnm X0 e0 K
  have N0 := Fr.nil n0
  refine Goes.to (congrArg T0.setTop (ef_0 m p0 p1 p2 p3)) ?_
  refine g_iloadN C X0 at_0 (pc' := 1) rfl rfl ?_
  refine g_iloadN C X0 at_1 (pc' := 2) rfl rfl ?_
  refine g_callS C X0 (w_0 hw) (w_1 hw) (w_2 hw) (w_3 hw) (by decide) at_2 (rm1 l Z a0 hw [] p0 p1 h0 n0 Z0) (by decide) (by decide) rfl pd_1 rfl (argsL := [(.int p0), (.int p1)]) (rest := []) rfl (W := 0) (Nat.le_of_eq rfl) e0 (by decide) (by decide) (pc' := 5) rfl (fun u1 T1 L1 X1 hQ1 => ?_)
  obtain ⟨rfl, Nq1, eq1⟩ := hQ1
  have N1 := Fr.app N0 Nq1
  obtain ⟨r1, hr1⟩ : ∃ z : Int32, f1 p0 p1 = z := ⟨_, rfl⟩
  rw [hr1]
  show Goes p.tables e below G (T1.setTop (mkF m 5 #[.val (.int p0), .val (.int p1), .val (.int p2), .val (.int p3), .unset, .unset, .unset, .unset, .unset, .unset, .unset, .unset, .unset] [(.int r1)]))
  refine g_istore C X1 at_5 (pc' := 7) rfl (w := r1) rfl (ls' := #[.val (.int p0), .val (.int p1), .val (.int p2), .val (.int p3), .val (.int r1), .unset, .unset, .unset, .unset, .unset, .unset, .unset, .unset]) rfl ?_
  refine g_iloadN C X1 at_7 (pc' := 8) rfl rfl ?_
  refine g_iloadN C X1 at_8 (pc' := 9) rfl rfl ?_
  refine g_callS C X1 (w_4 hw) (w_5 hw) (w_2 hw) (w_6 hw) (by decide) at_9 (rm2 l Z a0 hw [] p0 p1 h0 n0 Z0) (by decide) (by decide) rfl pd_1 rfl (argsL := [(.int p0), (.int p1)]) (rest := []) rfl (W := 0) (Nat.le_of_eq rfl) eq1 (by decide) (by decide) (pc' := 12) rfl (fun u2 T2 L2 X2 hQ2 => ?_)
  obtain ⟨rfl, Nq2, eq2⟩ := hQ2
  have N2 := Fr.app N1 Nq2
  obtain ⟨r2, hr2⟩ : ∃ z : Int32, f2 p0 p1 = z := ⟨_, rfl⟩
  rw [hr2]
  show Goes p.tables e below G (T2.setTop (mkF m 12 #[.val (.int p0), .val (.int p1), .val (.int p2), .val (.int p3), .val (.int r1), .unset, .unset, .unset, .unset, .unset, .unset, .unset, .unset] [(.int r2)]))
  refine g_istore C X2 at_12 (pc' := 14) rfl (w := r2) rfl (ls' := #[.val (.int p0), .val (.int p1), .val (.int p2), .val (.int p3), .val (.int r1), .val (.int r2), .unset, .unset, .unset, .unset, .unset, .unset, .unset]) rfl ?_
  refine g_iloadN C X2 at_14 (pc' := 15) rfl rfl ?_
  refine g_iconst C X2 at_15 (pc' := 16) rfl (v := 3) rfl ?_
  refine g_iand C X2 at_16 (pc' := 17) rfl ?_
  obtain ⟨v3, hv3⟩ : ∃ z : Int32, (p3 &&& (3 : Int32)) = z := ⟨_, rfl⟩
  refine g_istore C X2 at_17 (pc' := 19) rfl (w := v3) hv3 (ls' := #[.val (.int p0), .val (.int p1), .val (.int p2), .val (.int p3), .val (.int r1), .val (.int r2), .val (.int v3), .unset, .unset, .unset, .unset, .unset, .unset]) rfl ?_
  refine g_iloadN C X2 at_19 (pc' := 20) rfl rfl ?_
  refine g_iconst C X2 at_20 (pc' := 21) rfl (v := 3) rfl ?_
  refine g_iand C X2 at_21 (pc' := 22) rfl ?_
  refine g_iconst C X2 at_22 (pc' := 23) rfl (v := 2) rfl ?_
  refine g_isub C X2 at_23 (pc' := 24) rfl ?_
  obtain ⟨v4, hv4⟩ : ∃ z : Int32, ((p2 &&& (3 : Int32)) - (2 : Int32)) = z := ⟨_, rfl⟩
  refine g_istore C X2 at_24 (pc' := 26) rfl (w := v4) hv4 (ls' := #[.val (.int p0), .val (.int p1), .val (.int p2), .val (.int p3), .val (.int r1), .val (.int r2), .val (.int v3), .val (.int v4), .unset, .unset, .unset, .unset, .unset]) rfl ?_
  refine g_iload C X2 at_26 (pc' := 28) rfl rfl ?_
  refine g_if_ne C X2 at_28 (pcT := 37) (pcN := 31) (by decide) (by decide) rfl (fun hc28 => ?_) (fun hc28 => ?_)
  · refine g_iload C X2 at_37 (pc' := 39) rfl rfl ?_
    refine g_iconst C X2 at_39 (pc' := 40) rfl (v := 1) rfl ?_
    refine g_icmp_ne C X2 at_40 (pcT := 53) (pcN := 43) (by decide) (by decide) rfl (fun hc40 => ?_) (fun hc40 => ?_)
    · refine g_iload C X2 at_53 (pc' := 55) rfl rfl ?_
      refine g_iconst C X2 at_55 (pc' := 56) rfl (v := 2) rfl ?_
      refine g_icmp_ne C X2 at_56 (pcT := 69) (pcN := 59) (by decide) (by decide) rfl (fun hc56 => ?_) (fun hc56 => ?_)
      · refine g_iload C X2 at_69 (pc' := 71) rfl rfl ?_
        refine g_istore C X2 at_71 (pc' := 73) rfl (w := r1) rfl (ls' := #[.val (.int p0), .val (.int p1), .val (.int p2), .val (.int p3), .val (.int r1), .val (.int r2), .val (.int v3), .val (.int v4), .val (.int r1), .unset, .unset, .unset, .unset]) rfl ?_
        refine g_new C X2 (w_7 hw) (w_8 hw) (w_9 hw) eq2 at_73 (pc' := 76) rfl (by decide) (by decide) (fun T5 h5 b5 X5 e5 g5 E5 A5 D5 => ?_)
        have gn_b5 : n0 ≤ b5 := Nat.le_trans Z0 (Nat.le_of_eq g5.symm)
        have Z5 := Nat.le_trans Z0 E5.1
        have f6 : Fld Z h5 b5 "com/example/hanko/hanko/access/LabelRange" "min" "I" (.int (0 : Int32)) := D5 (Or.inr (w_22 hw)) (ty := .int) (by decide)
        have f7 : Fld Z h5 b5 "com/example/hanko/hanko/access/LabelRange" "max" "I" (.int (0 : Int32)) := D5 (Or.inr (w_24 hw)) (ty := .int) (by decide)
        refine g_dup C X5 at_76 (pc' := 77) rfl rfl ?_
        refine g_iload C X5 at_77 (pc' := 79) rfl rfl ?_
        refine g_iload C X5 at_79 (pc' := 81) rfl rfl ?_
        refine g_callI C X5 rfl (w_10 hw) (w_11 hw) (w_9 hw) (w_12 hw) (by decide) at_81 (rm3 l Z a0 hw [] b5 r1 r2 h5 n0 Z5 A5 f6 f7 gn_b5 (by rw [← hr1, ← hr2]; exact own_mm p0 p1)) (by decide) (by decide) rfl pd_2 rfl (argsL := [(.int r1), (.int r2)]) (rest := [(.ref b5)]) rfl (W := 1) (Nat.le_of_eq rfl) e5 (by decide) (by decide) (pc' := 84) rfl (fun u8 T8 L8 X8 hQ8 => ?_)
        obtain ⟨rfl, Nq8, Kq8, q8_0, q8_1, q8_2⟩ := hQ8
        have N8 := Fr.app N2 Nq8
        have f9 := A5.keep Kq8
        have Z8 := Nat.le_trans Z5 Kq8.1
        show Goes p.tables e below G (T8.setTop (mkF m 84 #[.val (.int p0), .val (.int p1), .val (.int p2), .val (.int p3), .val (.int r1), .val (.int r2), .val (.int v3), .val (.int v4), .val (.int r1), .unset, .unset, .unset, .unset] [(.ref b5)]))
        refine g_astore C X8 at_84 (pc' := 86) rfl rfl (ls' := #[.val (.int p0), .val (.int p1), .val (.int p2), .val (.int p3), .val (.int r1), .val (.int r2), .val (.int v3), .val (.int v4), .val (.int r1), .val (.ref b5), .unset, .unset, .unset]) rfl ?_
        refine g_new C X8 (w_7 hw) (w_8 hw) (w_9 hw) rfl at_86 (pc' := 89) rfl (by decide) (by decide) (fun T10 h10 b10 X10 e10 g10 E10 A10 D10 => ?_)
        have n11 : b5 ≠ b10 := Nat.ne_of_lt (Nat.lt_of_lt_of_eq q8_0.lt g10.symm)
        have f12 := q8_0.ext E10
        have f13 := q8_1.ext E10
        have f14 := q8_2.ext E10
        have gn_b10 : n0 ≤ b10 := Nat.le_trans Z8 (Nat.le_of_eq g10.symm)
        have Z10 := Nat.le_trans Z8 E10.1
        have f15 : Fld Z h10 b10 "com/example/hanko/hanko/access/LabelRange" "min" "I" (.int (0 : Int32)) := D10 (Or.inr (w_22 hw)) (ty := .int) (by decide)
        have f16 : Fld Z h10 b10 "com/example/hanko/hanko/access/LabelRange" "max" "I" (.int (0 : Int32)) := D10 (Or.inr (w_24 hw)) (ty := .int) (by decide)
        refine g_dup C X10 at_89 (pc' := 90) rfl rfl ?_
        refine g_iload C X10 at_90 (pc' := 92) rfl rfl ?_
        refine g_iload C X10 at_92 (pc' := 94) rfl rfl ?_
        refine g_callI C X10 rfl (w_10 hw) (w_11 hw) (w_9 hw) (w_12 hw) (by decide) at_94 (rm3 l Z a0 hw [] b10 r1 r1 h10 n0 Z10 A10 f15 f16 gn_b10 (fun q => Int32.lt_irrefl q)) (by decide) (by decide) rfl pd_2 rfl (argsL := [(.int r1), (.int r1)]) (rest := [(.ref b10)]) rfl (W := 1) (Nat.le_of_eq rfl) e10 (by decide) (by decide) (pc' := 97) rfl (fun u17 T17 L17 X17 hQ17 => ?_)
        obtain ⟨rfl, Nq17, Kq17, q17_0, q17_1, q17_2⟩ := hQ17
        have N17 := Fr.app N8 Nq17
        have f18 := f12.keep Kq17
        have f19 := f13.keep Kq17 (ninS n11 nin0)
        have f20 := f14.keep Kq17 (ninS n11 nin0)
        have f21 := A10.keep Kq17
        have Z17 := Nat.le_trans Z10 Kq17.1
        show Goes p.tables e below G (T17.setTop (mkF m 97 #[.val (.int p0), .val (.int p1), .val (.int p2), .val (.int p3), .val (.int r1), .val (.int r2), .val (.int v3), .val (.int v4), .val (.int r1), .val (.ref b5), .unset, .unset, .unset] [(.ref b10)]))
        refine g_astore C X17 at_97 (pc' := 99) rfl rfl (ls' := #[.val (.int p0), .val (.int p1), .val (.int p2), .val (.int p3), .val (.int r1), .val (.int r2), .val (.int v3), .val (.int v4), .val (.int r1), .val (.ref b5), .val (.ref b10), .unset, .unset]) rfl ?_
        refine g_aload C X17 at_99 (pc' := 101) rfl rfl rfl ?_
        refine g_aload C X17 at_101 (pc' := 103) rfl rfl rfl ?_
        refine g_callV C X17 (w_25 hw) (w_26 hw) (notFace_of_selects (args := #[]) (mvT C.2.1 (w_28 hw))) (w_28 hw) (w_27 hw) (w_29 hw) (w_9 hw) (by decide) f18 at_103 (rm6 l Z a0 hw [] b5 b10 r1 r2 r1 r1 T17.heap n0 Z17 f18 q17_0 f19 f20 q17_1 q17_2 (by rw [← hr1, ← hr2]; exact own_mm p0 p1) (fun q => Int32.lt_irrefl q)) (by decide) (by decide) rfl pd_3 rfl (argsL := [(.ref b10)]) (rest := []) rfl (W := 0) (Nat.le_of_eq rfl) rfl (by decide) (by decide) (pc' := 106) rfl (fun u22 T22 L22 X22 hQ22 => ?_)
        obtain ⟨o322, rfl, Nq22, szo322, Kq22, q22_0, q22_1, q22_2⟩ := hQ22
        have N22 := Fr.app N17 Nq22
        have n23 : b10 ≠ o322 := Nat.ne_of_lt (Nat.lt_of_lt_of_le q17_0.lt szo322)
        have n24 : b5 ≠ o322 := Nat.ne_of_lt (Nat.lt_of_lt_of_le f18.lt szo322)
        have f25 := f18.keep Kq22
        have f26 := f19.keep Kq22 nin0
        have f27 := f20.keep Kq22 nin0
        have f28 := q17_0.keep Kq22
        have f29 := q17_1.keep Kq22 nin0
        have f30 := q17_2.keep Kq22 nin0
        have gn_o322 : n0 ≤ o322 := Nat.le_trans Z17 szo322
        have Z22 := Nat.le_trans Z17 Kq22.1
        show Goes p.tables e below G (T22.setTop (mkF m 106 #[.val (.int p0), .val (.int p1), .val (.int p2), .val (.int p3), .val (.int r1), .val (.int r2), .val (.int v3), .val (.int v4), .val (.int r1), .val (.ref b5), .val (.ref b10), .unset, .unset] [(.ref o322)]))
        refine g_astore C X22 at_106 (pc' := 108) rfl rfl (ls' := #[.val (.int p0), .val (.int p1), .val (.int p2), .val (.int p3), .val (.int r1), .val (.int r2), .val (.int v3), .val (.int v4), .val (.int r1), .val (.ref b5), .val (.ref b10), .val (.ref o322), .unset]) rfl ?_
        refine g_aload C X22 at_108 (pc' := 110) rfl rfl rfl ?_
        refine g_callV C X22 (w_34 hw) (w_35 hw) (notFace_of_selects (args := #[]) (mvT C.2.1 (w_37 hw))) (w_37 hw) (w_36 hw) (w_38 hw) (w_9 hw) (by decide) q22_0 at_110 (rm7 l Z a0 hw [] o322 (f1 r1 r1) T22.heap n0 Z22 q22_1) (by decide) (by decide) rfl pd_4 rfl (argsL := []) (rest := []) rfl (W := 0) (Nat.le_of_eq rfl) rfl (by decide) (by decide) (pc' := 113) rfl (fun u31 T31 L31 X31 hQ31 => ?_)
        obtain ⟨rfl, Nq31, eq31⟩ := hQ31
        have N31 := Fr.app N22 Nq31
        obtain ⟨r31, hr31⟩ : ∃ z : Int32, (f1 r1 r1) = z := ⟨_, rfl⟩
        rw [hr31]
        show Goes p.tables e below G (T31.setTop (mkF m 113 #[.val (.int p0), .val (.int p1), .val (.int p2), .val (.int p3), .val (.int r1), .val (.int r2), .val (.int v3), .val (.int v4), .val (.int r1), .val (.ref b5), .val (.ref b10), .val (.ref o322), .unset] [(.int r31)]))
        refine g_iload C X31 at_113 (pc' := 115) rfl rfl ?_
        refine g_icmp_ne C X31 at_115 (pcT := 132) (pcN := 118) (by decide) (by decide) rfl (fun hc115 => ?_) (fun hc115 => ?_)
        · refine g_iconst C X31 at_132 (pc' := 133) rfl (v := 0) rfl ?_
          refine g_istore C X31 at_133 (pc' := 135) rfl (w := (0 : Int32)) rfl (ls' := #[.val (.int p0), .val (.int p1), .val (.int p2), .val (.int p3), .val (.int r1), .val (.int r2), .val (.int v3), .val (.int v4), .val (.int r1), .val (.ref b5), .val (.ref b10), .val (.ref o322), .val (.int (0 : Int32))]) rfl ?_
          refine g_aload C X31 at_135 (pc' := 137) rfl rfl rfl ?_
          refine g_iload C X31 at_137 (pc' := 139) rfl rfl ?_
          refine g_callV C X31 (w_44 hw) (w_45 hw) (notFace_of_selects (args := #[]) (mvT C.2.1 (w_47 hw))) (w_47 hw) (w_46 hw) (w_48 hw) (w_9 hw) (by decide) f25 at_139 (rm9 l Z a0 hw [] b5 r1 r1 r2 T22.heap n0 Z22 f26 f27) (by decide) (by decide) rfl pd_5 rfl (argsL := [(.int r1)]) (rest := []) rfl (W := 0) (Nat.le_of_eq rfl) eq31 (by decide) (by decide) (pc' := 142) rfl (fun u32 T32 L32 X32 hQ32 => ?_)
          obtain ⟨rfl, Nq32, eq32⟩ := hQ32
          have N32 := Fr.app N31 Nq32
          obtain ⟨r32, hr32⟩ : ∃ z : Int32, (fCon r1 r1 r2) = z := ⟨_, rfl⟩
          rw [hr32]
          show Goes p.tables e below G (T32.setTop (mkF m 142 #[.val (.int p0), .val (.int p1), .val (.int p2), .val (.int p3), .val (.int r1), .val (.int r2), .val (.int v3), .val (.int v4), .val (.int r1), .val (.ref b5), .val (.ref b10), .val (.ref o322), .val (.int (0 : Int32))] [(.int r32)]))
          refine g_iload C X32 at_142 (pc' := 144) rfl rfl ?_
          refine g_icmp_ne C X32 at_144 (pcT := 151) (pcN := 147) (by decide) (by decide) rfl (fun hc144 => absurd (hr32.symm.trans (own_lo (by rw [hr31]; exact hc115))) hc144) (fun hc144 => ?_)
          subst hc144
          refine g_iconst C X32 at_147 (pc' := 148) rfl (v := 1) rfl ?_
          refine g_goto C X32 at_148 (pc' := 152) (by decide) (by decide) ?_
          exact g_retN C X32 K (by simp) at_152 (by decide) (by decide) eq32 ⟨rfl, N32⟩
        · refine g_aload C X31 at_118 (pc' := 120) rfl rfl rfl ?_
          refine g_callV C X31 (w_39 hw) (w_40 hw) (notFace_of_selects (args := #[]) (mvT C.2.1 (w_42 hw))) (w_42 hw) (w_41 hw) (w_43 hw) (w_9 hw) (by decide) q22_0 at_120 (rm8 l Z a0 hw [] o322 (f2 r2 r1) T22.heap n0 Z22 q22_2) (by decide) (by decide) rfl pd_4 rfl (argsL := []) (rest := []) rfl (W := 0) (Nat.le_of_eq rfl) eq31 (by decide) (by decide) (pc' := 123) rfl (fun u33 T33 L33 X33 hQ33 => ?_)
          obtain ⟨rfl, Nq33, eq33⟩ := hQ33
          have N33 := Fr.app N31 Nq33
          obtain ⟨r33, hr33⟩ : ∃ z : Int32, (f2 r2 r1) = z := ⟨_, rfl⟩
          rw [hr33]
          show Goes p.tables e below G (T33.setTop (mkF m 123 #[.val (.int p0), .val (.int p1), .val (.int p2), .val (.int p3), .val (.int r1), .val (.int r2), .val (.int v3), .val (.int v4), .val (.int r1), .val (.ref b5), .val (.ref b10), .val (.ref o322), .unset] [(.int r33)]))
          refine g_iload C X33 at_123 (pc' := 125) rfl rfl ?_
          refine g_icmp_ne C X33 at_125 (pcT := 132) (pcN := 128) (by decide) (by decide) rfl (fun hc125 => ?_) (fun hc125 => ?_)
          · refine g_iconst C X33 at_132 (pc' := 133) rfl (v := 0) rfl ?_
            refine g_istore C X33 at_133 (pc' := 135) rfl (w := (0 : Int32)) rfl (ls' := #[.val (.int p0), .val (.int p1), .val (.int p2), .val (.int p3), .val (.int r1), .val (.int r2), .val (.int v3), .val (.int v4), .val (.int r1), .val (.ref b5), .val (.ref b10), .val (.ref o322), .val (.int (0 : Int32))]) rfl ?_
            refine g_aload C X33 at_135 (pc' := 137) rfl rfl rfl ?_
            refine g_iload C X33 at_137 (pc' := 139) rfl rfl ?_
            refine g_callV C X33 (w_44 hw) (w_45 hw) (notFace_of_selects (args := #[]) (mvT C.2.1 (w_47 hw))) (w_47 hw) (w_46 hw) (w_48 hw) (w_9 hw) (by decide) f25 at_139 (rm9 l Z a0 hw [] b5 r1 r1 r2 T22.heap n0 Z22 f26 f27) (by decide) (by decide) rfl pd_5 rfl (argsL := [(.int r1)]) (rest := []) rfl (W := 0) (Nat.le_of_eq rfl) eq33 (by decide) (by decide) (pc' := 142) rfl (fun u34 T34 L34 X34 hQ34 => ?_)
            obtain ⟨rfl, Nq34, eq34⟩ := hQ34
            have N34 := Fr.app N33 Nq34
            obtain ⟨r34, hr34⟩ : ∃ z : Int32, (fCon r1 r1 r2) = z := ⟨_, rfl⟩
            rw [hr34]
            show Goes p.tables e below G (T34.setTop (mkF m 142 #[.val (.int p0), .val (.int p1), .val (.int p2), .val (.int p3), .val (.int r1), .val (.int r2), .val (.int v3), .val (.int v4), .val (.int r1), .val (.ref b5), .val (.ref b10), .val (.ref o322), .val (.int (0 : Int32))] [(.int r34)]))
            refine g_iload C X34 at_142 (pc' := 144) rfl rfl ?_
            refine g_icmp_ne C X34 at_144 (pcT := 151) (pcN := 147) (by decide) (by decide) rfl (fun hc144 => absurd (hr34.symm.trans (own_hi (by rw [hr33]; exact hc125))) hc144) (fun hc144 => ?_)
            subst hc144
            refine g_iconst C X34 at_147 (pc' := 148) rfl (v := 1) rfl ?_
            refine g_goto C X34 at_148 (pc' := 152) (by decide) (by decide) ?_
            exact g_retN C X34 K (by simp) at_152 (by decide) (by decide) eq34 ⟨rfl, N34⟩
          · refine g_iconst C X33 at_128 (pc' := 129) rfl (v := 1) rfl ?_
            refine g_goto C X33 at_129 (pc' := 133) (by decide) (by decide) ?_
            refine g_istore C X33 at_133 (pc' := 135) rfl (w := (1 : Int32)) rfl (ls' := #[.val (.int p0), .val (.int p1), .val (.int p2), .val (.int p3), .val (.int r1), .val (.int r2), .val (.int v3), .val (.int v4), .val (.int r1), .val (.ref b5), .val (.ref b10), .val (.ref o322), .val (.int (1 : Int32))]) rfl ?_
            refine g_aload C X33 at_135 (pc' := 137) rfl rfl rfl ?_
            refine g_iload C X33 at_137 (pc' := 139) rfl rfl ?_
            refine g_callV C X33 (w_44 hw) (w_45 hw) (notFace_of_selects (args := #[]) (mvT C.2.1 (w_47 hw))) (w_47 hw) (w_46 hw) (w_48 hw) (w_9 hw) (by decide) f25 at_139 (rm9 l Z a0 hw [] b5 r1 r1 r2 T22.heap n0 Z22 f26 f27) (by decide) (by decide) rfl pd_5 rfl (argsL := [(.int r1)]) (rest := []) rfl (W := 0) (Nat.le_of_eq rfl) eq33 (by decide) (by decide) (pc' := 142) rfl (fun u35 T35 L35 X35 hQ35 => ?_)
            obtain ⟨rfl, Nq35, eq35⟩ := hQ35
            have N35 := Fr.app N33 Nq35
            obtain ⟨r35, hr35⟩ : ∃ z : Int32, (fCon r1 r1 r2) = z := ⟨_, rfl⟩
            rw [hr35]
            show Goes p.tables e below G (T35.setTop (mkF m 142 #[.val (.int p0), .val (.int p1), .val (.int p2), .val (.int p3), .val (.int r1), .val (.int r2), .val (.int v3), .val (.int v4), .val (.int r1), .val (.ref b5), .val (.ref b10), .val (.ref o322), .val (.int (1 : Int32))] [(.int r35)]))
            refine g_iload C X35 at_142 (pc' := 144) rfl rfl ?_
            refine g_icmp_ne C X35 at_144 (pcT := 151) (pcN := 147) (by decide) (by decide) rfl (fun hc144 => absurd (hr35.symm.trans (own_in (hr31.trans hc115) (hr33.trans hc125))) hc144) (fun hc144 => ?_)
            subst hc144
            refine g_iconst C X35 at_147 (pc' := 148) rfl (v := 1) rfl ?_
            refine g_goto C X35 at_148 (pc' := 152) (by decide) (by decide) ?_
            exact g_retN C X35 K (by simp) at_152 (by decide) (by decide) eq35 ⟨rfl, N35⟩
      · subst hc56
        refine g_iload C X2 at_59 (pc' := 61) rfl rfl ?_
        refine g_iload C X2 at_61 (pc' := 63) rfl rfl ?_
        refine g_iadd C X2 at_63 (pc' := 64) rfl ?_
        obtain ⟨v36, hv36⟩ : ∃ z : Int32, (r2 + v4) = z := ⟨_, rfl⟩
        refine g_istore C X2 at_64 (pc' := 66) rfl (w := v36) hv36 (ls' := #[.val (.int p0), .val (.int p1), .val (.int p2), .val (.int p3), .val (.int r1), .val (.int r2), .val (.int (2 : Int32)), .val (.int v4), .val (.int v36), .unset, .unset, .unset, .unset]) rfl ?_
        refine g_goto C X2 at_66 (pc' := 73) (by decide) (by decide) ?_
        refine g_new C X2 (w_7 hw) (w_8 hw) (w_9 hw) eq2 at_73 (pc' := 76) rfl (by decide) (by decide) (fun T37 h37 b37 X37 e37 g37 E37 A37 D37 => ?_)
        have gn_b37 : n0 ≤ b37 := Nat.le_trans Z0 (Nat.le_of_eq g37.symm)
        have Z37 := Nat.le_trans Z0 E37.1
        have f38 : Fld Z h37 b37 "com/example/hanko/hanko/access/LabelRange" "min" "I" (.int (0 : Int32)) := D37 (Or.inr (w_22 hw)) (ty := .int) (by decide)
        have f39 : Fld Z h37 b37 "com/example/hanko/hanko/access/LabelRange" "max" "I" (.int (0 : Int32)) := D37 (Or.inr (w_24 hw)) (ty := .int) (by decide)
        refine g_dup C X37 at_76 (pc' := 77) rfl rfl ?_
        refine g_iload C X37 at_77 (pc' := 79) rfl rfl ?_
        refine g_iload C X37 at_79 (pc' := 81) rfl rfl ?_
        refine g_callI C X37 rfl (w_10 hw) (w_11 hw) (w_9 hw) (w_12 hw) (by decide) at_81 (rm3 l Z a0 hw [] b37 r1 r2 h37 n0 Z37 A37 f38 f39 gn_b37 (by rw [← hr1, ← hr2]; exact own_mm p0 p1)) (by decide) (by decide) rfl pd_2 rfl (argsL := [(.int r1), (.int r2)]) (rest := [(.ref b37)]) rfl (W := 1) (Nat.le_of_eq rfl) e37 (by decide) (by decide) (pc' := 84) rfl (fun u40 T40 L40 X40 hQ40 => ?_)
        obtain ⟨rfl, Nq40, Kq40, q40_0, q40_1, q40_2⟩ := hQ40
        have N40 := Fr.app N2 Nq40
        have f41 := A37.keep Kq40
        have Z40 := Nat.le_trans Z37 Kq40.1
        show Goes p.tables e below G (T40.setTop (mkF m 84 #[.val (.int p0), .val (.int p1), .val (.int p2), .val (.int p3), .val (.int r1), .val (.int r2), .val (.int (2 : Int32)), .val (.int v4), .val (.int v36), .unset, .unset, .unset, .unset] [(.ref b37)]))
        refine g_astore C X40 at_84 (pc' := 86) rfl rfl (ls' := #[.val (.int p0), .val (.int p1), .val (.int p2), .val (.int p3), .val (.int r1), .val (.int r2), .val (.int (2 : Int32)), .val (.int v4), .val (.int v36), .val (.ref b37), .unset, .unset, .unset]) rfl ?_
        refine g_new C X40 (w_7 hw) (w_8 hw) (w_9 hw) rfl at_86 (pc' := 89) rfl (by decide) (by decide) (fun T42 h42 b42 X42 e42 g42 E42 A42 D42 => ?_)
        have n43 : b37 ≠ b42 := Nat.ne_of_lt (Nat.lt_of_lt_of_eq q40_0.lt g42.symm)
        have f44 := q40_0.ext E42
        have f45 := q40_1.ext E42
        have f46 := q40_2.ext E42
        have gn_b42 : n0 ≤ b42 := Nat.le_trans Z40 (Nat.le_of_eq g42.symm)
        have Z42 := Nat.le_trans Z40 E42.1
        have f47 : Fld Z h42 b42 "com/example/hanko/hanko/access/LabelRange" "min" "I" (.int (0 : Int32)) := D42 (Or.inr (w_22 hw)) (ty := .int) (by decide)
        have f48 : Fld Z h42 b42 "com/example/hanko/hanko/access/LabelRange" "max" "I" (.int (0 : Int32)) := D42 (Or.inr (w_24 hw)) (ty := .int) (by decide)
        refine g_dup C X42 at_89 (pc' := 90) rfl rfl ?_
        refine g_iload C X42 at_90 (pc' := 92) rfl rfl ?_
        refine g_iload C X42 at_92 (pc' := 94) rfl rfl ?_
        refine g_callI C X42 rfl (w_10 hw) (w_11 hw) (w_9 hw) (w_12 hw) (by decide) at_94 (rm3 l Z a0 hw [] b42 v36 v36 h42 n0 Z42 A42 f47 f48 gn_b42 (fun q => Int32.lt_irrefl q)) (by decide) (by decide) rfl pd_2 rfl (argsL := [(.int v36), (.int v36)]) (rest := [(.ref b42)]) rfl (W := 1) (Nat.le_of_eq rfl) e42 (by decide) (by decide) (pc' := 97) rfl (fun u49 T49 L49 X49 hQ49 => ?_)
        obtain ⟨rfl, Nq49, Kq49, q49_0, q49_1, q49_2⟩ := hQ49
        have N49 := Fr.app N40 Nq49
        have f50 := f44.keep Kq49
        have f51 := f45.keep Kq49 (ninS n43 nin0)
        have f52 := f46.keep Kq49 (ninS n43 nin0)
        have f53 := A42.keep Kq49
        have Z49 := Nat.le_trans Z42 Kq49.1
        show Goes p.tables e below G (T49.setTop (mkF m 97 #[.val (.int p0), .val (.int p1), .val (.int p2), .val (.int p3), .val (.int r1), .val (.int r2), .val (.int (2 : Int32)), .val (.int v4), .val (.int v36), .val (.ref b37), .unset, .unset, .unset] [(.ref b42)]))
        refine g_astore C X49 at_97 (pc' := 99) rfl rfl (ls' := #[.val (.int p0), .val (.int p1), .val (.int p2), .val (.int p3), .val (.int r1), .val (.int r2), .val (.int (2 : Int32)), .val (.int v4), .val (.int v36), .val (.ref b37), .val (.ref b42), .unset, .unset]) rfl ?_
        refine g_aload C X49 at_99 (pc' := 101) rfl rfl rfl ?_
        refine g_aload C X49 at_101 (pc' := 103) rfl rfl rfl ?_
        refine g_callV C X49 (w_25 hw) (w_26 hw) (notFace_of_selects (args := #[]) (mvT C.2.1 (w_28 hw))) (w_28 hw) (w_27 hw) (w_29 hw) (w_9 hw) (by decide) f50 at_103 (rm6 l Z a0 hw [] b37 b42 r1 r2 v36 v36 T49.heap n0 Z49 f50 q49_0 f51 f52 q49_1 q49_2 (by rw [← hr1, ← hr2]; exact own_mm p0 p1) (fun q => Int32.lt_irrefl q)) (by decide) (by decide) rfl pd_3 rfl (argsL := [(.ref b42)]) (rest := []) rfl (W := 0) (Nat.le_of_eq rfl) rfl (by decide) (by decide) (pc' := 106) rfl (fun u54 T54 L54 X54 hQ54 => ?_)
        obtain ⟨o354, rfl, Nq54, szo354, Kq54, q54_0, q54_1, q54_2⟩ := hQ54
        have N54 := Fr.app N49 Nq54
        have n55 : b37 ≠ o354 := Nat.ne_of_lt (Nat.lt_of_lt_of_le f50.lt szo354)
        have n56 : b42 ≠ o354 := Nat.ne_of_lt (Nat.lt_of_lt_of_le q49_0.lt szo354)
        have f57 := f50.keep Kq54
        have f58 := f51.keep Kq54 nin0
        have f59 := f52.keep Kq54 nin0
        have f60 := q49_0.keep Kq54
        have f61 := q49_1.keep Kq54 nin0
        have f62 := q49_2.keep Kq54 nin0
        have gn_o354 : n0 ≤ o354 := Nat.le_trans Z49 szo354
        have Z54 := Nat.le_trans Z49 Kq54.1
        show Goes p.tables e below G (T54.setTop (mkF m 106 #[.val (.int p0), .val (.int p1), .val (.int p2), .val (.int p3), .val (.int r1), .val (.int r2), .val (.int (2 : Int32)), .val (.int v4), .val (.int v36), .val (.ref b37), .val (.ref b42), .unset, .unset] [(.ref o354)]))
        refine g_astore C X54 at_106 (pc' := 108) rfl rfl (ls' := #[.val (.int p0), .val (.int p1), .val (.int p2), .val (.int p3), .val (.int r1), .val (.int r2), .val (.int (2 : Int32)), .val (.int v4), .val (.int v36), .val (.ref b37), .val (.ref b42), .val (.ref o354), .unset]) rfl ?_
        refine g_aload C X54 at_108 (pc' := 110) rfl rfl rfl ?_
        refine g_callV C X54 (w_34 hw) (w_35 hw) (notFace_of_selects (args := #[]) (mvT C.2.1 (w_37 hw))) (w_37 hw) (w_36 hw) (w_38 hw) (w_9 hw) (by decide) q54_0 at_110 (rm7 l Z a0 hw [] o354 (f1 r1 v36) T54.heap n0 Z54 q54_1) (by decide) (by decide) rfl pd_4 rfl (argsL := []) (rest := []) rfl (W := 0) (Nat.le_of_eq rfl) rfl (by decide) (by decide) (pc' := 113) rfl (fun u63 T63 L63 X63 hQ63 => ?_)
        obtain ⟨rfl, Nq63, eq63⟩ := hQ63
        have N63 := Fr.app N54 Nq63
        obtain ⟨r63, hr63⟩ : ∃ z : Int32, (f1 r1 v36) = z := ⟨_, rfl⟩
        rw [hr63]
        show Goes p.tables e below G (T63.setTop (mkF m 113 #[.val (.int p0), .val (.int p1), .val (.int p2), .val (.int p3), .val (.int r1), .val (.int r2), .val (.int (2 : Int32)), .val (.int v4), .val (.int v36), .val (.ref b37), .val (.ref b42), .val (.ref o354), .unset] [(.int r63)]))
        refine g_iload C X63 at_113 (pc' := 115) rfl rfl ?_
        refine g_icmp_ne C X63 at_115 (pcT := 132) (pcN := 118) (by decide) (by decide) rfl (fun hc115 => ?_) (fun hc115 => ?_)
        · refine g_iconst C X63 at_132 (pc' := 133) rfl (v := 0) rfl ?_
          refine g_istore C X63 at_133 (pc' := 135) rfl (w := (0 : Int32)) rfl (ls' := #[.val (.int p0), .val (.int p1), .val (.int p2), .val (.int p3), .val (.int r1), .val (.int r2), .val (.int (2 : Int32)), .val (.int v4), .val (.int v36), .val (.ref b37), .val (.ref b42), .val (.ref o354), .val (.int (0 : Int32))]) rfl ?_
          refine g_aload C X63 at_135 (pc' := 137) rfl rfl rfl ?_
          refine g_iload C X63 at_137 (pc' := 139) rfl rfl ?_
          refine g_callV C X63 (w_44 hw) (w_45 hw) (notFace_of_selects (args := #[]) (mvT C.2.1 (w_47 hw))) (w_47 hw) (w_46 hw) (w_48 hw) (w_9 hw) (by decide) f57 at_139 (rm9 l Z a0 hw [] b37 v36 r1 r2 T54.heap n0 Z54 f58 f59) (by decide) (by decide) rfl pd_5 rfl (argsL := [(.int v36)]) (rest := []) rfl (W := 0) (Nat.le_of_eq rfl) eq63 (by decide) (by decide) (pc' := 142) rfl (fun u64 T64 L64 X64 hQ64 => ?_)
          obtain ⟨rfl, Nq64, eq64⟩ := hQ64
          have N64 := Fr.app N63 Nq64
          obtain ⟨r64, hr64⟩ : ∃ z : Int32, (fCon v36 r1 r2) = z := ⟨_, rfl⟩
          rw [hr64]
          show Goes p.tables e below G (T64.setTop (mkF m 142 #[.val (.int p0), .val (.int p1), .val (.int p2), .val (.int p3), .val (.int r1), .val (.int r2), .val (.int (2 : Int32)), .val (.int v4), .val (.int v36), .val (.ref b37), .val (.ref b42), .val (.ref o354), .val (.int (0 : Int32))] [(.int r64)]))
          refine g_iload C X64 at_142 (pc' := 144) rfl rfl ?_
          refine g_icmp_ne C X64 at_144 (pcT := 151) (pcN := 147) (by decide) (by decide) rfl (fun hc144 => absurd (hr64.symm.trans (own_lo (by rw [hr63]; exact hc115))) hc144) (fun hc144 => ?_)
          subst hc144
          refine g_iconst C X64 at_147 (pc' := 148) rfl (v := 1) rfl ?_
          refine g_goto C X64 at_148 (pc' := 152) (by decide) (by decide) ?_
          exact g_retN C X64 K (by simp) at_152 (by decide) (by decide) eq64 ⟨rfl, N64⟩
        · refine g_aload C X63 at_118 (pc' := 120) rfl rfl rfl ?_
          refine g_callV C X63 (w_39 hw) (w_40 hw) (notFace_of_selects (args := #[]) (mvT C.2.1 (w_42 hw))) (w_42 hw) (w_41 hw) (w_43 hw) (w_9 hw) (by decide) q54_0 at_120 (rm8 l Z a0 hw [] o354 (f2 r2 v36) T54.heap n0 Z54 q54_2) (by decide) (by decide) rfl pd_4 rfl (argsL := []) (rest := []) rfl (W := 0) (Nat.le_of_eq rfl) eq63 (by decide) (by decide) (pc' := 123) rfl (fun u65 T65 L65 X65 hQ65 => ?_)
          obtain ⟨rfl, Nq65, eq65⟩ := hQ65
          have N65 := Fr.app N63 Nq65
          obtain ⟨r65, hr65⟩ : ∃ z : Int32, (f2 r2 v36) = z := ⟨_, rfl⟩
          rw [hr65]
          show Goes p.tables e below G (T65.setTop (mkF m 123 #[.val (.int p0), .val (.int p1), .val (.int p2), .val (.int p3), .val (.int r1), .val (.int r2), .val (.int (2 : Int32)), .val (.int v4), .val (.int v36), .val (.ref b37), .val (.ref b42), .val (.ref o354), .unset] [(.int r65)]))
          refine g_iload C X65 at_123 (pc' := 125) rfl rfl ?_
          refine g_icmp_ne C X65 at_125 (pcT := 132) (pcN := 128) (by decide) (by decide) rfl (fun hc125 => ?_) (fun hc125 => ?_)
          · refine g_iconst C X65 at_132 (pc' := 133) rfl (v := 0) rfl ?_
            refine g_istore C X65 at_133 (pc' := 135) rfl (w := (0 : Int32)) rfl (ls' := #[.val (.int p0), .val (.int p1), .val (.int p2), .val (.int p3), .val (.int r1), .val (.int r2), .val (.int (2 : Int32)), .val (.int v4), .val (.int v36), .val (.ref b37), .val (.ref b42), .val (.ref o354), .val (.int (0 : Int32))]) rfl ?_
            refine g_aload C X65 at_135 (pc' := 137) rfl rfl rfl ?_
            refine g_iload C X65 at_137 (pc' := 139) rfl rfl ?_
            refine g_callV C X65 (w_44 hw) (w_45 hw) (notFace_of_selects (args := #[]) (mvT C.2.1 (w_47 hw))) (w_47 hw) (w_46 hw) (w_48 hw) (w_9 hw) (by decide) f57 at_139 (rm9 l Z a0 hw [] b37 v36 r1 r2 T54.heap n0 Z54 f58 f59) (by decide) (by decide) rfl pd_5 rfl (argsL := [(.int v36)]) (rest := []) rfl (W := 0) (Nat.le_of_eq rfl) eq65 (by decide) (by decide) (pc' := 142) rfl (fun u66 T66 L66 X66 hQ66 => ?_)
            obtain ⟨rfl, Nq66, eq66⟩ := hQ66
            have N66 := Fr.app N65 Nq66
            obtain ⟨r66, hr66⟩ : ∃ z : Int32, (fCon v36 r1 r2) = z := ⟨_, rfl⟩
            rw [hr66]
            show Goes p.tables e below G (T66.setTop (mkF m 142 #[.val (.int p0), .val (.int p1), .val (.int p2), .val (.int p3), .val (.int r1), .val (.int r2), .val (.int (2 : Int32)), .val (.int v4), .val (.int v36), .val (.ref b37), .val (.ref b42), .val (.ref o354), .val (.int (0 : Int32))] [(.int r66)]))
            refine g_iload C X66 at_142 (pc' := 144) rfl rfl ?_
            refine g_icmp_ne C X66 at_144 (pcT := 151) (pcN := 147) (by decide) (by decide) rfl (fun hc144 => absurd (hr66.symm.trans (own_hi (by rw [hr65]; exact hc125))) hc144) (fun hc144 => ?_)
            subst hc144
            refine g_iconst C X66 at_147 (pc' := 148) rfl (v := 1) rfl ?_
            refine g_goto C X66 at_148 (pc' := 152) (by decide) (by decide) ?_
            exact g_retN C X66 K (by simp) at_152 (by decide) (by decide) eq66 ⟨rfl, N66⟩
          · refine g_iconst C X65 at_128 (pc' := 129) rfl (v := 1) rfl ?_
            refine g_goto C X65 at_129 (pc' := 133) (by decide) (by decide) ?_
            refine g_istore C X65 at_133 (pc' := 135) rfl (w := (1 : Int32)) rfl (ls' := #[.val (.int p0), .val (.int p1), .val (.int p2), .val (.int p3), .val (.int r1), .val (.int r2), .val (.int (2 : Int32)), .val (.int v4), .val (.int v36), .val (.ref b37), .val (.ref b42), .val (.ref o354), .val (.int (1 : Int32))]) rfl ?_
            refine g_aload C X65 at_135 (pc' := 137) rfl rfl rfl ?_
            refine g_iload C X65 at_137 (pc' := 139) rfl rfl ?_
            refine g_callV C X65 (w_44 hw) (w_45 hw) (notFace_of_selects (args := #[]) (mvT C.2.1 (w_47 hw))) (w_47 hw) (w_46 hw) (w_48 hw) (w_9 hw) (by decide) f57 at_139 (rm9 l Z a0 hw [] b37 v36 r1 r2 T54.heap n0 Z54 f58 f59) (by decide) (by decide) rfl pd_5 rfl (argsL := [(.int v36)]) (rest := []) rfl (W := 0) (Nat.le_of_eq rfl) eq65 (by decide) (by decide) (pc' := 142) rfl (fun u67 T67 L67 X67 hQ67 => ?_)
            obtain ⟨rfl, Nq67, eq67⟩ := hQ67
            have N67 := Fr.app N65 Nq67
            obtain ⟨r67, hr67⟩ : ∃ z : Int32, (fCon v36 r1 r2) = z := ⟨_, rfl⟩
            rw [hr67]
            show Goes p.tables e below G (T67.setTop (mkF m 142 #[.val (.int p0), .val (.int p1), .val (.int p2), .val (.int p3), .val (.int r1), .val (.int r2), .val (.int (2 : Int32)), .val (.int v4), .val (.int v36), .val (.ref b37), .val (.ref b42), .val (.ref o354), .val (.int (1 : Int32))] [(.int r67)]))
            refine g_iload C X67 at_142 (pc' := 144) rfl rfl ?_
            refine g_icmp_ne C X67 at_144 (pcT := 151) (pcN := 147) (by decide) (by decide) rfl (fun hc144 => absurd (hr67.symm.trans (own_in (hr63.trans hc115) (hr65.trans hc125))) hc144) (fun hc144 => ?_)
            subst hc144
            refine g_iconst C X67 at_147 (pc' := 148) rfl (v := 1) rfl ?_
            refine g_goto C X67 at_148 (pc' := 152) (by decide) (by decide) ?_
            exact g_retN C X67 K (by simp) at_152 (by decide) (by decide) eq67 ⟨rfl, N67⟩
    · subst hc40
      refine g_iload C X2 at_43 (pc' := 45) rfl rfl ?_
      refine g_iload C X2 at_45 (pc' := 47) rfl rfl ?_
      refine g_iadd C X2 at_47 (pc' := 48) rfl ?_
      obtain ⟨v68, hv68⟩ : ∃ z : Int32, (r1 + v4) = z := ⟨_, rfl⟩
      refine g_istore C X2 at_48 (pc' := 50) rfl (w := v68) hv68 (ls' := #[.val (.int p0), .val (.int p1), .val (.int p2), .val (.int p3), .val (.int r1), .val (.int r2), .val (.int (1 : Int32)), .val (.int v4), .val (.int v68), .unset, .unset, .unset, .unset]) rfl ?_
      refine g_goto C X2 at_50 (pc' := 73) (by decide) (by decide) ?_
      refine g_new C X2 (w_7 hw) (w_8 hw) (w_9 hw) eq2 at_73 (pc' := 76) rfl (by decide) (by decide) (fun T69 h69 b69 X69 e69 g69 E69 A69 D69 => ?_)
      have gn_b69 : n0 ≤ b69 := Nat.le_trans Z0 (Nat.le_of_eq g69.symm)
      have Z69 := Nat.le_trans Z0 E69.1
      have f70 : Fld Z h69 b69 "com/example/hanko/hanko/access/LabelRange" "min" "I" (.int (0 : Int32)) := D69 (Or.inr (w_22 hw)) (ty := .int) (by decide)
      have f71 : Fld Z h69 b69 "com/example/hanko/hanko/access/LabelRange" "max" "I" (.int (0 : Int32)) := D69 (Or.inr (w_24 hw)) (ty := .int) (by decide)
      refine g_dup C X69 at_76 (pc' := 77) rfl rfl ?_
      refine g_iload C X69 at_77 (pc' := 79) rfl rfl ?_
      refine g_iload C X69 at_79 (pc' := 81) rfl rfl ?_
      refine g_callI C X69 rfl (w_10 hw) (w_11 hw) (w_9 hw) (w_12 hw) (by decide) at_81 (rm3 l Z a0 hw [] b69 r1 r2 h69 n0 Z69 A69 f70 f71 gn_b69 (by rw [← hr1, ← hr2]; exact own_mm p0 p1)) (by decide) (by decide) rfl pd_2 rfl (argsL := [(.int r1), (.int r2)]) (rest := [(.ref b69)]) rfl (W := 1) (Nat.le_of_eq rfl) e69 (by decide) (by decide) (pc' := 84) rfl (fun u72 T72 L72 X72 hQ72 => ?_)
      obtain ⟨rfl, Nq72, Kq72, q72_0, q72_1, q72_2⟩ := hQ72
      have N72 := Fr.app N2 Nq72
      have f73 := A69.keep Kq72
      have Z72 := Nat.le_trans Z69 Kq72.1
      show Goes p.tables e below G (T72.setTop (mkF m 84 #[.val (.int p0), .val (.int p1), .val (.int p2), .val (.int p3), .val (.int r1), .val (.int r2), .val (.int (1 : Int32)), .val (.int v4), .val (.int v68), .unset, .unset, .unset, .unset] [(.ref b69)]))
      refine g_astore C X72 at_84 (pc' := 86) rfl rfl (ls' := #[.val (.int p0), .val (.int p1), .val (.int p2), .val (.int p3), .val (.int r1), .val (.int r2), .val (.int (1 : Int32)), .val (.int v4), .val (.int v68), .val (.ref b69), .unset, .unset, .unset]) rfl ?_
      refine g_new C X72 (w_7 hw) (w_8 hw) (w_9 hw) rfl at_86 (pc' := 89) rfl (by decide) (by decide) (fun T74 h74 b74 X74 e74 g74 E74 A74 D74 => ?_)
      have n75 : b69 ≠ b74 := Nat.ne_of_lt (Nat.lt_of_lt_of_eq q72_0.lt g74.symm)
      have f76 := q72_0.ext E74
      have f77 := q72_1.ext E74
      have f78 := q72_2.ext E74
      have gn_b74 : n0 ≤ b74 := Nat.le_trans Z72 (Nat.le_of_eq g74.symm)
      have Z74 := Nat.le_trans Z72 E74.1
      have f79 : Fld Z h74 b74 "com/example/hanko/hanko/access/LabelRange" "min" "I" (.int (0 : Int32)) := D74 (Or.inr (w_22 hw)) (ty := .int) (by decide)
      have f80 : Fld Z h74 b74 "com/example/hanko/hanko/access/LabelRange" "max" "I" (.int (0 : Int32)) := D74 (Or.inr (w_24 hw)) (ty := .int) (by decide)
      refine g_dup C X74 at_89 (pc' := 90) rfl rfl ?_
      refine g_iload C X74 at_90 (pc' := 92) rfl rfl ?_
      refine g_iload C X74 at_92 (pc' := 94) rfl rfl ?_
      refine g_callI C X74 rfl (w_10 hw) (w_11 hw) (w_9 hw) (w_12 hw) (by decide) at_94 (rm3 l Z a0 hw [] b74 v68 v68 h74 n0 Z74 A74 f79 f80 gn_b74 (fun q => Int32.lt_irrefl q)) (by decide) (by decide) rfl pd_2 rfl (argsL := [(.int v68), (.int v68)]) (rest := [(.ref b74)]) rfl (W := 1) (Nat.le_of_eq rfl) e74 (by decide) (by decide) (pc' := 97) rfl (fun u81 T81 L81 X81 hQ81 => ?_)
      obtain ⟨rfl, Nq81, Kq81, q81_0, q81_1, q81_2⟩ := hQ81
      have N81 := Fr.app N72 Nq81
      have f82 := f76.keep Kq81
      have f83 := f77.keep Kq81 (ninS n75 nin0)
      have f84 := f78.keep Kq81 (ninS n75 nin0)
      have f85 := A74.keep Kq81
      have Z81 := Nat.le_trans Z74 Kq81.1
      show Goes p.tables e below G (T81.setTop (mkF m 97 #[.val (.int p0), .val (.int p1), .val (.int p2), .val (.int p3), .val (.int r1), .val (.int r2), .val (.int (1 : Int32)), .val (.int v4), .val (.int v68), .val (.ref b69), .unset, .unset, .unset] [(.ref b74)]))
      refine g_astore C X81 at_97 (pc' := 99) rfl rfl (ls' := #[.val (.int p0), .val (.int p1), .val (.int p2), .val (.int p3), .val (.int r1), .val (.int r2), .val (.int (1 : Int32)), .val (.int v4), .val (.int v68), .val (.ref b69), .val (.ref b74), .unset, .unset]) rfl ?_
      refine g_aload C X81 at_99 (pc' := 101) rfl rfl rfl ?_
      refine g_aload C X81 at_101 (pc' := 103) rfl rfl rfl ?_
      refine g_callV C X81 (w_25 hw) (w_26 hw) (notFace_of_selects (args := #[]) (mvT C.2.1 (w_28 hw))) (w_28 hw) (w_27 hw) (w_29 hw) (w_9 hw) (by decide) f82 at_103 (rm6 l Z a0 hw [] b69 b74 r1 r2 v68 v68 T81.heap n0 Z81 f82 q81_0 f83 f84 q81_1 q81_2 (by rw [← hr1, ← hr2]; exact own_mm p0 p1) (fun q => Int32.lt_irrefl q)) (by decide) (by decide) rfl pd_3 rfl (argsL := [(.ref b74)]) (rest := []) rfl (W := 0) (Nat.le_of_eq rfl) rfl (by decide) (by decide) (pc' := 106) rfl (fun u86 T86 L86 X86 hQ86 => ?_)
      obtain ⟨o386, rfl, Nq86, szo386, Kq86, q86_0, q86_1, q86_2⟩ := hQ86
      have N86 := Fr.app N81 Nq86
      have n87 : b69 ≠ o386 := Nat.ne_of_lt (Nat.lt_of_lt_of_le f82.lt szo386)
      have n88 : b74 ≠ o386 := Nat.ne_of_lt (Nat.lt_of_lt_of_le q81_0.lt szo386)
      have f89 := f82.keep Kq86
      have f90 := f83.keep Kq86 nin0
      have f91 := f84.keep Kq86 nin0
      have f92 := q81_0.keep Kq86
      have f93 := q81_1.keep Kq86 nin0
      have f94 := q81_2.keep Kq86 nin0
      have gn_o386 : n0 ≤ o386 := Nat.le_trans Z81 szo386
      have Z86 := Nat.le_trans Z81 Kq86.1
      show Goes p.tables e below G (T86.setTop (mkF m 106 #[.val (.int p0), .val (.int p1), .val (.int p2), .val (.int p3), .val (.int r1), .val (.int r2), .val (.int (1 : Int32)), .val (.int v4), .val (.int v68), .val (.ref b69), .val (.ref b74), .unset, .unset] [(.ref o386)]))
      refine g_astore C X86 at_106 (pc' := 108) rfl rfl (ls' := #[.val (.int p0), .val (.int p1), .val (.int p2), .val (.int p3), .val (.int r1), .val (.int r2), .val (.int (1 : Int32)), .val (.int v4), .val (.int v68), .val (.ref b69), .val (.ref b74), .val (.ref o386), .unset]) rfl ?_
      refine g_aload C X86 at_108 (pc' := 110) rfl rfl rfl ?_
      refine g_callV C X86 (w_34 hw) (w_35 hw) (notFace_of_selects (args := #[]) (mvT C.2.1 (w_37 hw))) (w_37 hw) (w_36 hw) (w_38 hw) (w_9 hw) (by decide) q86_0 at_110 (rm7 l Z a0 hw [] o386 (f1 r1 v68) T86.heap n0 Z86 q86_1) (by decide) (by decide) rfl pd_4 rfl (argsL := []) (rest := []) rfl (W := 0) (Nat.le_of_eq rfl) rfl (by decide) (by decide) (pc' := 113) rfl (fun u95 T95 L95 X95 hQ95 => ?_)
      obtain ⟨rfl, Nq95, eq95⟩ := hQ95
      have N95 := Fr.app N86 Nq95
      obtain ⟨r95, hr95⟩ : ∃ z : Int32, (f1 r1 v68) = z := ⟨_, rfl⟩
      rw [hr95]
      show Goes p.tables e below G (T95.setTop (mkF m 113 #[.val (.int p0), .val (.int p1), .val (.int p2), .val (.int p3), .val (.int r1), .val (.int r2), .val (.int (1 : Int32)), .val (.int v4), .val (.int v68), .val (.ref b69), .val (.ref b74), .val (.ref o386), .unset] [(.int r95)]))
      refine g_iload C X95 at_113 (pc' := 115) rfl rfl ?_
      refine g_icmp_ne C X95 at_115 (pcT := 132) (pcN := 118) (by decide) (by decide) rfl (fun hc115 => ?_) (fun hc115 => ?_)
      · refine g_iconst C X95 at_132 (pc' := 133) rfl (v := 0) rfl ?_
        refine g_istore C X95 at_133 (pc' := 135) rfl (w := (0 : Int32)) rfl (ls' := #[.val (.int p0), .val (.int p1), .val (.int p2), .val (.int p3), .val (.int r1), .val (.int r2), .val (.int (1 : Int32)), .val (.int v4), .val (.int v68), .val (.ref b69), .val (.ref b74), .val (.ref o386), .val (.int (0 : Int32))]) rfl ?_
        refine g_aload C X95 at_135 (pc' := 137) rfl rfl rfl ?_
        refine g_iload C X95 at_137 (pc' := 139) rfl rfl ?_
        refine g_callV C X95 (w_44 hw) (w_45 hw) (notFace_of_selects (args := #[]) (mvT C.2.1 (w_47 hw))) (w_47 hw) (w_46 hw) (w_48 hw) (w_9 hw) (by decide) f89 at_139 (rm9 l Z a0 hw [] b69 v68 r1 r2 T86.heap n0 Z86 f90 f91) (by decide) (by decide) rfl pd_5 rfl (argsL := [(.int v68)]) (rest := []) rfl (W := 0) (Nat.le_of_eq rfl) eq95 (by decide) (by decide) (pc' := 142) rfl (fun u96 T96 L96 X96 hQ96 => ?_)
        obtain ⟨rfl, Nq96, eq96⟩ := hQ96
        have N96 := Fr.app N95 Nq96
        obtain ⟨r96, hr96⟩ : ∃ z : Int32, (fCon v68 r1 r2) = z := ⟨_, rfl⟩
        rw [hr96]
        show Goes p.tables e below G (T96.setTop (mkF m 142 #[.val (.int p0), .val (.int p1), .val (.int p2), .val (.int p3), .val (.int r1), .val (.int r2), .val (.int (1 : Int32)), .val (.int v4), .val (.int v68), .val (.ref b69), .val (.ref b74), .val (.ref o386), .val (.int (0 : Int32))] [(.int r96)]))
        refine g_iload C X96 at_142 (pc' := 144) rfl rfl ?_
        refine g_icmp_ne C X96 at_144 (pcT := 151) (pcN := 147) (by decide) (by decide) rfl (fun hc144 => absurd (hr96.symm.trans (own_lo (by rw [hr95]; exact hc115))) hc144) (fun hc144 => ?_)
        subst hc144
        refine g_iconst C X96 at_147 (pc' := 148) rfl (v := 1) rfl ?_
        refine g_goto C X96 at_148 (pc' := 152) (by decide) (by decide) ?_
        exact g_retN C X96 K (by simp) at_152 (by decide) (by decide) eq96 ⟨rfl, N96⟩
      · refine g_aload C X95 at_118 (pc' := 120) rfl rfl rfl ?_
        refine g_callV C X95 (w_39 hw) (w_40 hw) (notFace_of_selects (args := #[]) (mvT C.2.1 (w_42 hw))) (w_42 hw) (w_41 hw) (w_43 hw) (w_9 hw) (by decide) q86_0 at_120 (rm8 l Z a0 hw [] o386 (f2 r2 v68) T86.heap n0 Z86 q86_2) (by decide) (by decide) rfl pd_4 rfl (argsL := []) (rest := []) rfl (W := 0) (Nat.le_of_eq rfl) eq95 (by decide) (by decide) (pc' := 123) rfl (fun u97 T97 L97 X97 hQ97 => ?_)
        obtain ⟨rfl, Nq97, eq97⟩ := hQ97
        have N97 := Fr.app N95 Nq97
        obtain ⟨r97, hr97⟩ : ∃ z : Int32, (f2 r2 v68) = z := ⟨_, rfl⟩
        rw [hr97]
        show Goes p.tables e below G (T97.setTop (mkF m 123 #[.val (.int p0), .val (.int p1), .val (.int p2), .val (.int p3), .val (.int r1), .val (.int r2), .val (.int (1 : Int32)), .val (.int v4), .val (.int v68), .val (.ref b69), .val (.ref b74), .val (.ref o386), .unset] [(.int r97)]))
        refine g_iload C X97 at_123 (pc' := 125) rfl rfl ?_
        refine g_icmp_ne C X97 at_125 (pcT := 132) (pcN := 128) (by decide) (by decide) rfl (fun hc125 => ?_) (fun hc125 => ?_)
        · refine g_iconst C X97 at_132 (pc' := 133) rfl (v := 0) rfl ?_
          refine g_istore C X97 at_133 (pc' := 135) rfl (w := (0 : Int32)) rfl (ls' := #[.val (.int p0), .val (.int p1), .val (.int p2), .val (.int p3), .val (.int r1), .val (.int r2), .val (.int (1 : Int32)), .val (.int v4), .val (.int v68), .val (.ref b69), .val (.ref b74), .val (.ref o386), .val (.int (0 : Int32))]) rfl ?_
          refine g_aload C X97 at_135 (pc' := 137) rfl rfl rfl ?_
          refine g_iload C X97 at_137 (pc' := 139) rfl rfl ?_
          refine g_callV C X97 (w_44 hw) (w_45 hw) (notFace_of_selects (args := #[]) (mvT C.2.1 (w_47 hw))) (w_47 hw) (w_46 hw) (w_48 hw) (w_9 hw) (by decide) f89 at_139 (rm9 l Z a0 hw [] b69 v68 r1 r2 T86.heap n0 Z86 f90 f91) (by decide) (by decide) rfl pd_5 rfl (argsL := [(.int v68)]) (rest := []) rfl (W := 0) (Nat.le_of_eq rfl) eq97 (by decide) (by decide) (pc' := 142) rfl (fun u98 T98 L98 X98 hQ98 => ?_)
          obtain ⟨rfl, Nq98, eq98⟩ := hQ98
          have N98 := Fr.app N97 Nq98
          obtain ⟨r98, hr98⟩ : ∃ z : Int32, (fCon v68 r1 r2) = z := ⟨_, rfl⟩
          rw [hr98]
          show Goes p.tables e below G (T98.setTop (mkF m 142 #[.val (.int p0), .val (.int p1), .val (.int p2), .val (.int p3), .val (.int r1), .val (.int r2), .val (.int (1 : Int32)), .val (.int v4), .val (.int v68), .val (.ref b69), .val (.ref b74), .val (.ref o386), .val (.int (0 : Int32))] [(.int r98)]))
          refine g_iload C X98 at_142 (pc' := 144) rfl rfl ?_
          refine g_icmp_ne C X98 at_144 (pcT := 151) (pcN := 147) (by decide) (by decide) rfl (fun hc144 => absurd (hr98.symm.trans (own_hi (by rw [hr97]; exact hc125))) hc144) (fun hc144 => ?_)
          subst hc144
          refine g_iconst C X98 at_147 (pc' := 148) rfl (v := 1) rfl ?_
          refine g_goto C X98 at_148 (pc' := 152) (by decide) (by decide) ?_
          exact g_retN C X98 K (by simp) at_152 (by decide) (by decide) eq98 ⟨rfl, N98⟩
        · refine g_iconst C X97 at_128 (pc' := 129) rfl (v := 1) rfl ?_
          refine g_goto C X97 at_129 (pc' := 133) (by decide) (by decide) ?_
          refine g_istore C X97 at_133 (pc' := 135) rfl (w := (1 : Int32)) rfl (ls' := #[.val (.int p0), .val (.int p1), .val (.int p2), .val (.int p3), .val (.int r1), .val (.int r2), .val (.int (1 : Int32)), .val (.int v4), .val (.int v68), .val (.ref b69), .val (.ref b74), .val (.ref o386), .val (.int (1 : Int32))]) rfl ?_
          refine g_aload C X97 at_135 (pc' := 137) rfl rfl rfl ?_
          refine g_iload C X97 at_137 (pc' := 139) rfl rfl ?_
          refine g_callV C X97 (w_44 hw) (w_45 hw) (notFace_of_selects (args := #[]) (mvT C.2.1 (w_47 hw))) (w_47 hw) (w_46 hw) (w_48 hw) (w_9 hw) (by decide) f89 at_139 (rm9 l Z a0 hw [] b69 v68 r1 r2 T86.heap n0 Z86 f90 f91) (by decide) (by decide) rfl pd_5 rfl (argsL := [(.int v68)]) (rest := []) rfl (W := 0) (Nat.le_of_eq rfl) eq97 (by decide) (by decide) (pc' := 142) rfl (fun u99 T99 L99 X99 hQ99 => ?_)
          obtain ⟨rfl, Nq99, eq99⟩ := hQ99
          have N99 := Fr.app N97 Nq99
          obtain ⟨r99, hr99⟩ : ∃ z : Int32, (fCon v68 r1 r2) = z := ⟨_, rfl⟩
          rw [hr99]
          show Goes p.tables e below G (T99.setTop (mkF m 142 #[.val (.int p0), .val (.int p1), .val (.int p2), .val (.int p3), .val (.int r1), .val (.int r2), .val (.int (1 : Int32)), .val (.int v4), .val (.int v68), .val (.ref b69), .val (.ref b74), .val (.ref o386), .val (.int (1 : Int32))] [(.int r99)]))
          refine g_iload C X99 at_142 (pc' := 144) rfl rfl ?_
          refine g_icmp_ne C X99 at_144 (pcT := 151) (pcN := 147) (by decide) (by decide) rfl (fun hc144 => absurd (hr99.symm.trans (own_in (hr95.trans hc115) (hr97.trans hc125))) hc144) (fun hc144 => ?_)
          subst hc144
          refine g_iconst C X99 at_147 (pc' := 148) rfl (v := 1) rfl ?_
          refine g_goto C X99 at_148 (pc' := 152) (by decide) (by decide) ?_
          exact g_retN C X99 K (by simp) at_152 (by decide) (by decide) eq99 ⟨rfl, N99⟩
  · subst hc28
    refine g_iloadN C X2 at_31 (pc' := 32) rfl rfl ?_
    refine g_istore C X2 at_32 (pc' := 34) rfl (w := p2) rfl (ls' := #[.val (.int p0), .val (.int p1), .val (.int p2), .val (.int p3), .val (.int r1), .val (.int r2), .val (.int (0 : Int32)), .val (.int v4), .val (.int p2), .unset, .unset, .unset, .unset]) rfl ?_
    refine g_goto C X2 at_34 (pc' := 73) (by decide) (by decide) ?_
    refine g_new C X2 (w_7 hw) (w_8 hw) (w_9 hw) eq2 at_73 (pc' := 76) rfl (by decide) (by decide) (fun T100 h100 b100 X100 e100 g100 E100 A100 D100 => ?_)
    have gn_b100 : n0 ≤ b100 := Nat.le_trans Z0 (Nat.le_of_eq g100.symm)
    have Z100 := Nat.le_trans Z0 E100.1
    have f101 : Fld Z h100 b100 "com/example/hanko/hanko/access/LabelRange" "min" "I" (.int (0 : Int32)) := D100 (Or.inr (w_22 hw)) (ty := .int) (by decide)
    have f102 : Fld Z h100 b100 "com/example/hanko/hanko/access/LabelRange" "max" "I" (.int (0 : Int32)) := D100 (Or.inr (w_24 hw)) (ty := .int) (by decide)
    refine g_dup C X100 at_76 (pc' := 77) rfl rfl ?_
    refine g_iload C X100 at_77 (pc' := 79) rfl rfl ?_
    refine g_iload C X100 at_79 (pc' := 81) rfl rfl ?_
    refine g_callI C X100 rfl (w_10 hw) (w_11 hw) (w_9 hw) (w_12 hw) (by decide) at_81 (rm3 l Z a0 hw [] b100 r1 r2 h100 n0 Z100 A100 f101 f102 gn_b100 (by rw [← hr1, ← hr2]; exact own_mm p0 p1)) (by decide) (by decide) rfl pd_2 rfl (argsL := [(.int r1), (.int r2)]) (rest := [(.ref b100)]) rfl (W := 1) (Nat.le_of_eq rfl) e100 (by decide) (by decide) (pc' := 84) rfl (fun u103 T103 L103 X103 hQ103 => ?_)
    obtain ⟨rfl, Nq103, Kq103, q103_0, q103_1, q103_2⟩ := hQ103
    have N103 := Fr.app N2 Nq103
    have f104 := A100.keep Kq103
    have Z103 := Nat.le_trans Z100 Kq103.1
    show Goes p.tables e below G (T103.setTop (mkF m 84 #[.val (.int p0), .val (.int p1), .val (.int p2), .val (.int p3), .val (.int r1), .val (.int r2), .val (.int (0 : Int32)), .val (.int v4), .val (.int p2), .unset, .unset, .unset, .unset] [(.ref b100)]))
    refine g_astore C X103 at_84 (pc' := 86) rfl rfl (ls' := #[.val (.int p0), .val (.int p1), .val (.int p2), .val (.int p3), .val (.int r1), .val (.int r2), .val (.int (0 : Int32)), .val (.int v4), .val (.int p2), .val (.ref b100), .unset, .unset, .unset]) rfl ?_
    refine g_new C X103 (w_7 hw) (w_8 hw) (w_9 hw) rfl at_86 (pc' := 89) rfl (by decide) (by decide) (fun T105 h105 b105 X105 e105 g105 E105 A105 D105 => ?_)
    have n106 : b100 ≠ b105 := Nat.ne_of_lt (Nat.lt_of_lt_of_eq q103_0.lt g105.symm)
    have f107 := q103_0.ext E105
    have f108 := q103_1.ext E105
    have f109 := q103_2.ext E105
    have gn_b105 : n0 ≤ b105 := Nat.le_trans Z103 (Nat.le_of_eq g105.symm)
    have Z105 := Nat.le_trans Z103 E105.1
    have f110 : Fld Z h105 b105 "com/example/hanko/hanko/access/LabelRange" "min" "I" (.int (0 : Int32)) := D105 (Or.inr (w_22 hw)) (ty := .int) (by decide)
    have f111 : Fld Z h105 b105 "com/example/hanko/hanko/access/LabelRange" "max" "I" (.int (0 : Int32)) := D105 (Or.inr (w_24 hw)) (ty := .int) (by decide)
    refine g_dup C X105 at_89 (pc' := 90) rfl rfl ?_
    refine g_iload C X105 at_90 (pc' := 92) rfl rfl ?_
    refine g_iload C X105 at_92 (pc' := 94) rfl rfl ?_
    refine g_callI C X105 rfl (w_10 hw) (w_11 hw) (w_9 hw) (w_12 hw) (by decide) at_94 (rm3 l Z a0 hw [] b105 p2 p2 h105 n0 Z105 A105 f110 f111 gn_b105 (fun q => Int32.lt_irrefl q)) (by decide) (by decide) rfl pd_2 rfl (argsL := [(.int p2), (.int p2)]) (rest := [(.ref b105)]) rfl (W := 1) (Nat.le_of_eq rfl) e105 (by decide) (by decide) (pc' := 97) rfl (fun u112 T112 L112 X112 hQ112 => ?_)
    obtain ⟨rfl, Nq112, Kq112, q112_0, q112_1, q112_2⟩ := hQ112
    have N112 := Fr.app N103 Nq112
    have f113 := f107.keep Kq112
    have f114 := f108.keep Kq112 (ninS n106 nin0)
    have f115 := f109.keep Kq112 (ninS n106 nin0)
    have f116 := A105.keep Kq112
    have Z112 := Nat.le_trans Z105 Kq112.1
    show Goes p.tables e below G (T112.setTop (mkF m 97 #[.val (.int p0), .val (.int p1), .val (.int p2), .val (.int p3), .val (.int r1), .val (.int r2), .val (.int (0 : Int32)), .val (.int v4), .val (.int p2), .val (.ref b100), .unset, .unset, .unset] [(.ref b105)]))
    refine g_astore C X112 at_97 (pc' := 99) rfl rfl (ls' := #[.val (.int p0), .val (.int p1), .val (.int p2), .val (.int p3), .val (.int r1), .val (.int r2), .val (.int (0 : Int32)), .val (.int v4), .val (.int p2), .val (.ref b100), .val (.ref b105), .unset, .unset]) rfl ?_
    refine g_aload C X112 at_99 (pc' := 101) rfl rfl rfl ?_
    refine g_aload C X112 at_101 (pc' := 103) rfl rfl rfl ?_
    refine g_callV C X112 (w_25 hw) (w_26 hw) (notFace_of_selects (args := #[]) (mvT C.2.1 (w_28 hw))) (w_28 hw) (w_27 hw) (w_29 hw) (w_9 hw) (by decide) f113 at_103 (rm6 l Z a0 hw [] b100 b105 r1 r2 p2 p2 T112.heap n0 Z112 f113 q112_0 f114 f115 q112_1 q112_2 (by rw [← hr1, ← hr2]; exact own_mm p0 p1) (fun q => Int32.lt_irrefl q)) (by decide) (by decide) rfl pd_3 rfl (argsL := [(.ref b105)]) (rest := []) rfl (W := 0) (Nat.le_of_eq rfl) rfl (by decide) (by decide) (pc' := 106) rfl (fun u117 T117 L117 X117 hQ117 => ?_)
    obtain ⟨o3117, rfl, Nq117, szo3117, Kq117, q117_0, q117_1, q117_2⟩ := hQ117
    have N117 := Fr.app N112 Nq117
    have n118 : b100 ≠ o3117 := Nat.ne_of_lt (Nat.lt_of_lt_of_le f113.lt szo3117)
    have n119 : b105 ≠ o3117 := Nat.ne_of_lt (Nat.lt_of_lt_of_le q112_0.lt szo3117)
    have f120 := f113.keep Kq117
    have f121 := f114.keep Kq117 nin0
    have f122 := f115.keep Kq117 nin0
    have f123 := q112_0.keep Kq117
    have f124 := q112_1.keep Kq117 nin0
    have f125 := q112_2.keep Kq117 nin0
    have gn_o3117 : n0 ≤ o3117 := Nat.le_trans Z112 szo3117
    have Z117 := Nat.le_trans Z112 Kq117.1
    show Goes p.tables e below G (T117.setTop (mkF m 106 #[.val (.int p0), .val (.int p1), .val (.int p2), .val (.int p3), .val (.int r1), .val (.int r2), .val (.int (0 : Int32)), .val (.int v4), .val (.int p2), .val (.ref b100), .val (.ref b105), .unset, .unset] [(.ref o3117)]))
    refine g_astore C X117 at_106 (pc' := 108) rfl rfl (ls' := #[.val (.int p0), .val (.int p1), .val (.int p2), .val (.int p3), .val (.int r1), .val (.int r2), .val (.int (0 : Int32)), .val (.int v4), .val (.int p2), .val (.ref b100), .val (.ref b105), .val (.ref o3117), .unset]) rfl ?_
    refine g_aload C X117 at_108 (pc' := 110) rfl rfl rfl ?_
    refine g_callV C X117 (w_34 hw) (w_35 hw) (notFace_of_selects (args := #[]) (mvT C.2.1 (w_37 hw))) (w_37 hw) (w_36 hw) (w_38 hw) (w_9 hw) (by decide) q117_0 at_110 (rm7 l Z a0 hw [] o3117 (f1 r1 p2) T117.heap n0 Z117 q117_1) (by decide) (by decide) rfl pd_4 rfl (argsL := []) (rest := []) rfl (W := 0) (Nat.le_of_eq rfl) rfl (by decide) (by decide) (pc' := 113) rfl (fun u126 T126 L126 X126 hQ126 => ?_)
    obtain ⟨rfl, Nq126, eq126⟩ := hQ126
    have N126 := Fr.app N117 Nq126
    obtain ⟨r126, hr126⟩ : ∃ z : Int32, (f1 r1 p2) = z := ⟨_, rfl⟩
    rw [hr126]
    show Goes p.tables e below G (T126.setTop (mkF m 113 #[.val (.int p0), .val (.int p1), .val (.int p2), .val (.int p3), .val (.int r1), .val (.int r2), .val (.int (0 : Int32)), .val (.int v4), .val (.int p2), .val (.ref b100), .val (.ref b105), .val (.ref o3117), .unset] [(.int r126)]))
    refine g_iload C X126 at_113 (pc' := 115) rfl rfl ?_
    refine g_icmp_ne C X126 at_115 (pcT := 132) (pcN := 118) (by decide) (by decide) rfl (fun hc115 => ?_) (fun hc115 => ?_)
    · refine g_iconst C X126 at_132 (pc' := 133) rfl (v := 0) rfl ?_
      refine g_istore C X126 at_133 (pc' := 135) rfl (w := (0 : Int32)) rfl (ls' := #[.val (.int p0), .val (.int p1), .val (.int p2), .val (.int p3), .val (.int r1), .val (.int r2), .val (.int (0 : Int32)), .val (.int v4), .val (.int p2), .val (.ref b100), .val (.ref b105), .val (.ref o3117), .val (.int (0 : Int32))]) rfl ?_
      refine g_aload C X126 at_135 (pc' := 137) rfl rfl rfl ?_
      refine g_iload C X126 at_137 (pc' := 139) rfl rfl ?_
      refine g_callV C X126 (w_44 hw) (w_45 hw) (notFace_of_selects (args := #[]) (mvT C.2.1 (w_47 hw))) (w_47 hw) (w_46 hw) (w_48 hw) (w_9 hw) (by decide) f120 at_139 (rm9 l Z a0 hw [] b100 p2 r1 r2 T117.heap n0 Z117 f121 f122) (by decide) (by decide) rfl pd_5 rfl (argsL := [(.int p2)]) (rest := []) rfl (W := 0) (Nat.le_of_eq rfl) eq126 (by decide) (by decide) (pc' := 142) rfl (fun u127 T127 L127 X127 hQ127 => ?_)
      obtain ⟨rfl, Nq127, eq127⟩ := hQ127
      have N127 := Fr.app N126 Nq127
      obtain ⟨r127, hr127⟩ : ∃ z : Int32, (fCon p2 r1 r2) = z := ⟨_, rfl⟩
      rw [hr127]
      show Goes p.tables e below G (T127.setTop (mkF m 142 #[.val (.int p0), .val (.int p1), .val (.int p2), .val (.int p3), .val (.int r1), .val (.int r2), .val (.int (0 : Int32)), .val (.int v4), .val (.int p2), .val (.ref b100), .val (.ref b105), .val (.ref o3117), .val (.int (0 : Int32))] [(.int r127)]))
      refine g_iload C X127 at_142 (pc' := 144) rfl rfl ?_
      refine g_icmp_ne C X127 at_144 (pcT := 151) (pcN := 147) (by decide) (by decide) rfl (fun hc144 => absurd (hr127.symm.trans (own_lo (by rw [hr126]; exact hc115))) hc144) (fun hc144 => ?_)
      subst hc144
      refine g_iconst C X127 at_147 (pc' := 148) rfl (v := 1) rfl ?_
      refine g_goto C X127 at_148 (pc' := 152) (by decide) (by decide) ?_
      exact g_retN C X127 K (by simp) at_152 (by decide) (by decide) eq127 ⟨rfl, N127⟩
    · refine g_aload C X126 at_118 (pc' := 120) rfl rfl rfl ?_
      refine g_callV C X126 (w_39 hw) (w_40 hw) (notFace_of_selects (args := #[]) (mvT C.2.1 (w_42 hw))) (w_42 hw) (w_41 hw) (w_43 hw) (w_9 hw) (by decide) q117_0 at_120 (rm8 l Z a0 hw [] o3117 (f2 r2 p2) T117.heap n0 Z117 q117_2) (by decide) (by decide) rfl pd_4 rfl (argsL := []) (rest := []) rfl (W := 0) (Nat.le_of_eq rfl) eq126 (by decide) (by decide) (pc' := 123) rfl (fun u128 T128 L128 X128 hQ128 => ?_)
      obtain ⟨rfl, Nq128, eq128⟩ := hQ128
      have N128 := Fr.app N126 Nq128
      obtain ⟨r128, hr128⟩ : ∃ z : Int32, (f2 r2 p2) = z := ⟨_, rfl⟩
      rw [hr128]
      show Goes p.tables e below G (T128.setTop (mkF m 123 #[.val (.int p0), .val (.int p1), .val (.int p2), .val (.int p3), .val (.int r1), .val (.int r2), .val (.int (0 : Int32)), .val (.int v4), .val (.int p2), .val (.ref b100), .val (.ref b105), .val (.ref o3117), .unset] [(.int r128)]))
      refine g_iload C X128 at_123 (pc' := 125) rfl rfl ?_
      refine g_icmp_ne C X128 at_125 (pcT := 132) (pcN := 128) (by decide) (by decide) rfl (fun hc125 => ?_) (fun hc125 => ?_)
      · refine g_iconst C X128 at_132 (pc' := 133) rfl (v := 0) rfl ?_
        refine g_istore C X128 at_133 (pc' := 135) rfl (w := (0 : Int32)) rfl (ls' := #[.val (.int p0), .val (.int p1), .val (.int p2), .val (.int p3), .val (.int r1), .val (.int r2), .val (.int (0 : Int32)), .val (.int v4), .val (.int p2), .val (.ref b100), .val (.ref b105), .val (.ref o3117), .val (.int (0 : Int32))]) rfl ?_
        refine g_aload C X128 at_135 (pc' := 137) rfl rfl rfl ?_
        refine g_iload C X128 at_137 (pc' := 139) rfl rfl ?_
        refine g_callV C X128 (w_44 hw) (w_45 hw) (notFace_of_selects (args := #[]) (mvT C.2.1 (w_47 hw))) (w_47 hw) (w_46 hw) (w_48 hw) (w_9 hw) (by decide) f120 at_139 (rm9 l Z a0 hw [] b100 p2 r1 r2 T117.heap n0 Z117 f121 f122) (by decide) (by decide) rfl pd_5 rfl (argsL := [(.int p2)]) (rest := []) rfl (W := 0) (Nat.le_of_eq rfl) eq128 (by decide) (by decide) (pc' := 142) rfl (fun u129 T129 L129 X129 hQ129 => ?_)
        obtain ⟨rfl, Nq129, eq129⟩ := hQ129
        have N129 := Fr.app N128 Nq129
        obtain ⟨r129, hr129⟩ : ∃ z : Int32, (fCon p2 r1 r2) = z := ⟨_, rfl⟩
        rw [hr129]
        show Goes p.tables e below G (T129.setTop (mkF m 142 #[.val (.int p0), .val (.int p1), .val (.int p2), .val (.int p3), .val (.int r1), .val (.int r2), .val (.int (0 : Int32)), .val (.int v4), .val (.int p2), .val (.ref b100), .val (.ref b105), .val (.ref o3117), .val (.int (0 : Int32))] [(.int r129)]))
        refine g_iload C X129 at_142 (pc' := 144) rfl rfl ?_
        refine g_icmp_ne C X129 at_144 (pcT := 151) (pcN := 147) (by decide) (by decide) rfl (fun hc144 => absurd (hr129.symm.trans (own_hi (by rw [hr128]; exact hc125))) hc144) (fun hc144 => ?_)
        subst hc144
        refine g_iconst C X129 at_147 (pc' := 148) rfl (v := 1) rfl ?_
        refine g_goto C X129 at_148 (pc' := 152) (by decide) (by decide) ?_
        exact g_retN C X129 K (by simp) at_152 (by decide) (by decide) eq129 ⟨rfl, N129⟩
      · refine g_iconst C X128 at_128 (pc' := 129) rfl (v := 1) rfl ?_
        refine g_goto C X128 at_129 (pc' := 133) (by decide) (by decide) ?_
        refine g_istore C X128 at_133 (pc' := 135) rfl (w := (1 : Int32)) rfl (ls' := #[.val (.int p0), .val (.int p1), .val (.int p2), .val (.int p3), .val (.int r1), .val (.int r2), .val (.int (0 : Int32)), .val (.int v4), .val (.int p2), .val (.ref b100), .val (.ref b105), .val (.ref o3117), .val (.int (1 : Int32))]) rfl ?_
        refine g_aload C X128 at_135 (pc' := 137) rfl rfl rfl ?_
        refine g_iload C X128 at_137 (pc' := 139) rfl rfl ?_
        refine g_callV C X128 (w_44 hw) (w_45 hw) (notFace_of_selects (args := #[]) (mvT C.2.1 (w_47 hw))) (w_47 hw) (w_46 hw) (w_48 hw) (w_9 hw) (by decide) f120 at_139 (rm9 l Z a0 hw [] b100 p2 r1 r2 T117.heap n0 Z117 f121 f122) (by decide) (by decide) rfl pd_5 rfl (argsL := [(.int p2)]) (rest := []) rfl (W := 0) (Nat.le_of_eq rfl) eq128 (by decide) (by decide) (pc' := 142) rfl (fun u130 T130 L130 X130 hQ130 => ?_)
        obtain ⟨rfl, Nq130, eq130⟩ := hQ130
        have N130 := Fr.app N128 Nq130
        obtain ⟨r130, hr130⟩ : ∃ z : Int32, (fCon p2 r1 r2) = z := ⟨_, rfl⟩
        rw [hr130]
        show Goes p.tables e below G (T130.setTop (mkF m 142 #[.val (.int p0), .val (.int p1), .val (.int p2), .val (.int p3), .val (.int r1), .val (.int r2), .val (.int (0 : Int32)), .val (.int v4), .val (.int p2), .val (.ref b100), .val (.ref b105), .val (.ref o3117), .val (.int (1 : Int32))] [(.int r130)]))
        refine g_iload C X130 at_142 (pc' := 144) rfl rfl ?_
        refine g_icmp_ne C X130 at_144 (pcT := 151) (pcN := 147) (by decide) (by decide) rfl (fun hc144 => absurd (hr130.symm.trans (own_in (hr126.trans hc115) (hr128.trans hc125))) hc144) (fun hc144 => ?_)
        subst hc144
        refine g_iconst C X130 at_147 (pc' := 148) rfl (v := 1) rfl ?_
        refine g_goto C X130 at_148 (pc' := 152) (by decide) (by decide) ?_
        exact g_retN C X130 K (by simp) at_152 (by decide) (by decide) eq130 ⟨rfl, N130⟩
set_option maxRecDepth 65536 in
set_option maxHeartbeats 40000000 in
theorem comes_1 {Post : Tables → Env → Array Value → State → Outcome → State → Prop} (hpost : ∀ tb e args s v u, (limb_1_1.after args s (.returned v) u = true ∧ limb_1_2.after args s (.returned v) u = true ∧ True) → FrameEnd s (.returned v) u (Jvm.fieldLocs frame_1_writes args s ++ Jvm.arrayLocs frame_1_arrays args s ++ Jvm.staticLocs frame_1_statics s) 16 128 → Post tb e args s (.returned v) u) :
    ArmFor flags0 classFile x code maxLocals ret World_1 tables_1 room_1 Calls_1 rest_1 Pre_1 Post := by
  intro l hfl _ _ p e ha hc hk s m args below hf hA hF happ hP
  obtain ⟨hcalls, hrest, hpre⟩ := hP
  obtain ⟨-, -, -, hnamed, -, -, -, hat⟩ := (Spec.applies_iff hf).mp happ
  obtain ⟨hg, hn⟩ := and_e (Cond.before_iff.mp (show (Jvm.Cond.and given_1 narrow_1).before args s = true from hpre))
  obtain ⟨gc, g0⟩ := and_e hg
  obtain ⟨k0, g1⟩ := and_e g0
  obtain ⟨k1, g2⟩ := and_e g1
  obtain ⟨k2, g3⟩ := and_e g2
  have k3 := g3
  obtain ⟨w0, w1, w2, w3, rfl⟩ : ∃ w0 w1 w2 w3 : Value, args = #[w0, w1, w2, w3] := by
    have hs : args.size = 4 := by simpa [Cond.value, given_1] using gc
    obtain ⟨L⟩ := args
    match L, hs with
    | [w0, w1, w2, w3], _ => exact ⟨w0, w1, w2, w3, rfl⟩
  have hw := fun d (hd : d ∈ tables_1) => atoms_spec (ws := Jvm.Cond.code x code maxLocals ret :: tables_1) hat d (List.mem_cons_of_mem _ hd)
  obtain ⟨i0, ei0⟩ := is_v k0
  obtain rfl : w0 = (.int i0) := Option.some.inj ei0
  obtain ⟨i1, ei1⟩ := is_v k1
  obtain rfl : w1 = (.int i1) := Option.some.inj ei1
  obtain ⟨i2, ei2⟩ := is_v k2
  obtain rfl : w2 = (.int i2) := Option.some.inj ei2
  obtain ⟨i3, ei3⟩ := is_v k3
  obtain rfl : w3 = (.int i3) := Option.some.inj ei3
  obtain ⟨n, o, h1, h2, h3, _, L, rfl, ⟨rfl, N⟩, hq⟩ := rm0 l s _ hw tables_1 i0 i1 i2 i3  s.heap s.heap.size (Nat.le_refl _) p e ha hc hk s m _ below hf ((Spec.applies_iff_loose hf).mp happ).1 ⟨rfl, State.Warmed39.refl s, rfl⟩ trivial
  refine ⟨n, _, h1, h2, h3, hpost _ _ _ _ _ _ ⟨Cond.after_iff.mpr rfl, Cond.after_iff.mpr (eq_i res_at (Term.int_eval (1)) rfl), trivial⟩ ⟨hq.1, hq.2.1, (hq.2.2.sift fun y hy => Or.inr (N y hy)).mono (by decide) (by decide)⟩⟩
theorem main_1_1 : Claimed_1_1 := comes_1 fun _ _ _ _ _ _ h hF => ⟨h.1, hF⟩
theorem main_1_2 : Claimed_1_2 := comes_1 fun _ _ _ _ _ _ h hF => ⟨h.2.1, hF⟩
end Jvm.Pilot.@@N@@
namespace Jvm.Pilot.@@N@@
open Jvm Jvm.ClassFile Sem Op Lib Jvm.Free Jvm.Stand Jvm.Pilot.@@N@@.Jvm.D
/-! MADE BY PROGRAM (witnessworld.py) out of the Statement's table words and the real class files: 11 classes; the members and pool entries that the words name. The judged class is class 1, her method 1. -/
namespace start1
open Jvm.ClassFile
def u (s : String) : CpInfo := .utf8 (stringToUtf16 s)
/-- a pool by its gaps: so many unusable entries, then the entry; so many at the end -/
def gap : Nat → List CpInfo → List CpInfo
  | 0, r => r
  | n + 1, r => .unusable :: gap n r
def poolList (es : List (Nat × CpInfo)) (last : Nat) : List CpInfo := es.foldr (fun e r => gap e.1 (e.2 :: r)) (gap last [])
def pool (es : List (Nat × CpInfo)) (last : Nat) : Array CpInfo := ⟨poolList es last⟩
def fileOf (pool : Array CpInfo) (this : Nat) (attrs : Array Attribute := #[]) (ms : Array MethodInfo := #[]) (fl : Nat := 33) (sup : Nat := 0) (ifs : Array Nat := #[]) (fds : Array FieldInfo := #[]) : ClassFile where
  minorVersion := 0
  majorVersion := 65
  constantPool := pool
  accessFlags := fl
  thisClass := this
  superClass := sup
  interfaces := ifs
  fields := fds
  methods := ms
  attributes := attrs
def plain (name : String) (sup : Option ClassId) : Class where
  name := name
  kind := .ordinary
  loader := none
  accessFlags := 33
  super := sup
  interfaces := #[]
  cf := none
  fields := #[]
  methods := #[]
  instanceTypes := #[]
  staticTypes := #[]
  resolved := #[]
  callSites := []
  init := .initialized
  statics := none
  mirror := none

def pool0 : Array CpInfo := pool [(5, u "<init>"), (0, u "()V"), (1, .class_ 10), (1, u "java/lang/Object")] 113

def k0c0 : Code := { maxStack := 0, maxLocals := 1, code := object_method_1_code, exceptionTable := #[], attributes := #[] }
def k0m0 : Method := { name := "<init>", desc := "()V", sig := { parameters := [], returnType := none }, accessFlags := 1, code := some k0c0 }
/-- java/lang/Object -/
def k0 : Class := { plain "java/lang/Object" none with
  accessFlags := 33
  interfaces := #[]
  cf := some (fileOf pool0 8 #[] #[{ accessFlags := 1, nameIndex := 5, descriptorIndex := 6, attributes := #[] }] 33 0 #[] #[])
  fields := #[]
  methods := #[k0m0]
  instanceTypes := #[]
  staticTypes := #[]
  resolved := Array.replicate 124 none
  statics := none }

def pool1 : Array CpInfo := pool [(2, .class_ 4), (1, u "java/lang/Object"), (0, u "<init>"), (0, u "()V"), (0, .methodref 8 9), (0, .class_ 10), (0, .nameAndType 11 12), (0, u "java/lang/Math"), (0, u "min"), (0, u "(II)I"), (0, .methodref 8 14), (0, .nameAndType 15 12), (0, u "max"), (0, .class_ 17), (0, u "com/example/hanko/hanko/access/LabelRange"), (0, .methodref 16 19), (0, .nameAndType 5 20), (0, u "(II)V"), (0, .methodref 16 22), (0, .nameAndType 23 24), (0, u "span"), (0, u "(Lcom/example/hanko/hanko/access/LabelRange;)Lcom/example/hanko/hanko/access/LabelRange;"), (0, .methodref 16 26), (0, .nameAndType 11 27), (0, u "()I"), (0, .methodref 16 29), (0, .nameAndType 15 27), (0, .methodref 16 31), (0, .nameAndType 32 33), (0, u "contains"), (0, u "(I)Z"), (0, .class_ 35), (0, u "com/example/hanko/hanko/access/LabelRangeContainsPinLaw"), (2, u "law"), (0, u "(IIII)Z")] 3

def k1m0 : Method := { name := "<init>", desc := "()V", sig := { parameters := [], returnType := none }, accessFlags := 1, code := none }
def k1c1 : Code := { maxStack := 4, maxLocals := 13, code := code, exceptionTable := #[], attributes := #[] }
def k1m1 : Method := { name := "law", desc := "(IIII)Z", sig := { parameters := [.int, .int, .int, .int], returnType := some .boolean }, accessFlags := 9, code := some k1c1 }
/-- com/example/hanko/hanko/access/LabelRangeContainsPinLaw -/
def k1 : Class := { plain "com/example/hanko/hanko/access/LabelRangeContainsPinLaw" (some 0) with
  accessFlags := 49
  interfaces := #[]
  cf := some (fileOf pool1 34 #[] #[{ accessFlags := 1, nameIndex := 5, descriptorIndex := 6, attributes := #[] }, { accessFlags := 9, nameIndex := 38, descriptorIndex := 39, attributes := #[] }] 49 2 #[] #[])
  fields := #[]
  methods := #[k1m0, k1m1]
  instanceTypes := #[]
  staticTypes := #[]
  resolved := Array.replicate 43 none
  statics := none }

def pool2 : Array CpInfo := pool [(1, .class_ 2), (0, u "java/lang/Math"), (1, .class_ 6), (1, u "java/lang/Object"), (0, u "<init>"), (0, u "()V"), (89, .class_ 100), (1, u "java/lang/Math$RandomNumberGeneratorHolder"), (71, u "negativeZeroFloatBits"), (0, u "J"), (2, u "negativeZeroDoubleBits"), (21, u "max"), (2, u "min"), (43, u "$assertionsDisabled"), (0, u "Z"), (88, u "(II)I"), (2, u "twoToTheDoubleScaleDown"), (0, u "D"), (4, u "twoToTheDoubleScaleUp"), (9, u "E"), (3, u "PI"), (2, u "TAU"), (2, u "DEGREES_TO_RADIANS"), (0, u "RADIANS_TO_DEGREES")] 94

def k2m0 : Method := { name := "<init>", desc := "()V", sig := { parameters := [], returnType := none }, accessFlags := 2, code := none }
def k2c1 : Code := { maxStack := 2, maxLocals := 2, code := jdk_29_method_65_code, exceptionTable := #[], attributes := #[] }
def k2m1 : Method := { name := "max", desc := "(II)I", sig := { parameters := [.int, .int], returnType := some .int }, accessFlags := 9, code := some k2c1 }
def k2c2 : Code := { maxStack := 2, maxLocals := 2, code := jdk_29_method_69_code, exceptionTable := #[], attributes := #[] }
def k2m2 : Method := { name := "min", desc := "(II)I", sig := { parameters := [.int, .int], returnType := some .int }, accessFlags := 9, code := some k2c2 }
/-- java/lang/Math -/
def k2 : Class := { plain "java/lang/Math" (some 0) with
  accessFlags := 49
  interfaces := #[]
  cf := some (fileOf pool2 1 #[.nestMembers #[98]] #[{ accessFlags := 2, nameIndex := 7, descriptorIndex := 8, attributes := #[] }, { accessFlags := 9, nameIndex := 198, descriptorIndex := 335, attributes := #[] }, { accessFlags := 9, nameIndex := 201, descriptorIndex := 335, attributes := #[] }] 49 4 #[] #[{ accessFlags := 25, nameIndex := 354, descriptorIndex := 339, attributes := #[] }, { accessFlags := 25, nameIndex := 358, descriptorIndex := 339, attributes := #[] }, { accessFlags := 25, nameIndex := 361, descriptorIndex := 339, attributes := #[] }, { accessFlags := 26, nameIndex := 364, descriptorIndex := 339, attributes := #[] }, { accessFlags := 26, nameIndex := 365, descriptorIndex := 339, attributes := #[] }, { accessFlags := 26, nameIndex := 172, descriptorIndex := 173, attributes := #[] }, { accessFlags := 26, nameIndex := 176, descriptorIndex := 173, attributes := #[] }, { accessFlags := 8, nameIndex := 344, descriptorIndex := 339, attributes := #[] }, { accessFlags := 8, nameIndex := 338, descriptorIndex := 339, attributes := #[] }, { accessFlags := 4120, nameIndex := 245, descriptorIndex := 246, attributes := #[] }])
  fields := #[{ name := "E", type := .double, accessFlags := 25, slot := 0, constantValue := 0 }, { name := "PI", type := .double, accessFlags := 25, slot := 1, constantValue := 0 }, { name := "TAU", type := .double, accessFlags := 25, slot := 2, constantValue := 0 }, { name := "DEGREES_TO_RADIANS", type := .double, accessFlags := 26, slot := 3, constantValue := 0 }, { name := "RADIANS_TO_DEGREES", type := .double, accessFlags := 26, slot := 4, constantValue := 0 }, { name := "negativeZeroFloatBits", type := .long, accessFlags := 26, slot := 5, constantValue := 0 }, { name := "negativeZeroDoubleBits", type := .long, accessFlags := 26, slot := 6, constantValue := 0 }, { name := "twoToTheDoubleScaleUp", type := .double, accessFlags := 8, slot := 7, constantValue := 0 }, { name := "twoToTheDoubleScaleDown", type := .double, accessFlags := 8, slot := 8, constantValue := 0 }, { name := "$assertionsDisabled", type := .boolean, accessFlags := 4120, slot := 9, constantValue := 0 }]
  methods := #[k2m0, k2m1, k2m2]
  instanceTypes := #[]
  staticTypes := #[.double, .double, .double, .double, .double, .long, .long, .double, .double, .boolean]
  resolved := Array.replicate 460 none
  statics := none }

def pool3 : Array CpInfo := pool [(1, .methodref 2 3), (0, .class_ 4), (0, .nameAndType 5 6), (0, u "java/lang/Object"), (0, u "<init>"), (0, u "()V"), (0, .class_ 8), (0, u "java/lang/Record")] 13

def k3c0 : Code := { maxStack := 1, maxLocals := 1, code := jdk_30_method_1_code, exceptionTable := #[], attributes := #[] }
def k3m0 : Method := { name := "<init>", desc := "()V", sig := { parameters := [], returnType := none }, accessFlags := 4, code := some k3c0 }
/-- java/lang/Record -/
def k3 : Class := { plain "java/lang/Record" (some 0) with
  accessFlags := 1057
  interfaces := #[]
  cf := some (fileOf pool3 7 #[] #[{ accessFlags := 4, nameIndex := 5, descriptorIndex := 6, attributes := #[] }] 1057 2 #[] #[])
  fields := #[]
  methods := #[k3m0]
  instanceTypes := #[]
  staticTypes := #[]
  resolved := Array.replicate 22 none
  statics := none }

def pool4 : Array CpInfo := pool [(1, .methodref 2 3), (0, .class_ 4), (0, .nameAndType 5 6), (0, u "java/lang/Record"), (0, u "<init>"), (0, u "()V"), (3, .class_ 12), (1, u "com/example/hanko/hanko/access/LabelRange"), (9, .fieldref 10 23), (0, .nameAndType 24 25), (0, u "min"), (0, u "I"), (0, .fieldref 10 27), (0, .nameAndType 28 25), (0, u "max"), (2, u "WRITTEN"), (0, u "Ljava/util/regex/Pattern;"), (26, .methodref 10 60), (0, .nameAndType 5 61), (0, u "(II)V"), (30, .methodref 93 94), (0, .class_ 95), (0, .nameAndType 24 96), (0, u "java/lang/Math"), (0, u "(II)I"), (0, .methodref 93 98), (0, .nameAndType 28 96), (41, u "span"), (0, u "(Lcom/example/hanko/hanko/access/LabelRange;)Lcom/example/hanko/hanko/access/LabelRange;"), (0, u "contains"), (0, u "(I)Z"), (5, u "()I")] 43

def k4c0 : Code := { maxStack := 4, maxLocals := 3, code := prog_13_method_1_code, exceptionTable := #[], attributes := #[] }
def k4m0 : Method := { name := "<init>", desc := "(II)V", sig := { parameters := [.int, .int], returnType := none }, accessFlags := 1, code := some k4c0 }
def k4c1 : Code := { maxStack := 5, maxLocals := 2, code := prog_13_method_5_code, exceptionTable := #[], attributes := #[] }
def k4m1 : Method := { name := "span", desc := "(Lcom/example/hanko/hanko/access/LabelRange;)Lcom/example/hanko/hanko/access/LabelRange;", sig := { parameters := [(.object "com/example/hanko/hanko/access/LabelRange")], returnType := some (.object "com/example/hanko/hanko/access/LabelRange") }, accessFlags := 1, code := some k4c1 }
def k4c2 : Code := { maxStack := 2, maxLocals := 2, code := prog_13_method_6_code, exceptionTable := #[], attributes := #[] }
def k4m2 : Method := { name := "contains", desc := "(I)Z", sig := { parameters := [.int], returnType := some .boolean }, accessFlags := 1, code := some k4c2 }
def k4c3 : Code := { maxStack := 1, maxLocals := 1, code := prog_13_method_13_code, exceptionTable := #[], attributes := #[] }
def k4m3 : Method := { name := "min", desc := "()I", sig := { parameters := [], returnType := some .int }, accessFlags := 1, code := some k4c3 }
def k4c4 : Code := { maxStack := 1, maxLocals := 1, code := prog_13_method_14_code, exceptionTable := #[], attributes := #[] }
def k4m4 : Method := { name := "max", desc := "()I", sig := { parameters := [], returnType := some .int }, accessFlags := 1, code := some k4c4 }
/-- com/example/hanko/hanko/access/LabelRange -/
def k4 : Class := { plain "com/example/hanko/hanko/access/LabelRange" (some 3) with
  accessFlags := 49
  interfaces := #[]
  cf := some (fileOf pool4 10 #[] #[{ accessFlags := 1, nameIndex := 5, descriptorIndex := 61, attributes := #[] }, { accessFlags := 1, nameIndex := 140, descriptorIndex := 141, attributes := #[] }, { accessFlags := 1, nameIndex := 142, descriptorIndex := 143, attributes := #[] }, { accessFlags := 1, nameIndex := 24, descriptorIndex := 149, attributes := #[] }, { accessFlags := 1, nameIndex := 28, descriptorIndex := 149, attributes := #[] }] 49 2 #[] #[{ accessFlags := 18, nameIndex := 24, descriptorIndex := 25, attributes := #[] }, { accessFlags := 18, nameIndex := 28, descriptorIndex := 25, attributes := #[] }, { accessFlags := 26, nameIndex := 31, descriptorIndex := 32, attributes := #[] }])
  fields := #[{ name := "min", type := .int, accessFlags := 18, slot := 0, constantValue := 0 }, { name := "max", type := .int, accessFlags := 18, slot := 1, constantValue := 0 }, { name := "WRITTEN", type := (.object "java/util/regex/Pattern"), accessFlags := 26, slot := 0, constantValue := 0 }]
  methods := #[k4m0, k4m1, k4m2, k4m3, k4m4]
  instanceTypes := #[.int, .int]
  staticTypes := #[(.object "java/util/regex/Pattern")]
  resolved := Array.replicate 193 none
  statics := none }

def pool5 : Array CpInfo := pool [(1, u "java/lang/Cloneable"), (0, .class_ 1), (0, u "java/lang/Object"), (0, .class_ 3)] 3

/-- java/lang/Cloneable -/
def k5 : Class := { plain "java/lang/Cloneable" (some 0) with
  accessFlags := 1537
  interfaces := #[]
  cf := some (fileOf pool5 2 #[] #[] 1537 4 #[] #[])
  fields := #[]
  methods := #[]
  instanceTypes := #[]
  staticTypes := #[]
  resolved := Array.replicate 8 none
  statics := none }

def pool6 : Array CpInfo := pool [(1, u "java/io/Serializable"), (0, .class_ 1), (0, u "java/lang/Object"), (0, .class_ 3)] 3

/-- java/io/Serializable -/
def k6 : Class := { plain "java/io/Serializable" (some 0) with
  accessFlags := 1537
  interfaces := #[]
  cf := some (fileOf pool6 2 #[] #[] 1537 4 #[] #[])
  fields := #[]
  methods := #[]
  instanceTypes := #[]
  staticTypes := #[]
  resolved := Array.replicate 8 none
  statics := none }

/-- the primitive byte -/
def k7 : Class := { plain "byte" none with kind := .primitive 'B', accessFlags := 0x411 }
/-- [B -/
def k8 : Class := { plain "[B" (some 0) with kind := .array 7 .byte, interfaces := #[5, 6], accessFlags := 1041 }

/-- the primitive int -/
def k9 : Class := { plain "int" none with kind := .primitive 'I', accessFlags := 0x411 }
/-- [I -/
def k10 : Class := { plain "[I" (some 0) with kind := .array 9 .int, interfaces := #[5, 6], accessFlags := 1041 }

def heap : Heap := #[]
def classes : Array Class := #[k0, k1, k2, k3, k4, k5, k6, k7, k8, k9, k10]
def interned : List (Array UInt16 × Addr) := []
def slotsUsed : Nat := 0
def theMethod : MethodId := ⟨1, 1⟩
def args0 : Array Value := #[.int 5, .int 3, .int 7, .int 1]
def aboutOver (below : List Frame) : State where
  vm := { classes := classes, interned := interned.toArray }
  heap := heap
  slotsUsed := slotsUsed
  threads := #[{ frames := .invoking theMethod args0 :: below }]
def below0 : List Frame := [.native { method := ⟨0, 0⟩, args := #[] }]
def about1 : State := aboutOver below0
def p0 : Program := .bare "" "" ""
def e0 : Env := launch0.env 0 0 0
theorem w_frames : about1.frames = Frame.invoking theMethod args0 :: below0 := rfl
set_option maxRecDepth 65536 in
theorem w_args : argsFit about1.vm theMethod args0 = true := by decide +kernel
set_option maxRecDepth 65536 in
theorem w_heap : heapFits about1 = true := by decide +kernel
set_option maxRecDepth 65536 in
theorem w_runnable : about1.curStatus? = some .runnable := by decide +kernel
set_option maxRecDepth 65536 in
theorem w_alone : about1.alone = true := by decide +kernel
set_option maxRecDepth 65536 in
theorem w_named : about1.methodNamed? x = some theMethod := by decide +kernel
set_option maxRecDepth 65536 in
theorem w_hears : about1.hears theMethod below0 = true := by decide +kernel
set_option maxRecDepth 65536 in
theorem w_ripe : about1.ripe theMethod args0 below0 = true := by decide +kernel
theorem w_running : about1.status = .running := rfl
set_option maxRecDepth 65536 in
theorem w_room : about1.hasRoom e0.platform room_1 = true :=
  launch0.hasRoom_least _ room_1 (by decide +kernel) (by decide +kernel) (by decide +kernel) (by decide +kernel) (by decide +kernel) (by decide +kernel)
theorem allAtoms_all (ts : List Jvm.Cond) (a : Array Jvm.Value) (st : Jvm.State) : (allAtoms ts).before a st = ts.all (fun c => c.before a st) := by
  induction ts with
  | nil => rfl
  | cons c t ih =>
    show (Jvm.Cond.and c (allAtoms t)).before a st = _
    rw [Jvm.Cond.before_and, ih, List.all_cons]
def words1 : List Jvm.Cond := Jvm.Cond.code x code maxLocals ret :: tables_1
/-- a 'code' word, met by the world's own term for the bytes: nothing is compared byte by byte -/
theorem code_word {y : MethodName} {bytes : ByteArray} {mx : Nat} {rt : Option FieldType} {a : Array Value} {s : State} {m : MethodId} {meth : Method} {c : Code} (h1 : s.methodNamed? y = some m) (h2 : s.vm.method? m = some meth) (h3 : meth.code = some c) (h4 : c.code = bytes)
    (h5 : (c.maxLocals == mx && c.exceptionTable.isEmpty && decide (c.maxStack ≤ mostOperands) && decide (meth.sig.returnType = rt) && !meth.locks && decide (parseMethodDescriptor y.desc = some meth.sig)) = true) : (Jvm.Cond.code y bytes mx rt).before a s = true := by
  simp only [Bool.and_eq_true, beq_iff_eq, Bool.not_eq_true', decide_eq_true_eq] at h5
  obtain ⟨⟨⟨⟨⟨g1, g2⟩, g3⟩, g4⟩, g5⟩, g6⟩ := h5
  simp [Cond.before, Cond.holds, Cond.value, h1, h2, h3, h4, g1, g2, g3, g4, g5, g6]
def isCode : Jvm.Cond → Bool
  | .code _ _ _ _ => true
  | _ => false
theorem all_split {L : List Jvm.Cond} {P : Jvm.Cond → Bool} (h1 : L.all (fun c => isCode c || P c) = true) (h2 : ∀ c ∈ L.filter isCode, P c = true) : L.all P = true := by
  refine List.all_eq_true.mpr fun c hc => ?_
  have h := List.all_eq_true.mp h1 c hc
  rcases Bool.eq_false_or_eq_true (isCode c) with hi | hi
  · exact h2 c (List.mem_filter.mpr ⟨hc, hi⟩)
  · simpa [hi] using h
set_option maxRecDepth 65536 in
theorem w_c0 : (Jvm.Cond.code x code maxLocals ret).before args0 about1 = true := code_word (m := ⟨1, 1⟩) (meth := k1m1) (c := k1c1) (by decide +kernel) rfl rfl rfl (by decide +kernel)
set_option maxRecDepth 65536 in
theorem w_c1 : (Jvm.Cond.code ({ cls := "java/lang/Math", name := "min", desc := "(II)I" } : Jvm.MethodName) jdk_29_method_69_code (2 : Nat) (Option.some Jvm.ClassFile.FieldType.int)).before args0 about1 = true := code_word (m := ⟨2, 2⟩) (meth := k2m2) (c := k2c2) (by decide +kernel) rfl rfl rfl (by decide +kernel)
set_option maxRecDepth 65536 in
theorem w_c2 : (Jvm.Cond.code ({ cls := "java/lang/Math", name := "max", desc := "(II)I" } : Jvm.MethodName) jdk_29_method_65_code (2 : Nat) (Option.some Jvm.ClassFile.FieldType.int)).before args0 about1 = true := code_word (m := ⟨2, 1⟩) (meth := k2m1) (c := k2c1) (by decide +kernel) rfl rfl rfl (by decide +kernel)
set_option maxRecDepth 65536 in
theorem w_c3 : (Jvm.Cond.code ({ cls := "com/example/hanko/hanko/access/LabelRange", name := "<init>", desc := "(II)V" } : Jvm.MethodName) prog_13_method_1_code (3 : Nat) (Option.none : Option Jvm.ClassFile.FieldType)).before args0 about1 = true := code_word (m := ⟨4, 0⟩) (meth := k4m0) (c := k4c0) (by decide +kernel) rfl rfl rfl (by decide +kernel)
set_option maxRecDepth 65536 in
theorem w_c4 : (Jvm.Cond.code ({ cls := "java/lang/Record", name := "<init>", desc := "()V" } : Jvm.MethodName) jdk_30_method_1_code (1 : Nat) (Option.none : Option Jvm.ClassFile.FieldType)).before args0 about1 = true := code_word (m := ⟨3, 0⟩) (meth := k3m0) (c := k3c0) (by decide +kernel) rfl rfl rfl (by decide +kernel)
set_option maxRecDepth 65536 in
theorem w_c5 : (Jvm.Cond.code ({ cls := "java/lang/Object", name := "<init>", desc := "()V" } : Jvm.MethodName) object_method_1_code (1 : Nat) (Option.none : Option Jvm.ClassFile.FieldType)).before args0 about1 = true := code_word (m := ⟨0, 0⟩) (meth := k0m0) (c := k0c0) (by decide +kernel) rfl rfl rfl (by decide +kernel)
set_option maxRecDepth 65536 in
theorem w_c6 : (Jvm.Cond.code ({ cls := "com/example/hanko/hanko/access/LabelRange", name := "span", desc := "(Lcom/example/hanko/hanko/access/LabelRange;)Lcom/example/hanko/hanko/access/LabelRange;" } : Jvm.MethodName) prog_13_method_5_code (2 : Nat) (Option.some (Jvm.ClassFile.FieldType.object "com/example/hanko/hanko/access/LabelRange"))).before args0 about1 = true := code_word (m := ⟨4, 1⟩) (meth := k4m1) (c := k4c1) (by decide +kernel) rfl rfl rfl (by decide +kernel)
set_option maxRecDepth 65536 in
theorem w_c7 : (Jvm.Cond.code ({ cls := "com/example/hanko/hanko/access/LabelRange", name := "min", desc := "()I" } : Jvm.MethodName) prog_13_method_13_code (1 : Nat) (Option.some Jvm.ClassFile.FieldType.int)).before args0 about1 = true := code_word (m := ⟨4, 3⟩) (meth := k4m3) (c := k4c3) (by decide +kernel) rfl rfl rfl (by decide +kernel)
set_option maxRecDepth 65536 in
theorem w_c8 : (Jvm.Cond.code ({ cls := "com/example/hanko/hanko/access/LabelRange", name := "max", desc := "()I" } : Jvm.MethodName) prog_13_method_14_code (1 : Nat) (Option.some Jvm.ClassFile.FieldType.int)).before args0 about1 = true := code_word (m := ⟨4, 4⟩) (meth := k4m4) (c := k4c4) (by decide +kernel) rfl rfl rfl (by decide +kernel)
set_option maxRecDepth 65536 in
theorem w_c9 : (Jvm.Cond.code ({ cls := "com/example/hanko/hanko/access/LabelRange", name := "contains", desc := "(I)Z" } : Jvm.MethodName) prog_13_method_6_code (2 : Nat) (Option.some Jvm.ClassFile.FieldType.boolean)).before args0 about1 = true := code_word (m := ⟨4, 2⟩) (meth := k4m2) (c := k4c2) (by decide +kernel) rfl rfl rfl (by decide +kernel)
def codes1 : List Jvm.Cond := [Jvm.Cond.code x code maxLocals ret, Jvm.Cond.code ({ cls := "java/lang/Math", name := "min", desc := "(II)I" } : Jvm.MethodName) jdk_29_method_69_code (2 : Nat) (Option.some Jvm.ClassFile.FieldType.int), Jvm.Cond.code ({ cls := "java/lang/Math", name := "max", desc := "(II)I" } : Jvm.MethodName) jdk_29_method_65_code (2 : Nat) (Option.some Jvm.ClassFile.FieldType.int), Jvm.Cond.code ({ cls := "com/example/hanko/hanko/access/LabelRange", name := "<init>", desc := "(II)V" } : Jvm.MethodName) prog_13_method_1_code (3 : Nat) (Option.none : Option Jvm.ClassFile.FieldType), Jvm.Cond.code ({ cls := "java/lang/Record", name := "<init>", desc := "()V" } : Jvm.MethodName) jdk_30_method_1_code (1 : Nat) (Option.none : Option Jvm.ClassFile.FieldType), Jvm.Cond.code ({ cls := "java/lang/Object", name := "<init>", desc := "()V" } : Jvm.MethodName) object_method_1_code (1 : Nat) (Option.none : Option Jvm.ClassFile.FieldType), Jvm.Cond.code ({ cls := "com/example/hanko/hanko/access/LabelRange", name := "span", desc := "(Lcom/example/hanko/hanko/access/LabelRange;)Lcom/example/hanko/hanko/access/LabelRange;" } : Jvm.MethodName) prog_13_method_5_code (2 : Nat) (Option.some (Jvm.ClassFile.FieldType.object "com/example/hanko/hanko/access/LabelRange")), Jvm.Cond.code ({ cls := "com/example/hanko/hanko/access/LabelRange", name := "min", desc := "()I" } : Jvm.MethodName) prog_13_method_13_code (1 : Nat) (Option.some Jvm.ClassFile.FieldType.int), Jvm.Cond.code ({ cls := "com/example/hanko/hanko/access/LabelRange", name := "max", desc := "()I" } : Jvm.MethodName) prog_13_method_14_code (1 : Nat) (Option.some Jvm.ClassFile.FieldType.int), Jvm.Cond.code ({ cls := "com/example/hanko/hanko/access/LabelRange", name := "contains", desc := "(I)Z" } : Jvm.MethodName) prog_13_method_6_code (2 : Nat) (Option.some Jvm.ClassFile.FieldType.boolean)]
set_option maxRecDepth 65536 in
theorem codes_eq : words1.filter isCode = codes1 := rfl
theorem w_codes : ∀ c ∈ words1.filter isCode, c.before args0 about1 = true := by
  rw [codes_eq]
  intro c hc
  simp only [codes1, List.mem_cons, List.not_mem_nil, or_false] at hc
  rcases hc with rfl | rfl | rfl | rfl | rfl | rfl | rfl | rfl | rfl | rfl
  · exact w_c0
  · exact w_c1
  · exact w_c2
  · exact w_c3
  · exact w_c4
  · exact w_c5
  · exact w_c6
  · exact w_c7
  · exact w_c8
  · exact w_c9
set_option maxRecDepth 65536 in
theorem w_t1 : (words1.take 24).all (fun c => isCode c || c.before args0 about1) = true := by decide +kernel
set_option maxRecDepth 65536 in
theorem w_t2 : ((words1.drop 24).take 24).all (fun c => isCode c || c.before args0 about1) = true := by decide +kernel
set_option maxRecDepth 65536 in
theorem w_t3 : ((words1.drop 24).drop 24).all (fun c => isCode c || c.before args0 about1) = true := by decide +kernel
theorem w_tables : (allAtoms (Jvm.Cond.code x code maxLocals ret :: tables_1)).before args0 about1 = true := by
  rw [allAtoms_all]
  show words1.all (fun c => c.before args0 about1) = true
  refine all_split ?_ w_codes
  rw [← List.take_append_drop 24 words1, List.all_append, w_t1, ← List.take_append_drop 24 (words1.drop 24), List.all_append, w_t2, w_t3]
  rfl
set_option maxRecDepth 65536 in
theorem w_case : (Jvm.Cond.and given_1 narrow_1).before args0 about1 = true := by decide +kernel
theorem w_applies : (headSpec (Jvm.Cond.code x code maxLocals ret :: tables_1) room_1).applies x e0.platform about1 = true :=
  (Spec.applies_iff w_frames).mpr ⟨w_running, w_runnable, w_alone, w_named, w_hears, w_ripe, w_room, w_tables⟩
theorem atStart : AtStart classFile x code maxLocals ret World_1 tables_1 room_1 Calls_1 rest_1 Pre_1 launch0 p0 e0 about1 theMethod args0 below0 :=
  ⟨lists_1, trivial, launch0.admits_env _ _ _, launch0.least_env, fairChoices_fair.cas, fairChoices_fair.clock, w_frames, w_args, w_heap, w_applies, trivial, trivial, w_case⟩
end start1
theorem witness_1 : WitnessClaimed_1 := ⟨start1.p0, start1.e0, start1.about1, start1.theMethod, start1.args0, start1.below0, start1.atStart⟩
end Jvm.Pilot.@@N@@
