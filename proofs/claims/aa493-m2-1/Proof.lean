import JvmDerived
import JvmDerived.Pilot.@@N@@Statement
import JvmDerived.Pilot.@@N@@Code
set_option linter.unusedVariables false
set_option linter.unusedSimpArgs false
namespace Jvm.Own
open Sem ClassFile Op Lib Jvm.Stand Jvm.Free Jvm.LawKit Jvm.RoadKit
/-- from the state A the run comes to an end that meets G -/
def Goes (tb : Tables) (e : Env) (below : List Frame) (G : Outcome → State → Prop) (A : State) : Prop := ∃ s₂ o, Steps tb e below A s₂ ∧ s₂.status = .running ∧ Ended s₂ below o ∧ G o s₂
/-- what a body's walk may lean on throughout -/
def Ctx (p : Program) (Z s : State) (m : MethodId) (meth : Method) (c : Code) (bs : ByteArray) (own : String) (maxL : Nat) (ret : Option FieldType) : Prop :=
  p.tables.exec = Jvm.exec ∧ Z.Warmed39 s.vm ∧ c.code = bs ∧ c.maxLocals = maxL ∧ s.vm.findClass own = some m.cls ∧ meth.sig.returnType = ret ∧ meth.locks = false
section Kit
variable {p : Program} {l : Launch} {e : Env} {R : Room} {s : State} {m : MethodId} {args : Array Value} {below : List Frame} {meth : Method} {c : Code} {T : State} {locs : List Loc} {cells slots : Nat} {Z : State} {a0 : Array Value} {h : Heap} {G : Outcome → State → Prop} {bs : ByteArray} {own : String} {maxL : Nat} {ret : Option FieldType}
theorem Goes.on {tb : Tables} {A B : State} (k : ∀ t, Steps tb e below B t → Steps tb e below A t) (h : Goes tb e below G B) : Goes tb e below G A := by
  obtain ⟨s2, o, h1, h2⟩ := h
  exact ⟨s2, o, k _ h1, h2⟩
theorem Goes.to {tb : Tables} {A B : State} (q : A = B) (h : Goes tb e below G B) : Goes tb e below G A := q ▸ h
theorem body_of {y : MethodName} {bytes : ByteArray} {ws : List Cond} {as' : Array Value} {h0 : Heap} {Q : Option Value → Heap → List Loc → Prop} (hplain : plainFor y = true)
    (H : ∀ p e s m below meth c s₁ G, Ctx p Z s m meth c bytes y.cls maxL ret → meth.name = y.name → Stand p l e R s m as' below meth c s₁ [] 0 0 → s₁.heap = h0 →
      (∀ (v : Option Value) (L : List Loc) (T' : State), Q v T'.heap L → s.WarmedH T'.vm → s.sameButNew ({ T' with vm := s.vm } : State) L R.cells R.slots → G (.returned v) T') →
      Goes p.tables e below G (s₁.setTop (entryFrame m as' maxL))) :
    MetFree l y (head1 (Cond.code y bytes maxL ret :: ws) R) (fun a U => a = as' ∧ Z.Warmed39 U.vm ∧ U.heap = h0) (fun _ _ _ _ _ => True) (fun _ U o U' => ∃ v L, o = .returned v ∧ Q v U'.heap L ∧ FrameEnd U o U' L R.cells R.slots) := by
  refine MetFree.of_bodySF hplain hisR ?_
  intro p e s m args below meth c s₁ Bd hml0 hP hK
  obtain ⟨rfl, hZ, hh⟩ := hP
  exact H p e s m below meth c s₁ _ ⟨Bd.exec, hZ, Bd.bytes, hml0, findClass_of_methodNamed Bd.named, Bd.returns, BodyLoose.notSynchronized Bd⟩ (name_of_methodNamed Bd.named Bd.method).1 (Stand.of_body Bd) (by rw [← hh, Bd.state]; rfl)
    (fun v L T' hQ hW hS => ⟨v, L, rfl, hQ, ⟨_, rfl⟩, hW, hS⟩)

theorem g_iloadN (C : Ctx p Z s m meth c bs own maxL ret) (X : Stand p l e R s m args below meth c T locs cells slots) {pc pc' : Nat} {ls : Array Slot} {st : List Value} {k : Fin 4} {v : Int32} (hd : decode bs pc = .ok (.iload_n k, 1)) (hp : pc + 1 = pc') (hl : ls[k.val]? = some (.val (.int v)))
    (k : Goes p.tables e below G (T.setTop (mkF m pc' ls (.int v :: st)))) : Goes p.tables e below G (T.setTop (mkF m pc ls st)) := by
  subst hp
  exact Goes.on (fun _ k => XS.iloadN X.here C.1 rfl (hb C.2.2.1 hd) hl k) k
theorem g_iload (C : Ctx p Z s m meth c bs own maxL ret) (X : Stand p l e R s m args below meth c T locs cells slots) {pc pc' : Nat} {ls : Array Slot} {st : List Value} {k : Nat} {v : Int32} (hd : decode bs pc = .ok (.iload k, 2)) (hp : pc + 2 = pc') (hl : ls[k]? = some (.val (.int v)))
    (k : Goes p.tables e below G (T.setTop (mkF m pc' ls (.int v :: st)))) : Goes p.tables e below G (T.setTop (mkF m pc ls st)) := by
  subst hp
  exact Goes.on (fun _ k => XS.iload X.here C.1 rfl (hb C.2.2.1 hd) hl k) k
theorem g_istoreN (C : Ctx p Z s m meth c bs own maxL ret) (X : Stand p l e R s m args below meth c T locs cells slots) {pc pc' : Nat} {ls ls' : Array Slot} {st : List Value} {k : Fin 4} {v w : Int32} (hd : decode bs pc = .ok (.istore_n k, 1)) (hp : pc + 1 = pc') (hv : v = w) (hl : storeLocals ls k.val (.int w) = some ls')
    (k : Goes p.tables e below G (T.setTop (mkF m pc' ls' st))) : Goes p.tables e below G (T.setTop (mkF m pc ls (.int v :: st))) := by
  subst hp hv
  exact Goes.on (fun _ k => XS.istoreN X.here C.1 rfl (hb C.2.2.1 hd) rfl hl k) k
theorem g_istore (C : Ctx p Z s m meth c bs own maxL ret) (X : Stand p l e R s m args below meth c T locs cells slots) {pc pc' : Nat} {ls ls' : Array Slot} {st : List Value} {k : Nat} {v w : Int32} (hd : decode bs pc = .ok (.istore k, 2)) (hp : pc + 2 = pc') (hv : v = w) (hl : storeLocals ls k (.int w) = some ls')
    (k : Goes p.tables e below G (T.setTop (mkF m pc' ls' st))) : Goes p.tables e below G (T.setTop (mkF m pc ls (.int v :: st))) := by
  subst hp hv
  exact Goes.on (fun _ k => XS.istore X.here C.1 rfl (hb C.2.2.1 hd) rfl hl k) k
theorem g_lloadN (C : Ctx p Z s m meth c bs own maxL ret) (X : Stand p l e R s m args below meth c T locs cells slots) {pc pc' : Nat} {ls : Array Slot} {st : List Value} {k : Fin 4} {v : Int64} (hd : decode bs pc = .ok (.lload_n k, 1)) (hp : pc + 1 = pc') (hl : ls[k.val]? = some (.val (.long v)))
    (k : Goes p.tables e below G (T.setTop (mkF m pc' ls (.long v :: st)))) : Goes p.tables e below G (T.setTop (mkF m pc ls st)) := by
  subst hp
  exact Goes.on (fun _ k => XT.lloadN X.here C.1 rfl (hb C.2.2.1 hd) hl k) k
theorem g_lload (C : Ctx p Z s m meth c bs own maxL ret) (X : Stand p l e R s m args below meth c T locs cells slots) {pc pc' : Nat} {ls : Array Slot} {st : List Value} {k : Nat} {v : Int64} (hd : decode bs pc = .ok (.lload k, 2)) (hp : pc + 2 = pc') (hl : ls[k]? = some (.val (.long v)))
    (k : Goes p.tables e below G (T.setTop (mkF m pc' ls (.long v :: st)))) : Goes p.tables e below G (T.setTop (mkF m pc ls st)) := by
  subst hp
  exact Goes.on (fun _ k => XT.lload X.here C.1 rfl (hb C.2.2.1 hd) hl k) k
theorem g_lstoreN (C : Ctx p Z s m meth c bs own maxL ret) (X : Stand p l e R s m args below meth c T locs cells slots) {pc pc' : Nat} {ls ls' : Array Slot} {st : List Value} {k : Fin 4} {v w : Int64} (hd : decode bs pc = .ok (.lstore_n k, 1)) (hp : pc + 1 = pc') (hv : v = w) (hl : storeLocals ls k.val (.long w) = some ls')
    (k : Goes p.tables e below G (T.setTop (mkF m pc' ls' st))) : Goes p.tables e below G (T.setTop (mkF m pc ls (.long v :: st))) := by
  subst hp hv
  exact Goes.on (fun _ k => XT.lstoreN X.here C.1 rfl (hb C.2.2.1 hd) rfl hl k) k
theorem g_lstore (C : Ctx p Z s m meth c bs own maxL ret) (X : Stand p l e R s m args below meth c T locs cells slots) {pc pc' : Nat} {ls ls' : Array Slot} {st : List Value} {k : Nat} {v w : Int64} (hd : decode bs pc = .ok (.lstore k, 2)) (hp : pc + 2 = pc') (hv : v = w) (hl : storeLocals ls k (.long w) = some ls')
    (k : Goes p.tables e below G (T.setTop (mkF m pc' ls' st))) : Goes p.tables e below G (T.setTop (mkF m pc ls (.long v :: st))) := by
  subst hp hv
  exact Goes.on (fun _ k => XT.lstore X.here C.1 rfl (hb C.2.2.1 hd) rfl hl k) k
theorem g_aloadN (C : Ctx p Z s m meth c bs own maxL ret) (X : Stand p l e R s m args below meth c T locs cells slots) {pc pc' : Nat} {ls : Array Slot} {st : List Value} {k : Fin 4} {v : Value} (hd : decode bs pc = .ok (.aload_n k, 1)) (hp : pc + 1 = pc') (hl : ls[k.val]? = some (.val v)) (hv : v.isRef = true)
    (k : Goes p.tables e below G (T.setTop (mkF m pc' ls (v :: st)))) : Goes p.tables e below G (T.setTop (mkF m pc ls st)) := by
  subst hp
  exact Goes.on (fun _ k => XS.aloadN X.here C.1 rfl (hb C.2.2.1 hd) hl hv k) k
theorem g_aload (C : Ctx p Z s m meth c bs own maxL ret) (X : Stand p l e R s m args below meth c T locs cells slots) {pc pc' : Nat} {ls : Array Slot} {st : List Value} {k : Nat} {v : Value} (hd : decode bs pc = .ok (.aload k, 2)) (hp : pc + 2 = pc') (hl : ls[k]? = some (.val v)) (hv : v.isRef = true)
    (k : Goes p.tables e below G (T.setTop (mkF m pc' ls (v :: st)))) : Goes p.tables e below G (T.setTop (mkF m pc ls st)) := by
  subst hp
  exact Goes.on (fun _ k => XS.aload X.here C.1 rfl (hb C.2.2.1 hd) hl hv k) k
theorem g_astoreN (C : Ctx p Z s m meth c bs own maxL ret) (X : Stand p l e R s m args below meth c T locs cells slots) {pc pc' : Nat} {ls ls' : Array Slot} {st : List Value} {k : Fin 4} {v : Value} (hd : decode bs pc = .ok (.astore_n k, 1)) (hp : pc + 1 = pc') (hv : v.isRef = true) (hl : storeLocals ls k.val v = some ls')
    (k : Goes p.tables e below G (T.setTop (mkF m pc' ls' st))) : Goes p.tables e below G (T.setTop (mkF m pc ls (v :: st))) := by
  subst hp
  exact Goes.on (fun _ k => XS.astoreN X.here C.1 rfl (hb C.2.2.1 hd) rfl hv hl k) k
theorem g_astore (C : Ctx p Z s m meth c bs own maxL ret) (X : Stand p l e R s m args below meth c T locs cells slots) {pc pc' : Nat} {ls ls' : Array Slot} {st : List Value} {k : Nat} {v : Value} (hd : decode bs pc = .ok (.astore k, 2)) (hp : pc + 2 = pc') (hv : v.isRef = true) (hl : storeLocals ls k v = some ls')
    (k : Goes p.tables e below G (T.setTop (mkF m pc' ls' st))) : Goes p.tables e below G (T.setTop (mkF m pc ls (v :: st))) := by
  subst hp
  exact Goes.on (fun _ k => XS.astore X.here C.1 rfl (hb C.2.2.1 hd) rfl hv hl k) k
theorem g_iconst (C : Ctx p Z s m meth c bs own maxL ret) (X : Stand p l e R s m args below meth c T locs cells slots) {pc pc' : Nat} {ls : Array Slot} {st : List Value} {i : Int} {v : Int32} (hd : decode bs pc = .ok (.iconst i, 1)) (hp : pc + 1 = pc') (hv : Int32.ofInt i = v)
    (k : Goes p.tables e below G (T.setTop (mkF m pc' ls (.int v :: st)))) : Goes p.tables e below G (T.setTop (mkF m pc ls st)) := by
  subst hp hv
  exact Goes.on (fun _ k => XS.iconst X.here C.1 rfl (hb C.2.2.1 hd) k) k
theorem g_bipush (C : Ctx p Z s m meth c bs own maxL ret) (X : Stand p l e R s m args below meth c T locs cells slots) {pc pc' : Nat} {ls : Array Slot} {st : List Value} {i : Int} {v : Int32} (hd : decode bs pc = .ok (.bipush i, 2)) (hp : pc + 2 = pc') (hv : (Int8.ofInt i).toInt32 = v)
    (k : Goes p.tables e below G (T.setTop (mkF m pc' ls (.int v :: st)))) : Goes p.tables e below G (T.setTop (mkF m pc ls st)) := by
  subst hp hv
  exact Goes.on (fun _ k => XS.bipush X.here C.1 rfl (hb C.2.2.1 hd) k) k
theorem g_sipush (C : Ctx p Z s m meth c bs own maxL ret) (X : Stand p l e R s m args below meth c T locs cells slots) {pc pc' : Nat} {ls : Array Slot} {st : List Value} {i : Int} {v : Int32} (hd : decode bs pc = .ok (.sipush i, 3)) (hp : pc + 3 = pc') (hv : (Int16.ofInt i).toInt32 = v)
    (k : Goes p.tables e below G (T.setTop (mkF m pc' ls (.int v :: st)))) : Goes p.tables e below G (T.setTop (mkF m pc ls st)) := by
  subst hp hv
  exact Goes.on (fun _ k => XS.sipush X.here C.1 rfl (hb C.2.2.1 hd) k) k
theorem g_lconst (C : Ctx p Z s m meth c bs own maxL ret) (X : Stand p l e R s m args below meth c T locs cells slots) {pc pc' : Nat} {ls : Array Slot} {st : List Value} {i : Fin 2} {v : Int64} (hd : decode bs pc = .ok (.lconst i, 1)) (hp : pc + 1 = pc') (hv : Int64.ofNat i = v)
    (k : Goes p.tables e below G (T.setTop (mkF m pc' ls (.long v :: st)))) : Goes p.tables e below G (T.setTop (mkF m pc ls st)) := by
  subst hp hv
  exact Goes.on (fun _ k => XT.lconst X.here C.1 rfl (hb C.2.2.1 hd) k) k
theorem g_aconstNull (C : Ctx p Z s m meth c bs own maxL ret) (X : Stand p l e R s m args below meth c T locs cells slots) {pc pc' : Nat} {ls : Array Slot} {st : List Value}  (hd : decode bs pc = .ok (.aconst_null, 1)) (hp : pc + 1 = pc')
    (k : Goes p.tables e below G (T.setTop (mkF m pc' ls (.null :: st)))) : Goes p.tables e below G (T.setTop (mkF m pc ls st)) := by
  subst hp
  exact Goes.on (fun _ k => XS.aconstNull X.here C.1 rfl (hb C.2.2.1 hd) k) k
theorem g_iadd (C : Ctx p Z s m meth c bs own maxL ret) (X : Stand p l e R s m args below meth c T locs cells slots) {pc pc' : Nat} {ls : Array Slot} {st : List Value} {x y : Int32} (hd : decode bs pc = .ok (.iadd, 1)) (hp : pc + 1 = pc')
    (k : Goes p.tables e below G (T.setTop (mkF m pc' ls (.int (x + y) :: st)))) : Goes p.tables e below G (T.setTop (mkF m pc ls (.int y :: .int x :: st))) := by
  subst hp
  exact Goes.on (fun _ k => XS.iadd X.here C.1 rfl (hb C.2.2.1 hd) rfl k) k
theorem g_isub (C : Ctx p Z s m meth c bs own maxL ret) (X : Stand p l e R s m args below meth c T locs cells slots) {pc pc' : Nat} {ls : Array Slot} {st : List Value} {x y : Int32} (hd : decode bs pc = .ok (.isub, 1)) (hp : pc + 1 = pc')
    (k : Goes p.tables e below G (T.setTop (mkF m pc' ls (.int (x - y) :: st)))) : Goes p.tables e below G (T.setTop (mkF m pc ls (.int y :: .int x :: st))) := by
  subst hp
  exact Goes.on (fun _ k => XS.isub X.here C.1 rfl (hb C.2.2.1 hd) rfl k) k
theorem g_imul (C : Ctx p Z s m meth c bs own maxL ret) (X : Stand p l e R s m args below meth c T locs cells slots) {pc pc' : Nat} {ls : Array Slot} {st : List Value} {x y : Int32} (hd : decode bs pc = .ok (.imul, 1)) (hp : pc + 1 = pc')
    (k : Goes p.tables e below G (T.setTop (mkF m pc' ls (.int (x * y) :: st)))) : Goes p.tables e below G (T.setTop (mkF m pc ls (.int y :: .int x :: st))) := by
  subst hp
  exact Goes.on (fun _ k => XS.imul X.here C.1 rfl (hb C.2.2.1 hd) rfl k) k
theorem g_iand (C : Ctx p Z s m meth c bs own maxL ret) (X : Stand p l e R s m args below meth c T locs cells slots) {pc pc' : Nat} {ls : Array Slot} {st : List Value} {x y : Int32} (hd : decode bs pc = .ok (.iand, 1)) (hp : pc + 1 = pc')
    (k : Goes p.tables e below G (T.setTop (mkF m pc' ls (.int (x &&& y) :: st)))) : Goes p.tables e below G (T.setTop (mkF m pc ls (.int y :: .int x :: st))) := by
  subst hp
  exact Goes.on (fun _ k => XS.iand X.here C.1 rfl (hb C.2.2.1 hd) rfl k) k
theorem g_ior (C : Ctx p Z s m meth c bs own maxL ret) (X : Stand p l e R s m args below meth c T locs cells slots) {pc pc' : Nat} {ls : Array Slot} {st : List Value} {x y : Int32} (hd : decode bs pc = .ok (.ior, 1)) (hp : pc + 1 = pc')
    (k : Goes p.tables e below G (T.setTop (mkF m pc' ls (.int (x ||| y) :: st)))) : Goes p.tables e below G (T.setTop (mkF m pc ls (.int y :: .int x :: st))) := by
  subst hp
  exact Goes.on (fun _ k => XT.ior X.here C.1 rfl (hb C.2.2.1 hd) rfl k) k
theorem g_ixor (C : Ctx p Z s m meth c bs own maxL ret) (X : Stand p l e R s m args below meth c T locs cells slots) {pc pc' : Nat} {ls : Array Slot} {st : List Value} {x y : Int32} (hd : decode bs pc = .ok (.ixor, 1)) (hp : pc + 1 = pc')
    (k : Goes p.tables e below G (T.setTop (mkF m pc' ls (.int (x ^^^ y) :: st)))) : Goes p.tables e below G (T.setTop (mkF m pc ls (.int y :: .int x :: st))) := by
  subst hp
  exact Goes.on (fun _ k => XT.ixor X.here C.1 rfl (hb C.2.2.1 hd) rfl k) k
theorem g_ishl (C : Ctx p Z s m meth c bs own maxL ret) (X : Stand p l e R s m args below meth c T locs cells slots) {pc pc' : Nat} {ls : Array Slot} {st : List Value} {x y : Int32} (hd : decode bs pc = .ok (.ishl, 1)) (hp : pc + 1 = pc')
    (k : Goes p.tables e below G (T.setTop (mkF m pc' ls (.int (x <<< (y &&& 31)) :: st)))) : Goes p.tables e below G (T.setTop (mkF m pc ls (.int y :: .int x :: st))) := by
  subst hp
  exact Goes.on (fun _ k => XT.ishl X.here C.1 rfl (hb C.2.2.1 hd) rfl k) k
theorem g_ishr (C : Ctx p Z s m meth c bs own maxL ret) (X : Stand p l e R s m args below meth c T locs cells slots) {pc pc' : Nat} {ls : Array Slot} {st : List Value} {x y : Int32} (hd : decode bs pc = .ok (.ishr, 1)) (hp : pc + 1 = pc')
    (k : Goes p.tables e below G (T.setTop (mkF m pc' ls (.int (x >>> (y &&& 31)) :: st)))) : Goes p.tables e below G (T.setTop (mkF m pc ls (.int y :: .int x :: st))) := by
  subst hp
  exact Goes.on (fun _ k => XT.ishr X.here C.1 rfl (hb C.2.2.1 hd) rfl k) k
theorem g_iushr (C : Ctx p Z s m meth c bs own maxL ret) (X : Stand p l e R s m args below meth c T locs cells slots) {pc pc' : Nat} {ls : Array Slot} {st : List Value} {x y : Int32} (hd : decode bs pc = .ok (.iushr, 1)) (hp : pc + 1 = pc')
    (k : Goes p.tables e below G (T.setTop (mkF m pc' ls (.int (XT.ushr x y) :: st)))) : Goes p.tables e below G (T.setTop (mkF m pc ls (.int y :: .int x :: st))) := by
  subst hp
  exact Goes.on (fun _ k => XT.iushr X.here C.1 rfl (hb C.2.2.1 hd) rfl k) k
theorem g_ladd (C : Ctx p Z s m meth c bs own maxL ret) (X : Stand p l e R s m args below meth c T locs cells slots) {pc pc' : Nat} {ls : Array Slot} {st : List Value} {x y : Int64} (hd : decode bs pc = .ok (.ladd, 1)) (hp : pc + 1 = pc')
    (k : Goes p.tables e below G (T.setTop (mkF m pc' ls (.long (x + y) :: st)))) : Goes p.tables e below G (T.setTop (mkF m pc ls (.long y :: .long x :: st))) := by
  subst hp
  exact Goes.on (fun _ k => XT.ladd X.here C.1 rfl (hb C.2.2.1 hd) rfl k) k
theorem g_lsub (C : Ctx p Z s m meth c bs own maxL ret) (X : Stand p l e R s m args below meth c T locs cells slots) {pc pc' : Nat} {ls : Array Slot} {st : List Value} {x y : Int64} (hd : decode bs pc = .ok (.lsub, 1)) (hp : pc + 1 = pc')
    (k : Goes p.tables e below G (T.setTop (mkF m pc' ls (.long (x - y) :: st)))) : Goes p.tables e below G (T.setTop (mkF m pc ls (.long y :: .long x :: st))) := by
  subst hp
  exact Goes.on (fun _ k => XT.lsub X.here C.1 rfl (hb C.2.2.1 hd) rfl k) k
theorem g_lmul (C : Ctx p Z s m meth c bs own maxL ret) (X : Stand p l e R s m args below meth c T locs cells slots) {pc pc' : Nat} {ls : Array Slot} {st : List Value} {x y : Int64} (hd : decode bs pc = .ok (.lmul, 1)) (hp : pc + 1 = pc')
    (k : Goes p.tables e below G (T.setTop (mkF m pc' ls (.long (x * y) :: st)))) : Goes p.tables e below G (T.setTop (mkF m pc ls (.long y :: .long x :: st))) := by
  subst hp
  exact Goes.on (fun _ k => XT.lmul X.here C.1 rfl (hb C.2.2.1 hd) rfl k) k
theorem g_land (C : Ctx p Z s m meth c bs own maxL ret) (X : Stand p l e R s m args below meth c T locs cells slots) {pc pc' : Nat} {ls : Array Slot} {st : List Value} {x y : Int64} (hd : decode bs pc = .ok (.land, 1)) (hp : pc + 1 = pc')
    (k : Goes p.tables e below G (T.setTop (mkF m pc' ls (.long (x &&& y) :: st)))) : Goes p.tables e below G (T.setTop (mkF m pc ls (.long y :: .long x :: st))) := by
  subst hp
  exact Goes.on (fun _ k => XT.land X.here C.1 rfl (hb C.2.2.1 hd) rfl k) k
theorem g_lor (C : Ctx p Z s m meth c bs own maxL ret) (X : Stand p l e R s m args below meth c T locs cells slots) {pc pc' : Nat} {ls : Array Slot} {st : List Value} {x y : Int64} (hd : decode bs pc = .ok (.lor, 1)) (hp : pc + 1 = pc')
    (k : Goes p.tables e below G (T.setTop (mkF m pc' ls (.long (x ||| y) :: st)))) : Goes p.tables e below G (T.setTop (mkF m pc ls (.long y :: .long x :: st))) := by
  subst hp
  exact Goes.on (fun _ k => XT.lor X.here C.1 rfl (hb C.2.2.1 hd) rfl k) k
theorem g_lxor (C : Ctx p Z s m meth c bs own maxL ret) (X : Stand p l e R s m args below meth c T locs cells slots) {pc pc' : Nat} {ls : Array Slot} {st : List Value} {x y : Int64} (hd : decode bs pc = .ok (.lxor, 1)) (hp : pc + 1 = pc')
    (k : Goes p.tables e below G (T.setTop (mkF m pc' ls (.long (x ^^^ y) :: st)))) : Goes p.tables e below G (T.setTop (mkF m pc ls (.long y :: .long x :: st))) := by
  subst hp
  exact Goes.on (fun _ k => XT.lxor X.here C.1 rfl (hb C.2.2.1 hd) rfl k) k
theorem g_lshl (C : Ctx p Z s m meth c bs own maxL ret) (X : Stand p l e R s m args below meth c T locs cells slots) {pc pc' : Nat} {ls : Array Slot} {st : List Value} {x : Int64} {y : Int32} (hd : decode bs pc = .ok (.lshl, 1)) (hp : pc + 1 = pc')
    (k : Goes p.tables e below G (T.setTop (mkF m pc' ls (.long (x <<< (y.toInt64 &&& 63)) :: st)))) : Goes p.tables e below G (T.setTop (mkF m pc ls (.int y :: .long x :: st))) := by
  subst hp
  exact Goes.on (fun _ k => XT.lshl X.here C.1 rfl (hb C.2.2.1 hd) rfl k) k
theorem g_lshr (C : Ctx p Z s m meth c bs own maxL ret) (X : Stand p l e R s m args below meth c T locs cells slots) {pc pc' : Nat} {ls : Array Slot} {st : List Value} {x : Int64} {y : Int32} (hd : decode bs pc = .ok (.lshr, 1)) (hp : pc + 1 = pc')
    (k : Goes p.tables e below G (T.setTop (mkF m pc' ls (.long (x >>> (y.toInt64 &&& 63)) :: st)))) : Goes p.tables e below G (T.setTop (mkF m pc ls (.int y :: .long x :: st))) := by
  subst hp
  exact Goes.on (fun _ k => XT.lshr X.here C.1 rfl (hb C.2.2.1 hd) rfl k) k
theorem g_lushr (C : Ctx p Z s m meth c bs own maxL ret) (X : Stand p l e R s m args below meth c T locs cells slots) {pc pc' : Nat} {ls : Array Slot} {st : List Value} {x : Int64} {y : Int32} (hd : decode bs pc = .ok (.lushr, 1)) (hp : pc + 1 = pc')
    (k : Goes p.tables e below G (T.setTop (mkF m pc' ls (.long (XT.ushrL x y) :: st)))) : Goes p.tables e below G (T.setTop (mkF m pc ls (.int y :: .long x :: st))) := by
  subst hp
  exact Goes.on (fun _ k => XT.lushr X.here C.1 rfl (hb C.2.2.1 hd) rfl k) k
theorem g_idiv (C : Ctx p Z s m meth c bs own maxL ret) (X : Stand p l e R s m args below meth c T locs cells slots) {pc pc' : Nat} {ls : Array Slot} {st : List Value} {x y : Int32} (hd : decode bs pc = .ok (.idiv, 1)) (hp : pc + 1 = pc') (hy : y ≠ 0)
    (k : Goes p.tables e below G (T.setTop (mkF m pc' ls (.int (x / y) :: st)))) : Goes p.tables e below G (T.setTop (mkF m pc ls (.int y :: .int x :: st))) := by
  subst hp
  exact Goes.on (fun _ k => XS.idiv X.here C.1 rfl (hb C.2.2.1 hd) rfl hy k) k
theorem g_ldiv (C : Ctx p Z s m meth c bs own maxL ret) (X : Stand p l e R s m args below meth c T locs cells slots) {pc pc' : Nat} {ls : Array Slot} {st : List Value} {x y : Int64} (hd : decode bs pc = .ok (.ldiv, 1)) (hp : pc + 1 = pc') (hy : y ≠ 0)
    (k : Goes p.tables e below G (T.setTop (mkF m pc' ls (.long (x / y) :: st)))) : Goes p.tables e below G (T.setTop (mkF m pc ls (.long y :: .long x :: st))) := by
  subst hp
  exact Goes.on (fun _ k => XT.ldiv X.here C.1 rfl (hb C.2.2.1 hd) rfl hy k) k
theorem g_irem (C : Ctx p Z s m meth c bs own maxL ret) (X : Stand p l e R s m args below meth c T locs cells slots) {pc pc' : Nat} {ls : Array Slot} {st : List Value} {x y : Int32} (hd : decode bs pc = .ok (.irem, 1)) (hp : pc + 1 = pc') (hy : y ≠ 0)
    (k : Goes p.tables e below G (T.setTop (mkF m pc' ls (.int (x % y) :: st)))) : Goes p.tables e below G (T.setTop (mkF m pc ls (.int y :: .int x :: st))) := by
  subst hp
  exact Goes.on (fun _ k => iremM X C.1 rfl (hb C.2.2.1 hd) rfl hy k) k
theorem g_lrem (C : Ctx p Z s m meth c bs own maxL ret) (X : Stand p l e R s m args below meth c T locs cells slots) {pc pc' : Nat} {ls : Array Slot} {st : List Value} {x y : Int64} (hd : decode bs pc = .ok (.lrem, 1)) (hp : pc + 1 = pc') (hy : y ≠ 0)
    (k : Goes p.tables e below G (T.setTop (mkF m pc' ls (.long (x - (x / y) * y) :: st)))) : Goes p.tables e below G (T.setTop (mkF m pc ls (.long y :: .long x :: st))) := by
  subst hp
  exact Goes.on (fun _ k => XT.lrem X.here C.1 rfl (hb C.2.2.1 hd) rfl hy k) k
theorem g_ineg (C : Ctx p Z s m meth c bs own maxL ret) (X : Stand p l e R s m args below meth c T locs cells slots) {pc pc' : Nat} {ls : Array Slot} {st : List Value} {x : Int32} (hd : decode bs pc = .ok (.ineg, 1)) (hp : pc + 1 = pc')
    (k : Goes p.tables e below G (T.setTop (mkF m pc' ls (.int (-x) :: st)))) : Goes p.tables e below G (T.setTop (mkF m pc ls (.int x :: st))) := by
  subst hp
  exact Goes.on (fun _ k => XS.ineg X.here C.1 rfl (hb C.2.2.1 hd) rfl k) k
theorem g_lneg (C : Ctx p Z s m meth c bs own maxL ret) (X : Stand p l e R s m args below meth c T locs cells slots) {pc pc' : Nat} {ls : Array Slot} {st : List Value} {x : Int64} (hd : decode bs pc = .ok (.lneg, 1)) (hp : pc + 1 = pc')
    (k : Goes p.tables e below G (T.setTop (mkF m pc' ls (.long (-x) :: st)))) : Goes p.tables e below G (T.setTop (mkF m pc ls (.long x :: st))) := by
  subst hp
  exact Goes.on (fun _ k => XT.lneg X.here C.1 rfl (hb C.2.2.1 hd) rfl k) k
theorem g_i2l (C : Ctx p Z s m meth c bs own maxL ret) (X : Stand p l e R s m args below meth c T locs cells slots) {pc pc' : Nat} {ls : Array Slot} {st : List Value} {x : Int32} (hd : decode bs pc = .ok (.i2l, 1)) (hp : pc + 1 = pc')
    (k : Goes p.tables e below G (T.setTop (mkF m pc' ls (.long x.toInt64 :: st)))) : Goes p.tables e below G (T.setTop (mkF m pc ls (.int x :: st))) := by
  subst hp
  exact Goes.on (fun _ k => XT.i2l X.here C.1 rfl (hb C.2.2.1 hd) rfl k) k
theorem g_l2i (C : Ctx p Z s m meth c bs own maxL ret) (X : Stand p l e R s m args below meth c T locs cells slots) {pc pc' : Nat} {ls : Array Slot} {st : List Value} {x : Int64} (hd : decode bs pc = .ok (.l2i, 1)) (hp : pc + 1 = pc')
    (k : Goes p.tables e below G (T.setTop (mkF m pc' ls (.int x.toInt32 :: st)))) : Goes p.tables e below G (T.setTop (mkF m pc ls (.long x :: st))) := by
  subst hp
  exact Goes.on (fun _ k => XT.l2i X.here C.1 rfl (hb C.2.2.1 hd) rfl k) k
theorem g_i2c (C : Ctx p Z s m meth c bs own maxL ret) (X : Stand p l e R s m args below meth c T locs cells slots) {pc pc' : Nat} {ls : Array Slot} {st : List Value} {x : Int32} (hd : decode bs pc = .ok (.i2c, 1)) (hp : pc + 1 = pc')
    (k : Goes p.tables e below G (T.setTop (mkF m pc' ls (.int x.toUInt32.toUInt16.toUInt32.toInt32 :: st)))) : Goes p.tables e below G (T.setTop (mkF m pc ls (.int x :: st))) := by
  subst hp
  exact Goes.on (fun _ k => XT.i2c X.here C.1 rfl (hb C.2.2.1 hd) rfl k) k
theorem g_i2b (C : Ctx p Z s m meth c bs own maxL ret) (X : Stand p l e R s m args below meth c T locs cells slots) {pc pc' : Nat} {ls : Array Slot} {st : List Value} {x : Int32} (hd : decode bs pc = .ok (.i2b, 1)) (hp : pc + 1 = pc')
    (k : Goes p.tables e below G (T.setTop (mkF m pc' ls (.int x.toInt8.toInt32 :: st)))) : Goes p.tables e below G (T.setTop (mkF m pc ls (.int x :: st))) := by
  subst hp
  exact Goes.on (fun _ k => XT.i2b X.here C.1 rfl (hb C.2.2.1 hd) rfl k) k
theorem g_i2s (C : Ctx p Z s m meth c bs own maxL ret) (X : Stand p l e R s m args below meth c T locs cells slots) {pc pc' : Nat} {ls : Array Slot} {st : List Value} {x : Int32} (hd : decode bs pc = .ok (.i2s, 1)) (hp : pc + 1 = pc')
    (k : Goes p.tables e below G (T.setTop (mkF m pc' ls (.int x.toInt16.toInt32 :: st)))) : Goes p.tables e below G (T.setTop (mkF m pc ls (.int x :: st))) := by
  subst hp
  exact Goes.on (fun _ k => XT.i2s X.here C.1 rfl (hb C.2.2.1 hd) rfl k) k
theorem g_dup (C : Ctx p Z s m meth c bs own maxL ret) (X : Stand p l e R s m args below meth c T locs cells slots) {pc pc' : Nat} {ls : Array Slot} {st : List Value} {x : Value} (hd : decode bs pc = .ok (.dup, 1)) (hp : pc + 1 = pc') (hc : x.category = 1)
    (k : Goes p.tables e below G (T.setTop (mkF m pc' ls (x :: x :: st)))) : Goes p.tables e below G (T.setTop (mkF m pc ls (x :: st))) := by
  subst hp
  exact Goes.on (fun _ k => XS.dup X.here C.1 rfl (hb C.2.2.1 hd) rfl hc k) k
theorem g_dupX1 (C : Ctx p Z s m meth c bs own maxL ret) (X : Stand p l e R s m args below meth c T locs cells slots) {pc pc' : Nat} {ls : Array Slot} {st : List Value} {x y : Value} (hd : decode bs pc = .ok (.dup_x1, 1)) (hp : pc + 1 = pc') (hc : x.category = 1) (hc' : y.category = 1)
    (k : Goes p.tables e below G (T.setTop (mkF m pc' ls (x :: y :: x :: st)))) : Goes p.tables e below G (T.setTop (mkF m pc ls (x :: y :: st))) := by
  subst hp
  exact Goes.on (fun _ k => XT.dupX1 X.here C.1 rfl (hb C.2.2.1 hd) rfl hc hc' k) k
theorem g_dup2 (C : Ctx p Z s m meth c bs own maxL ret) (X : Stand p l e R s m args below meth c T locs cells slots) {pc pc' : Nat} {ls : Array Slot} {st : List Value} {x y : Value} (hd : decode bs pc = .ok (.dup2, 1)) (hp : pc + 1 = pc') (hc : x.category = 1) (hc' : y.category = 1)
    (k : Goes p.tables e below G (T.setTop (mkF m pc' ls (x :: y :: x :: y :: st)))) : Goes p.tables e below G (T.setTop (mkF m pc ls (x :: y :: st))) := by
  subst hp
  exact Goes.on (fun _ k => XT.dup2 X.here C.1 rfl (hb C.2.2.1 hd) rfl hc hc' k) k
theorem g_dup2L (C : Ctx p Z s m meth c bs own maxL ret) (X : Stand p l e R s m args below meth c T locs cells slots) {pc pc' : Nat} {ls : Array Slot} {st : List Value} {x : Int64} (hd : decode bs pc = .ok (.dup2, 1)) (hp : pc + 1 = pc')
    (k : Goes p.tables e below G (T.setTop (mkF m pc' ls (.long x :: .long x :: st)))) : Goes p.tables e below G (T.setTop (mkF m pc ls (.long x :: st))) := by
  subst hp
  exact Goes.on (fun _ k => XT.dup2L X.here C.1 rfl (hb C.2.2.1 hd) rfl k) k
theorem g_pop (C : Ctx p Z s m meth c bs own maxL ret) (X : Stand p l e R s m args below meth c T locs cells slots) {pc pc' : Nat} {ls : Array Slot} {st : List Value} {x : Value} (hd : decode bs pc = .ok (.pop, 1)) (hp : pc + 1 = pc') (hc : x.category = 1)
    (k : Goes p.tables e below G (T.setTop (mkF m pc' ls st))) : Goes p.tables e below G (T.setTop (mkF m pc ls (x :: st))) := by
  subst hp
  exact Goes.on (fun _ k => XT.pop X.here C.1 rfl (hb C.2.2.1 hd) rfl hc k) k
theorem g_iinc (C : Ctx p Z s m meth c bs own maxL ret) (X : Stand p l e R s m args below meth c T locs cells slots) {pc pc' : Nat} {ls ls' : Array Slot} {st : List Value} {k : Nat} {cst : Int} {x w : Int32} (hd : decode bs pc = .ok (.iinc k cst, 3)) (hp : pc + 3 = pc') (hl : ls[k]? = some (.val (.int x))) (hv : x + Int32.ofInt cst = w) (hl' : storeLocals ls k (.int w) = some ls')
    (k : Goes p.tables e below G (T.setTop (mkF m pc' ls' st))) : Goes p.tables e below G (T.setTop (mkF m pc ls st)) := by
  subst hp hv
  exact Goes.on (fun _ k => XS.iinc X.here C.1 rfl (hb C.2.2.1 hd) hl hl' k) k
theorem g_dloadN (C : Ctx p Z s m meth c bs own maxL ret) (X : Stand p l e R s m args below meth c T locs cells slots) {pc pc' : Nat} {ls : Array Slot} {st : List Value} {k : Fin 4} {v : UInt64} (hd : decode bs pc = .ok (.dload_n k, 1)) (hp : pc + 1 = pc') (hl : ls[k.val]? = some (.val (.double v)))
    (k : Goes p.tables e below G (T.setTop (mkF m pc' ls (.double v :: st)))) : Goes p.tables e below G (T.setTop (mkF m pc ls st)) := by
  subst hp
  exact Goes.on (fun _ k => XS.dloadN X.here C.1 rfl (hb C.2.2.1 hd) hl k) k
theorem g_dload (C : Ctx p Z s m meth c bs own maxL ret) (X : Stand p l e R s m args below meth c T locs cells slots) {pc pc' : Nat} {ls : Array Slot} {st : List Value} {k : Nat} {v : UInt64} (hd : decode bs pc = .ok (.dload k, 2)) (hp : pc + 2 = pc') (hl : ls[k]? = some (.val (.double v)))
    (k : Goes p.tables e below G (T.setTop (mkF m pc' ls (.double v :: st)))) : Goes p.tables e below G (T.setTop (mkF m pc ls st)) := by
  subst hp
  exact Goes.on (fun _ k => XS.dload X.here C.1 rfl (hb C.2.2.1 hd) hl k) k
theorem g_dstore (C : Ctx p Z s m meth c bs own maxL ret) (X : Stand p l e R s m args below meth c T locs cells slots) {pc pc' : Nat} {ls ls' : Array Slot} {st : List Value} {k : Nat} {v w : UInt64} (hd : decode bs pc = .ok (.dstore k, 2)) (hp : pc + 2 = pc') (hv : v = w) (hl : storeLocals ls k (.double w) = some ls')
    (k : Goes p.tables e below G (T.setTop (mkF m pc' ls' st))) : Goes p.tables e below G (T.setTop (mkF m pc ls (.double v :: st))) := by
  subst hp hv
  exact Goes.on (fun _ k => XS.dstore X.here C.1 rfl (hb C.2.2.1 hd) rfl hl k) k
theorem g_i2d (C : Ctx p Z s m meth c bs own maxL ret) (X : Stand p l e R s m args below meth c T locs cells slots) {pc pc' : Nat} {ls : Array Slot} {st : List Value} {x : Int32} (hd : decode bs pc = .ok (.i2d, 1)) (hp : pc + 1 = pc')
    (k : Goes p.tables e below G (T.setTop (mkF m pc' ls (.double (FP.i2d x) :: st)))) : Goes p.tables e below G (T.setTop (mkF m pc ls (.int x :: st))) := by
  subst hp
  exact Goes.on (fun _ k => XS.i2dS X.here C.1 rfl (hb C.2.2.1 hd) rfl rfl k) k
theorem g_goto (C : Ctx p Z s m meth c bs own maxL ret) (X : Stand p l e R s m args below meth c T locs cells slots) {pc pc' : Nat} {ls : Array Slot} {st : List Value} {o : Int} (hd : decode bs pc = .ok (.goto o, 3)) (ho : 0 ≤ (pc : Int) + o) (hp : ((pc : Int) + o).toNat = pc')
    (k : Goes p.tables e below G (T.setTop (mkF m pc' ls st))) : Goes p.tables e below G (T.setTop (mkF m pc ls st)) :=
  Goes.on (fun _ k => XS.goto X.here C.1 rfl (pc0 := pc) (pc' := pc') rfl (hb C.2.2.1 hd) ho hp k) k
theorem cmpL_lt (x y : Int64) : XT.cmpL x y < 0 ↔ x < y := by unfold XT.cmpL; split <;> (try split) <;> simp_all [Int64.lt_iff_toInt_lt, ← Int64.toInt_inj] <;> omega
theorem cmpL_gt (x y : Int64) : 0 < XT.cmpL x y ↔ y < x := by unfold XT.cmpL; split <;> (try split) <;> simp_all [Int64.lt_iff_toInt_lt, ← Int64.toInt_inj] <;> omega
theorem cmpL_eq (x y : Int64) : XT.cmpL x y = 0 ↔ x = y := by unfold XT.cmpL; split <;> (try split) <;> simp_all [Int64.lt_iff_toInt_lt, ← Int64.toInt_inj] <;> omega
theorem g_icmp_eq (C : Ctx p Z s m meth c bs own maxL ret) (X : Stand p l e R s m args below meth c T locs cells slots) {pc pcT pcN : Nat} {ls : Array Slot} {st : List Value} {x y : Int32} {o : Int} (hd : decode bs pc = .ok (.if_icmp .eq o, 3)) (ho : 0 ≤ (pc : Int) + o) (hp : ((pc : Int) + o).toNat = pcT) (hq : pc + 3 = pcN)
    (hyes : x = y → Goes p.tables e below G (T.setTop (mkF m pcT ls st))) (hno : ¬ x = y → Goes p.tables e below G (T.setTop (mkF m pcN ls st))) : Goes p.tables e below G (T.setTop (mkF m pc ls (.int y :: .int x :: st))) := by
  subst hq
  by_cases q : x = y
  · exact Goes.on (fun _ k => XS.icmpYes X.here C.1 rfl (pc0 := pc) (pc' := pcT) rfl (hb C.2.2.1 hd) rfl (teq q).1 ho hp k) (hyes q)
  · exact Goes.on (fun _ k => XS.icmpNo X.here C.1 rfl (hb C.2.2.1 hd) rfl (feq q).1 k) (hno q)
theorem g_if_eq (C : Ctx p Z s m meth c bs own maxL ret) (X : Stand p l e R s m args below meth c T locs cells slots) {pc pcT pcN : Nat} {ls : Array Slot} {st : List Value} {x : Int32} {o : Int} (hd : decode bs pc = .ok (.ifCond .eq o, 3)) (ho : 0 ≤ (pc : Int) + o) (hp : ((pc : Int) + o).toNat = pcT) (hq : pc + 3 = pcN)
    (hyes : x = (0 : Int32) → Goes p.tables e below G (T.setTop (mkF m pcT ls st))) (hno : ¬ x = (0 : Int32) → Goes p.tables e below G (T.setTop (mkF m pcN ls st))) : Goes p.tables e below G (T.setTop (mkF m pc ls (.int x :: st))) := by
  subst hq
  by_cases q : x = (0 : Int32)
  · exact Goes.on (fun _ k => XS.ifYes X.here C.1 rfl (pc0 := pc) (pc' := pcT) rfl (hb C.2.2.1 hd) rfl ((if0 _ _).trans (teq q).1) ho hp k) (hyes q)
  · exact Goes.on (fun _ k => XS.ifNo X.here C.1 rfl (hb C.2.2.1 hd) rfl ((if0 _ _).trans (feq q).1) k) (hno q)
theorem g_lcmp_eq (C : Ctx p Z s m meth c bs own maxL ret) (X : Stand p l e R s m args below meth c T locs cells slots) {pc pc1 pcT pcN : Nat} {ls : Array Slot} {st : List Value} {x y : Int64} {o : Int} (hd : decode bs pc = .ok (.lcmp, 1)) (h1 : pc + 1 = pc1) (hd1 : decode bs pc1 = .ok (.ifCond .eq o, 3)) (ho : 0 ≤ (pc1 : Int) + o) (hp : ((pc1 : Int) + o).toNat = pcT) (hq : pc1 + 3 = pcN)
    (hyes : x = y → Goes p.tables e below G (T.setTop (mkF m pcT ls st))) (hno : ¬ x = y → Goes p.tables e below G (T.setTop (mkF m pcN ls st))) : Goes p.tables e below G (T.setTop (mkF m pc ls (.long y :: .long x :: st))) := by
  subst h1
  exact Goes.on (fun _ k => XT.lcmp X.here C.1 rfl (hb C.2.2.1 hd) rfl k) (g_if_eq C X hd1 ho hp hq (fun q => hyes ((cmpL_eq x y).mp q)) (fun q => hno ((not_congr (cmpL_eq x y)).mp q)))
theorem g_icmp_ne (C : Ctx p Z s m meth c bs own maxL ret) (X : Stand p l e R s m args below meth c T locs cells slots) {pc pcT pcN : Nat} {ls : Array Slot} {st : List Value} {x y : Int32} {o : Int} (hd : decode bs pc = .ok (.if_icmp .ne o, 3)) (ho : 0 ≤ (pc : Int) + o) (hp : ((pc : Int) + o).toNat = pcT) (hq : pc + 3 = pcN)
    (hyes : ¬ x = y → Goes p.tables e below G (T.setTop (mkF m pcT ls st))) (hno : x = y → Goes p.tables e below G (T.setTop (mkF m pcN ls st))) : Goes p.tables e below G (T.setTop (mkF m pc ls (.int y :: .int x :: st))) := by
  subst hq
  by_cases q : x = y
  · exact Goes.on (fun _ k => XS.icmpNo X.here C.1 rfl (hb C.2.2.1 hd) rfl (teq q).2 k) (hno q)
  · exact Goes.on (fun _ k => XS.icmpYes X.here C.1 rfl (pc0 := pc) (pc' := pcT) rfl (hb C.2.2.1 hd) rfl (feq q).2 ho hp k) (hyes q)
theorem g_if_ne (C : Ctx p Z s m meth c bs own maxL ret) (X : Stand p l e R s m args below meth c T locs cells slots) {pc pcT pcN : Nat} {ls : Array Slot} {st : List Value} {x : Int32} {o : Int} (hd : decode bs pc = .ok (.ifCond .ne o, 3)) (ho : 0 ≤ (pc : Int) + o) (hp : ((pc : Int) + o).toNat = pcT) (hq : pc + 3 = pcN)
    (hyes : ¬ x = (0 : Int32) → Goes p.tables e below G (T.setTop (mkF m pcT ls st))) (hno : x = (0 : Int32) → Goes p.tables e below G (T.setTop (mkF m pcN ls st))) : Goes p.tables e below G (T.setTop (mkF m pc ls (.int x :: st))) := by
  subst hq
  by_cases q : x = (0 : Int32)
  · exact Goes.on (fun _ k => XS.ifNo X.here C.1 rfl (hb C.2.2.1 hd) rfl ((if0 _ _).trans (teq q).2) k) (hno q)
  · exact Goes.on (fun _ k => XS.ifYes X.here C.1 rfl (pc0 := pc) (pc' := pcT) rfl (hb C.2.2.1 hd) rfl ((if0 _ _).trans (feq q).2) ho hp k) (hyes q)
theorem g_lcmp_ne (C : Ctx p Z s m meth c bs own maxL ret) (X : Stand p l e R s m args below meth c T locs cells slots) {pc pc1 pcT pcN : Nat} {ls : Array Slot} {st : List Value} {x y : Int64} {o : Int} (hd : decode bs pc = .ok (.lcmp, 1)) (h1 : pc + 1 = pc1) (hd1 : decode bs pc1 = .ok (.ifCond .ne o, 3)) (ho : 0 ≤ (pc1 : Int) + o) (hp : ((pc1 : Int) + o).toNat = pcT) (hq : pc1 + 3 = pcN)
    (hyes : ¬ x = y → Goes p.tables e below G (T.setTop (mkF m pcT ls st))) (hno : x = y → Goes p.tables e below G (T.setTop (mkF m pcN ls st))) : Goes p.tables e below G (T.setTop (mkF m pc ls (.long y :: .long x :: st))) := by
  subst h1
  exact Goes.on (fun _ k => XT.lcmp X.here C.1 rfl (hb C.2.2.1 hd) rfl k) (g_if_ne C X hd1 ho hp hq (fun q => hyes ((not_congr (cmpL_eq x y)).mp q)) (fun q => hno ((cmpL_eq x y).mp q)))
theorem g_icmp_lt (C : Ctx p Z s m meth c bs own maxL ret) (X : Stand p l e R s m args below meth c T locs cells slots) {pc pcT pcN : Nat} {ls : Array Slot} {st : List Value} {x y : Int32} {o : Int} (hd : decode bs pc = .ok (.if_icmp .lt o, 3)) (ho : 0 ≤ (pc : Int) + o) (hp : ((pc : Int) + o).toNat = pcT) (hq : pc + 3 = pcN)
    (hyes : x < y → Goes p.tables e below G (T.setTop (mkF m pcT ls st))) (hno : ¬ x < y → Goes p.tables e below G (T.setTop (mkF m pcN ls st))) : Goes p.tables e below G (T.setTop (mkF m pc ls (.int y :: .int x :: st))) := by
  subst hq
  by_cases q : x < y
  · exact Goes.on (fun _ k => XS.icmpYes X.here C.1 rfl (pc0 := pc) (pc' := pcT) rfl (hb C.2.2.1 hd) rfl (tlt q).1 ho hp k) (hyes q)
  · exact Goes.on (fun _ k => XS.icmpNo X.here C.1 rfl (hb C.2.2.1 hd) rfl (flt q).1 k) (hno q)
theorem g_if_lt (C : Ctx p Z s m meth c bs own maxL ret) (X : Stand p l e R s m args below meth c T locs cells slots) {pc pcT pcN : Nat} {ls : Array Slot} {st : List Value} {x : Int32} {o : Int} (hd : decode bs pc = .ok (.ifCond .lt o, 3)) (ho : 0 ≤ (pc : Int) + o) (hp : ((pc : Int) + o).toNat = pcT) (hq : pc + 3 = pcN)
    (hyes : x < (0 : Int32) → Goes p.tables e below G (T.setTop (mkF m pcT ls st))) (hno : ¬ x < (0 : Int32) → Goes p.tables e below G (T.setTop (mkF m pcN ls st))) : Goes p.tables e below G (T.setTop (mkF m pc ls (.int x :: st))) := by
  subst hq
  by_cases q : x < (0 : Int32)
  · exact Goes.on (fun _ k => XS.ifYes X.here C.1 rfl (pc0 := pc) (pc' := pcT) rfl (hb C.2.2.1 hd) rfl ((if0 _ _).trans (tlt q).1) ho hp k) (hyes q)
  · exact Goes.on (fun _ k => XS.ifNo X.here C.1 rfl (hb C.2.2.1 hd) rfl ((if0 _ _).trans (flt q).1) k) (hno q)
theorem g_lcmp_lt (C : Ctx p Z s m meth c bs own maxL ret) (X : Stand p l e R s m args below meth c T locs cells slots) {pc pc1 pcT pcN : Nat} {ls : Array Slot} {st : List Value} {x y : Int64} {o : Int} (hd : decode bs pc = .ok (.lcmp, 1)) (h1 : pc + 1 = pc1) (hd1 : decode bs pc1 = .ok (.ifCond .lt o, 3)) (ho : 0 ≤ (pc1 : Int) + o) (hp : ((pc1 : Int) + o).toNat = pcT) (hq : pc1 + 3 = pcN)
    (hyes : x < y → Goes p.tables e below G (T.setTop (mkF m pcT ls st))) (hno : ¬ x < y → Goes p.tables e below G (T.setTop (mkF m pcN ls st))) : Goes p.tables e below G (T.setTop (mkF m pc ls (.long y :: .long x :: st))) := by
  subst h1
  exact Goes.on (fun _ k => XT.lcmp X.here C.1 rfl (hb C.2.2.1 hd) rfl k) (g_if_lt C X hd1 ho hp hq (fun q => hyes ((cmpL_lt x y).mp q)) (fun q => hno ((not_congr (cmpL_lt x y)).mp q)))
theorem g_icmp_ge (C : Ctx p Z s m meth c bs own maxL ret) (X : Stand p l e R s m args below meth c T locs cells slots) {pc pcT pcN : Nat} {ls : Array Slot} {st : List Value} {x y : Int32} {o : Int} (hd : decode bs pc = .ok (.if_icmp .ge o, 3)) (ho : 0 ≤ (pc : Int) + o) (hp : ((pc : Int) + o).toNat = pcT) (hq : pc + 3 = pcN)
    (hyes : ¬ x < y → Goes p.tables e below G (T.setTop (mkF m pcT ls st))) (hno : x < y → Goes p.tables e below G (T.setTop (mkF m pcN ls st))) : Goes p.tables e below G (T.setTop (mkF m pc ls (.int y :: .int x :: st))) := by
  subst hq
  by_cases q : x < y
  · exact Goes.on (fun _ k => XS.icmpNo X.here C.1 rfl (hb C.2.2.1 hd) rfl (tlt q).2.1 k) (hno q)
  · exact Goes.on (fun _ k => XS.icmpYes X.here C.1 rfl (pc0 := pc) (pc' := pcT) rfl (hb C.2.2.1 hd) rfl (flt q).2.1 ho hp k) (hyes q)
theorem g_if_ge (C : Ctx p Z s m meth c bs own maxL ret) (X : Stand p l e R s m args below meth c T locs cells slots) {pc pcT pcN : Nat} {ls : Array Slot} {st : List Value} {x : Int32} {o : Int} (hd : decode bs pc = .ok (.ifCond .ge o, 3)) (ho : 0 ≤ (pc : Int) + o) (hp : ((pc : Int) + o).toNat = pcT) (hq : pc + 3 = pcN)
    (hyes : ¬ x < (0 : Int32) → Goes p.tables e below G (T.setTop (mkF m pcT ls st))) (hno : x < (0 : Int32) → Goes p.tables e below G (T.setTop (mkF m pcN ls st))) : Goes p.tables e below G (T.setTop (mkF m pc ls (.int x :: st))) := by
  subst hq
  by_cases q : x < (0 : Int32)
  · exact Goes.on (fun _ k => XS.ifNo X.here C.1 rfl (hb C.2.2.1 hd) rfl ((if0 _ _).trans (tlt q).2.1) k) (hno q)
  · exact Goes.on (fun _ k => XS.ifYes X.here C.1 rfl (pc0 := pc) (pc' := pcT) rfl (hb C.2.2.1 hd) rfl ((if0 _ _).trans (flt q).2.1) ho hp k) (hyes q)
theorem g_lcmp_ge (C : Ctx p Z s m meth c bs own maxL ret) (X : Stand p l e R s m args below meth c T locs cells slots) {pc pc1 pcT pcN : Nat} {ls : Array Slot} {st : List Value} {x y : Int64} {o : Int} (hd : decode bs pc = .ok (.lcmp, 1)) (h1 : pc + 1 = pc1) (hd1 : decode bs pc1 = .ok (.ifCond .ge o, 3)) (ho : 0 ≤ (pc1 : Int) + o) (hp : ((pc1 : Int) + o).toNat = pcT) (hq : pc1 + 3 = pcN)
    (hyes : ¬ x < y → Goes p.tables e below G (T.setTop (mkF m pcT ls st))) (hno : x < y → Goes p.tables e below G (T.setTop (mkF m pcN ls st))) : Goes p.tables e below G (T.setTop (mkF m pc ls (.long y :: .long x :: st))) := by
  subst h1
  exact Goes.on (fun _ k => XT.lcmp X.here C.1 rfl (hb C.2.2.1 hd) rfl k) (g_if_ge C X hd1 ho hp hq (fun q => hyes ((not_congr (cmpL_lt x y)).mp q)) (fun q => hno ((cmpL_lt x y).mp q)))
theorem g_icmp_gt (C : Ctx p Z s m meth c bs own maxL ret) (X : Stand p l e R s m args below meth c T locs cells slots) {pc pcT pcN : Nat} {ls : Array Slot} {st : List Value} {x y : Int32} {o : Int} (hd : decode bs pc = .ok (.if_icmp .gt o, 3)) (ho : 0 ≤ (pc : Int) + o) (hp : ((pc : Int) + o).toNat = pcT) (hq : pc + 3 = pcN)
    (hyes : y < x → Goes p.tables e below G (T.setTop (mkF m pcT ls st))) (hno : ¬ y < x → Goes p.tables e below G (T.setTop (mkF m pcN ls st))) : Goes p.tables e below G (T.setTop (mkF m pc ls (.int y :: .int x :: st))) := by
  subst hq
  by_cases q : y < x
  · exact Goes.on (fun _ k => XS.icmpYes X.here C.1 rfl (pc0 := pc) (pc' := pcT) rfl (hb C.2.2.1 hd) rfl (tlt q).2.2.1 ho hp k) (hyes q)
  · exact Goes.on (fun _ k => XS.icmpNo X.here C.1 rfl (hb C.2.2.1 hd) rfl (flt q).2.2.1 k) (hno q)
theorem g_if_gt (C : Ctx p Z s m meth c bs own maxL ret) (X : Stand p l e R s m args below meth c T locs cells slots) {pc pcT pcN : Nat} {ls : Array Slot} {st : List Value} {x : Int32} {o : Int} (hd : decode bs pc = .ok (.ifCond .gt o, 3)) (ho : 0 ≤ (pc : Int) + o) (hp : ((pc : Int) + o).toNat = pcT) (hq : pc + 3 = pcN)
    (hyes : (0 : Int32) < x → Goes p.tables e below G (T.setTop (mkF m pcT ls st))) (hno : ¬ (0 : Int32) < x → Goes p.tables e below G (T.setTop (mkF m pcN ls st))) : Goes p.tables e below G (T.setTop (mkF m pc ls (.int x :: st))) := by
  subst hq
  by_cases q : (0 : Int32) < x
  · exact Goes.on (fun _ k => XS.ifYes X.here C.1 rfl (pc0 := pc) (pc' := pcT) rfl (hb C.2.2.1 hd) rfl ((if0 _ _).trans (tlt q).2.2.1) ho hp k) (hyes q)
  · exact Goes.on (fun _ k => XS.ifNo X.here C.1 rfl (hb C.2.2.1 hd) rfl ((if0 _ _).trans (flt q).2.2.1) k) (hno q)
theorem g_lcmp_gt (C : Ctx p Z s m meth c bs own maxL ret) (X : Stand p l e R s m args below meth c T locs cells slots) {pc pc1 pcT pcN : Nat} {ls : Array Slot} {st : List Value} {x y : Int64} {o : Int} (hd : decode bs pc = .ok (.lcmp, 1)) (h1 : pc + 1 = pc1) (hd1 : decode bs pc1 = .ok (.ifCond .gt o, 3)) (ho : 0 ≤ (pc1 : Int) + o) (hp : ((pc1 : Int) + o).toNat = pcT) (hq : pc1 + 3 = pcN)
    (hyes : y < x → Goes p.tables e below G (T.setTop (mkF m pcT ls st))) (hno : ¬ y < x → Goes p.tables e below G (T.setTop (mkF m pcN ls st))) : Goes p.tables e below G (T.setTop (mkF m pc ls (.long y :: .long x :: st))) := by
  subst h1
  exact Goes.on (fun _ k => XT.lcmp X.here C.1 rfl (hb C.2.2.1 hd) rfl k) (g_if_gt C X hd1 ho hp hq (fun q => hyes ((cmpL_gt x y).mp q)) (fun q => hno ((not_congr (cmpL_gt x y)).mp q)))
theorem g_icmp_le (C : Ctx p Z s m meth c bs own maxL ret) (X : Stand p l e R s m args below meth c T locs cells slots) {pc pcT pcN : Nat} {ls : Array Slot} {st : List Value} {x y : Int32} {o : Int} (hd : decode bs pc = .ok (.if_icmp .le o, 3)) (ho : 0 ≤ (pc : Int) + o) (hp : ((pc : Int) + o).toNat = pcT) (hq : pc + 3 = pcN)
    (hyes : ¬ y < x → Goes p.tables e below G (T.setTop (mkF m pcT ls st))) (hno : y < x → Goes p.tables e below G (T.setTop (mkF m pcN ls st))) : Goes p.tables e below G (T.setTop (mkF m pc ls (.int y :: .int x :: st))) := by
  subst hq
  by_cases q : y < x
  · exact Goes.on (fun _ k => XS.icmpNo X.here C.1 rfl (hb C.2.2.1 hd) rfl (tlt q).2.2.2 k) (hno q)
  · exact Goes.on (fun _ k => XS.icmpYes X.here C.1 rfl (pc0 := pc) (pc' := pcT) rfl (hb C.2.2.1 hd) rfl (flt q).2.2.2 ho hp k) (hyes q)
theorem g_if_le (C : Ctx p Z s m meth c bs own maxL ret) (X : Stand p l e R s m args below meth c T locs cells slots) {pc pcT pcN : Nat} {ls : Array Slot} {st : List Value} {x : Int32} {o : Int} (hd : decode bs pc = .ok (.ifCond .le o, 3)) (ho : 0 ≤ (pc : Int) + o) (hp : ((pc : Int) + o).toNat = pcT) (hq : pc + 3 = pcN)
    (hyes : ¬ (0 : Int32) < x → Goes p.tables e below G (T.setTop (mkF m pcT ls st))) (hno : (0 : Int32) < x → Goes p.tables e below G (T.setTop (mkF m pcN ls st))) : Goes p.tables e below G (T.setTop (mkF m pc ls (.int x :: st))) := by
  subst hq
  by_cases q : (0 : Int32) < x
  · exact Goes.on (fun _ k => XS.ifNo X.here C.1 rfl (hb C.2.2.1 hd) rfl ((if0 _ _).trans (tlt q).2.2.2) k) (hno q)
  · exact Goes.on (fun _ k => XS.ifYes X.here C.1 rfl (pc0 := pc) (pc' := pcT) rfl (hb C.2.2.1 hd) rfl ((if0 _ _).trans (flt q).2.2.2) ho hp k) (hyes q)
theorem g_lcmp_le (C : Ctx p Z s m meth c bs own maxL ret) (X : Stand p l e R s m args below meth c T locs cells slots) {pc pc1 pcT pcN : Nat} {ls : Array Slot} {st : List Value} {x y : Int64} {o : Int} (hd : decode bs pc = .ok (.lcmp, 1)) (h1 : pc + 1 = pc1) (hd1 : decode bs pc1 = .ok (.ifCond .le o, 3)) (ho : 0 ≤ (pc1 : Int) + o) (hp : ((pc1 : Int) + o).toNat = pcT) (hq : pc1 + 3 = pcN)
    (hyes : ¬ y < x → Goes p.tables e below G (T.setTop (mkF m pcT ls st))) (hno : y < x → Goes p.tables e below G (T.setTop (mkF m pcN ls st))) : Goes p.tables e below G (T.setTop (mkF m pc ls (.long y :: .long x :: st))) := by
  subst h1
  exact Goes.on (fun _ k => XT.lcmp X.here C.1 rfl (hb C.2.2.1 hd) rfl k) (g_if_le C X hd1 ho hp hq (fun q => hyes ((not_congr (cmpL_gt x y)).mp q)) (fun q => hno ((cmpL_gt x y).mp q)))
theorem g_ldc (C : Ctx p Z s m meth c bs own maxL ret) (X : Stand p l e R s m args below meth c T locs cells slots) {pc pc' : Nat} {ls : Array Slot} {st : List Value} {i : Nat} {v : Int32} (w : (Cond.constant own i v).before a0 Z = true) (hd : decode bs pc = .ok (.ldc i, 2)) (hp : pc + 2 = pc') (k : Goes p.tables e below G (T.setTop (mkF m pc' ls (.int v :: st)))) : Goes p.tables e below G (T.setTop (mkF m pc ls st)) := by
  subst hp
  exact Goes.on (fun _ k => X.ldcInt C.1 C.2.2.2.2.1 (mvT C.2.1 w) (g := mkF m pc ls st) rfl (hb C.2.2.1 hd) _ k) k
theorem g_ldc2 (C : Ctx p Z s m meth c bs own maxL ret) (X : Stand p l e R s m args below meth c T locs cells slots) {pc pc' : Nat} {ls : Array Slot} {st : List Value} {i : Nat} {v : Int64} (w : (Cond.constantLong own i v).before a0 Z = true) (hd : decode bs pc = .ok (.ldc2_w i, 3)) (hp : pc + 3 = pc') (k : Goes p.tables e below G (T.setTop (mkF m pc' ls (.long v :: st)))) : Goes p.tables e below G (T.setTop (mkF m pc ls st)) := by
  subst hp
  exact Goes.on (fun _ k => X.ldc2Long C.1 C.2.2.2.2.1 (mvT C.2.1 w) (g := mkF m pc ls st) rfl (hb C.2.2.1 hd) _ k) k
theorem g_retN {t : FieldType} (C : Ctx p Z s m meth c bs own maxL (some t)) (X : Stand p l e R s m args below meth c T locs cells slots) {Q : Option Value → Heap → List Loc → Prop} (K : ∀ (v : Option Value) (L : List Loc) (T' : State), Q v T'.heap L → s.WarmedH T'.vm → s.sameButNew ({ T' with vm := s.vm } : State) L R.cells R.slots → G (.returned v) T') {pc : Nat} {ls : Array Slot} {rest : List Value} {z : Int32} (ht : t = .boolean ∨ t = .byte ∨ t = .char ∨ t = .short) (hd : decode bs pc = .ok (.ireturn, 1)) (hc : cells ≤ R.cells) (hs : slots ≤ R.slots) (eT : T.heap = h) (hQ : Q (some (.int (nar t z))) h locs) : Goes p.tables e below G (T.setTop (mkF m pc ls (.int z :: rest))) := by
  have hlk : meth.locks = false := C.2.2.2.2.2.2
  obtain ⟨fs, hr, hrun, hended, hW, hsame⟩ := X.leave (v := some (.int (nar t z))) (fun q => by rw [C.2.2.2.2.2.1] at q; cases q) hlk
  refine ⟨_, _, ?_, hrun, hended, K _ locs _ (by show Q _ T.heap locs; rw [eT]; exact hQ) hW (hsame.mono hc hs)⟩
  exact retN X C.1 C.2.2.2.2.2.1 ht (hb C.2.2.1 hd) hr
theorem g_retI (C : Ctx p Z s m meth c bs own maxL (some .int)) (X : Stand p l e R s m args below meth c T locs cells slots) {Q : Option Value → Heap → List Loc → Prop} (K : ∀ (v : Option Value) (L : List Loc) (T' : State), Q v T'.heap L → s.WarmedH T'.vm → s.sameButNew ({ T' with vm := s.vm } : State) L R.cells R.slots → G (.returned v) T') {pc : Nat} {ls : Array Slot} {rest : List Value} {z : Int32} (hd : decode bs pc = .ok (.ireturn, 1)) (hc : cells ≤ R.cells) (hs : slots ≤ R.slots) (eT : T.heap = h) (hQ : Q (some (.int z)) h locs) : Goes p.tables e below G (T.setTop (mkF m pc ls (.int z :: rest))) := by
  have hlk : meth.locks = false := C.2.2.2.2.2.2
  obtain ⟨fs, hr, hrun, hended, hW, hsame⟩ := X.leave (v := some (.int z)) (fun q => by rw [C.2.2.2.2.2.1] at q; cases q) hlk
  refine ⟨_, _, ?_, hrun, hended, K _ locs _ (by show Q _ T.heap locs; rw [eT]; exact hQ) hW (hsame.mono hc hs)⟩
  exact retOut X C.1 (w := .int z) (i := .ireturn) C.2.2.2.2.2.1 rfl (Or.inl ⟨rfl, Or.inl rfl, z, rfl⟩) (hb C.2.2.1 hd) hr
theorem g_retJ (C : Ctx p Z s m meth c bs own maxL (some .long)) (X : Stand p l e R s m args below meth c T locs cells slots) {Q : Option Value → Heap → List Loc → Prop} (K : ∀ (v : Option Value) (L : List Loc) (T' : State), Q v T'.heap L → s.WarmedH T'.vm → s.sameButNew ({ T' with vm := s.vm } : State) L R.cells R.slots → G (.returned v) T') {pc : Nat} {ls : Array Slot} {rest : List Value} {z : Int64} (hd : decode bs pc = .ok (.lreturn, 1)) (hc : cells ≤ R.cells) (hs : slots ≤ R.slots) (eT : T.heap = h) (hQ : Q (some (.long z)) h locs) : Goes p.tables e below G (T.setTop (mkF m pc ls (.long z :: rest))) := by
  have hlk : meth.locks = false := C.2.2.2.2.2.2
  obtain ⟨fs, hr, hrun, hended, hW, hsame⟩ := X.leave (v := some (.long z)) (fun q => by rw [C.2.2.2.2.2.1] at q; cases q) hlk
  refine ⟨_, _, ?_, hrun, hended, K _ locs _ (by show Q _ T.heap locs; rw [eT]; exact hQ) hW (hsame.mono hc hs)⟩
  exact retOut X C.1 (w := .long z) (i := .lreturn) C.2.2.2.2.2.1 rfl (Or.inr (Or.inl ⟨rfl, rfl, z, rfl⟩)) (hb C.2.2.1 hd) hr
theorem g_retA {t : FieldType} (C : Ctx p Z s m meth c bs own maxL (some t)) (X : Stand p l e R s m args below meth c T locs cells slots) {Q : Option Value → Heap → List Loc → Prop} (K : ∀ (v : Option Value) (L : List Loc) (T' : State), Q v T'.heap L → s.WarmedH T'.vm → s.sameButNew ({ T' with vm := s.vm } : State) L R.cells R.slots → G (.returned v) T') {pc : Nat} {ls : Array Slot} {rest : List Value} {w : Value} (ht : t.isReference = true) (hn : narrow t w = w) (hw : w.isRef = true) (hd : decode bs pc = .ok (.areturn, 1)) (hc : cells ≤ R.cells) (hs : slots ≤ R.slots) (eT : T.heap = h) (hQ : Q (some w) h locs) : Goes p.tables e below G (T.setTop (mkF m pc ls (w :: rest))) := by
  have hlk : meth.locks = false := C.2.2.2.2.2.2
  obtain ⟨fs, hr, hrun, hended, hW, hsame⟩ := X.leave (v := some w) (fun q => by rw [C.2.2.2.2.2.1] at q; cases q) hlk
  refine ⟨_, _, ?_, hrun, hended, K _ locs _ (by show Q _ T.heap locs; rw [eT]; exact hQ) hW (hsame.mono hc hs)⟩
  exact retOut X C.1 (w := w) (i := .areturn) C.2.2.2.2.2.1 hn (Or.inr (Or.inr (Or.inr (Or.inr ⟨rfl, ht, hw⟩)))) (hb C.2.2.1 hd) hr
theorem g_retV (C : Ctx p Z s m meth c bs own maxL (none)) (X : Stand p l e R s m args below meth c T locs cells slots) {Q : Option Value → Heap → List Loc → Prop} (K : ∀ (v : Option Value) (L : List Loc) (T' : State), Q v T'.heap L → s.WarmedH T'.vm → s.sameButNew ({ T' with vm := s.vm } : State) L R.cells R.slots → G (.returned v) T') {pc : Nat} {ls : Array Slot}  (hd : decode bs pc = .ok (.return_, 1)) (hc : cells ≤ R.cells) (hs : slots ≤ R.slots) (eT : T.heap = h) (hQ : Q (none) h locs) : Goes p.tables e below G (T.setTop (mkF m pc ls [])) := by
  have hlk : meth.locks = false := C.2.2.2.2.2.2
  obtain ⟨fs, hr, hrun, hended, hW, hsame⟩ := X.leave (v := none) (fun _ => rfl) hlk
  refine ⟨_, _, ?_, hrun, hended, K _ locs _ (by show Q _ T.heap locs; rw [eT]; exact hQ) hW (hsame.mono hc hs)⟩
  exact X.returnOut C.1 C.2.2.2.2.2.1 (hb C.2.2.1 hd) hr
theorem g_getF (C : Ctx p Z s m meth c bs own maxL ret) (X : Stand p l e R s m args below meth c T locs cells slots) {pc pc' : Nat} {ls : Array Slot} {st : List Value} {R0 O n d : String} {index : Nat} {a : Addr} {v : Value} (w : (Cond.fieldLink own index R0 n d).before a0 Z = true) (via : Via Z R0 O n d) (eT : T.heap = h) (F : Fld Z h a O n d v) (hd : decode bs pc = .ok (.getfield index, 3)) (hp : pc + 3 = pc')
    (k : ∀ T' : State, Stand p l e R s m args below meth c T' locs cells slots → T'.heap = h → Goes p.tables e below G (T'.setTop (mkF m pc' ls (v :: st)))) : Goes p.tables e below G (T.setTop (mkF m pc ls (.ref a :: st))) := by
  subst hp
  obtain ⟨T', X', e', st'⟩ := getF X C.1 C.2.1 C.2.2.2.2.1 (host := "") (Or.inl w) via eT F (g := mkF m pc ls (.ref a :: st)) rfl rfl (hb C.2.2.1 hd)
  exact Goes.on (fun t k => st' t k) (k T' X' e')
theorem g_getS (C : Ctx p Z s m meth c bs own maxL ret) (X : Stand p l e R s m args below meth c T locs cells slots) {pc pc' : Nat} {ls : Array Slot} {st : List Value} {R0 O n d : String} {index : Nat} {v : Value} (w : (Cond.fieldLink own index R0 n d).before a0 Z = true) (via : Via Z R0 O n d) (eT : T.heap = h) (F : Sta Z h O n d v) (hd : decode bs pc = .ok (.getstatic index, 3)) (hp : pc + 3 = pc')
    (k : ∀ T' : State, Stand p l e R s m args below meth c T' locs cells slots → T'.heap = h → Goes p.tables e below G (T'.setTop (mkF m pc' ls (v :: st)))) : Goes p.tables e below G (T.setTop (mkF m pc ls st)) := by
  subst hp
  obtain ⟨T', X', e', st'⟩ := getS2 X C.1 C.2.1 C.2.2.2.2.1 (host := "") (Or.inl w) via eT F (g := mkF m pc ls st) rfl (hb C.2.2.1 hd)
  exact Goes.on (fun t k => st' t k) (k T' X' e')
theorem g_getFN (C : Ctx p Z s m meth c bs own maxL ret) (X : Stand p l e R s m args below meth c T locs cells slots) {pc pc' : Nat} {ls : Array Slot} {st : List Value} {R0 O n d host : String} {index : Nat} {a : Addr} {v : Value} (w : (Cond.fieldLinkNest own index R0 n d host).before a0 Z = true) (via : Via Z R0 O n d) (eT : T.heap = h) (F : Fld Z h a O n d v) (hd : decode bs pc = .ok (.getfield index, 3)) (hp : pc + 3 = pc')
    (k : ∀ T' : State, Stand p l e R s m args below meth c T' locs cells slots → T'.heap = h → Goes p.tables e below G (T'.setTop (mkF m pc' ls (v :: st)))) : Goes p.tables e below G (T.setTop (mkF m pc ls (.ref a :: st))) := by
  subst hp
  obtain ⟨T', X', e', st'⟩ := getF X C.1 C.2.1 C.2.2.2.2.1 (Or.inr w) via eT F (g := mkF m pc ls (.ref a :: st)) rfl rfl (hb C.2.2.1 hd)
  exact Goes.on (fun t k => st' t k) (k T' X' e')
theorem g_putF (C : Ctx p Z s m meth c bs own maxL ret) (X : Stand p l e R s m args below meth c T locs cells slots) {pc pc' : Nat} {ls : Array Slot} {st : List Value} {R0 O n d K : String} {index kk : Nat} {ty : FieldType} {a : Addr} {v old : Value} (w : (Cond.fieldLink own index R0 n d).before a0 Z = true) (via : Via Z R0 O n d) (eT : T.heap = h) (F : Fld Z h a O n d old) (E : Exa Z h a K) (L : (Cond.lays K O n d).before a0 Z = true ∨ ((Cond.laysFinal K O n d).before a0 Z = true ∧ own = O ∧ meth.name = "<init>")) (wi : (Cond.instantiable K kk).before a0 Z = true) (hty : parseFieldDescriptor d = some ty) (hn : narrow ty v = v) (hf : fits ty v = true) (hd : decode bs pc = .ok (.putfield index, 3)) (hp : pc + 3 = pc')
    (k : ∀ (T' : State) (h' : Heap), Stand p l e R s m args below meth c T' (locs ++ [⟨a, Jvm.RoadKit.slotOf Z O n d⟩]) cells slots → T'.heap = h' → Wr h h' a (Jvm.RoadKit.slotOf Z O n d) v → Goes p.tables e below G (T'.setTop (mkF m pc' ls st))) : Goes p.tables e below G (T.setTop (mkF m pc ls (v :: .ref a :: st))) := by
  subst hp
  obtain ⟨T', h', X', e', W', st'⟩ := putF X C.1 C.2.1 C.2.2.2.2.1 (host := "") (Or.inl w) via eT F E L wi hty hn hf (g := mkF m pc ls (v :: .ref a :: st)) rfl rfl (hb C.2.2.1 hd)
  exact Goes.on (fun t k => st' t k) (k T' h' X' e' W')
theorem g_putFN (C : Ctx p Z s m meth c bs own maxL ret) (X : Stand p l e R s m args below meth c T locs cells slots) {pc pc' : Nat} {ls : Array Slot} {st : List Value} {R0 O n d K : String} {index kk : Nat} {ty : FieldType} {a : Addr} {v old v' : Value} (w : (Cond.fieldLink own index R0 n d).before a0 Z = true) (via : Via Z R0 O n d) (eT : T.heap = h) (F : Fld Z h a O n d old) (E : Exa Z h a K) (L : (Cond.lays K O n d).before a0 Z = true ∨ ((Cond.laysFinal K O n d).before a0 Z = true ∧ own = O ∧ meth.name = "<init>")) (wi : (Cond.instantiable K kk).before a0 Z = true) (hty : parseFieldDescriptor d = some ty) (hn : narrow ty v = v') (hf : fits ty v' = true) (hd : decode bs pc = .ok (.putfield index, 3)) (hp : pc + 3 = pc')
    (k : ∀ (T' : State) (h' : Heap), Stand p l e R s m args below meth c T' (locs ++ [⟨a, Jvm.RoadKit.slotOf Z O n d⟩]) cells slots → T'.heap = h' → Wr h h' a (Jvm.RoadKit.slotOf Z O n d) v' → Goes p.tables e below G (T'.setTop (mkF m pc' ls st))) : Goes p.tables e below G (T.setTop (mkF m pc ls (v :: .ref a :: st))) := by
  subst hp
  obtain ⟨T', h', X', e', W', st'⟩ := putFN X C.1 C.2.1 C.2.2.2.2.1 w via eT F E L wi hty hn hf (g := mkF m pc ls (v :: .ref a :: st)) rfl rfl (hb C.2.2.1 hd)
  exact Goes.on (fun t k => st' t k) (k T' h' X' e' W')
theorem g_new (C : Ctx p Z s m meth c bs own maxL ret) (X : Stand p l e R s m args below meth c T locs cells slots) {pc pc' : Nat} {ls : Array Slot} {st : List Value} {K : String} {index n : Nat} (w : (Cond.classLink own index K).before a0 Z = true) (wi : (Cond.instantiable K n).before a0 Z = true) (wz : (Cond.initialized K).before a0 Z = true) (eT : T.heap = h) (hd : decode bs pc = .ok (.new index, 3)) (hp : pc + 3 = pc') (hc : cells + 1 ≤ R.cells) (hs : slots + n ≤ R.slots)
    (k : ∀ (T' : State) (h' : Heap) (b : Addr), Stand p l e R s m args below meth c T' locs (cells + 1) (slots + n) → T'.heap = h' → b = h.size → Ext h h' → Exa Z h' b K → (∀ {O nm d : String} {ty : FieldType}, Laid Z a0 K O nm d → parseFieldDescriptor d = some ty → Fld Z h' b O nm d (defaultValue ty)) → Goes p.tables e below G (T'.setTop (mkF m pc' ls (.ref b :: st)))) : Goes p.tables e below G (T.setTop (mkF m pc ls st)) := by
  subst hp
  obtain ⟨T', h', X', e', E', A', D', -, st'⟩ := newO X C.1 C.2.1 C.2.2.2.2.1 w wi wz eT (g := mkF m pc ls st) rfl (hb C.2.2.1 hd) hc hs
  exact Goes.on (fun t k => st' t k) (k T' h' h.size X' e' rfl E' A' D')
theorem g_initO (C : Ctx p Z s m meth c bs own maxL ret) (X : Stand p l e R s m args below meth c T locs cells slots) {pc pc' : Nat} {ls : Array Slot} {st : List Value} {idx : Nat} {a : Addr} (w1 : (Cond.methodLink own idx Lib.objectInit).before a0 Z = true) (w2 : (Cond.instanceMethod Lib.objectInit).before a0 Z = true) (w3 : (Cond.code Lib.objectInit ⟨#[0xb1]⟩ 1 none).before a0 Z = true) (eT : T.heap = h) (hls : ls.size = maxL) (hd : decode bs pc = .ok (.invokespecial idx, 3)) (hp : pc + 3 = pc') (hf : 1 ≤ R.frames) {W : Nat} (hW : (st.map fun v => v.category).sum ≤ W) (hl : W + 12 ≤ R.locals)
    (k : ∀ T' : State, Stand p l e R s m args below meth c T' locs cells slots → T'.heap = h → Goes p.tables e below G (T'.setTop (mkF m pc' ls st))) : Goes p.tables e below G (T.setTop (mkF m pc ls (.ref a :: st))) := by
  subst hp
  obtain ⟨T', X', e', st'⟩ := initO X C.1 C.2.1 C.2.2.2.2.1 w1 w2 w3 eT (g := mkF m pc ls (.ref a :: st)) rfl (by rw [C.2.2.2.1]; exact hls) rfl (hb C.2.2.1 hd) hf (W := W) (by show 2 * 0 + _ ≤ _; omega) hl
  exact Goes.on (fun t k => st' t k) (k T' X' e')
theorem g_callS (C : Ctx p Z s m meth c bs own maxL ret) (X : Stand p l e R s m args below meth c T locs cells slots) {pc pc' : Nat} {ls : Array Slot} {y : MethodName} {index : Nat} {bytes : ByteArray} {maxY : Nat} {retY : Option FieldType} {rm : Room} {W : Nat} {Q : Option Value → Heap → List Loc → Prop} {ps : List FieldType} {rr : Option FieldType} {argsL rest stk : List Value} (w1 : (Cond.methodLink own index y).before a0 Z = true) (w2 : (Cond.static y).before a0 Z = true) (w3 : (Cond.initialized y.cls).before a0 Z = true) (w4 : (Cond.code y bytes maxY retY).before a0 Z = true) (hy : y.cls ≠ "java/lang/invoke/MethodHandle" ∧ y.cls ≠ "java/lang/invoke/VarHandle") (hd : decode bs pc = .ok (.invokestatic index, 3)) (hM : MetFree l y (head1 [Cond.code y bytes maxY retY] rm) (fun a' U => a' = argsL.toArray ∧ Z.Warmed39 U.vm ∧ U.heap = h) (fun _ _ _ _ _ => True) (fun _ U o U' => ∃ v L, o = .returned v ∧ Q v U'.heap L ∧ FrameEnd U o U' L rm.cells rm.slots)) (hf : rm.frames + 1 ≤ R.frames) (hl : W + (maxY + 11) + rm.locals ≤ R.locals) (hls : ls.size = maxL) (hpd : parseMethodDescriptor y.desc = some ⟨ps, rr⟩) (hlen : argsL.length = ps.length) (hst : stk = argsL.reverse ++ rest) (hW : (rest.map fun v => v.category).sum ≤ W) (eT : T.heap = h) (hc : cells + rm.cells ≤ R.cells) (hs : slots + rm.slots ≤ R.slots) (hp : pc + 3 = pc')
    (k : ∀ (v : Option Value) (T' : State) (L : List Loc), Stand p l e R s m args below meth c T' (locs ++ L) (cells + rm.cells) (slots + rm.slots) → Q v T'.heap L → Goes p.tables e below G (T'.setTop (mkF m pc' ls (v.toList ++ rest)))) : Goes p.tables e below G (T.setTop (mkF m pc ls stk)) := by
  subst hp hst
  obtain ⟨v, _, ⟨T', L', k', n'⟩, -, X', ⟨L, hQ, l1, l2, l3⟩, st'⟩ := Jvm.LawKit.callS X C.1 (y := y) C.2.2.2.2.1 (mvT C.2.1 w1) (mvT C.2.1 w2) (mvT C.2.1 w3) (mvT C.2.1 w4) hy (backOf (W := W) hM C.2.1 w4 w3 hf hl) (g := mkF m pc ls (argsL.reverse ++ rest)) rfl (by rw [C.2.2.2.1]; exact hls) (argsL := argsL) (rest := rest) (lenOf hpd hlen) rfl (by show 2 * 0 + _ ≤ _; omega) (hb C.2.2.1 hd) (fun _ _ => ⟨rfl, eT, hc, hs⟩)
  dsimp only [Pt.U, Pt.locs, Pt.cells, Pt.slots] at X' l1 l2 l3 st' hQ
  subst l1 l2 l3
  exact Goes.on (fun t k => st' t k) (k v T' L X' hQ)
theorem g_callI (C : Ctx p Z s m meth c bs own maxL ret) (X : Stand p l e R s m args below meth c T locs cells slots) {pc pc' : Nat} {ls : Array Slot} {a : Addr} {y : MethodName} {index : Nat} {bytes : ByteArray} {maxY : Nat} {rm : Room} {W : Nat} {Q : Option Value → Heap → List Loc → Prop} {ps : List FieldType} {rr : Option FieldType} {argsL rest stk : List Value} (hn : y.name = "<init>") (w1 : (Cond.methodLink own index y).before a0 Z = true) (w2 : (Cond.instanceMethod y).before a0 Z = true) (w3 : (Cond.initialized y.cls).before a0 Z = true) (w4 : (Cond.code y bytes maxY none).before a0 Z = true) (hy : y.cls ≠ "java/lang/invoke/MethodHandle" ∧ y.cls ≠ "java/lang/invoke/VarHandle") (hd : decode bs pc = .ok (.invokespecial index, 3)) (hM : MetFree l y (head1 [Cond.code y bytes maxY none] rm) (fun a' U => a' = (.ref a :: argsL).toArray ∧ Z.Warmed39 U.vm ∧ U.heap = h) (fun _ _ _ _ _ => True) (fun _ U o U' => ∃ v L, o = .returned v ∧ Q v U'.heap L ∧ FrameEnd U o U' L rm.cells rm.slots)) (hf : rm.frames + 1 ≤ R.frames) (hl : W + (maxY + 11) + rm.locals ≤ R.locals) (hls : ls.size = maxL) (hpd : parseMethodDescriptor y.desc = some ⟨ps, rr⟩) (hlen : argsL.length = ps.length) (hst : stk = argsL.reverse ++ .ref a :: rest) (hW : (rest.map fun v => v.category).sum ≤ W) (eT : T.heap = h) (hc : cells + rm.cells ≤ R.cells) (hs : slots + rm.slots ≤ R.slots) (hp : pc + 3 = pc')
    (k : ∀ (v : Option Value) (T' : State) (L : List Loc), Stand p l e R s m args below meth c T' (locs ++ L) (cells + rm.cells) (slots + rm.slots) → Q v T'.heap L → Goes p.tables e below G (T'.setTop (mkF m pc' ls (v.toList ++ rest)))) : Goes p.tables e below G (T.setTop (mkF m pc ls stk)) := by
  subst hp hst
  obtain ⟨v, _, ⟨T', L', k', n'⟩, -, X', ⟨L, hQ, l1, l2, l3⟩, st'⟩ := X.specialBack C.1 (y := y) hn C.2.2.2.2.1 (mvT C.2.1 w1) (mvT C.2.1 w2) (mvT C.2.1 w4) hy (backOf (W := W) hM C.2.1 w4 w3 hf hl) (g := mkF m pc ls (argsL.reverse ++ .ref a :: rest)) rfl (by rw [C.2.2.2.1]; exact hls) (Steps.refl _) (a := a) (argsL := argsL) (rest := rest) (lenOf hpd hlen) rfl (by show 2 * 0 + _ ≤ _; omega) (hb C.2.2.1 hd) (fun _ _ => ⟨rfl, eT, hc, hs⟩)
  dsimp only [Pt.U, Pt.locs, Pt.cells, Pt.slots] at X' l1 l2 l3 st' hQ
  subst l1 l2 l3
  exact Goes.on (fun t k => st'.trans k) (k v T' L X' hQ)
theorem g_callV (C : Ctx p Z s m meth c bs own maxL ret) (X : Stand p l e R s m args below meth c T locs cells slots) {pc pc' : Nat} {ls : Array Slot} {a : Addr} {K : String} {y z : MethodName} {index : Nat} {bytes : ByteArray} {maxY : Nat} {retY : Option FieldType} {rm : Room} {W : Nat} {Q : Option Value → Heap → List Loc → Prop} {ps : List FieldType} {rr : Option FieldType} {argsL rest stk : List Value} (w1 : (Cond.methodLink own index y).before a0 Z = true) (w2 : (Cond.declares y).before a0 Z = true) (hnf : NotFace s y) (w3 : (Cond.selects K y z).before a0 Z = true) (w4 : (Cond.instanceMethod z).before a0 Z = true) (w5 : (Cond.code z bytes maxY retY).before a0 Z = true) (w6 : (Cond.initialized z.cls).before a0 Z = true) (hy : y.cls ≠ "java/lang/invoke/MethodHandle" ∧ y.cls ≠ "java/lang/invoke/VarHandle") (E : Exa Z h a K) (hd : decode bs pc = .ok (.invokevirtual index, 3)) (hM : MetFree l z (head1 [Cond.code z bytes maxY retY] rm) (fun a' U => a' = (.ref a :: argsL).toArray ∧ Z.Warmed39 U.vm ∧ U.heap = h) (fun _ _ _ _ _ => True) (fun _ U o U' => ∃ v L, o = .returned v ∧ Q v U'.heap L ∧ FrameEnd U o U' L rm.cells rm.slots)) (hf : rm.frames + 1 ≤ R.frames) (hl : W + (maxY + 11) + rm.locals ≤ R.locals) (hls : ls.size = maxL) (hpd : parseMethodDescriptor y.desc = some ⟨ps, rr⟩) (hlen : argsL.length = ps.length) (hst : stk = argsL.reverse ++ .ref a :: rest) (hW : (rest.map fun v => v.category).sum ≤ W) (eT : T.heap = h) (hc : cells + rm.cells ≤ R.cells) (hs : slots + rm.slots ≤ R.slots) (hp : pc + 3 = pc')
    (k : ∀ (v : Option Value) (T' : State) (L : List Loc), Stand p l e R s m args below meth c T' (locs ++ L) (cells + rm.cells) (slots + rm.slots) → Q v T'.heap L → Goes p.tables e below G (T'.setTop (mkF m pc' ls (v.toList ++ rest)))) : Goes p.tables e below G (T.setTop (mkF m pc ls stk)) := by
  subst hp hst
  obtain ⟨cq, kq, qa, qb, qc⟩ := isOf C.2.1 eT E
  obtain ⟨v, _, ⟨T', L', k', n'⟩, -, X', ⟨L, hQ, l1, l2, l3⟩, st'⟩ := X.virtualBack C.1 (y := y) (z := z) C.2.2.2.2.1 (mvT C.2.1 w1) (mvT C.2.1 w2) hnf (mvT C.2.1 w3) (mvT C.2.1 w4) hy (backOf (W := W) hM C.2.1 w5 w6 hf hl) qa qc (g := mkF m pc ls (argsL.reverse ++ .ref a :: rest)) rfl (by rw [C.2.2.2.1]; exact hls) (Steps.refl _) (argsL := argsL) (rest := rest) (lenOf hpd hlen) rfl (by show 2 * 0 + _ ≤ _; omega) (hb C.2.2.1 hd) (fun _ _ => ⟨rfl, eT, hc, hs⟩)
  dsimp only [Pt.U, Pt.locs, Pt.cells, Pt.slots] at X' l1 l2 l3 st' hQ
  subst l1 l2 l3
  exact Goes.on (fun t k => st'.trans k) (k v T' L X' hQ)
theorem g_callVU (C : Ctx p Z s m meth c bs own maxL ret) (X : Stand p l e R s m args below meth c T locs cells slots) {pc pc' : Nat} {ls : Array Slot} {a : Addr} {K owner : String} {y z : MethodName} {index : Nat} {bytes : ByteArray} {maxY : Nat} {retY : Option FieldType} {rm : Room} {W : Nat} {Q : Option Value → Heap → List Loc → Prop} {ps : List FieldType} {rr : Option FieldType} {argsL rest stk : List Value} (w1 : (Cond.methodLink own index y).before a0 Z = true) (w2 : (Cond.sameMethod y.cls owner y.name y.desc).before a0 Z = true) (w2' : (Cond.declares ⟨owner, y.name, y.desc⟩).before a0 Z = true) (w3 : (Cond.selects K y z).before a0 Z = true) (w4 : (Cond.instanceMethod z).before a0 Z = true) (w5 : (Cond.code z bytes maxY retY).before a0 Z = true) (w6 : (Cond.initialized z.cls).before a0 Z = true) (hy : owner ≠ "java/lang/invoke/MethodHandle" ∧ owner ≠ "java/lang/invoke/VarHandle") (E : Exa Z h a K) (hd : decode bs pc = .ok (.invokevirtual index, 3)) (hM : MetFree l z (head1 [Cond.code z bytes maxY retY] rm) (fun a' U => a' = (.ref a :: argsL).toArray ∧ Z.Warmed39 U.vm ∧ U.heap = h) (fun _ _ _ _ _ => True) (fun _ U o U' => ∃ v L, o = .returned v ∧ Q v U'.heap L ∧ FrameEnd U o U' L rm.cells rm.slots)) (hf : rm.frames + 1 ≤ R.frames) (hl : W + (maxY + 11) + rm.locals ≤ R.locals) (hls : ls.size = maxL) (hpd : parseMethodDescriptor y.desc = some ⟨ps, rr⟩) (hlen : argsL.length = ps.length) (hst : stk = argsL.reverse ++ .ref a :: rest) (hW : (rest.map fun v => v.category).sum ≤ W) (eT : T.heap = h) (hc : cells + rm.cells ≤ R.cells) (hs : slots + rm.slots ≤ R.slots) (hp : pc + 3 = pc')
    (k : ∀ (v : Option Value) (T' : State) (L : List Loc), Stand p l e R s m args below meth c T' (locs ++ L) (cells + rm.cells) (slots + rm.slots) → Q v T'.heap L → Goes p.tables e below G (T'.setTop (mkF m pc' ls (v.toList ++ rest)))) : Goes p.tables e below G (T.setTop (mkF m pc ls stk)) := by
  subst hp hst
  obtain ⟨cq, kq, qa, qb, qc⟩ := isOf C.2.1 eT E
  obtain ⟨v, _, ⟨T', L', k', n'⟩, -, X', ⟨L, hQ, l1, l2, l3⟩, st'⟩ := X.virtualBackUp C.1 (x := y) (y := z) C.2.2.2.2.1 (mvT C.2.1 w1) (mvT C.2.1 w2) (mvT C.2.1 w2') hy (mvT C.2.1 w3) (mvT C.2.1 w4) (backOf (W := W) hM C.2.1 w5 w6 hf hl) qa qc (g := mkF m pc ls (argsL.reverse ++ .ref a :: rest)) rfl (by rw [C.2.2.2.1]; exact hls) (Steps.refl _) (argsL := argsL) (rest := rest) (lenOf hpd hlen) rfl (by show 2 * 0 + _ ≤ _; omega) (hb C.2.2.1 hd) (fun _ _ => ⟨rfl, eT, hc, hs⟩)
  dsimp only [Pt.U, Pt.locs, Pt.cells, Pt.slots] at X' l1 l2 l3 st' hQ
  subst l1 l2 l3
  exact Goes.on (fun t k => st'.trans k) (k v T' L X' hQ)
theorem g_ifnullY (C : Ctx p Z s m meth c bs own maxL ret) (X : Stand p l e R s m args below meth c T locs cells slots) {pc pc' : Nat} {ls : Array Slot} {st : List Value}  {o : Int} (hd : decode bs pc = .ok (.ifnull o, 3)) (ho : 0 ≤ (pc : Int) + o) (hp : ((pc : Int) + o).toNat = pc')
    (k : Goes p.tables e below G (T.setTop (mkF m pc' ls st))) : Goes p.tables e below G (T.setTop (mkF m pc ls (.null :: st))) :=
  Goes.on (fun _ k => XS.ifnullYes X.here C.1 rfl (pc0 := pc) (pc' := pc') rfl (hb C.2.2.1 hd) rfl ho hp k) k
theorem g_ifnullN (C : Ctx p Z s m meth c bs own maxL ret) (X : Stand p l e R s m args below meth c T locs cells slots) {pc pc' : Nat} {ls : Array Slot} {st : List Value} {b : Addr} {o : Int} (hd : decode bs pc = .ok (.ifnull o, 3)) (hp : pc + 3 = pc')
    (k : Goes p.tables e below G (T.setTop (mkF m pc' ls st))) : Goes p.tables e below G (T.setTop (mkF m pc ls (.ref b :: st))) := by
  subst hp
  exact Goes.on (fun _ k => XS.ifnullNo X.here C.1 rfl (hb C.2.2.1 hd) rfl k) k
theorem g_ifnonnullY (C : Ctx p Z s m meth c bs own maxL ret) (X : Stand p l e R s m args below meth c T locs cells slots) {pc pc' : Nat} {ls : Array Slot} {st : List Value} {b : Addr} {o : Int} (hd : decode bs pc = .ok (.ifnonnull o, 3)) (ho : 0 ≤ (pc : Int) + o) (hp : ((pc : Int) + o).toNat = pc')
    (k : Goes p.tables e below G (T.setTop (mkF m pc' ls st))) : Goes p.tables e below G (T.setTop (mkF m pc ls (.ref b :: st))) :=
  Goes.on (fun _ k => XT.ifnonnullYes X.here C.1 rfl (pc0 := pc) (pc' := pc') rfl (hb C.2.2.1 hd) rfl ho hp k) k
theorem g_ifnonnullN (C : Ctx p Z s m meth c bs own maxL ret) (X : Stand p l e R s m args below meth c T locs cells slots) {pc pc' : Nat} {ls : Array Slot} {st : List Value}  {o : Int} (hd : decode bs pc = .ok (.ifnonnull o, 3)) (hp : pc + 3 = pc')
    (k : Goes p.tables e below G (T.setTop (mkF m pc' ls st))) : Goes p.tables e below G (T.setTop (mkF m pc ls (.null :: st))) := by
  subst hp
  exact Goes.on (fun _ k => XT.ifnonnullNo X.here C.1 rfl (hb C.2.2.1 hd) rfl k) k
theorem g_acmp_eq (C : Ctx p Z s m meth c bs own maxL ret) (X : Stand p l e R s m args below meth c T locs cells slots) {pc pcT pcN : Nat} {ls : Array Slot} {st : List Value} {x y : Value} {o : Int} (h1 : x.isRef = true) (h2 : y.isRef = true) (hd : decode bs pc = .ok (.if_acmp .eq o, 3)) (ho : 0 ≤ (pc : Int) + o) (hp : ((pc : Int) + o).toNat = pcT) (hq : pc + 3 = pcN)
    (hyes : x = y → Goes p.tables e below G (T.setTop (mkF m pcT ls st))) (hno : ¬ x = y → Goes p.tables e below G (T.setTop (mkF m pcN ls st))) : Goes p.tables e below G (T.setTop (mkF m pc ls (y :: x :: st))) := by
  subst hq
  by_cases q : x = y
  · exact Goes.on (fun _ k => XT.acmpYes X.here C.1 rfl (pc0 := pc) (pc' := pcT) rfl (hb C.2.2.1 hd) rfl h1 h2 (by simp [XT.acmp, q]) ho hp k) (hyes q)
  · exact Goes.on (fun _ k => XT.acmpNo X.here C.1 rfl (hb C.2.2.1 hd) rfl h1 h2 (by simp [XT.acmp, q]) k) (hno q)
theorem g_acmp_ne (C : Ctx p Z s m meth c bs own maxL ret) (X : Stand p l e R s m args below meth c T locs cells slots) {pc pcT pcN : Nat} {ls : Array Slot} {st : List Value} {x y : Value} {o : Int} (h1 : x.isRef = true) (h2 : y.isRef = true) (hd : decode bs pc = .ok (.if_acmp .ne o, 3)) (ho : 0 ≤ (pc : Int) + o) (hp : ((pc : Int) + o).toNat = pcT) (hq : pc + 3 = pcN)
    (hyes : ¬ x = y → Goes p.tables e below G (T.setTop (mkF m pcT ls st))) (hno : x = y → Goes p.tables e below G (T.setTop (mkF m pcN ls st))) : Goes p.tables e below G (T.setTop (mkF m pc ls (y :: x :: st))) := by
  subst hq
  by_cases q : x = y
  · exact Goes.on (fun _ k => XT.acmpNo X.here C.1 rfl (hb C.2.2.1 hd) rfl h1 h2 (by simp [XT.acmp, q]) k) (hno q)
  · exact Goes.on (fun _ k => XT.acmpYes X.here C.1 rfl (pc0 := pc) (pc' := pcT) rfl (hb C.2.2.1 hd) rfl h1 h2 (by simp [XT.acmp, q]) ho hp k) (hyes q)
theorem g_tsw (C : Ctx p Z s m meth c bs own maxL ret) (X : Stand p l e R s m args below meth c T locs cells slots) {pc pc' : Nat} {ls : Array Slot} {st : List Value} {dflt low high : Int} {offs : Array Int} {len : Nat} {o : Int} {i : Int32} (hd : decode bs pc = .ok (.tableswitch dflt low high offs, len)) (hin : ¬ (i.toInt < low ∨ i.toInt > high)) (hoff : offs[(i.toInt - low).toNat]? = some o) (ho : 0 ≤ (pc : Int) + o) (hp : ((pc : Int) + o).toNat = pc')
    (k : Goes p.tables e below G (T.setTop (mkF m pc' ls st))) : Goes p.tables e below G (T.setTop (mkF m pc ls (.int i :: st))) :=
  Goes.on (fun _ k => XS.tswIn X.here C.1 rfl (pc0 := pc) (pc' := pc') rfl (hb C.2.2.1 hd) rfl hin hoff ho hp k) k
theorem ne_of_fld {a b : Addr} {K n d : String} {v w : Value} (F : Fld Z h a K n d v) (F' : Fld Z h b K n d w) (hv : v ≠ w) : a ≠ b := fun q => by
  subst q
  obtain ⟨c1, f1, k1, i1, g1, a1, a2, -, -, -, -, a7⟩ := F
  obtain ⟨c2, f2, k2, i2, g2, b1, b2, -, -, -, -, b7⟩ := F'
  cases a1.symm.trans b1
  cases a2.symm.trans b2
  exact hv (Option.some.inj (a7.symm.trans b7))
theorem ref_of_exactly {t : Term} {K : String} (hx : (Cond.exactly t K).value args s none s [] = some true) : ∃ a, t.eval args s none [] s = some (.ref a) ∧ Exa s s.heap a K := by
  obtain ⟨a, -, -, -, e1, -⟩ := Cond.exactly_spec (Cond.before_iff.mpr hx)
  exact ⟨a, e1, Exa.start e1 hx⟩
theorem fldI_of {t : Term} {K n d : String} {k : Int32} {a : Addr} (ht : t.eval args s none [] s = some (.ref a)) (hx : (Cond.eq (.field t K n d) (.int k)).value args s none s [] = some true) : Fld s s.heap a K n d (.int k) := by
  obtain ⟨x, y, e1, e2, k1, k2⟩ := cmp_v (Or.inl hx)
  have e3 : y = .int k := (Option.some.inj e2).symm
  subst e3
  obtain ⟨z, rfl⟩ : ∃ z, x = .int z := k2
  have e4 := e1
  rw [fld_at ht] at e4
  have e5 : z = k := by
    simp only [Cond.value, e1, e2] at hx
    simpa using hx
  subst e5
  exact Fld.start e4
theorem fldN_of {t : Term} {K n d : String} {a : Addr} (ht : t.eval args s none [] s = some (.ref a)) (hx : (Cond.eq (.field t K n d) .null).value args s none s [] = some true) : Fld s s.heap a K n d .null := by
  have e := null_v hx
  rw [fld_at ht] at e
  exact Fld.start e
theorem fldR_of {t u : Term} {K n d : String} {a b : Addr} (ht : t.eval args s none [] s = some (.ref a)) (hu : u.eval args s none [] s = some (.ref b)) (hx : (Cond.eq (.field t K n d) u).value args s none s [] = some true) : Fld s s.heap a K n d (.ref b) := by
  obtain ⟨x, y, e1, e2, k1, k2⟩ := cmp_v (Or.inl hx)
  cases e2.symm.trans hu
  have hr : x.isRef = true := k2.2
  have e5 := gotT (eq_R e1 e2 hr rfl) hx
  subst e5
  rw [fld_at ht] at e1
  exact Fld.start e1
end Kit
end Jvm.Own

namespace Jvm.Pilot.@@N@@
open Jvm Jvm.ClassFile Sem Op Lib Jvm.Free Jvm.Stand Jvm.LawKit Jvm.RoadKit Jvm.Own Bundle Jvm.Pilot.@@N@@.Jvm.D
theorem ef_2 (m : MethodId) (o1 : Addr) : entryFrame m #[(.ref o1)] 1 = mkF m 0 #[.val (.ref o1)] [] := by first | (simp [entryFrame, mkF, argsToLocals, Value.category]; done) | rfl
theorem d2_0 : decode jdk_37_method_2_code 0 = .ok (.aload_n 0, 1) := by decide +kernel
theorem d2_1 : decode jdk_37_method_2_code 1 = .ok (.getfield 7, 3) := by decide +kernel
theorem w_15 {Z : State} {a0 : Array Value} (hw : ∀ d ∈ tables_1, d.before a0 Z = true) : Jvm.Cond.before (Jvm.Cond.fieldLink "java/lang/Enum" (7 : Nat) "java/lang/Enum" "ordinal" "I") a0 Z = true := hw _ (List.mem_of_getElem? (i := 15) rfl)
theorem d2_4 : decode jdk_37_method_2_code 4 = .ok (.ireturn, 1) := by decide +kernel
def Q2 (Z : State) (o1 : Addr) (i1 : Int32) (h0 : Heap) (n0 : Nat) (v : Option Value) (h : Heap) (L : List Loc) : Prop := v = some (.int i1) ∧ Fr n0 L ∧ h = h0
theorem pn_2 : plainName "java/lang/Enum" = true := by first | (simp [plainName, overriddenIn]; done) | decide +kernel
set_option maxRecDepth 65536 in
set_option maxHeartbeats 40000000 in
theorem rm2 (l : Launch) (Z : State) (a0 : Array Value) (hw : ∀ d ∈ tables_1, d.before a0 Z = true) (ws : List Jvm.Cond) (o1 : Addr) (i1 : Int32) (h0 : Heap) (n0 : Nat) (Z0 : n0 ≤ h0.size) (F0 : Fld Z h0 o1 "java/lang/Enum" "ordinal" "I" (.int i1)) :
    MetFree l (⟨"java/lang/Enum", "ordinal", "()I"⟩ : MethodName) (head1 (Jvm.Cond.code (⟨"java/lang/Enum", "ordinal", "()I"⟩ : MethodName) jdk_37_method_2_code 1 (some .int) :: ws) ({ frames := 0, cells := 0, slots := 0, locals := 0 } : Room)) (fun a U => a = #[(.ref o1)] ∧ Z.Warmed39 U.vm ∧ U.heap = h0) (fun _ _ _ _ _ => True) (fun _ U o U' => ∃ v L, o = .returned v ∧ Q2 Z o1 i1 h0 n0 v U'.heap L ∧ FrameEnd U o U' L ({ frames := 0, cells := 0, slots := 0, locals := 0 } : Room).cells ({ frames := 0, cells := 0, slots := 0, locals := 0 } : Room).slots) := by
  refine body_of (y := (⟨"java/lang/Enum", "ordinal", "()I"⟩ : MethodName)) (Q := Q2 Z o1 i1 h0 n0) (plainFor_of_name pn_2) ?_
  intro p e s m below meth c T0 G C hnm X0 e0 K
  have N0 := Fr.nil n0
  refine Goes.to (congrArg T0.setTop (ef_2 m o1)) ?_
  refine g_aloadN C X0 d2_0 (pc' := 1) rfl rfl rfl ?_
  refine g_getF C X0 (w_15 hw) Via.refl e0 F0 d2_1 (pc' := 4) rfl (fun T1 X1 e1 => ?_)
  exact g_retI C X1 K d2_4 (by decide) (by decide) e1 ⟨rfl, N0, rfl⟩
theorem ef_1 (m : MethodId) (o1 : Addr) (i1 : Int32) : entryFrame m #[(.ref o1), (.int i1)] 2 = mkF m 0 #[.val (.ref o1), .val (.int i1)] [] := by first | (simp [entryFrame, mkF, argsToLocals, Value.category]; done) | rfl
theorem d1_0 : decode prog_36_method_5_code 0 = .ok (.aload_n 0, 1) := by decide +kernel
theorem d1_1 : decode prog_36_method_5_code 1 = .ok (.invokevirtual 55, 3) := by decide +kernel
theorem w_14 {Z : State} {a0 : Array Value} (hw : ∀ d ∈ tables_1, d.before a0 Z = true) : Jvm.Cond.before (Jvm.Cond.code ({ cls := "java/lang/Enum", name := "ordinal", desc := "()I" } : Jvm.MethodName) jdk_37_method_2_code (1 : Nat) (Option.some Jvm.ClassFile.FieldType.int)) a0 Z = true := hw _ (List.mem_of_getElem? (i := 14) rfl)
theorem w_13 {Z : State} {a0 : Array Value} (hw : ∀ d ∈ tables_1, d.before a0 Z = true) : Jvm.Cond.before (Jvm.Cond.initialized "java/lang/Enum") a0 Z = true := hw _ (List.mem_of_getElem? (i := 13) rfl)
theorem w_8 {Z : State} {a0 : Array Value} (hw : ∀ d ∈ tables_1, d.before a0 Z = true) : Jvm.Cond.before (Jvm.Cond.methodLink "com/example/tokenweave/tokenweave/engine/Comparison$EOperator" (55 : Nat) ({ cls := "com/example/tokenweave/tokenweave/engine/Comparison$EOperator", name := "ordinal", desc := "()I" } : Jvm.MethodName)) a0 Z = true := hw _ (List.mem_of_getElem? (i := 8) rfl)
theorem pd_0 : parseMethodDescriptor "()I" = some ⟨[], some .int⟩ := by decide +kernel
theorem w_12 {Z : State} {a0 : Array Value} (hw : ∀ d ∈ tables_1, d.before a0 Z = true) : Jvm.Cond.before (Jvm.Cond.selects "com/example/tokenweave/tokenweave/engine/Comparison$EOperator" ({ cls := "com/example/tokenweave/tokenweave/engine/Comparison$EOperator", name := "ordinal", desc := "()I" } : Jvm.MethodName) ({ cls := "java/lang/Enum", name := "ordinal", desc := "()I" } : Jvm.MethodName)) a0 Z = true := hw _ (List.mem_of_getElem? (i := 12) rfl)
theorem w_9 {Z : State} {a0 : Array Value} (hw : ∀ d ∈ tables_1, d.before a0 Z = true) : Jvm.Cond.before (Jvm.Cond.sameMethod "com/example/tokenweave/tokenweave/engine/Comparison$EOperator" "java/lang/Enum" "ordinal" "()I") a0 Z = true := hw _ (List.mem_of_getElem? (i := 9) rfl)
theorem w_10 {Z : State} {a0 : Array Value} (hw : ∀ d ∈ tables_1, d.before a0 Z = true) : Jvm.Cond.before (Jvm.Cond.declares ({ cls := "java/lang/Enum", name := "ordinal", desc := "()I" } : Jvm.MethodName)) a0 Z = true := hw _ (List.mem_of_getElem? (i := 10) rfl)
theorem w_11 {Z : State} {a0 : Array Value} (hw : ∀ d ∈ tables_1, d.before a0 Z = true) : Jvm.Cond.before (Jvm.Cond.instanceMethod ({ cls := "java/lang/Enum", name := "ordinal", desc := "()I" } : Jvm.MethodName)) a0 Z = true := hw _ (List.mem_of_getElem? (i := 11) rfl)
theorem d1_4 : decode prog_36_method_5_code 4 = .ok (.tableswitch 40 0 5 #[50, 62, 74, 86, 98, 110], 40) := by decide +kernel
theorem d1_54 : decode prog_36_method_5_code 54 = .ok (.iload_n 1, 1) := by decide +kernel
theorem d1_55 : decode prog_36_method_5_code 55 = .ok (.ifCond .ne 7, 3) := by decide +kernel
theorem d1_62 : decode prog_36_method_5_code 62 = .ok (.iconst 0, 1) := by decide +kernel
theorem d1_63 : decode prog_36_method_5_code 63 = .ok (.goto 60, 3) := by decide +kernel
theorem d1_123 : decode prog_36_method_5_code 123 = .ok (.ireturn, 1) := by decide +kernel
theorem d1_58 : decode prog_36_method_5_code 58 = .ok (.iconst 1, 1) := by decide +kernel
theorem d1_59 : decode prog_36_method_5_code 59 = .ok (.goto 64, 3) := by decide +kernel
def fH0 (i1 : Int32) : Int32 := if i1 = (0 : Int32) then (1 : Int32) else (0 : Int32)
def Q1_0 (Z : State) (o1 : Addr) (i1 : Int32) (h0 : Heap) (n0 : Nat) (v : Option Value) (h : Heap) (L : List Loc) : Prop := v = some (.int (fH0 i1)) ∧ Fr n0 L ∧ h = h0
theorem pn_1 : plainName "com/example/tokenweave/tokenweave/engine/Comparison$EOperator" = true := by first | (simp [plainName, overriddenIn]; done) | decide +kernel
set_option maxRecDepth 65536 in
set_option maxHeartbeats 40000000 in
theorem rm1_0 (l : Launch) (Z : State) (a0 : Array Value) (hw : ∀ d ∈ tables_1, d.before a0 Z = true) (ws : List Jvm.Cond) (o1 : Addr) (i1 : Int32) (h0 : Heap) (n0 : Nat) (Z0 : n0 ≤ h0.size) (F0 : Exa Z h0 o1 "com/example/tokenweave/tokenweave/engine/Comparison$EOperator") (F1 : Fld Z h0 o1 "java/lang/Enum" "ordinal" "I" (.int (0 : Int32))) :
    MetFree l (⟨"com/example/tokenweave/tokenweave/engine/Comparison$EOperator", "holds", "(I)Z"⟩ : MethodName) (head1 (Jvm.Cond.code (⟨"com/example/tokenweave/tokenweave/engine/Comparison$EOperator", "holds", "(I)Z"⟩ : MethodName) prog_36_method_5_code 2 (some .boolean) :: ws) ({ frames := 1, cells := 0, slots := 0, locals := 12 } : Room)) (fun a U => a = #[(.ref o1), (.int i1)] ∧ Z.Warmed39 U.vm ∧ U.heap = h0) (fun _ _ _ _ _ => True) (fun _ U o U' => ∃ v L, o = .returned v ∧ Q1_0 Z o1 i1 h0 n0 v U'.heap L ∧ FrameEnd U o U' L ({ frames := 1, cells := 0, slots := 0, locals := 12 } : Room).cells ({ frames := 1, cells := 0, slots := 0, locals := 12 } : Room).slots) := by
  refine body_of (y := (⟨"com/example/tokenweave/tokenweave/engine/Comparison$EOperator", "holds", "(I)Z"⟩ : MethodName)) (Q := Q1_0 Z o1 i1 h0 n0) (plainFor_of_name pn_1) ?_
  intro p e s m below meth c T0 G C hnm X0 e0 K
  have N0 := Fr.nil n0
  refine Goes.to (congrArg T0.setTop (ef_1 m o1 i1)) ?_
  refine g_aloadN C X0 d1_0 (pc' := 1) rfl rfl rfl ?_
  refine g_callVU C X0 (w_8 hw) (w_9 hw) (w_10 hw) (w_12 hw) (w_11 hw) (w_14 hw) (w_13 hw) (by decide) F0 d1_1 (rm2 l Z a0 hw [] o1 (0 : Int32) h0 n0 Z0 F1) (by decide) (by decide) rfl pd_0 rfl (argsL := []) (rest := []) rfl (W := 0) (Nat.le_of_eq rfl) e0 (by decide) (by decide) (pc' := 4) rfl (fun u1 T1 L1 X1 hQ1 => ?_)
  obtain ⟨rfl, Nq1, eq1⟩ := hQ1
  have N1 := Fr.app N0 Nq1
  show Goes p.tables e below G (T1.setTop (mkF m 4 #[.val (.ref o1), .val (.int i1)] [(.int (0 : Int32))]))
  refine g_tsw C X1 d1_4 (by decide) (o := 50) rfl (pc' := 54) (by decide) (by decide) ?_
  refine g_iloadN C X1 d1_54 (pc' := 55) rfl rfl ?_
  refine g_if_ne C X1 d1_55 (pcT := 62) (pcN := 58) (by decide) (by decide) rfl (fun hc55 => ?_) (fun hc55 => ?_)
  · refine g_iconst C X1 d1_62 (pc' := 63) rfl (v := 0) rfl ?_
    refine g_goto C X1 d1_63 (pc' := 123) (by decide) (by decide) ?_
    exact g_retN C X1 K (by simp) d1_123 (by decide) (by decide) eq1 ⟨(by (unfold fH0; rw [if_neg hc55]) <;> rfl), N1, rfl⟩
  · refine g_iconst C X1 d1_58 (pc' := 59) rfl (v := 1) rfl ?_
    refine g_goto C X1 d1_59 (pc' := 123) (by decide) (by decide) ?_
    exact g_retN C X1 K (by simp) d1_123 (by decide) (by decide) eq1 ⟨(by (unfold fH0; rw [if_pos hc55]) <;> rfl), N1, rfl⟩
theorem d1_66 : decode prog_36_method_5_code 66 = .ok (.iload_n 1, 1) := by decide +kernel
theorem d1_67 : decode prog_36_method_5_code 67 = .ok (.ifCond .eq 7, 3) := by decide +kernel
theorem d1_74 : decode prog_36_method_5_code 74 = .ok (.iconst 0, 1) := by decide +kernel
theorem d1_75 : decode prog_36_method_5_code 75 = .ok (.goto 48, 3) := by decide +kernel
theorem d1_70 : decode prog_36_method_5_code 70 = .ok (.iconst 1, 1) := by decide +kernel
theorem d1_71 : decode prog_36_method_5_code 71 = .ok (.goto 52, 3) := by decide +kernel
def fH1 (i1 : Int32) : Int32 := if i1 = (0 : Int32) then (0 : Int32) else (1 : Int32)
def Q1_1 (Z : State) (o1 : Addr) (i1 : Int32) (h0 : Heap) (n0 : Nat) (v : Option Value) (h : Heap) (L : List Loc) : Prop := v = some (.int (fH1 i1)) ∧ Fr n0 L ∧ h = h0
set_option maxRecDepth 65536 in
set_option maxHeartbeats 40000000 in
theorem rm1_1 (l : Launch) (Z : State) (a0 : Array Value) (hw : ∀ d ∈ tables_1, d.before a0 Z = true) (ws : List Jvm.Cond) (o1 : Addr) (i1 : Int32) (h0 : Heap) (n0 : Nat) (Z0 : n0 ≤ h0.size) (F0 : Exa Z h0 o1 "com/example/tokenweave/tokenweave/engine/Comparison$EOperator") (F1 : Fld Z h0 o1 "java/lang/Enum" "ordinal" "I" (.int (1 : Int32))) :
    MetFree l (⟨"com/example/tokenweave/tokenweave/engine/Comparison$EOperator", "holds", "(I)Z"⟩ : MethodName) (head1 (Jvm.Cond.code (⟨"com/example/tokenweave/tokenweave/engine/Comparison$EOperator", "holds", "(I)Z"⟩ : MethodName) prog_36_method_5_code 2 (some .boolean) :: ws) ({ frames := 1, cells := 0, slots := 0, locals := 12 } : Room)) (fun a U => a = #[(.ref o1), (.int i1)] ∧ Z.Warmed39 U.vm ∧ U.heap = h0) (fun _ _ _ _ _ => True) (fun _ U o U' => ∃ v L, o = .returned v ∧ Q1_1 Z o1 i1 h0 n0 v U'.heap L ∧ FrameEnd U o U' L ({ frames := 1, cells := 0, slots := 0, locals := 12 } : Room).cells ({ frames := 1, cells := 0, slots := 0, locals := 12 } : Room).slots) := by
  refine body_of (y := (⟨"com/example/tokenweave/tokenweave/engine/Comparison$EOperator", "holds", "(I)Z"⟩ : MethodName)) (Q := Q1_1 Z o1 i1 h0 n0) (plainFor_of_name pn_1) ?_
  intro p e s m below meth c T0 G C hnm X0 e0 K
  have N0 := Fr.nil n0
  refine Goes.to (congrArg T0.setTop (ef_1 m o1 i1)) ?_
  refine g_aloadN C X0 d1_0 (pc' := 1) rfl rfl rfl ?_
  refine g_callVU C X0 (w_8 hw) (w_9 hw) (w_10 hw) (w_12 hw) (w_11 hw) (w_14 hw) (w_13 hw) (by decide) F0 d1_1 (rm2 l Z a0 hw [] o1 (1 : Int32) h0 n0 Z0 F1) (by decide) (by decide) rfl pd_0 rfl (argsL := []) (rest := []) rfl (W := 0) (Nat.le_of_eq rfl) e0 (by decide) (by decide) (pc' := 4) rfl (fun u1 T1 L1 X1 hQ1 => ?_)
  obtain ⟨rfl, Nq1, eq1⟩ := hQ1
  have N1 := Fr.app N0 Nq1
  show Goes p.tables e below G (T1.setTop (mkF m 4 #[.val (.ref o1), .val (.int i1)] [(.int (1 : Int32))]))
  refine g_tsw C X1 d1_4 (by decide) (o := 62) rfl (pc' := 66) (by decide) (by decide) ?_
  refine g_iloadN C X1 d1_66 (pc' := 67) rfl rfl ?_
  refine g_if_eq C X1 d1_67 (pcT := 74) (pcN := 70) (by decide) (by decide) rfl (fun hc67 => ?_) (fun hc67 => ?_)
  · refine g_iconst C X1 d1_74 (pc' := 75) rfl (v := 0) rfl ?_
    refine g_goto C X1 d1_75 (pc' := 123) (by decide) (by decide) ?_
    exact g_retN C X1 K (by simp) d1_123 (by decide) (by decide) eq1 ⟨(by (unfold fH1; rw [if_pos hc67]) <;> rfl), N1, rfl⟩
  · refine g_iconst C X1 d1_70 (pc' := 71) rfl (v := 1) rfl ?_
    refine g_goto C X1 d1_71 (pc' := 123) (by decide) (by decide) ?_
    exact g_retN C X1 K (by simp) d1_123 (by decide) (by decide) eq1 ⟨(by (unfold fH1; rw [if_neg hc67]) <;> rfl), N1, rfl⟩
theorem d1_78 : decode prog_36_method_5_code 78 = .ok (.iload_n 1, 1) := by decide +kernel
theorem d1_79 : decode prog_36_method_5_code 79 = .ok (.ifCond .ge 7, 3) := by decide +kernel
theorem d1_86 : decode prog_36_method_5_code 86 = .ok (.iconst 0, 1) := by decide +kernel
theorem d1_87 : decode prog_36_method_5_code 87 = .ok (.goto 36, 3) := by decide +kernel
theorem d1_82 : decode prog_36_method_5_code 82 = .ok (.iconst 1, 1) := by decide +kernel
theorem d1_83 : decode prog_36_method_5_code 83 = .ok (.goto 40, 3) := by decide +kernel
def fH2 (i1 : Int32) : Int32 := if i1 < (0 : Int32) then (1 : Int32) else (0 : Int32)
def Q1_2 (Z : State) (o1 : Addr) (i1 : Int32) (h0 : Heap) (n0 : Nat) (v : Option Value) (h : Heap) (L : List Loc) : Prop := v = some (.int (fH2 i1)) ∧ Fr n0 L ∧ h = h0
set_option maxRecDepth 65536 in
set_option maxHeartbeats 40000000 in
theorem rm1_2 (l : Launch) (Z : State) (a0 : Array Value) (hw : ∀ d ∈ tables_1, d.before a0 Z = true) (ws : List Jvm.Cond) (o1 : Addr) (i1 : Int32) (h0 : Heap) (n0 : Nat) (Z0 : n0 ≤ h0.size) (F0 : Exa Z h0 o1 "com/example/tokenweave/tokenweave/engine/Comparison$EOperator") (F1 : Fld Z h0 o1 "java/lang/Enum" "ordinal" "I" (.int (2 : Int32))) :
    MetFree l (⟨"com/example/tokenweave/tokenweave/engine/Comparison$EOperator", "holds", "(I)Z"⟩ : MethodName) (head1 (Jvm.Cond.code (⟨"com/example/tokenweave/tokenweave/engine/Comparison$EOperator", "holds", "(I)Z"⟩ : MethodName) prog_36_method_5_code 2 (some .boolean) :: ws) ({ frames := 1, cells := 0, slots := 0, locals := 12 } : Room)) (fun a U => a = #[(.ref o1), (.int i1)] ∧ Z.Warmed39 U.vm ∧ U.heap = h0) (fun _ _ _ _ _ => True) (fun _ U o U' => ∃ v L, o = .returned v ∧ Q1_2 Z o1 i1 h0 n0 v U'.heap L ∧ FrameEnd U o U' L ({ frames := 1, cells := 0, slots := 0, locals := 12 } : Room).cells ({ frames := 1, cells := 0, slots := 0, locals := 12 } : Room).slots) := by
  refine body_of (y := (⟨"com/example/tokenweave/tokenweave/engine/Comparison$EOperator", "holds", "(I)Z"⟩ : MethodName)) (Q := Q1_2 Z o1 i1 h0 n0) (plainFor_of_name pn_1) ?_
  intro p e s m below meth c T0 G C hnm X0 e0 K
  have N0 := Fr.nil n0
  refine Goes.to (congrArg T0.setTop (ef_1 m o1 i1)) ?_
  refine g_aloadN C X0 d1_0 (pc' := 1) rfl rfl rfl ?_
  refine g_callVU C X0 (w_8 hw) (w_9 hw) (w_10 hw) (w_12 hw) (w_11 hw) (w_14 hw) (w_13 hw) (by decide) F0 d1_1 (rm2 l Z a0 hw [] o1 (2 : Int32) h0 n0 Z0 F1) (by decide) (by decide) rfl pd_0 rfl (argsL := []) (rest := []) rfl (W := 0) (Nat.le_of_eq rfl) e0 (by decide) (by decide) (pc' := 4) rfl (fun u1 T1 L1 X1 hQ1 => ?_)
  obtain ⟨rfl, Nq1, eq1⟩ := hQ1
  have N1 := Fr.app N0 Nq1
  show Goes p.tables e below G (T1.setTop (mkF m 4 #[.val (.ref o1), .val (.int i1)] [(.int (2 : Int32))]))
  refine g_tsw C X1 d1_4 (by decide) (o := 74) rfl (pc' := 78) (by decide) (by decide) ?_
  refine g_iloadN C X1 d1_78 (pc' := 79) rfl rfl ?_
  refine g_if_ge C X1 d1_79 (pcT := 86) (pcN := 82) (by decide) (by decide) rfl (fun hc79 => ?_) (fun hc79 => ?_)
  · refine g_iconst C X1 d1_86 (pc' := 87) rfl (v := 0) rfl ?_
    refine g_goto C X1 d1_87 (pc' := 123) (by decide) (by decide) ?_
    exact g_retN C X1 K (by simp) d1_123 (by decide) (by decide) eq1 ⟨(by (unfold fH2; rw [if_neg hc79]) <;> rfl), N1, rfl⟩
  · refine g_iconst C X1 d1_82 (pc' := 83) rfl (v := 1) rfl ?_
    refine g_goto C X1 d1_83 (pc' := 123) (by decide) (by decide) ?_
    exact g_retN C X1 K (by simp) d1_123 (by decide) (by decide) eq1 ⟨(by (unfold fH2; rw [if_pos hc79]) <;> rfl), N1, rfl⟩
theorem d1_90 : decode prog_36_method_5_code 90 = .ok (.iload_n 1, 1) := by decide +kernel
theorem d1_91 : decode prog_36_method_5_code 91 = .ok (.ifCond .le 7, 3) := by decide +kernel
theorem d1_98 : decode prog_36_method_5_code 98 = .ok (.iconst 0, 1) := by decide +kernel
theorem d1_99 : decode prog_36_method_5_code 99 = .ok (.goto 24, 3) := by decide +kernel
theorem d1_94 : decode prog_36_method_5_code 94 = .ok (.iconst 1, 1) := by decide +kernel
theorem d1_95 : decode prog_36_method_5_code 95 = .ok (.goto 28, 3) := by decide +kernel
def fH3 (i1 : Int32) : Int32 := if (0 : Int32) < i1 then (1 : Int32) else (0 : Int32)
def Q1_3 (Z : State) (o1 : Addr) (i1 : Int32) (h0 : Heap) (n0 : Nat) (v : Option Value) (h : Heap) (L : List Loc) : Prop := v = some (.int (fH3 i1)) ∧ Fr n0 L ∧ h = h0
set_option maxRecDepth 65536 in
set_option maxHeartbeats 40000000 in
theorem rm1_3 (l : Launch) (Z : State) (a0 : Array Value) (hw : ∀ d ∈ tables_1, d.before a0 Z = true) (ws : List Jvm.Cond) (o1 : Addr) (i1 : Int32) (h0 : Heap) (n0 : Nat) (Z0 : n0 ≤ h0.size) (F0 : Exa Z h0 o1 "com/example/tokenweave/tokenweave/engine/Comparison$EOperator") (F1 : Fld Z h0 o1 "java/lang/Enum" "ordinal" "I" (.int (3 : Int32))) :
    MetFree l (⟨"com/example/tokenweave/tokenweave/engine/Comparison$EOperator", "holds", "(I)Z"⟩ : MethodName) (head1 (Jvm.Cond.code (⟨"com/example/tokenweave/tokenweave/engine/Comparison$EOperator", "holds", "(I)Z"⟩ : MethodName) prog_36_method_5_code 2 (some .boolean) :: ws) ({ frames := 1, cells := 0, slots := 0, locals := 12 } : Room)) (fun a U => a = #[(.ref o1), (.int i1)] ∧ Z.Warmed39 U.vm ∧ U.heap = h0) (fun _ _ _ _ _ => True) (fun _ U o U' => ∃ v L, o = .returned v ∧ Q1_3 Z o1 i1 h0 n0 v U'.heap L ∧ FrameEnd U o U' L ({ frames := 1, cells := 0, slots := 0, locals := 12 } : Room).cells ({ frames := 1, cells := 0, slots := 0, locals := 12 } : Room).slots) := by
  refine body_of (y := (⟨"com/example/tokenweave/tokenweave/engine/Comparison$EOperator", "holds", "(I)Z"⟩ : MethodName)) (Q := Q1_3 Z o1 i1 h0 n0) (plainFor_of_name pn_1) ?_
  intro p e s m below meth c T0 G C hnm X0 e0 K
  have N0 := Fr.nil n0
  refine Goes.to (congrArg T0.setTop (ef_1 m o1 i1)) ?_
  refine g_aloadN C X0 d1_0 (pc' := 1) rfl rfl rfl ?_
  refine g_callVU C X0 (w_8 hw) (w_9 hw) (w_10 hw) (w_12 hw) (w_11 hw) (w_14 hw) (w_13 hw) (by decide) F0 d1_1 (rm2 l Z a0 hw [] o1 (3 : Int32) h0 n0 Z0 F1) (by decide) (by decide) rfl pd_0 rfl (argsL := []) (rest := []) rfl (W := 0) (Nat.le_of_eq rfl) e0 (by decide) (by decide) (pc' := 4) rfl (fun u1 T1 L1 X1 hQ1 => ?_)
  obtain ⟨rfl, Nq1, eq1⟩ := hQ1
  have N1 := Fr.app N0 Nq1
  show Goes p.tables e below G (T1.setTop (mkF m 4 #[.val (.ref o1), .val (.int i1)] [(.int (3 : Int32))]))
  refine g_tsw C X1 d1_4 (by decide) (o := 86) rfl (pc' := 90) (by decide) (by decide) ?_
  refine g_iloadN C X1 d1_90 (pc' := 91) rfl rfl ?_
  refine g_if_le C X1 d1_91 (pcT := 98) (pcN := 94) (by decide) (by decide) rfl (fun hc91 => ?_) (fun hc91 => ?_)
  · refine g_iconst C X1 d1_98 (pc' := 99) rfl (v := 0) rfl ?_
    refine g_goto C X1 d1_99 (pc' := 123) (by decide) (by decide) ?_
    exact g_retN C X1 K (by simp) d1_123 (by decide) (by decide) eq1 ⟨(by (unfold fH3; rw [if_neg hc91]) <;> rfl), N1, rfl⟩
  · refine g_iconst C X1 d1_94 (pc' := 95) rfl (v := 1) rfl ?_
    refine g_goto C X1 d1_95 (pc' := 123) (by decide) (by decide) ?_
    exact g_retN C X1 K (by simp) d1_123 (by decide) (by decide) eq1 ⟨(by (unfold fH3; rw [if_pos hc91]) <;> rfl), N1, rfl⟩
theorem d1_102 : decode prog_36_method_5_code 102 = .ok (.iload_n 1, 1) := by decide +kernel
theorem d1_103 : decode prog_36_method_5_code 103 = .ok (.ifCond .gt 7, 3) := by decide +kernel
theorem d1_110 : decode prog_36_method_5_code 110 = .ok (.iconst 0, 1) := by decide +kernel
theorem d1_111 : decode prog_36_method_5_code 111 = .ok (.goto 12, 3) := by decide +kernel
theorem d1_106 : decode prog_36_method_5_code 106 = .ok (.iconst 1, 1) := by decide +kernel
theorem d1_107 : decode prog_36_method_5_code 107 = .ok (.goto 16, 3) := by decide +kernel
def fH4 (i1 : Int32) : Int32 := if (0 : Int32) < i1 then (0 : Int32) else (1 : Int32)
def Q1_4 (Z : State) (o1 : Addr) (i1 : Int32) (h0 : Heap) (n0 : Nat) (v : Option Value) (h : Heap) (L : List Loc) : Prop := v = some (.int (fH4 i1)) ∧ Fr n0 L ∧ h = h0
set_option maxRecDepth 65536 in
set_option maxHeartbeats 40000000 in
theorem rm1_4 (l : Launch) (Z : State) (a0 : Array Value) (hw : ∀ d ∈ tables_1, d.before a0 Z = true) (ws : List Jvm.Cond) (o1 : Addr) (i1 : Int32) (h0 : Heap) (n0 : Nat) (Z0 : n0 ≤ h0.size) (F0 : Exa Z h0 o1 "com/example/tokenweave/tokenweave/engine/Comparison$EOperator") (F1 : Fld Z h0 o1 "java/lang/Enum" "ordinal" "I" (.int (4 : Int32))) :
    MetFree l (⟨"com/example/tokenweave/tokenweave/engine/Comparison$EOperator", "holds", "(I)Z"⟩ : MethodName) (head1 (Jvm.Cond.code (⟨"com/example/tokenweave/tokenweave/engine/Comparison$EOperator", "holds", "(I)Z"⟩ : MethodName) prog_36_method_5_code 2 (some .boolean) :: ws) ({ frames := 1, cells := 0, slots := 0, locals := 12 } : Room)) (fun a U => a = #[(.ref o1), (.int i1)] ∧ Z.Warmed39 U.vm ∧ U.heap = h0) (fun _ _ _ _ _ => True) (fun _ U o U' => ∃ v L, o = .returned v ∧ Q1_4 Z o1 i1 h0 n0 v U'.heap L ∧ FrameEnd U o U' L ({ frames := 1, cells := 0, slots := 0, locals := 12 } : Room).cells ({ frames := 1, cells := 0, slots := 0, locals := 12 } : Room).slots) := by
  refine body_of (y := (⟨"com/example/tokenweave/tokenweave/engine/Comparison$EOperator", "holds", "(I)Z"⟩ : MethodName)) (Q := Q1_4 Z o1 i1 h0 n0) (plainFor_of_name pn_1) ?_
  intro p e s m below meth c T0 G C hnm X0 e0 K
  have N0 := Fr.nil n0
  refine Goes.to (congrArg T0.setTop (ef_1 m o1 i1)) ?_
  refine g_aloadN C X0 d1_0 (pc' := 1) rfl rfl rfl ?_
  refine g_callVU C X0 (w_8 hw) (w_9 hw) (w_10 hw) (w_12 hw) (w_11 hw) (w_14 hw) (w_13 hw) (by decide) F0 d1_1 (rm2 l Z a0 hw [] o1 (4 : Int32) h0 n0 Z0 F1) (by decide) (by decide) rfl pd_0 rfl (argsL := []) (rest := []) rfl (W := 0) (Nat.le_of_eq rfl) e0 (by decide) (by decide) (pc' := 4) rfl (fun u1 T1 L1 X1 hQ1 => ?_)
  obtain ⟨rfl, Nq1, eq1⟩ := hQ1
  have N1 := Fr.app N0 Nq1
  show Goes p.tables e below G (T1.setTop (mkF m 4 #[.val (.ref o1), .val (.int i1)] [(.int (4 : Int32))]))
  refine g_tsw C X1 d1_4 (by decide) (o := 98) rfl (pc' := 102) (by decide) (by decide) ?_
  refine g_iloadN C X1 d1_102 (pc' := 103) rfl rfl ?_
  refine g_if_gt C X1 d1_103 (pcT := 110) (pcN := 106) (by decide) (by decide) rfl (fun hc103 => ?_) (fun hc103 => ?_)
  · refine g_iconst C X1 d1_110 (pc' := 111) rfl (v := 0) rfl ?_
    refine g_goto C X1 d1_111 (pc' := 123) (by decide) (by decide) ?_
    exact g_retN C X1 K (by simp) d1_123 (by decide) (by decide) eq1 ⟨(by (unfold fH4; rw [if_pos hc103]) <;> rfl), N1, rfl⟩
  · refine g_iconst C X1 d1_106 (pc' := 107) rfl (v := 1) rfl ?_
    refine g_goto C X1 d1_107 (pc' := 123) (by decide) (by decide) ?_
    exact g_retN C X1 K (by simp) d1_123 (by decide) (by decide) eq1 ⟨(by (unfold fH4; rw [if_neg hc103]) <;> rfl), N1, rfl⟩
theorem d1_114 : decode prog_36_method_5_code 114 = .ok (.iload_n 1, 1) := by decide +kernel
theorem d1_115 : decode prog_36_method_5_code 115 = .ok (.ifCond .lt 7, 3) := by decide +kernel
theorem d1_122 : decode prog_36_method_5_code 122 = .ok (.iconst 0, 1) := by decide +kernel
theorem d1_118 : decode prog_36_method_5_code 118 = .ok (.iconst 1, 1) := by decide +kernel
theorem d1_119 : decode prog_36_method_5_code 119 = .ok (.goto 4, 3) := by decide +kernel
def fH5 (i1 : Int32) : Int32 := if i1 < (0 : Int32) then (0 : Int32) else (1 : Int32)
def Q1_5 (Z : State) (o1 : Addr) (i1 : Int32) (h0 : Heap) (n0 : Nat) (v : Option Value) (h : Heap) (L : List Loc) : Prop := v = some (.int (fH5 i1)) ∧ Fr n0 L ∧ h = h0
set_option maxRecDepth 65536 in
set_option maxHeartbeats 40000000 in
theorem rm1_5 (l : Launch) (Z : State) (a0 : Array Value) (hw : ∀ d ∈ tables_1, d.before a0 Z = true) (ws : List Jvm.Cond) (o1 : Addr) (i1 : Int32) (h0 : Heap) (n0 : Nat) (Z0 : n0 ≤ h0.size) (F0 : Exa Z h0 o1 "com/example/tokenweave/tokenweave/engine/Comparison$EOperator") (F1 : Fld Z h0 o1 "java/lang/Enum" "ordinal" "I" (.int (5 : Int32))) :
    MetFree l (⟨"com/example/tokenweave/tokenweave/engine/Comparison$EOperator", "holds", "(I)Z"⟩ : MethodName) (head1 (Jvm.Cond.code (⟨"com/example/tokenweave/tokenweave/engine/Comparison$EOperator", "holds", "(I)Z"⟩ : MethodName) prog_36_method_5_code 2 (some .boolean) :: ws) ({ frames := 1, cells := 0, slots := 0, locals := 12 } : Room)) (fun a U => a = #[(.ref o1), (.int i1)] ∧ Z.Warmed39 U.vm ∧ U.heap = h0) (fun _ _ _ _ _ => True) (fun _ U o U' => ∃ v L, o = .returned v ∧ Q1_5 Z o1 i1 h0 n0 v U'.heap L ∧ FrameEnd U o U' L ({ frames := 1, cells := 0, slots := 0, locals := 12 } : Room).cells ({ frames := 1, cells := 0, slots := 0, locals := 12 } : Room).slots) := by
  refine body_of (y := (⟨"com/example/tokenweave/tokenweave/engine/Comparison$EOperator", "holds", "(I)Z"⟩ : MethodName)) (Q := Q1_5 Z o1 i1 h0 n0) (plainFor_of_name pn_1) ?_
  intro p e s m below meth c T0 G C hnm X0 e0 K
  have N0 := Fr.nil n0
  refine Goes.to (congrArg T0.setTop (ef_1 m o1 i1)) ?_
  refine g_aloadN C X0 d1_0 (pc' := 1) rfl rfl rfl ?_
  refine g_callVU C X0 (w_8 hw) (w_9 hw) (w_10 hw) (w_12 hw) (w_11 hw) (w_14 hw) (w_13 hw) (by decide) F0 d1_1 (rm2 l Z a0 hw [] o1 (5 : Int32) h0 n0 Z0 F1) (by decide) (by decide) rfl pd_0 rfl (argsL := []) (rest := []) rfl (W := 0) (Nat.le_of_eq rfl) e0 (by decide) (by decide) (pc' := 4) rfl (fun u1 T1 L1 X1 hQ1 => ?_)
  obtain ⟨rfl, Nq1, eq1⟩ := hQ1
  have N1 := Fr.app N0 Nq1
  show Goes p.tables e below G (T1.setTop (mkF m 4 #[.val (.ref o1), .val (.int i1)] [(.int (5 : Int32))]))
  refine g_tsw C X1 d1_4 (by decide) (o := 110) rfl (pc' := 114) (by decide) (by decide) ?_
  refine g_iloadN C X1 d1_114 (pc' := 115) rfl rfl ?_
  refine g_if_lt C X1 d1_115 (pcT := 122) (pcN := 118) (by decide) (by decide) rfl (fun hc115 => ?_) (fun hc115 => ?_)
  · refine g_iconst C X1 d1_122 (pc' := 123) rfl (v := 0) rfl ?_
    exact g_retN C X1 K (by simp) d1_123 (by decide) (by decide) eq1 ⟨(by (unfold fH5; rw [if_pos hc115]) <;> rfl), N1, rfl⟩
  · refine g_iconst C X1 d1_118 (pc' := 119) rfl (v := 1) rfl ?_
    refine g_goto C X1 d1_119 (pc' := 123) (by decide) (by decide) ?_
    exact g_retN C X1 K (by simp) d1_123 (by decide) (by decide) eq1 ⟨(by (unfold fH5; rw [if_neg hc115]) <;> rfl), N1, rfl⟩
theorem ef_3 (m : MethodId) (x0 : Int32) (x1 : Int32) : entryFrame m #[(.int x0), (.int x1)] 3 = mkF m 0 #[.val (.int x0), .val (.int x1), .unset] [] := by first | (simp [entryFrame, mkF, argsToLocals, Value.category]; done) | rfl
theorem d3_0 : decode method_2_code 0 = .ok (.iload_n 1, 1) := by decide +kernel
theorem d3_1 : decode method_2_code 1 = .ok (.ifCond .ge 7, 3) := by decide +kernel
theorem d3_8 : decode method_2_code 8 = .ok (.iload_n 1, 1) := by decide +kernel
theorem d3_9 : decode method_2_code 9 = .ok (.ifCond .ne 7, 3) := by decide +kernel
theorem d3_16 : decode method_2_code 16 = .ok (.iconst 2, 1) := by decide +kernel
theorem d3_17 : decode method_2_code 17 = .ok (.istore_n 2, 1) := by decide +kernel
theorem d3_18 : decode method_2_code 18 = .ok (.iload_n 0, 1) := by decide +kernel
theorem d3_19 : decode method_2_code 19 = .ok (.iload_n 2, 1) := by decide +kernel
theorem d3_20 : decode method_2_code 20 = .ok (.ishr, 1) := by decide +kernel
theorem d3_21 : decode method_2_code 21 = .ok (.iconst 1, 1) := by decide +kernel
theorem d3_22 : decode method_2_code 22 = .ok (.iand, 1) := by decide +kernel
theorem d3_23 : decode method_2_code 23 = .ok (.ifCond .eq 7, 3) := by decide +kernel
theorem d3_30 : decode method_2_code 30 = .ok (.iconst 0, 1) := by decide +kernel
theorem d3_31 : decode method_2_code 31 = .ok (.ireturn, 1) := by decide +kernel
theorem d3_26 : decode method_2_code 26 = .ok (.iconst 1, 1) := by decide +kernel
theorem d3_27 : decode method_2_code 27 = .ok (.goto 4, 3) := by decide +kernel
theorem d3_12 : decode method_2_code 12 = .ok (.iconst 1, 1) := by decide +kernel
theorem d3_13 : decode method_2_code 13 = .ok (.goto 4, 3) := by decide +kernel
theorem d3_4 : decode method_2_code 4 = .ok (.iconst 0, 1) := by decide +kernel
theorem d3_5 : decode method_2_code 5 = .ok (.goto 12, 3) := by decide +kernel
def fAdm (x0 : Int32) (x1 : Int32) : Int32 := if x1 < (0 : Int32) then if ((x0 >>> ((0 : Int32) &&& 31)) &&& (1 : Int32)) = (0 : Int32) then (0 : Int32) else (1 : Int32) else if x1 = (0 : Int32) then if ((x0 >>> ((1 : Int32) &&& 31)) &&& (1 : Int32)) = (0 : Int32) then (0 : Int32) else (1 : Int32) else if ((x0 >>> ((2 : Int32) &&& 31)) &&& (1 : Int32)) = (0 : Int32) then (0 : Int32) else (1 : Int32)
def Q3 (Z : State) (x0 : Int32) (x1 : Int32) (h0 : Heap) (n0 : Nat) (v : Option Value) (h : Heap) (L : List Loc) : Prop := v = some (.int (fAdm x0 x1)) ∧ Fr n0 L ∧ h = h0
theorem pn_0 : plainName "com/example/tokenweave/tokenweave/engine/EOperatorHoldsPinLaw" = true := by first | (simp [plainName, overriddenIn]; done) | decide +kernel
set_option maxRecDepth 65536 in
set_option maxHeartbeats 40000000 in
theorem rm3 (l : Launch) (Z : State) (a0 : Array Value) (hw : ∀ d ∈ tables_1, d.before a0 Z = true) (ws : List Jvm.Cond) (x0 : Int32) (x1 : Int32) (h0 : Heap) (n0 : Nat) (Z0 : n0 ≤ h0.size) :
    MetFree l (⟨"com/example/tokenweave/tokenweave/engine/EOperatorHoldsPinLaw", "admits", "(II)Z"⟩ : MethodName) (head1 (Jvm.Cond.code (⟨"com/example/tokenweave/tokenweave/engine/EOperatorHoldsPinLaw", "admits", "(II)Z"⟩ : MethodName) method_2_code 3 (some .boolean) :: ws) ({ frames := 0, cells := 0, slots := 0, locals := 0 } : Room)) (fun a U => a = #[(.int x0), (.int x1)] ∧ Z.Warmed39 U.vm ∧ U.heap = h0) (fun _ _ _ _ _ => True) (fun _ U o U' => ∃ v L, o = .returned v ∧ Q3 Z x0 x1 h0 n0 v U'.heap L ∧ FrameEnd U o U' L ({ frames := 0, cells := 0, slots := 0, locals := 0 } : Room).cells ({ frames := 0, cells := 0, slots := 0, locals := 0 } : Room).slots) := by
  refine body_of (y := (⟨"com/example/tokenweave/tokenweave/engine/EOperatorHoldsPinLaw", "admits", "(II)Z"⟩ : MethodName)) (Q := Q3 Z x0 x1 h0 n0) (plainFor_of_name pn_0) ?_
  intro p e s m below meth c T0 G C hnm X0 e0 K
  have N0 := Fr.nil n0
  refine Goes.to (congrArg T0.setTop (ef_3 m x0 x1)) ?_
  refine g_iloadN C X0 d3_0 (pc' := 1) rfl rfl ?_
  refine g_if_ge C X0 d3_1 (pcT := 8) (pcN := 4) (by decide) (by decide) rfl (fun hc1 => ?_) (fun hc1 => ?_)
  · refine g_iloadN C X0 d3_8 (pc' := 9) rfl rfl ?_
    refine g_if_ne C X0 d3_9 (pcT := 16) (pcN := 12) (by decide) (by decide) rfl (fun hc9 => ?_) (fun hc9 => ?_)
    · refine g_iconst C X0 d3_16 (pc' := 17) rfl (v := 2) rfl ?_
      refine g_istoreN C X0 d3_17 (pc' := 18) rfl (w := (2 : Int32)) rfl (ls' := #[.val (.int x0), .val (.int x1), .val (.int (2 : Int32))]) rfl ?_
      refine g_iloadN C X0 d3_18 (pc' := 19) rfl rfl ?_
      refine g_iloadN C X0 d3_19 (pc' := 20) rfl rfl ?_
      refine g_ishr C X0 d3_20 (pc' := 21) rfl ?_
      refine g_iconst C X0 d3_21 (pc' := 22) rfl (v := 1) rfl ?_
      refine g_iand C X0 d3_22 (pc' := 23) rfl ?_
      refine g_if_eq C X0 d3_23 (pcT := 30) (pcN := 26) (by decide) (by decide) rfl (fun hc23 => ?_) (fun hc23 => ?_)
      · refine g_iconst C X0 d3_30 (pc' := 31) rfl (v := 0) rfl ?_
        exact g_retN C X0 K (by simp) d3_31 (by decide) (by decide) e0 ⟨by (unfold fAdm; rw [if_neg hc1, if_neg hc9, if_pos hc23]) <;> rfl, N0, rfl⟩
      · refine g_iconst C X0 d3_26 (pc' := 27) rfl (v := 1) rfl ?_
        refine g_goto C X0 d3_27 (pc' := 31) (by decide) (by decide) ?_
        exact g_retN C X0 K (by simp) d3_31 (by decide) (by decide) e0 ⟨by (unfold fAdm; rw [if_neg hc1, if_neg hc9, if_neg hc23]) <;> rfl, N0, rfl⟩
    · refine g_iconst C X0 d3_12 (pc' := 13) rfl (v := 1) rfl ?_
      refine g_goto C X0 d3_13 (pc' := 17) (by decide) (by decide) ?_
      refine g_istoreN C X0 d3_17 (pc' := 18) rfl (w := (1 : Int32)) rfl (ls' := #[.val (.int x0), .val (.int x1), .val (.int (1 : Int32))]) rfl ?_
      refine g_iloadN C X0 d3_18 (pc' := 19) rfl rfl ?_
      refine g_iloadN C X0 d3_19 (pc' := 20) rfl rfl ?_
      refine g_ishr C X0 d3_20 (pc' := 21) rfl ?_
      refine g_iconst C X0 d3_21 (pc' := 22) rfl (v := 1) rfl ?_
      refine g_iand C X0 d3_22 (pc' := 23) rfl ?_
      refine g_if_eq C X0 d3_23 (pcT := 30) (pcN := 26) (by decide) (by decide) rfl (fun hc23 => ?_) (fun hc23 => ?_)
      · refine g_iconst C X0 d3_30 (pc' := 31) rfl (v := 0) rfl ?_
        exact g_retN C X0 K (by simp) d3_31 (by decide) (by decide) e0 ⟨by (unfold fAdm; rw [if_neg hc1, if_pos hc9, if_pos hc23]) <;> rfl, N0, rfl⟩
      · refine g_iconst C X0 d3_26 (pc' := 27) rfl (v := 1) rfl ?_
        refine g_goto C X0 d3_27 (pc' := 31) (by decide) (by decide) ?_
        exact g_retN C X0 K (by simp) d3_31 (by decide) (by decide) e0 ⟨by (unfold fAdm; rw [if_neg hc1, if_pos hc9, if_neg hc23]) <;> rfl, N0, rfl⟩
  · refine g_iconst C X0 d3_4 (pc' := 5) rfl (v := 0) rfl ?_
    refine g_goto C X0 d3_5 (pc' := 17) (by decide) (by decide) ?_
    refine g_istoreN C X0 d3_17 (pc' := 18) rfl (w := (0 : Int32)) rfl (ls' := #[.val (.int x0), .val (.int x1), .val (.int (0 : Int32))]) rfl ?_
    refine g_iloadN C X0 d3_18 (pc' := 19) rfl rfl ?_
    refine g_iloadN C X0 d3_19 (pc' := 20) rfl rfl ?_
    refine g_ishr C X0 d3_20 (pc' := 21) rfl ?_
    refine g_iconst C X0 d3_21 (pc' := 22) rfl (v := 1) rfl ?_
    refine g_iand C X0 d3_22 (pc' := 23) rfl ?_
    refine g_if_eq C X0 d3_23 (pcT := 30) (pcN := 26) (by decide) (by decide) rfl (fun hc23 => ?_) (fun hc23 => ?_)
    · refine g_iconst C X0 d3_30 (pc' := 31) rfl (v := 0) rfl ?_
      exact g_retN C X0 K (by simp) d3_31 (by decide) (by decide) e0 ⟨by (unfold fAdm; rw [if_pos hc1, if_pos hc23]) <;> rfl, N0, rfl⟩
    · refine g_iconst C X0 d3_26 (pc' := 27) rfl (v := 1) rfl ?_
      refine g_goto C X0 d3_27 (pc' := 31) (by decide) (by decide) ?_
      exact g_retN C X0 K (by simp) d3_31 (by decide) (by decide) e0 ⟨by (unfold fAdm; rw [if_pos hc1, if_neg hc23]) <;> rfl, N0, rfl⟩
theorem own_tri (p : Int32) : p < 0 ∨ p = 0 ∨ 0 < p := by
  rw [Int32.lt_iff_toInt_lt, Int32.lt_iff_toInt_lt, ← Int32.toInt_inj]; omega
theorem own_h0 (p : Int32) : fH0 p = fAdm 2 p := by
  have e0 : (0 : Int32).toInt = 0 := by decide
  rcases own_tri p with h | h | h
  · have h1 : ¬ p = 0 := fun q => by subst q; exact absurd h (by decide)
    have h2 : ¬ 0 < p := fun q => by rw [Int32.lt_iff_toInt_lt] at h q; omega
    unfold fH0 fAdm; simp only [h, h1, h2, if_true, if_false]; decide
  · subst h; decide
  · have h1 : ¬ p = 0 := fun q => by subst q; exact absurd h (by decide)
    have h2 : ¬ p < 0 := fun q => by rw [Int32.lt_iff_toInt_lt] at h q; omega
    unfold fH0 fAdm; simp only [h, h1, h2, if_true, if_false]; decide
theorem own_h1 (p : Int32) : fH1 p = fAdm 5 p := by
  have e0 : (0 : Int32).toInt = 0 := by decide
  rcases own_tri p with h | h | h
  · have h1 : ¬ p = 0 := fun q => by subst q; exact absurd h (by decide)
    have h2 : ¬ 0 < p := fun q => by rw [Int32.lt_iff_toInt_lt] at h q; omega
    unfold fH1 fAdm; simp only [h, h1, h2, if_true, if_false]; decide
  · subst h; decide
  · have h1 : ¬ p = 0 := fun q => by subst q; exact absurd h (by decide)
    have h2 : ¬ p < 0 := fun q => by rw [Int32.lt_iff_toInt_lt] at h q; omega
    unfold fH1 fAdm; simp only [h, h1, h2, if_true, if_false]; decide
theorem own_h2 (p : Int32) : fH2 p = fAdm 1 p := by
  have e0 : (0 : Int32).toInt = 0 := by decide
  rcases own_tri p with h | h | h
  · have h1 : ¬ p = 0 := fun q => by subst q; exact absurd h (by decide)
    have h2 : ¬ 0 < p := fun q => by rw [Int32.lt_iff_toInt_lt] at h q; omega
    unfold fH2 fAdm; simp only [h, h1, h2, if_true, if_false]; decide
  · subst h; decide
  · have h1 : ¬ p = 0 := fun q => by subst q; exact absurd h (by decide)
    have h2 : ¬ p < 0 := fun q => by rw [Int32.lt_iff_toInt_lt] at h q; omega
    unfold fH2 fAdm; simp only [h, h1, h2, if_true, if_false]; decide
theorem own_h3 (p : Int32) : fH3 p = fAdm 4 p := by
  have e0 : (0 : Int32).toInt = 0 := by decide
  rcases own_tri p with h | h | h
  · have h1 : ¬ p = 0 := fun q => by subst q; exact absurd h (by decide)
    have h2 : ¬ 0 < p := fun q => by rw [Int32.lt_iff_toInt_lt] at h q; omega
    unfold fH3 fAdm; simp only [h, h1, h2, if_true, if_false]; decide
  · subst h; decide
  · have h1 : ¬ p = 0 := fun q => by subst q; exact absurd h (by decide)
    have h2 : ¬ p < 0 := fun q => by rw [Int32.lt_iff_toInt_lt] at h q; omega
    unfold fH3 fAdm; simp only [h, h1, h2, if_true, if_false]; decide
theorem own_h4 (p : Int32) : fH4 p = fAdm 3 p := by
  have e0 : (0 : Int32).toInt = 0 := by decide
  rcases own_tri p with h | h | h
  · have h1 : ¬ p = 0 := fun q => by subst q; exact absurd h (by decide)
    have h2 : ¬ 0 < p := fun q => by rw [Int32.lt_iff_toInt_lt] at h q; omega
    unfold fH4 fAdm; simp only [h, h1, h2, if_true, if_false]; decide
  · subst h; decide
  · have h1 : ¬ p = 0 := fun q => by subst q; exact absurd h (by decide)
    have h2 : ¬ p < 0 := fun q => by rw [Int32.lt_iff_toInt_lt] at h q; omega
    unfold fH4 fAdm; simp only [h, h1, h2, if_true, if_false]; decide
theorem own_h5 (p : Int32) : fH5 p = fAdm 6 p := by
  have e0 : (0 : Int32).toInt = 0 := by decide
  rcases own_tri p with h | h | h
  · have h1 : ¬ p = 0 := fun q => by subst q; exact absurd h (by decide)
    have h2 : ¬ 0 < p := fun q => by rw [Int32.lt_iff_toInt_lt] at h q; omega
    unfold fH5 fAdm; simp only [h, h1, h2, if_true, if_false]; decide
  · subst h; decide
  · have h1 : ¬ p = 0 := fun q => by subst q; exact absurd h (by decide)
    have h2 : ¬ p < 0 := fun q => by rw [Int32.lt_iff_toInt_lt] at h q; omega
    unfold fH5 fAdm; simp only [h, h1, h2, if_true, if_false]; decide
theorem ef_0 (m : MethodId) (p0 : Int32) : entryFrame m #[(.int p0)] maxLocals = mkF m 0 #[.val (.int p0), .unset, .unset, .unset, .unset, .unset, .unset] [] := by first | (simp [entryFrame, mkF, argsToLocals, Value.category, maxLocals]; done) | rfl
theorem w_0 {Z : State} {a0 : Array Value} (hw : ∀ d ∈ tables_1, d.before a0 Z = true) : Jvm.Cond.before (Jvm.Cond.fieldLink "com/example/tokenweave/tokenweave/engine/EOperatorHoldsPinLaw" (7 : Nat) "com/example/tokenweave/tokenweave/engine/Comparison$EOperator" "EQUAL" "Lcom/example/tokenweave/tokenweave/engine/Comparison$EOperator;") a0 Z = true := hw _ (List.mem_of_getElem? (i := 0) rfl)
theorem w_7 {Z : State} {a0 : Array Value} (hw : ∀ d ∈ tables_1, d.before a0 Z = true) : Jvm.Cond.before (Jvm.Cond.code ({ cls := "com/example/tokenweave/tokenweave/engine/Comparison$EOperator", name := "holds", desc := "(I)Z" } : Jvm.MethodName) prog_36_method_5_code (2 : Nat) (Option.some Jvm.ClassFile.FieldType.boolean)) a0 Z = true := hw _ (List.mem_of_getElem? (i := 7) rfl)
theorem w_1 {Z : State} {a0 : Array Value} (hw : ∀ d ∈ tables_1, d.before a0 Z = true) : Jvm.Cond.before (Jvm.Cond.initialized "com/example/tokenweave/tokenweave/engine/Comparison$EOperator") a0 Z = true := hw _ (List.mem_of_getElem? (i := 1) rfl)
theorem w_3 {Z : State} {a0 : Array Value} (hw : ∀ d ∈ tables_1, d.before a0 Z = true) : Jvm.Cond.before (Jvm.Cond.methodLink "com/example/tokenweave/tokenweave/engine/EOperatorHoldsPinLaw" (13 : Nat) ({ cls := "com/example/tokenweave/tokenweave/engine/Comparison$EOperator", name := "holds", desc := "(I)Z" } : Jvm.MethodName)) a0 Z = true := hw _ (List.mem_of_getElem? (i := 3) rfl)
theorem pd_1 : parseMethodDescriptor "(I)Z" = some ⟨[.int], some .boolean⟩ := by decide +kernel
theorem w_6 {Z : State} {a0 : Array Value} (hw : ∀ d ∈ tables_1, d.before a0 Z = true) : Jvm.Cond.before (Jvm.Cond.selects "com/example/tokenweave/tokenweave/engine/Comparison$EOperator" ({ cls := "com/example/tokenweave/tokenweave/engine/Comparison$EOperator", name := "holds", desc := "(I)Z" } : Jvm.MethodName) ({ cls := "com/example/tokenweave/tokenweave/engine/Comparison$EOperator", name := "holds", desc := "(I)Z" } : Jvm.MethodName)) a0 Z = true := hw _ (List.mem_of_getElem? (i := 6) rfl)
theorem w_4 {Z : State} {a0 : Array Value} (hw : ∀ d ∈ tables_1, d.before a0 Z = true) : Jvm.Cond.before (Jvm.Cond.declares ({ cls := "com/example/tokenweave/tokenweave/engine/Comparison$EOperator", name := "holds", desc := "(I)Z" } : Jvm.MethodName)) a0 Z = true := hw _ (List.mem_of_getElem? (i := 4) rfl)
theorem w_5 {Z : State} {a0 : Array Value} (hw : ∀ d ∈ tables_1, d.before a0 Z = true) : Jvm.Cond.before (Jvm.Cond.instanceMethod ({ cls := "com/example/tokenweave/tokenweave/engine/Comparison$EOperator", name := "holds", desc := "(I)Z" } : Jvm.MethodName)) a0 Z = true := hw _ (List.mem_of_getElem? (i := 5) rfl)
theorem w_20 {Z : State} {a0 : Array Value} (hw : ∀ d ∈ tables_1, d.before a0 Z = true) : Jvm.Cond.before (Jvm.Cond.code ({ cls := "com/example/tokenweave/tokenweave/engine/EOperatorHoldsPinLaw", name := "admits", desc := "(II)Z" } : Jvm.MethodName) method_2_code (3 : Nat) (Option.some Jvm.ClassFile.FieldType.boolean)) a0 Z = true := hw _ (List.mem_of_getElem? (i := 20) rfl)
theorem w_19 {Z : State} {a0 : Array Value} (hw : ∀ d ∈ tables_1, d.before a0 Z = true) : Jvm.Cond.before (Jvm.Cond.initialized "com/example/tokenweave/tokenweave/engine/EOperatorHoldsPinLaw") a0 Z = true := hw _ (List.mem_of_getElem? (i := 19) rfl)
theorem w_17 {Z : State} {a0 : Array Value} (hw : ∀ d ∈ tables_1, d.before a0 Z = true) : Jvm.Cond.before (Jvm.Cond.methodLink "com/example/tokenweave/tokenweave/engine/EOperatorHoldsPinLaw" (17 : Nat) ({ cls := "com/example/tokenweave/tokenweave/engine/EOperatorHoldsPinLaw", name := "admits", desc := "(II)Z" } : Jvm.MethodName)) a0 Z = true := hw _ (List.mem_of_getElem? (i := 17) rfl)
theorem pd_2 : parseMethodDescriptor "(II)Z" = some ⟨[.int, .int], some .boolean⟩ := by decide +kernel
theorem w_18 {Z : State} {a0 : Array Value} (hw : ∀ d ∈ tables_1, d.before a0 Z = true) : Jvm.Cond.before (Jvm.Cond.static ({ cls := "com/example/tokenweave/tokenweave/engine/EOperatorHoldsPinLaw", name := "admits", desc := "(II)Z" } : Jvm.MethodName)) a0 Z = true := hw _ (List.mem_of_getElem? (i := 18) rfl)
theorem w_21 {Z : State} {a0 : Array Value} (hw : ∀ d ∈ tables_1, d.before a0 Z = true) : Jvm.Cond.before (Jvm.Cond.fieldLink "com/example/tokenweave/tokenweave/engine/EOperatorHoldsPinLaw" (23 : Nat) "com/example/tokenweave/tokenweave/engine/Comparison$EOperator" "NOT_EQUAL" "Lcom/example/tokenweave/tokenweave/engine/Comparison$EOperator;") a0 Z = true := hw _ (List.mem_of_getElem? (i := 21) rfl)
theorem w_23 {Z : State} {a0 : Array Value} (hw : ∀ d ∈ tables_1, d.before a0 Z = true) : Jvm.Cond.before (Jvm.Cond.fieldLink "com/example/tokenweave/tokenweave/engine/EOperatorHoldsPinLaw" (26 : Nat) "com/example/tokenweave/tokenweave/engine/Comparison$EOperator" "LESS" "Lcom/example/tokenweave/tokenweave/engine/Comparison$EOperator;") a0 Z = true := hw _ (List.mem_of_getElem? (i := 23) rfl)
theorem w_25 {Z : State} {a0 : Array Value} (hw : ∀ d ∈ tables_1, d.before a0 Z = true) : Jvm.Cond.before (Jvm.Cond.fieldLink "com/example/tokenweave/tokenweave/engine/EOperatorHoldsPinLaw" (29 : Nat) "com/example/tokenweave/tokenweave/engine/Comparison$EOperator" "GREATER" "Lcom/example/tokenweave/tokenweave/engine/Comparison$EOperator;") a0 Z = true := hw _ (List.mem_of_getElem? (i := 25) rfl)
theorem w_27 {Z : State} {a0 : Array Value} (hw : ∀ d ∈ tables_1, d.before a0 Z = true) : Jvm.Cond.before (Jvm.Cond.fieldLink "com/example/tokenweave/tokenweave/engine/EOperatorHoldsPinLaw" (32 : Nat) "com/example/tokenweave/tokenweave/engine/Comparison$EOperator" "LESS_OR_EQUAL" "Lcom/example/tokenweave/tokenweave/engine/Comparison$EOperator;") a0 Z = true := hw _ (List.mem_of_getElem? (i := 27) rfl)
theorem w_29 {Z : State} {a0 : Array Value} (hw : ∀ d ∈ tables_1, d.before a0 Z = true) : Jvm.Cond.before (Jvm.Cond.fieldLink "com/example/tokenweave/tokenweave/engine/EOperatorHoldsPinLaw" (35 : Nat) "com/example/tokenweave/tokenweave/engine/Comparison$EOperator" "GREATER_OR_EQUAL" "Lcom/example/tokenweave/tokenweave/engine/Comparison$EOperator;") a0 Z = true := hw _ (List.mem_of_getElem? (i := 29) rfl)
def Q0 (Z : State) (p0 : Int32) (b0 : Addr) (b1 : Addr) (b2 : Addr) (b3 : Addr) (b4 : Addr) (b5 : Addr) (h0 : Heap) (n0 : Nat) (v : Option Value) (h : Heap) (L : List Loc) : Prop := v = some (.int 1) ∧ Fr n0 L
set_option maxRecDepth 65536 in
set_option maxHeartbeats 40000000 in
theorem rm0 (l : Launch) (Z : State) (a0 : Array Value) (hw : ∀ d ∈ tables_1, d.before a0 Z = true) (ws : List Jvm.Cond) (p0 : Int32) (b0 : Addr) (b1 : Addr) (b2 : Addr) (b3 : Addr) (b4 : Addr) (b5 : Addr) (h0 : Heap) (n0 : Nat) (Z0 : n0 ≤ h0.size) (F0 : Sta Z h0 "com/example/tokenweave/tokenweave/engine/Comparison$EOperator" "EQUAL" "Lcom/example/tokenweave/tokenweave/engine/Comparison$EOperator;" (.ref b0)) (F1 : Exa Z h0 b0 "com/example/tokenweave/tokenweave/engine/Comparison$EOperator") (F2 : Fld Z h0 b0 "java/lang/Enum" "ordinal" "I" (.int 0)) (F3 : Sta Z h0 "com/example/tokenweave/tokenweave/engine/Comparison$EOperator" "NOT_EQUAL" "Lcom/example/tokenweave/tokenweave/engine/Comparison$EOperator;" (.ref b1)) (F4 : Exa Z h0 b1 "com/example/tokenweave/tokenweave/engine/Comparison$EOperator") (F5 : Fld Z h0 b1 "java/lang/Enum" "ordinal" "I" (.int 1)) (F6 : Sta Z h0 "com/example/tokenweave/tokenweave/engine/Comparison$EOperator" "LESS" "Lcom/example/tokenweave/tokenweave/engine/Comparison$EOperator;" (.ref b2)) (F7 : Exa Z h0 b2 "com/example/tokenweave/tokenweave/engine/Comparison$EOperator") (F8 : Fld Z h0 b2 "java/lang/Enum" "ordinal" "I" (.int 2)) (F9 : Sta Z h0 "com/example/tokenweave/tokenweave/engine/Comparison$EOperator" "GREATER" "Lcom/example/tokenweave/tokenweave/engine/Comparison$EOperator;" (.ref b3)) (F10 : Exa Z h0 b3 "com/example/tokenweave/tokenweave/engine/Comparison$EOperator") (F11 : Fld Z h0 b3 "java/lang/Enum" "ordinal" "I" (.int 3)) (F12 : Sta Z h0 "com/example/tokenweave/tokenweave/engine/Comparison$EOperator" "LESS_OR_EQUAL" "Lcom/example/tokenweave/tokenweave/engine/Comparison$EOperator;" (.ref b4)) (F13 : Exa Z h0 b4 "com/example/tokenweave/tokenweave/engine/Comparison$EOperator") (F14 : Fld Z h0 b4 "java/lang/Enum" "ordinal" "I" (.int 4)) (F15 : Sta Z h0 "com/example/tokenweave/tokenweave/engine/Comparison$EOperator" "GREATER_OR_EQUAL" "Lcom/example/tokenweave/tokenweave/engine/Comparison$EOperator;" (.ref b5)) (F16 : Exa Z h0 b5 "com/example/tokenweave/tokenweave/engine/Comparison$EOperator") (F17 : Fld Z h0 b5 "java/lang/Enum" "ordinal" "I" (.int 5)) :
    MetFree l x (head1 (Jvm.Cond.code x code maxLocals ret :: ws) room_1) (fun a U => a = #[(.int p0)] ∧ Z.Warmed39 U.vm ∧ U.heap = h0) (fun _ _ _ _ _ => True) (fun _ U o U' => ∃ v L, o = .returned v ∧ Q0 Z p0 b0 b1 b2 b3 b4 b5 h0 n0 v U'.heap L ∧ FrameEnd U o U' L room_1.cells room_1.slots) := by
  refine body_of (y := x) (Q := Q0 Z p0 b0 b1 b2 b3 b4 b5 h0 n0) (plainFor_of_name pn_0) ?_
  intro p e s m below meth c T0 G C hnm X0 e0 K
  have N0 := Fr.nil n0
  refine Goes.to (congrArg T0.setTop (ef_0 m p0)) ?_
  refine g_getS C X0 (w_0 hw) Via.refl e0 F0 at_0 (pc' := 3) rfl (fun T1 X1 e1 => ?_)
  refine g_iloadN C X1 at_3 (pc' := 4) rfl rfl ?_
  refine g_callV C X1 (w_3 hw) (w_4 hw) (notFace_of_selects (args := #[]) (mvT C.2.1 (w_6 hw))) (w_6 hw) (w_5 hw) (w_7 hw) (w_1 hw) (by decide) F1 at_4 (rm1_0 l Z a0 hw [] b0 p0 h0 n0 Z0 F1 F2) (by decide) (by decide) rfl pd_1 rfl (argsL := [(.int p0)]) (rest := []) rfl (W := 0) (Nat.le_of_eq rfl) e1 (by decide) (by decide) (pc' := 7) rfl (fun u2 T2 L2 X2 hQ2 => ?_)
  obtain ⟨rfl, Nq2, eq2⟩ := hQ2
  have N2 := Fr.app N0 Nq2
  obtain ⟨r2, hr2⟩ : ∃ z : Int32, (fH0 p0) = z := ⟨_, rfl⟩
  rw [hr2]
  show Goes p.tables e below G (T2.setTop (mkF m 7 #[.val (.int p0), .unset, .unset, .unset, .unset, .unset, .unset] [(.int r2)]))
  refine g_iconst C X2 at_7 (pc' := 8) rfl (v := 2) rfl ?_
  refine g_iloadN C X2 at_8 (pc' := 9) rfl rfl ?_
  refine g_callS C X2 (w_17 hw) (w_18 hw) (w_19 hw) (w_20 hw) (by decide) at_9 (rm3 l Z a0 hw [] (2 : Int32) p0 h0 n0 Z0) (by decide) (by decide) rfl pd_2 rfl (argsL := [(.int (2 : Int32)), (.int p0)]) (rest := [(.int r2)]) rfl (W := 1) (Nat.le_of_eq rfl) eq2 (by decide) (by decide) (pc' := 12) rfl (fun u3 T3 L3 X3 hQ3 => ?_)
  obtain ⟨rfl, Nq3, eq3⟩ := hQ3
  have N3 := Fr.app N2 Nq3
  obtain ⟨r3, hr3⟩ : ∃ z : Int32, fAdm (2 : Int32) p0 = z := ⟨_, rfl⟩
  rw [hr3]
  show Goes p.tables e below G (T3.setTop (mkF m 12 #[.val (.int p0), .unset, .unset, .unset, .unset, .unset, .unset] [(.int r3), (.int r2)]))
  refine g_icmp_ne C X3 at_12 (pcT := 19) (pcN := 15) (by decide) (by decide) rfl (fun hc12 => absurd (hr2.symm.trans ((own_h0 p0).trans hr3)) hc12) (fun hc12 => ?_)
  refine g_iconst C X3 at_15 (pc' := 16) rfl (v := 1) rfl ?_
  refine g_goto C X3 at_16 (pc' := 20) (by decide) (by decide) ?_
  refine g_istoreN C X3 at_20 (pc' := 21) rfl (w := (1 : Int32)) rfl (ls' := #[.val (.int p0), .val (.int (1 : Int32)), .unset, .unset, .unset, .unset, .unset]) rfl ?_
  refine g_getS C X3 (w_21 hw) Via.refl eq3 F3 at_21 (pc' := 24) rfl (fun T4 X4 e4 => ?_)
  refine g_iloadN C X4 at_24 (pc' := 25) rfl rfl ?_
  refine g_callV C X4 (w_3 hw) (w_4 hw) (notFace_of_selects (args := #[]) (mvT C.2.1 (w_6 hw))) (w_6 hw) (w_5 hw) (w_7 hw) (w_1 hw) (by decide) F4 at_25 (rm1_1 l Z a0 hw [] b1 p0 h0 n0 Z0 F4 F5) (by decide) (by decide) rfl pd_1 rfl (argsL := [(.int p0)]) (rest := []) rfl (W := 0) (Nat.le_of_eq rfl) e4 (by decide) (by decide) (pc' := 28) rfl (fun u5 T5 L5 X5 hQ5 => ?_)
  obtain ⟨rfl, Nq5, eq5⟩ := hQ5
  have N5 := Fr.app N3 Nq5
  obtain ⟨r5, hr5⟩ : ∃ z : Int32, (fH1 p0) = z := ⟨_, rfl⟩
  rw [hr5]
  show Goes p.tables e below G (T5.setTop (mkF m 28 #[.val (.int p0), .val (.int (1 : Int32)), .unset, .unset, .unset, .unset, .unset] [(.int r5)]))
  refine g_iconst C X5 at_28 (pc' := 29) rfl (v := 5) rfl ?_
  refine g_iloadN C X5 at_29 (pc' := 30) rfl rfl ?_
  refine g_callS C X5 (w_17 hw) (w_18 hw) (w_19 hw) (w_20 hw) (by decide) at_30 (rm3 l Z a0 hw [] (5 : Int32) p0 h0 n0 Z0) (by decide) (by decide) rfl pd_2 rfl (argsL := [(.int (5 : Int32)), (.int p0)]) (rest := [(.int r5)]) rfl (W := 1) (Nat.le_of_eq rfl) eq5 (by decide) (by decide) (pc' := 33) rfl (fun u6 T6 L6 X6 hQ6 => ?_)
  obtain ⟨rfl, Nq6, eq6⟩ := hQ6
  have N6 := Fr.app N5 Nq6
  obtain ⟨r6, hr6⟩ : ∃ z : Int32, fAdm (5 : Int32) p0 = z := ⟨_, rfl⟩
  rw [hr6]
  show Goes p.tables e below G (T6.setTop (mkF m 33 #[.val (.int p0), .val (.int (1 : Int32)), .unset, .unset, .unset, .unset, .unset] [(.int r6), (.int r5)]))
  refine g_icmp_ne C X6 at_33 (pcT := 40) (pcN := 36) (by decide) (by decide) rfl (fun hc33 => absurd (hr5.symm.trans ((own_h1 p0).trans hr6)) hc33) (fun hc33 => ?_)
  refine g_iconst C X6 at_36 (pc' := 37) rfl (v := 1) rfl ?_
  refine g_goto C X6 at_37 (pc' := 41) (by decide) (by decide) ?_
  refine g_istoreN C X6 at_41 (pc' := 42) rfl (w := (1 : Int32)) rfl (ls' := #[.val (.int p0), .val (.int (1 : Int32)), .val (.int (1 : Int32)), .unset, .unset, .unset, .unset]) rfl ?_
  refine g_getS C X6 (w_23 hw) Via.refl eq6 F6 at_42 (pc' := 45) rfl (fun T7 X7 e7 => ?_)
  refine g_iloadN C X7 at_45 (pc' := 46) rfl rfl ?_
  refine g_callV C X7 (w_3 hw) (w_4 hw) (notFace_of_selects (args := #[]) (mvT C.2.1 (w_6 hw))) (w_6 hw) (w_5 hw) (w_7 hw) (w_1 hw) (by decide) F7 at_46 (rm1_2 l Z a0 hw [] b2 p0 h0 n0 Z0 F7 F8) (by decide) (by decide) rfl pd_1 rfl (argsL := [(.int p0)]) (rest := []) rfl (W := 0) (Nat.le_of_eq rfl) e7 (by decide) (by decide) (pc' := 49) rfl (fun u8 T8 L8 X8 hQ8 => ?_)
  obtain ⟨rfl, Nq8, eq8⟩ := hQ8
  have N8 := Fr.app N6 Nq8
  obtain ⟨r8, hr8⟩ : ∃ z : Int32, (fH2 p0) = z := ⟨_, rfl⟩
  rw [hr8]
  show Goes p.tables e below G (T8.setTop (mkF m 49 #[.val (.int p0), .val (.int (1 : Int32)), .val (.int (1 : Int32)), .unset, .unset, .unset, .unset] [(.int r8)]))
  refine g_iconst C X8 at_49 (pc' := 50) rfl (v := 1) rfl ?_
  refine g_iloadN C X8 at_50 (pc' := 51) rfl rfl ?_
  refine g_callS C X8 (w_17 hw) (w_18 hw) (w_19 hw) (w_20 hw) (by decide) at_51 (rm3 l Z a0 hw [] (1 : Int32) p0 h0 n0 Z0) (by decide) (by decide) rfl pd_2 rfl (argsL := [(.int (1 : Int32)), (.int p0)]) (rest := [(.int r8)]) rfl (W := 1) (Nat.le_of_eq rfl) eq8 (by decide) (by decide) (pc' := 54) rfl (fun u9 T9 L9 X9 hQ9 => ?_)
  obtain ⟨rfl, Nq9, eq9⟩ := hQ9
  have N9 := Fr.app N8 Nq9
  obtain ⟨r9, hr9⟩ : ∃ z : Int32, fAdm (1 : Int32) p0 = z := ⟨_, rfl⟩
  rw [hr9]
  show Goes p.tables e below G (T9.setTop (mkF m 54 #[.val (.int p0), .val (.int (1 : Int32)), .val (.int (1 : Int32)), .unset, .unset, .unset, .unset] [(.int r9), (.int r8)]))
  refine g_icmp_ne C X9 at_54 (pcT := 61) (pcN := 57) (by decide) (by decide) rfl (fun hc54 => absurd (hr8.symm.trans ((own_h2 p0).trans hr9)) hc54) (fun hc54 => ?_)
  refine g_iconst C X9 at_57 (pc' := 58) rfl (v := 1) rfl ?_
  refine g_goto C X9 at_58 (pc' := 62) (by decide) (by decide) ?_
  refine g_istoreN C X9 at_62 (pc' := 63) rfl (w := (1 : Int32)) rfl (ls' := #[.val (.int p0), .val (.int (1 : Int32)), .val (.int (1 : Int32)), .val (.int (1 : Int32)), .unset, .unset, .unset]) rfl ?_
  refine g_getS C X9 (w_25 hw) Via.refl eq9 F9 at_63 (pc' := 66) rfl (fun T10 X10 e10 => ?_)
  refine g_iloadN C X10 at_66 (pc' := 67) rfl rfl ?_
  refine g_callV C X10 (w_3 hw) (w_4 hw) (notFace_of_selects (args := #[]) (mvT C.2.1 (w_6 hw))) (w_6 hw) (w_5 hw) (w_7 hw) (w_1 hw) (by decide) F10 at_67 (rm1_3 l Z a0 hw [] b3 p0 h0 n0 Z0 F10 F11) (by decide) (by decide) rfl pd_1 rfl (argsL := [(.int p0)]) (rest := []) rfl (W := 0) (Nat.le_of_eq rfl) e10 (by decide) (by decide) (pc' := 70) rfl (fun u11 T11 L11 X11 hQ11 => ?_)
  obtain ⟨rfl, Nq11, eq11⟩ := hQ11
  have N11 := Fr.app N9 Nq11
  obtain ⟨r11, hr11⟩ : ∃ z : Int32, (fH3 p0) = z := ⟨_, rfl⟩
  rw [hr11]
  show Goes p.tables e below G (T11.setTop (mkF m 70 #[.val (.int p0), .val (.int (1 : Int32)), .val (.int (1 : Int32)), .val (.int (1 : Int32)), .unset, .unset, .unset] [(.int r11)]))
  refine g_iconst C X11 at_70 (pc' := 71) rfl (v := 4) rfl ?_
  refine g_iloadN C X11 at_71 (pc' := 72) rfl rfl ?_
  refine g_callS C X11 (w_17 hw) (w_18 hw) (w_19 hw) (w_20 hw) (by decide) at_72 (rm3 l Z a0 hw [] (4 : Int32) p0 h0 n0 Z0) (by decide) (by decide) rfl pd_2 rfl (argsL := [(.int (4 : Int32)), (.int p0)]) (rest := [(.int r11)]) rfl (W := 1) (Nat.le_of_eq rfl) eq11 (by decide) (by decide) (pc' := 75) rfl (fun u12 T12 L12 X12 hQ12 => ?_)
  obtain ⟨rfl, Nq12, eq12⟩ := hQ12
  have N12 := Fr.app N11 Nq12
  obtain ⟨r12, hr12⟩ : ∃ z : Int32, fAdm (4 : Int32) p0 = z := ⟨_, rfl⟩
  rw [hr12]
  show Goes p.tables e below G (T12.setTop (mkF m 75 #[.val (.int p0), .val (.int (1 : Int32)), .val (.int (1 : Int32)), .val (.int (1 : Int32)), .unset, .unset, .unset] [(.int r12), (.int r11)]))
  refine g_icmp_ne C X12 at_75 (pcT := 82) (pcN := 78) (by decide) (by decide) rfl (fun hc75 => absurd (hr11.symm.trans ((own_h3 p0).trans hr12)) hc75) (fun hc75 => ?_)
  refine g_iconst C X12 at_78 (pc' := 79) rfl (v := 1) rfl ?_
  refine g_goto C X12 at_79 (pc' := 83) (by decide) (by decide) ?_
  refine g_istore C X12 at_83 (pc' := 85) rfl (w := (1 : Int32)) rfl (ls' := #[.val (.int p0), .val (.int (1 : Int32)), .val (.int (1 : Int32)), .val (.int (1 : Int32)), .val (.int (1 : Int32)), .unset, .unset]) rfl ?_
  refine g_getS C X12 (w_27 hw) Via.refl eq12 F12 at_85 (pc' := 88) rfl (fun T13 X13 e13 => ?_)
  refine g_iloadN C X13 at_88 (pc' := 89) rfl rfl ?_
  refine g_callV C X13 (w_3 hw) (w_4 hw) (notFace_of_selects (args := #[]) (mvT C.2.1 (w_6 hw))) (w_6 hw) (w_5 hw) (w_7 hw) (w_1 hw) (by decide) F13 at_89 (rm1_4 l Z a0 hw [] b4 p0 h0 n0 Z0 F13 F14) (by decide) (by decide) rfl pd_1 rfl (argsL := [(.int p0)]) (rest := []) rfl (W := 0) (Nat.le_of_eq rfl) e13 (by decide) (by decide) (pc' := 92) rfl (fun u14 T14 L14 X14 hQ14 => ?_)
  obtain ⟨rfl, Nq14, eq14⟩ := hQ14
  have N14 := Fr.app N12 Nq14
  obtain ⟨r14, hr14⟩ : ∃ z : Int32, (fH4 p0) = z := ⟨_, rfl⟩
  rw [hr14]
  show Goes p.tables e below G (T14.setTop (mkF m 92 #[.val (.int p0), .val (.int (1 : Int32)), .val (.int (1 : Int32)), .val (.int (1 : Int32)), .val (.int (1 : Int32)), .unset, .unset] [(.int r14)]))
  refine g_iconst C X14 at_92 (pc' := 93) rfl (v := 3) rfl ?_
  refine g_iloadN C X14 at_93 (pc' := 94) rfl rfl ?_
  refine g_callS C X14 (w_17 hw) (w_18 hw) (w_19 hw) (w_20 hw) (by decide) at_94 (rm3 l Z a0 hw [] (3 : Int32) p0 h0 n0 Z0) (by decide) (by decide) rfl pd_2 rfl (argsL := [(.int (3 : Int32)), (.int p0)]) (rest := [(.int r14)]) rfl (W := 1) (Nat.le_of_eq rfl) eq14 (by decide) (by decide) (pc' := 97) rfl (fun u15 T15 L15 X15 hQ15 => ?_)
  obtain ⟨rfl, Nq15, eq15⟩ := hQ15
  have N15 := Fr.app N14 Nq15
  obtain ⟨r15, hr15⟩ : ∃ z : Int32, fAdm (3 : Int32) p0 = z := ⟨_, rfl⟩
  rw [hr15]
  show Goes p.tables e below G (T15.setTop (mkF m 97 #[.val (.int p0), .val (.int (1 : Int32)), .val (.int (1 : Int32)), .val (.int (1 : Int32)), .val (.int (1 : Int32)), .unset, .unset] [(.int r15), (.int r14)]))
  refine g_icmp_ne C X15 at_97 (pcT := 104) (pcN := 100) (by decide) (by decide) rfl (fun hc97 => absurd (hr14.symm.trans ((own_h4 p0).trans hr15)) hc97) (fun hc97 => ?_)
  refine g_iconst C X15 at_100 (pc' := 101) rfl (v := 1) rfl ?_
  refine g_goto C X15 at_101 (pc' := 105) (by decide) (by decide) ?_
  refine g_istore C X15 at_105 (pc' := 107) rfl (w := (1 : Int32)) rfl (ls' := #[.val (.int p0), .val (.int (1 : Int32)), .val (.int (1 : Int32)), .val (.int (1 : Int32)), .val (.int (1 : Int32)), .val (.int (1 : Int32)), .unset]) rfl ?_
  refine g_getS C X15 (w_29 hw) Via.refl eq15 F15 at_107 (pc' := 110) rfl (fun T16 X16 e16 => ?_)
  refine g_iloadN C X16 at_110 (pc' := 111) rfl rfl ?_
  refine g_callV C X16 (w_3 hw) (w_4 hw) (notFace_of_selects (args := #[]) (mvT C.2.1 (w_6 hw))) (w_6 hw) (w_5 hw) (w_7 hw) (w_1 hw) (by decide) F16 at_111 (rm1_5 l Z a0 hw [] b5 p0 h0 n0 Z0 F16 F17) (by decide) (by decide) rfl pd_1 rfl (argsL := [(.int p0)]) (rest := []) rfl (W := 0) (Nat.le_of_eq rfl) e16 (by decide) (by decide) (pc' := 114) rfl (fun u17 T17 L17 X17 hQ17 => ?_)
  obtain ⟨rfl, Nq17, eq17⟩ := hQ17
  have N17 := Fr.app N15 Nq17
  obtain ⟨r17, hr17⟩ : ∃ z : Int32, (fH5 p0) = z := ⟨_, rfl⟩
  rw [hr17]
  show Goes p.tables e below G (T17.setTop (mkF m 114 #[.val (.int p0), .val (.int (1 : Int32)), .val (.int (1 : Int32)), .val (.int (1 : Int32)), .val (.int (1 : Int32)), .val (.int (1 : Int32)), .unset] [(.int r17)]))
  refine g_bipush C X17 at_114 (pc' := 116) rfl (v := 6) rfl ?_
  refine g_iloadN C X17 at_116 (pc' := 117) rfl rfl ?_
  refine g_callS C X17 (w_17 hw) (w_18 hw) (w_19 hw) (w_20 hw) (by decide) at_117 (rm3 l Z a0 hw [] (6 : Int32) p0 h0 n0 Z0) (by decide) (by decide) rfl pd_2 rfl (argsL := [(.int (6 : Int32)), (.int p0)]) (rest := [(.int r17)]) rfl (W := 1) (Nat.le_of_eq rfl) eq17 (by decide) (by decide) (pc' := 120) rfl (fun u18 T18 L18 X18 hQ18 => ?_)
  obtain ⟨rfl, Nq18, eq18⟩ := hQ18
  have N18 := Fr.app N17 Nq18
  obtain ⟨r18, hr18⟩ : ∃ z : Int32, fAdm (6 : Int32) p0 = z := ⟨_, rfl⟩
  rw [hr18]
  show Goes p.tables e below G (T18.setTop (mkF m 120 #[.val (.int p0), .val (.int (1 : Int32)), .val (.int (1 : Int32)), .val (.int (1 : Int32)), .val (.int (1 : Int32)), .val (.int (1 : Int32)), .unset] [(.int r18), (.int r17)]))
  refine g_icmp_ne C X18 at_120 (pcT := 127) (pcN := 123) (by decide) (by decide) rfl (fun hc120 => absurd (hr17.symm.trans ((own_h5 p0).trans hr18)) hc120) (fun hc120 => ?_)
  refine g_iconst C X18 at_123 (pc' := 124) rfl (v := 1) rfl ?_
  refine g_goto C X18 at_124 (pc' := 128) (by decide) (by decide) ?_
  refine g_istore C X18 at_128 (pc' := 130) rfl (w := (1 : Int32)) rfl (ls' := #[.val (.int p0), .val (.int (1 : Int32)), .val (.int (1 : Int32)), .val (.int (1 : Int32)), .val (.int (1 : Int32)), .val (.int (1 : Int32)), .val (.int (1 : Int32))]) rfl ?_
  refine g_iloadN C X18 at_130 (pc' := 131) rfl rfl ?_
  refine g_if_eq C X18 at_131 (pcT := 161) (pcN := 134) (by decide) (by decide) rfl (fun hc131 => absurd hc131 (by decide)) (fun hc131 => ?_)
  refine g_iloadN C X18 at_134 (pc' := 135) rfl rfl ?_
  refine g_if_eq C X18 at_135 (pcT := 161) (pcN := 138) (by decide) (by decide) rfl (fun hc135 => absurd hc135 (by decide)) (fun hc135 => ?_)
  refine g_iloadN C X18 at_138 (pc' := 139) rfl rfl ?_
  refine g_if_eq C X18 at_139 (pcT := 161) (pcN := 142) (by decide) (by decide) rfl (fun hc139 => absurd hc139 (by decide)) (fun hc139 => ?_)
  refine g_iload C X18 at_142 (pc' := 144) rfl rfl ?_
  refine g_if_eq C X18 at_144 (pcT := 161) (pcN := 147) (by decide) (by decide) rfl (fun hc144 => absurd hc144 (by decide)) (fun hc144 => ?_)
  refine g_iload C X18 at_147 (pc' := 149) rfl rfl ?_
  refine g_if_eq C X18 at_149 (pcT := 161) (pcN := 152) (by decide) (by decide) rfl (fun hc149 => absurd hc149 (by decide)) (fun hc149 => ?_)
  refine g_iload C X18 at_152 (pc' := 154) rfl rfl ?_
  refine g_if_eq C X18 at_154 (pcT := 161) (pcN := 157) (by decide) (by decide) rfl (fun hc154 => absurd hc154 (by decide)) (fun hc154 => ?_)
  refine g_iconst C X18 at_157 (pc' := 158) rfl (v := 1) rfl ?_
  refine g_goto C X18 at_158 (pc' := 162) (by decide) (by decide) ?_
  exact g_retN C X18 K (by simp) at_162 (by decide) (by decide) eq18 ⟨rfl, N18⟩
theorem w_2 {Z : State} {a0 : Array Value} (hw : ∀ d ∈ tables_1, d.before a0 Z = true) : Jvm.Cond.before (Jvm.Cond.laysStatic "com/example/tokenweave/tokenweave/engine/Comparison$EOperator" "EQUAL" "Lcom/example/tokenweave/tokenweave/engine/Comparison$EOperator;") a0 Z = true := hw _ (List.mem_of_getElem? (i := 2) rfl)
theorem w_22 {Z : State} {a0 : Array Value} (hw : ∀ d ∈ tables_1, d.before a0 Z = true) : Jvm.Cond.before (Jvm.Cond.laysStatic "com/example/tokenweave/tokenweave/engine/Comparison$EOperator" "NOT_EQUAL" "Lcom/example/tokenweave/tokenweave/engine/Comparison$EOperator;") a0 Z = true := hw _ (List.mem_of_getElem? (i := 22) rfl)
theorem w_24 {Z : State} {a0 : Array Value} (hw : ∀ d ∈ tables_1, d.before a0 Z = true) : Jvm.Cond.before (Jvm.Cond.laysStatic "com/example/tokenweave/tokenweave/engine/Comparison$EOperator" "LESS" "Lcom/example/tokenweave/tokenweave/engine/Comparison$EOperator;") a0 Z = true := hw _ (List.mem_of_getElem? (i := 24) rfl)
theorem w_26 {Z : State} {a0 : Array Value} (hw : ∀ d ∈ tables_1, d.before a0 Z = true) : Jvm.Cond.before (Jvm.Cond.laysStatic "com/example/tokenweave/tokenweave/engine/Comparison$EOperator" "GREATER" "Lcom/example/tokenweave/tokenweave/engine/Comparison$EOperator;") a0 Z = true := hw _ (List.mem_of_getElem? (i := 26) rfl)
theorem w_28 {Z : State} {a0 : Array Value} (hw : ∀ d ∈ tables_1, d.before a0 Z = true) : Jvm.Cond.before (Jvm.Cond.laysStatic "com/example/tokenweave/tokenweave/engine/Comparison$EOperator" "LESS_OR_EQUAL" "Lcom/example/tokenweave/tokenweave/engine/Comparison$EOperator;") a0 Z = true := hw _ (List.mem_of_getElem? (i := 28) rfl)
theorem w_30 {Z : State} {a0 : Array Value} (hw : ∀ d ∈ tables_1, d.before a0 Z = true) : Jvm.Cond.before (Jvm.Cond.laysStatic "com/example/tokenweave/tokenweave/engine/Comparison$EOperator" "GREATER_OR_EQUAL" "Lcom/example/tokenweave/tokenweave/engine/Comparison$EOperator;") a0 Z = true := hw _ (List.mem_of_getElem? (i := 30) rfl)
set_option maxRecDepth 65536 in
set_option maxHeartbeats 40000000 in
theorem comes_1 {Post : Tables → Env → Array Value → State → Outcome → State → Prop} (hpost : ∀ tb e args s v u, (limb_1_1.after args s (.returned v) u = true ∧ limb_1_2.after args s (.returned v) u = true ∧ True) → FrameEnd s (.returned v) u (Jvm.fieldLocs frame_1_writes args s ++ Jvm.arrayLocs frame_1_arrays args s ++ Jvm.staticLocs frame_1_statics s) 0 0 → Post tb e args s (.returned v) u) :
    ArmFor flags0 classFile x code maxLocals ret World_1 tables_1 room_1 Calls_1 rest_1 Pre_1 Post := by
  intro l hfl _ _ p e ha hc hk s m args below hf hA hF happ hP
  obtain ⟨hcalls, hrest, hpre⟩ := hP
  obtain ⟨-, -, -, hnamed, -, -, -, hat⟩ := (Spec.applies_iff hf).mp happ
  obtain ⟨hg, hn⟩ := and_e (Cond.before_iff.mp (show (Jvm.Cond.and given_1 narrow_1).before args s = true from hpre))
  obtain ⟨gc, g0⟩ := and_e hg
  have k0 := g0
  obtain ⟨w0, rfl⟩ : ∃ w0 : Value, args = #[w0] := by
    have hs : args.size = 1 := by simpa [Cond.value, given_1] using gc
    obtain ⟨L⟩ := args
    match L, hs with
    | [w0], _ => exact ⟨w0, rfl⟩
  have hw := fun d (hd : d ∈ tables_1) => atoms_spec (ws := Jvm.Cond.code x code maxLocals ret :: tables_1) hat d (List.mem_cons_of_mem _ hd)
  obtain ⟨i0, ei0⟩ := is_v k0
  obtain rfl : w0 = (.int i0) := Option.some.inj ei0
  have m0 := hn
  obtain ⟨x0, m0a⟩ := and_e m0
  obtain ⟨y0, m1⟩ := and_e m0a
  obtain ⟨b0, t0, E0⟩ := ref_of_exactly x0
  have S0 := Sta.start t0 (Or.inr ⟨(w_1 hw), (w_2 hw)⟩)
  have O0 := fldI_of t0 y0
  obtain ⟨x1, m1a⟩ := and_e m1
  obtain ⟨y1, m2⟩ := and_e m1a
  obtain ⟨b1, t1, E1⟩ := ref_of_exactly x1
  have S1 := Sta.start t1 (Or.inr ⟨(w_1 hw), (w_22 hw)⟩)
  have O1 := fldI_of t1 y1
  obtain ⟨x2, m2a⟩ := and_e m2
  obtain ⟨y2, m3⟩ := and_e m2a
  obtain ⟨b2, t2, E2⟩ := ref_of_exactly x2
  have S2 := Sta.start t2 (Or.inr ⟨(w_1 hw), (w_24 hw)⟩)
  have O2 := fldI_of t2 y2
  obtain ⟨x3, m3a⟩ := and_e m3
  obtain ⟨y3, m4⟩ := and_e m3a
  obtain ⟨b3, t3, E3⟩ := ref_of_exactly x3
  have S3 := Sta.start t3 (Or.inr ⟨(w_1 hw), (w_26 hw)⟩)
  have O3 := fldI_of t3 y3
  obtain ⟨x4, m4a⟩ := and_e m4
  obtain ⟨y4, m5⟩ := and_e m4a
  obtain ⟨b4, t4, E4⟩ := ref_of_exactly x4
  have S4 := Sta.start t4 (Or.inr ⟨(w_1 hw), (w_28 hw)⟩)
  have O4 := fldI_of t4 y4
  obtain ⟨x5, m5a⟩ := and_e m5
  have y5 := m5a
  obtain ⟨b5, t5, E5⟩ := ref_of_exactly x5
  have S5 := Sta.start t5 (Or.inr ⟨(w_1 hw), (w_30 hw)⟩)
  have O5 := fldI_of t5 y5
  obtain ⟨n, o, h1, h2, h3, _, L, rfl, ⟨rfl, N⟩, hq⟩ := rm0 l s _ hw tables_1 i0 b0 b1 b2 b3 b4 b5 s.heap s.heap.size (Nat.le_refl _) S0 E0 O0 S1 E1 O1 S2 E2 O2 S3 E3 O3 S4 E4 O4 S5 E5 O5 p e ha hc hk s m _ below hf ((Spec.applies_iff_loose hf).mp happ).1 ⟨rfl, State.Warmed39.refl s, rfl⟩ trivial
  refine ⟨n, _, h1, h2, h3, hpost _ _ _ _ _ _ ⟨Cond.after_iff.mpr rfl, Cond.after_iff.mpr (eq_i res_at (Term.int_eval (1)) rfl), trivial⟩ ⟨hq.1, hq.2.1, (hq.2.2.sift fun y hy => Or.inr (N y hy)).mono (by decide) (by decide)⟩⟩
theorem main_1_1 : Claimed_1_1 := comes_1 fun _ _ _ _ _ _ h hF => ⟨h.1, hF⟩
theorem main_1_2 : Claimed_1_2 := comes_1 fun _ _ _ _ _ _ h hF => ⟨h.2.1, hF⟩
end Jvm.Pilot.@@N@@
namespace Jvm.Pilot.@@N@@
open Jvm Jvm.ClassFile Sem Op Lib Jvm.Free Jvm.Stand Jvm.Pilot.@@N@@.Jvm.D
/-! MADE BY PROGRAM (witnessworld.py) out of the Statement's table words and the real class files: 12 classes; the members and pool entries that the words name. The judged class is class 1, her method 2. -/
namespace start1
open Jvm.ClassFile
def u (s : String) : CpInfo := .utf8 (stringToUtf16 s)
/-- a pool by its gaps: so many unusable entries, then the entry; so many at the end -/
def gap : Nat → List CpInfo → List CpInfo
  | 0, r => r
  | n + 1, r => .unusable :: gap n r
def poolList (es : List (Nat × CpInfo)) (last : Nat) : List CpInfo := es.foldr (fun e r => gap e.1 (e.2 :: r)) (gap last [])
def pool (es : List (Nat × CpInfo)) (last : Nat) : Array CpInfo := ⟨poolList es last⟩
def fileOf (pool : Array CpInfo) (this : Nat) (attrs : Array Attribute := #[]) (ms : Array MethodInfo := #[]) (fl : Nat := 33) (sup : Nat := 0) (ifs : Array Nat := #[]) (fds : Array FieldInfo := #[]) : ClassFile where
  minorVersion := 0
  majorVersion := 65
  constantPool := pool
  accessFlags := fl
  thisClass := this
  superClass := sup
  interfaces := ifs
  fields := fds
  methods := ms
  attributes := attrs
def plain (name : String) (sup : Option ClassId) : Class where
  name := name
  kind := .ordinary
  loader := none
  accessFlags := 33
  super := sup
  interfaces := #[]
  cf := none
  fields := #[]
  methods := #[]
  instanceTypes := #[]
  staticTypes := #[]
  resolved := #[]
  callSites := []
  init := .initialized
  statics := none
  mirror := none

def pool0 : Array CpInfo := pool [(5, u "<init>"), (0, u "()V"), (1, .class_ 10), (1, u "java/lang/Object")] 113

def k0m0 : Method := { name := "<init>", desc := "()V", sig := { parameters := [], returnType := none }, accessFlags := 1, code := none }
/-- java/lang/Object -/
def k0 : Class := { plain "java/lang/Object" none with
  accessFlags := 33
  interfaces := #[]
  cf := some (fileOf pool0 8 #[] #[{ accessFlags := 1, nameIndex := 5, descriptorIndex := 6, attributes := #[] }] 33 0 #[] #[])
  fields := #[]
  methods := #[k0m0]
  instanceTypes := #[]
  staticTypes := #[]
  resolved := Array.replicate 124 none
  statics := none }

def pool1 : Array CpInfo := pool [(2, .class_ 4), (1, u "java/lang/Object"), (0, u "<init>"), (0, u "()V"), (0, .fieldref 8 9), (0, .class_ 10), (0, .nameAndType 11 12), (0, u "com/example/tokenweave/tokenweave/engine/Comparison$EOperator"), (0, u "EQUAL"), (0, u "Lcom/example/tokenweave/tokenweave/engine/Comparison$EOperator;"), (0, .methodref 8 14), (0, .nameAndType 15 16), (0, u "holds"), (0, u "(I)Z"), (0, .methodref 18 19), (0, .class_ 20), (0, .nameAndType 21 22), (0, u "com/example/tokenweave/tokenweave/engine/EOperatorHoldsPinLaw"), (0, u "admits"), (0, u "(II)Z"), (0, .fieldref 8 24), (0, .nameAndType 25 12), (0, u "NOT_EQUAL"), (0, .fieldref 8 27), (0, .nameAndType 28 12), (0, u "LESS"), (0, .fieldref 8 30), (0, .nameAndType 31 12), (0, u "GREATER"), (0, .fieldref 8 33), (0, .nameAndType 34 12), (0, u "LESS_OR_EQUAL"), (0, .fieldref 8 36), (0, .nameAndType 37 12), (0, u "GREATER_OR_EQUAL"), (3, u "law")] 6

def k1m0 : Method := { name := "<init>", desc := "()V", sig := { parameters := [], returnType := none }, accessFlags := 1, code := none }
def k1c1 : Code := { maxStack := 2, maxLocals := 3, code := method_2_code, exceptionTable := #[], attributes := #[] }
def k1m1 : Method := { name := "admits", desc := "(II)Z", sig := { parameters := [.int, .int], returnType := some .boolean }, accessFlags := 10, code := some k1c1 }
def k1c2 : Code := { maxStack := 3, maxLocals := 7, code := code, exceptionTable := #[], attributes := #[] }
def k1m2 : Method := { name := "law", desc := "(I)Z", sig := { parameters := [.int], returnType := some .boolean }, accessFlags := 9, code := some k1c2 }
/-- com/example/tokenweave/tokenweave/engine/EOperatorHoldsPinLaw -/
def k1 : Class := { plain "com/example/tokenweave/tokenweave/engine/EOperatorHoldsPinLaw" (some 0) with
  accessFlags := 49
  interfaces := #[]
  cf := some (fileOf pool1 18 #[] #[{ accessFlags := 1, nameIndex := 5, descriptorIndex := 6, attributes := #[] }, { accessFlags := 10, nameIndex := 21, descriptorIndex := 22, attributes := #[] }, { accessFlags := 9, nameIndex := 41, descriptorIndex := 16, attributes := #[] }] 49 2 #[] #[])
  fields := #[]
  methods := #[k1m0, k1m1, k1m2]
  instanceTypes := #[]
  staticTypes := #[]
  resolved := Array.replicate 48 none
  statics := none }

def pool2 : Array CpInfo := pool [(1, .class_ 2), (0, u "java/lang/constant/Constable"), (0, .class_ 4), (0, u "java/lang/Object")] 6

/-- java/lang/constant/Constable -/
def k2 : Class := { plain "java/lang/constant/Constable" (some 0) with
  accessFlags := 1537
  interfaces := #[]
  cf := some (fileOf pool2 1 #[] #[] 1537 3 #[] #[])
  fields := #[]
  methods := #[]
  instanceTypes := #[]
  staticTypes := #[]
  resolved := Array.replicate 11 none
  statics := none }

def pool3 : Array CpInfo := pool [(1, .class_ 2), (0, u "java/lang/Comparable"), (0, .class_ 4), (0, u "java/lang/Object")] 7

/-- java/lang/Comparable -/
def k3 : Class := { plain "java/lang/Comparable" (some 0) with
  accessFlags := 1537
  interfaces := #[]
  cf := some (fileOf pool3 1 #[] #[] 1537 3 #[] #[])
  fields := #[]
  methods := #[]
  instanceTypes := #[]
  staticTypes := #[]
  resolved := Array.replicate 12 none
  statics := none }

def pool4 : Array CpInfo := pool [(1, .class_ 2), (0, u "java/io/Serializable"), (0, .class_ 4), (0, u "java/lang/Object")] 2

/-- java/io/Serializable -/
def k4 : Class := { plain "java/io/Serializable" (some 0) with
  accessFlags := 1537
  interfaces := #[]
  cf := some (fileOf pool4 1 #[] #[] 1537 3 #[] #[])
  fields := #[]
  methods := #[]
  instanceTypes := #[]
  staticTypes := #[]
  resolved := Array.replicate 7 none
  statics := none }

def pool5 : Array CpInfo := pool [(2, .class_ 4), (1, u "java/lang/Enum"), (0, u "name"), (0, u "Ljava/lang/String;"), (0, .fieldref 2 8), (0, .nameAndType 9 10), (0, u "ordinal"), (0, u "I"), (1, .class_ 14), (1, u "java/lang/Object"), (4, u "hash"), (86, .class_ 108), (1, u "java/lang/Enum$EnumDesc"), (2, .class_ 112), (0, u "java/lang/constant/Constable"), (0, .class_ 114), (0, u "java/lang/Comparable"), (0, .class_ 116), (0, u "java/io/Serializable"), (9, u "()I")] 77

def k5c0 : Code := { maxStack := 1, maxLocals := 1, code := jdk_37_method_2_code, exceptionTable := #[], attributes := #[] }
def k5m0 : Method := { name := "ordinal", desc := "()I", sig := { parameters := [], returnType := some .int }, accessFlags := 17, code := some k5c0 }
/-- java/lang/Enum -/
def k5 : Class := { plain "java/lang/Enum" (some 0) with
  accessFlags := 1057
  interfaces := #[2, 3, 4]
  cf := some (fileOf pool5 2 #[.nestMembers #[106]] #[{ accessFlags := 17, nameIndex := 9, descriptorIndex := 126, attributes := #[] }] 1057 12 #[111, 113, 115] #[{ accessFlags := 18, nameIndex := 5, descriptorIndex := 6, attributes := #[] }, { accessFlags := 18, nameIndex := 9, descriptorIndex := 10, attributes := #[] }, { accessFlags := 2, nameIndex := 19, descriptorIndex := 10, attributes := #[] }])
  fields := #[{ name := "name", type := (.object "java/lang/String"), accessFlags := 18, slot := 0, constantValue := 0 }, { name := "ordinal", type := .int, accessFlags := 18, slot := 1, constantValue := 0 }, { name := "hash", type := .int, accessFlags := 2, slot := 2, constantValue := 0 }]
  methods := #[k5m0]
  instanceTypes := #[(.object "java/lang/String"), .int, .int]
  staticTypes := #[]
  resolved := Array.replicate 204 none
  statics := none }

def pool6 : Array CpInfo := pool [(1, .class_ 2), (0, u "com/example/tokenweave/tokenweave/engine/Comparison$EOperator"), (2, u "EQUAL"), (0, u "Lcom/example/tokenweave/tokenweave/engine/Comparison$EOperator;"), (2, u "NOT_EQUAL"), (2, u "LESS"), (2, u "GREATER"), (2, u "LESS_OR_EQUAL"), (2, u "GREATER_OR_EQUAL"), (2, u "$VALUES"), (0, u "[Lcom/example/tokenweave/tokenweave/engine/Comparison$EOperator;"), (6, .class_ 34), (1, u "java/lang/Enum"), (8, u "m_sSymbol"), (0, u "Ljava/lang/String;"), (10, .methodref 1 56), (0, .nameAndType 57 58), (0, u "ordinal"), (0, u "()I"), (37, u "holds"), (0, u "(I)Z"), (6, .class_ 105), (0, u "com/example/tokenweave/tokenweave/engine/Comparison")] 2

def k6c0 : Code := { maxStack := 4, maxLocals := 2, code := prog_36_method_5_code, exceptionTable := #[], attributes := #[] }
def k6m0 : Method := { name := "holds", desc := "(I)Z", sig := { parameters := [.int], returnType := some .boolean }, accessFlags := 0, code := some k6c0 }
/-- com/example/tokenweave/tokenweave/engine/Comparison$EOperator -/
def k6 : Class := { plain "com/example/tokenweave/tokenweave/engine/Comparison$EOperator" (some 5) with
  accessFlags := 16432
  interfaces := #[]
  cf := some (fileOf pool6 1 #[.nestHost 104] #[{ accessFlags := 0, nameIndex := 96, descriptorIndex := 97, attributes := #[] }] 16432 32 #[] #[{ accessFlags := 16409, nameIndex := 5, descriptorIndex := 6, attributes := #[] }, { accessFlags := 16409, nameIndex := 9, descriptorIndex := 6, attributes := #[] }, { accessFlags := 16409, nameIndex := 12, descriptorIndex := 6, attributes := #[] }, { accessFlags := 16409, nameIndex := 15, descriptorIndex := 6, attributes := #[] }, { accessFlags := 16409, nameIndex := 18, descriptorIndex := 6, attributes := #[] }, { accessFlags := 16409, nameIndex := 21, descriptorIndex := 6, attributes := #[] }, { accessFlags := 18, nameIndex := 43, descriptorIndex := 44, attributes := #[] }, { accessFlags := 4122, nameIndex := 24, descriptorIndex := 25, attributes := #[] }])
  fields := #[{ name := "EQUAL", type := (.object "com/example/tokenweave/tokenweave/engine/Comparison$EOperator"), accessFlags := 16409, slot := 0, constantValue := 0 }, { name := "NOT_EQUAL", type := (.object "com/example/tokenweave/tokenweave/engine/Comparison$EOperator"), accessFlags := 16409, slot := 1, constantValue := 0 }, { name := "LESS", type := (.object "com/example/tokenweave/tokenweave/engine/Comparison$EOperator"), accessFlags := 16409, slot := 2, constantValue := 0 }, { name := "GREATER", type := (.object "com/example/tokenweave/tokenweave/engine/Comparison$EOperator"), accessFlags := 16409, slot := 3, constantValue := 0 }, { name := "LESS_OR_EQUAL", type := (.object "com/example/tokenweave/tokenweave/engine/Comparison$EOperator"), accessFlags := 16409, slot := 4, constantValue := 0 }, { name := "GREATER_OR_EQUAL", type := (.object "com/example/tokenweave/tokenweave/engine/Comparison$EOperator"), accessFlags := 16409, slot := 5, constantValue := 0 }, { name := "m_sSymbol", type := (.object "java/lang/String"), accessFlags := 18, slot := 3, constantValue := 0 }, { name := "$VALUES", type := (.array (.object "com/example/tokenweave/tokenweave/engine/Comparison$EOperator")), accessFlags := 4122, slot := 6, constantValue := 0 }]
  methods := #[k6m0]
  instanceTypes := #[(.object "java/lang/String"), .int, .int, (.object "java/lang/String")]
  staticTypes := #[(.object "com/example/tokenweave/tokenweave/engine/Comparison$EOperator"), (.object "com/example/tokenweave/tokenweave/engine/Comparison$EOperator"), (.object "com/example/tokenweave/tokenweave/engine/Comparison$EOperator"), (.object "com/example/tokenweave/tokenweave/engine/Comparison$EOperator"), (.object "com/example/tokenweave/tokenweave/engine/Comparison$EOperator"), (.object "com/example/tokenweave/tokenweave/engine/Comparison$EOperator"), (.array (.object "com/example/tokenweave/tokenweave/engine/Comparison$EOperator"))]
  resolved := Array.replicate 108 none
  statics := some 0 }

def pool7 : Array CpInfo := pool [(1, u "java/lang/Cloneable"), (0, .class_ 1), (0, u "java/lang/Object"), (0, .class_ 3)] 3

/-- java/lang/Cloneable -/
def k7 : Class := { plain "java/lang/Cloneable" (some 0) with
  accessFlags := 1537
  interfaces := #[]
  cf := some (fileOf pool7 2 #[] #[] 1537 4 #[] #[])
  fields := #[]
  methods := #[]
  instanceTypes := #[]
  staticTypes := #[]
  resolved := Array.replicate 8 none
  statics := none }

/-- the primitive byte -/
def k8 : Class := { plain "byte" none with kind := .primitive 'B', accessFlags := 0x411 }
/-- [B -/
def k9 : Class := { plain "[B" (some 0) with kind := .array 8 .byte, interfaces := #[7, 4], accessFlags := 1041 }

/-- the primitive int -/
def k10 : Class := { plain "int" none with kind := .primitive 'I', accessFlags := 0x411 }
/-- [I -/
def k11 : Class := { plain "[I" (some 0) with kind := .array 10 .int, interfaces := #[7, 4], accessFlags := 1041 }

def heap : Heap := #[{ cls := 6, slots := #[.ref 1, .ref 2, .ref 3, .ref 4, .ref 5, .ref 6, .null], vm := .statics 6 },
  { cls := 6, slots := #[.null, .int 0, .int 0, .null], vm := .none },
  { cls := 6, slots := #[.null, .int 1, .int 0, .null], vm := .none },
  { cls := 6, slots := #[.null, .int 2, .int 0, .null], vm := .none },
  { cls := 6, slots := #[.null, .int 3, .int 0, .null], vm := .none },
  { cls := 6, slots := #[.null, .int 4, .int 0, .null], vm := .none },
  { cls := 6, slots := #[.null, .int 5, .int 0, .null], vm := .none }]
def classes : Array Class := #[k0, k1, k2, k3, k4, k5, k6, k7, k8, k9, k10, k11]
def interned : List (Array UInt16 × Addr) := []
def slotsUsed : Nat := 31
def theMethod : MethodId := ⟨1, 2⟩
def args0 : Array Value := #[.int 5]
def aboutOver (below : List Frame) : State where
  vm := { classes := classes, interned := interned.toArray }
  heap := heap
  slotsUsed := slotsUsed
  threads := #[{ frames := .invoking theMethod args0 :: below }]
def below0 : List Frame := [.native { method := ⟨0, 0⟩, args := #[] }]
def about1 : State := aboutOver below0
def p0 : Program := .bare "" "" ""
def e0 : Env := launch0.env 0 0 0
theorem w_frames : about1.frames = Frame.invoking theMethod args0 :: below0 := rfl
set_option maxRecDepth 65536 in
theorem w_args : argsFit about1.vm theMethod args0 = true := by decide +kernel
set_option maxRecDepth 65536 in
theorem w_heap : heapFits about1 = true := by decide +kernel
set_option maxRecDepth 65536 in
theorem w_runnable : about1.curStatus? = some .runnable := by decide +kernel
set_option maxRecDepth 65536 in
theorem w_alone : about1.alone = true := by decide +kernel
set_option maxRecDepth 65536 in
theorem w_named : about1.methodNamed? x = some theMethod := by decide +kernel
set_option maxRecDepth 65536 in
theorem w_hears : about1.hears theMethod below0 = true := by decide +kernel
set_option maxRecDepth 65536 in
theorem w_ripe : about1.ripe theMethod args0 below0 = true := by decide +kernel
theorem w_running : about1.status = .running := rfl
set_option maxRecDepth 65536 in
theorem w_room : about1.hasRoom e0.platform room_1 = true :=
  launch0.hasRoom_least _ room_1 (by decide +kernel) (by decide +kernel) (by decide +kernel) (by decide +kernel) (by decide +kernel) (by decide +kernel)
theorem allAtoms_all (ts : List Jvm.Cond) (a : Array Jvm.Value) (st : Jvm.State) : (allAtoms ts).before a st = ts.all (fun c => c.before a st) := by
  induction ts with
  | nil => rfl
  | cons c t ih =>
    show (Jvm.Cond.and c (allAtoms t)).before a st = _
    rw [Jvm.Cond.before_and, ih, List.all_cons]
def words1 : List Jvm.Cond := Jvm.Cond.code x code maxLocals ret :: tables_1
/-- a 'code' word, met by the world's own term for the bytes: nothing is compared byte by byte -/
theorem code_word {y : MethodName} {bytes : ByteArray} {mx : Nat} {rt : Option FieldType} {a : Array Value} {s : State} {m : MethodId} {meth : Method} {c : Code} (h1 : s.methodNamed? y = some m) (h2 : s.vm.method? m = some meth) (h3 : meth.code = some c) (h4 : c.code = bytes)
    (h5 : (c.maxLocals == mx && c.exceptionTable.isEmpty && decide (c.maxStack ≤ mostOperands) && decide (meth.sig.returnType = rt) && !meth.locks && decide (parseMethodDescriptor y.desc = some meth.sig)) = true) : (Jvm.Cond.code y bytes mx rt).before a s = true := by
  simp only [Bool.and_eq_true, beq_iff_eq, Bool.not_eq_true', decide_eq_true_eq] at h5
  obtain ⟨⟨⟨⟨⟨g1, g2⟩, g3⟩, g4⟩, g5⟩, g6⟩ := h5
  simp [Cond.before, Cond.holds, Cond.value, h1, h2, h3, h4, g1, g2, g3, g4, g5, g6]
def isCode : Jvm.Cond → Bool
  | .code _ _ _ _ => true
  | _ => false
theorem all_split {L : List Jvm.Cond} {P : Jvm.Cond → Bool} (h1 : L.all (fun c => isCode c || P c) = true) (h2 : ∀ c ∈ L.filter isCode, P c = true) : L.all P = true := by
  refine List.all_eq_true.mpr fun c hc => ?_
  have h := List.all_eq_true.mp h1 c hc
  rcases Bool.eq_false_or_eq_true (isCode c) with hi | hi
  · exact h2 c (List.mem_filter.mpr ⟨hc, hi⟩)
  · simpa [hi] using h
set_option maxRecDepth 65536 in
theorem w_c0 : (Jvm.Cond.code x code maxLocals ret).before args0 about1 = true := code_word (m := ⟨1, 2⟩) (meth := k1m2) (c := k1c2) (by decide +kernel) rfl rfl rfl (by decide +kernel)
set_option maxRecDepth 65536 in
theorem w_c1 : (Jvm.Cond.code ({ cls := "com/example/tokenweave/tokenweave/engine/Comparison$EOperator", name := "holds", desc := "(I)Z" } : Jvm.MethodName) prog_36_method_5_code (2 : Nat) (Option.some Jvm.ClassFile.FieldType.boolean)).before args0 about1 = true := code_word (m := ⟨6, 0⟩) (meth := k6m0) (c := k6c0) (by decide +kernel) rfl rfl rfl (by decide +kernel)
set_option maxRecDepth 65536 in
theorem w_c2 : (Jvm.Cond.code ({ cls := "java/lang/Enum", name := "ordinal", desc := "()I" } : Jvm.MethodName) jdk_37_method_2_code (1 : Nat) (Option.some Jvm.ClassFile.FieldType.int)).before args0 about1 = true := code_word (m := ⟨5, 0⟩) (meth := k5m0) (c := k5c0) (by decide +kernel) rfl rfl rfl (by decide +kernel)
set_option maxRecDepth 65536 in
theorem w_c3 : (Jvm.Cond.code ({ cls := "com/example/tokenweave/tokenweave/engine/EOperatorHoldsPinLaw", name := "admits", desc := "(II)Z" } : Jvm.MethodName) method_2_code (3 : Nat) (Option.some Jvm.ClassFile.FieldType.boolean)).before args0 about1 = true := code_word (m := ⟨1, 1⟩) (meth := k1m1) (c := k1c1) (by decide +kernel) rfl rfl rfl (by decide +kernel)
def codes1 : List Jvm.Cond := [Jvm.Cond.code x code maxLocals ret, Jvm.Cond.code ({ cls := "com/example/tokenweave/tokenweave/engine/Comparison$EOperator", name := "holds", desc := "(I)Z" } : Jvm.MethodName) prog_36_method_5_code (2 : Nat) (Option.some Jvm.ClassFile.FieldType.boolean), Jvm.Cond.code ({ cls := "java/lang/Enum", name := "ordinal", desc := "()I" } : Jvm.MethodName) jdk_37_method_2_code (1 : Nat) (Option.some Jvm.ClassFile.FieldType.int), Jvm.Cond.code ({ cls := "com/example/tokenweave/tokenweave/engine/EOperatorHoldsPinLaw", name := "admits", desc := "(II)Z" } : Jvm.MethodName) method_2_code (3 : Nat) (Option.some Jvm.ClassFile.FieldType.boolean)]
set_option maxRecDepth 65536 in
theorem codes_eq : words1.filter isCode = codes1 := rfl
theorem w_codes : ∀ c ∈ words1.filter isCode, c.before args0 about1 = true := by
  rw [codes_eq]
  intro c hc
  simp only [codes1, List.mem_cons, List.not_mem_nil, or_false] at hc
  rcases hc with rfl | rfl | rfl | rfl
  · exact w_c0
  · exact w_c1
  · exact w_c2
  · exact w_c3
set_option maxRecDepth 65536 in
theorem w_t1 : (words1.take 24).all (fun c => isCode c || c.before args0 about1) = true := by decide +kernel
set_option maxRecDepth 65536 in
theorem w_t2 : (words1.drop 24).all (fun c => isCode c || c.before args0 about1) = true := by decide +kernel
theorem w_tables : (allAtoms (Jvm.Cond.code x code maxLocals ret :: tables_1)).before args0 about1 = true := by
  rw [allAtoms_all]
  show words1.all (fun c => c.before args0 about1) = true
  refine all_split ?_ w_codes
  rw [← List.take_append_drop 24 words1, List.all_append, w_t1, w_t2]
  rfl
set_option maxRecDepth 65536 in
theorem w_case : (Jvm.Cond.and given_1 narrow_1).before args0 about1 = true := by decide +kernel
theorem w_applies : (headSpec (Jvm.Cond.code x code maxLocals ret :: tables_1) room_1).applies x e0.platform about1 = true :=
  (Spec.applies_iff w_frames).mpr ⟨w_running, w_runnable, w_alone, w_named, w_hears, w_ripe, w_room, w_tables⟩
theorem atStart : AtStart classFile x code maxLocals ret World_1 tables_1 room_1 Calls_1 rest_1 Pre_1 launch0 p0 e0 about1 theMethod args0 below0 :=
  ⟨lists_1, trivial, launch0.admits_env _ _ _, launch0.least_env, fairChoices_fair.cas, fairChoices_fair.clock, w_frames, w_args, w_heap, w_applies, trivial, trivial, w_case⟩
end start1
theorem witness_1 : WitnessClaimed_1 := ⟨start1.p0, start1.e0, start1.about1, start1.theMethod, start1.args0, start1.below0, start1.atStart⟩
end Jvm.Pilot.@@N@@
