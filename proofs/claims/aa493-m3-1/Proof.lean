import JvmDerived
import JvmDerived.Pilot.@@N@@Statement
import JvmDerived.Pilot.@@N@@Code
set_option linter.unusedVariables false
set_option linter.unusedSimpArgs false
namespace Jvm.Own
open Sem ClassFile Op Lib Jvm.Stand Jvm.Free Jvm.LawKit Jvm.RoadKit
/-- from the state A the run comes to an end that meets G -/
def Goes (tb : Tables) (e : Env) (below : List Frame) (G : Outcome → State → Prop) (A : State) : Prop := ∃ s₂ o, Steps tb e below A s₂ ∧ s₂.status = .running ∧ Ended s₂ below o ∧ G o s₂
/-- what a body's walk may lean on throughout -/
def Ctx (p : Program) (Z s : State) (m : MethodId) (meth : Method) (c : Code) (bs : ByteArray) (own : String) (maxL : Nat) (ret : Option FieldType) : Prop :=
  p.tables.exec = Jvm.exec ∧ Z.Warmed39 s.vm ∧ c.code = bs ∧ c.maxLocals = maxL ∧ s.vm.findClass own = some m.cls ∧ meth.sig.returnType = ret ∧ meth.locks = false
section Kit
variable {p : Program} {l : Launch} {e : Env} {R : Room} {s : State} {m : MethodId} {args : Array Value} {below : List Frame} {meth : Method} {c : Code} {T : State} {locs : List Loc} {cells slots : Nat} {Z : State} {a0 : Array Value} {h : Heap} {G : Outcome → State → Prop} {bs : ByteArray} {own : String} {maxL : Nat} {ret : Option FieldType}
theorem Goes.on {tb : Tables} {A B : State} (k : ∀ t, Steps tb e below B t → Steps tb e below A t) (h : Goes tb e below G B) : Goes tb e below G A := by
  obtain ⟨s2, o, h1, h2⟩ := h
  exact ⟨s2, o, k _ h1, h2⟩
theorem Goes.to {tb : Tables} {A B : State} (q : A = B) (h : Goes tb e below G B) : Goes tb e below G A := q ▸ h
theorem body_of {y : MethodName} {bytes : ByteArray} {ws : List Cond} {as' : Array Value} {h0 : Heap} {Q : Option Value → Heap → List Loc → Prop} (hplain : plainFor y = true)
    (H : ∀ p e s m below meth c s₁ G, Ctx p Z s m meth c bytes y.cls maxL ret → meth.name = y.name → Stand p l e R s m as' below meth c s₁ [] 0 0 → s₁.heap = h0 →
      (∀ (v : Option Value) (L : List Loc) (T' : State), Q v T'.heap L → s.WarmedH T'.vm → s.sameButNew ({ T' with vm := s.vm } : State) L R.cells R.slots → G (.returned v) T') →
      Goes p.tables e below G (s₁.setTop (entryFrame m as' maxL))) :
    MetFree l y (head1 (Cond.code y bytes maxL ret :: ws) R) (fun a U => a = as' ∧ Z.Warmed39 U.vm ∧ U.heap = h0) (fun _ _ _ _ _ => True) (fun _ U o U' => ∃ v L, o = .returned v ∧ Q v U'.heap L ∧ FrameEnd U o U' L R.cells R.slots) := by
  refine MetFree.of_bodySF hplain hisR ?_
  intro p e s m args below meth c s₁ Bd hml0 hP hK
  obtain ⟨rfl, hZ, hh⟩ := hP
  exact H p e s m below meth c s₁ _ ⟨Bd.exec, hZ, Bd.bytes, hml0, findClass_of_methodNamed Bd.named, Bd.returns, BodyLoose.notSynchronized Bd⟩ (name_of_methodNamed Bd.named Bd.method).1 (Stand.of_body Bd) (by rw [← hh, Bd.state]; rfl)
    (fun v L T' hQ hW hS => ⟨v, L, rfl, hQ, ⟨_, rfl⟩, hW, hS⟩)

theorem g_iloadN (C : Ctx p Z s m meth c bs own maxL ret) (X : Stand p l e R s m args below meth c T locs cells slots) {pc pc' : Nat} {ls : Array Slot} {st : List Value} {k : Fin 4} {v : Int32} (hd : decode bs pc = .ok (.iload_n k, 1)) (hp : pc + 1 = pc') (hl : ls[k.val]? = some (.val (.int v)))
    (k : Goes p.tables e below G (T.setTop (mkF m pc' ls (.int v :: st)))) : Goes p.tables e below G (T.setTop (mkF m pc ls st)) := by
  subst hp
  exact Goes.on (fun _ k => XS.iloadN X.here C.1 rfl (hb C.2.2.1 hd) hl k) k
theorem g_iload (C : Ctx p Z s m meth c bs own maxL ret) (X : Stand p l e R s m args below meth c T locs cells slots) {pc pc' : Nat} {ls : Array Slot} {st : List Value} {k : Nat} {v : Int32} (hd : decode bs pc = .ok (.iload k, 2)) (hp : pc + 2 = pc') (hl : ls[k]? = some (.val (.int v)))
    (k : Goes p.tables e below G (T.setTop (mkF m pc' ls (.int v :: st)))) : Goes p.tables e below G (T.setTop (mkF m pc ls st)) := by
  subst hp
  exact Goes.on (fun _ k => XS.iload X.here C.1 rfl (hb C.2.2.1 hd) hl k) k
theorem g_istoreN (C : Ctx p Z s m meth c bs own maxL ret) (X : Stand p l e R s m args below meth c T locs cells slots) {pc pc' : Nat} {ls ls' : Array Slot} {st : List Value} {k : Fin 4} {v w : Int32} (hd : decode bs pc = .ok (.istore_n k, 1)) (hp : pc + 1 = pc') (hv : v = w) (hl : storeLocals ls k.val (.int w) = some ls')
    (k : Goes p.tables e below G (T.setTop (mkF m pc' ls' st))) : Goes p.tables e below G (T.setTop (mkF m pc ls (.int v :: st))) := by
  subst hp hv
  exact Goes.on (fun _ k => XS.istoreN X.here C.1 rfl (hb C.2.2.1 hd) rfl hl k) k
theorem g_istore (C : Ctx p Z s m meth c bs own maxL ret) (X : Stand p l e R s m args below meth c T locs cells slots) {pc pc' : Nat} {ls ls' : Array Slot} {st : List Value} {k : Nat} {v w : Int32} (hd : decode bs pc = .ok (.istore k, 2)) (hp : pc + 2 = pc') (hv : v = w) (hl : storeLocals ls k (.int w) = some ls')
    (k : Goes p.tables e below G (T.setTop (mkF m pc' ls' st))) : Goes p.tables e below G (T.setTop (mkF m pc ls (.int v :: st))) := by
  subst hp hv
  exact Goes.on (fun _ k => XS.istore X.here C.1 rfl (hb C.2.2.1 hd) rfl hl k) k
theorem g_lloadN (C : Ctx p Z s m meth c bs own maxL ret) (X : Stand p l e R s m args below meth c T locs cells slots) {pc pc' : Nat} {ls : Array Slot} {st : List Value} {k : Fin 4} {v : Int64} (hd : decode bs pc = .ok (.lload_n k, 1)) (hp : pc + 1 = pc') (hl : ls[k.val]? = some (.val (.long v)))
    (k : Goes p.tables e below G (T.setTop (mkF m pc' ls (.long v :: st)))) : Goes p.tables e below G (T.setTop (mkF m pc ls st)) := by
  subst hp
  exact Goes.on (fun _ k => XT.lloadN X.here C.1 rfl (hb C.2.2.1 hd) hl k) k
theorem g_lload (C : Ctx p Z s m meth c bs own maxL ret) (X : Stand p l e R s m args below meth c T locs cells slots) {pc pc' : Nat} {ls : Array Slot} {st : List Value} {k : Nat} {v : Int64} (hd : decode bs pc = .ok (.lload k, 2)) (hp : pc + 2 = pc') (hl : ls[k]? = some (.val (.long v)))
    (k : Goes p.tables e below G (T.setTop (mkF m pc' ls (.long v :: st)))) : Goes p.tables e below G (T.setTop (mkF m pc ls st)) := by
  subst hp
  exact Goes.on (fun _ k => XT.lload X.here C.1 rfl (hb C.2.2.1 hd) hl k) k
theorem g_lstoreN (C : Ctx p Z s m meth c bs own maxL ret) (X : Stand p l e R s m args below meth c T locs cells slots) {pc pc' : Nat} {ls ls' : Array Slot} {st : List Value} {k : Fin 4} {v w : Int64} (hd : decode bs pc = .ok (.lstore_n k, 1)) (hp : pc + 1 = pc') (hv : v = w) (hl : storeLocals ls k.val (.long w) = some ls')
    (k : Goes p.tables e below G (T.setTop (mkF m pc' ls' st))) : Goes p.tables e below G (T.setTop (mkF m pc ls (.long v :: st))) := by
  subst hp hv
  exact Goes.on (fun _ k => XT.lstoreN X.here C.1 rfl (hb C.2.2.1 hd) rfl hl k) k
theorem g_lstore (C : Ctx p Z s m meth c bs own maxL ret) (X : Stand p l e R s m args below meth c T locs cells slots) {pc pc' : Nat} {ls ls' : Array Slot} {st : List Value} {k : Nat} {v w : Int64} (hd : decode bs pc = .ok (.lstore k, 2)) (hp : pc + 2 = pc') (hv : v = w) (hl : storeLocals ls k (.long w) = some ls')
    (k : Goes p.tables e below G (T.setTop (mkF m pc' ls' st))) : Goes p.tables e below G (T.setTop (mkF m pc ls (.long v :: st))) := by
  subst hp hv
  exact Goes.on (fun _ k => XT.lstore X.here C.1 rfl (hb C.2.2.1 hd) rfl hl k) k
theorem g_aloadN (C : Ctx p Z s m meth c bs own maxL ret) (X : Stand p l e R s m args below meth c T locs cells slots) {pc pc' : Nat} {ls : Array Slot} {st : List Value} {k : Fin 4} {v : Value} (hd : decode bs pc = .ok (.aload_n k, 1)) (hp : pc + 1 = pc') (hl : ls[k.val]? = some (.val v)) (hv : v.isRef = true)
    (k : Goes p.tables e below G (T.setTop (mkF m pc' ls (v :: st)))) : Goes p.tables e below G (T.setTop (mkF m pc ls st)) := by
  subst hp
  exact Goes.on (fun _ k => XS.aloadN X.here C.1 rfl (hb C.2.2.1 hd) hl hv k) k
theorem g_aload (C : Ctx p Z s m meth c bs own maxL ret) (X : Stand p l e R s m args below meth c T locs cells slots) {pc pc' : Nat} {ls : Array Slot} {st : List Value} {k : Nat} {v : Value} (hd : decode bs pc = .ok (.aload k, 2)) (hp : pc + 2 = pc') (hl : ls[k]? = some (.val v)) (hv : v.isRef = true)
    (k : Goes p.tables e below G (T.setTop (mkF m pc' ls (v :: st)))) : Goes p.tables e below G (T.setTop (mkF m pc ls st)) := by
  subst hp
  exact Goes.on (fun _ k => XS.aload X.here C.1 rfl (hb C.2.2.1 hd) hl hv k) k
theorem g_astoreN (C : Ctx p Z s m meth c bs own maxL ret) (X : Stand p l e R s m args below meth c T locs cells slots) {pc pc' : Nat} {ls ls' : Array Slot} {st : List Value} {k : Fin 4} {v : Value} (hd : decode bs pc = .ok (.astore_n k, 1)) (hp : pc + 1 = pc') (hv : v.isRef = true) (hl : storeLocals ls k.val v = some ls')
    (k : Goes p.tables e below G (T.setTop (mkF m pc' ls' st))) : Goes p.tables e below G (T.setTop (mkF m pc ls (v :: st))) := by
  subst hp
  exact Goes.on (fun _ k => XS.astoreN X.here C.1 rfl (hb C.2.2.1 hd) rfl hv hl k) k
theorem g_astore (C : Ctx p Z s m meth c bs own maxL ret) (X : Stand p l e R s m args below meth c T locs cells slots) {pc pc' : Nat} {ls ls' : Array Slot} {st : List Value} {k : Nat} {v : Value} (hd : decode bs pc = .ok (.astore k, 2)) (hp : pc + 2 = pc') (hv : v.isRef = true) (hl : storeLocals ls k v = some ls')
    (k : Goes p.tables e below G (T.setTop (mkF m pc' ls' st))) : Goes p.tables e below G (T.setTop (mkF m pc ls (v :: st))) := by
  subst hp
  exact Goes.on (fun _ k => XS.astore X.here C.1 rfl (hb C.2.2.1 hd) rfl hv hl k) k
theorem g_iconst (C : Ctx p Z s m meth c bs own maxL ret) (X : Stand p l e R s m args below meth c T locs cells slots) {pc pc' : Nat} {ls : Array Slot} {st : List Value} {i : Int} {v : Int32} (hd : decode bs pc = .ok (.iconst i, 1)) (hp : pc + 1 = pc') (hv : Int32.ofInt i = v)
    (k : Goes p.tables e below G (T.setTop (mkF m pc' ls (.int v :: st)))) : Goes p.tables e below G (T.setTop (mkF m pc ls st)) := by
  subst hp hv
  exact Goes.on (fun _ k => XS.iconst X.here C.1 rfl (hb C.2.2.1 hd) k) k
theorem g_bipush (C : Ctx p Z s m meth c bs own maxL ret) (X : Stand p l e R s m args below meth c T locs cells slots) {pc pc' : Nat} {ls : Array Slot} {st : List Value} {i : Int} {v : Int32} (hd : decode bs pc = .ok (.bipush i, 2)) (hp : pc + 2 = pc') (hv : (Int8.ofInt i).toInt32 = v)
    (k : Goes p.tables e below G (T.setTop (mkF m pc' ls (.int v :: st)))) : Goes p.tables e below G (T.setTop (mkF m pc ls st)) := by
  subst hp hv
  exact Goes.on (fun _ k => XS.bipush X.here C.1 rfl (hb C.2.2.1 hd) k) k
theorem g_sipush (C : Ctx p Z s m meth c bs own maxL ret) (X : Stand p l e R s m args below meth c T locs cells slots) {pc pc' : Nat} {ls : Array Slot} {st : List Value} {i : Int} {v : Int32} (hd : decode bs pc = .ok (.sipush i, 3)) (hp : pc + 3 = pc') (hv : (Int16.ofInt i).toInt32 = v)
    (k : Goes p.tables e below G (T.setTop (mkF m pc' ls (.int v :: st)))) : Goes p.tables e below G (T.setTop (mkF m pc ls st)) := by
  subst hp hv
  exact Goes.on (fun _ k => XS.sipush X.here C.1 rfl (hb C.2.2.1 hd) k) k
theorem g_lconst (C : Ctx p Z s m meth c bs own maxL ret) (X : Stand p l e R s m args below meth c T locs cells slots) {pc pc' : Nat} {ls : Array Slot} {st : List Value} {i : Fin 2} {v : Int64} (hd : decode bs pc = .ok (.lconst i, 1)) (hp : pc + 1 = pc') (hv : Int64.ofNat i = v)
    (k : Goes p.tables e below G (T.setTop (mkF m pc' ls (.long v :: st)))) : Goes p.tables e below G (T.setTop (mkF m pc ls st)) := by
  subst hp hv
  exact Goes.on (fun _ k => XT.lconst X.here C.1 rfl (hb C.2.2.1 hd) k) k
theorem g_aconstNull (C : Ctx p Z s m meth c bs own maxL ret) (X : Stand p l e R s m args below meth c T locs cells slots) {pc pc' : Nat} {ls : Array Slot} {st : List Value}  (hd : decode bs pc = .ok (.aconst_null, 1)) (hp : pc + 1 = pc')
    (k : Goes p.tables e below G (T.setTop (mkF m pc' ls (.null :: st)))) : Goes p.tables e below G (T.setTop (mkF m pc ls st)) := by
  subst hp
  exact Goes.on (fun _ k => XS.aconstNull X.here C.1 rfl (hb C.2.2.1 hd) k) k
theorem g_iadd (C : Ctx p Z s m meth c bs own maxL ret) (X : Stand p l e R s m args below meth c T locs cells slots) {pc pc' : Nat} {ls : Array Slot} {st : List Value} {x y : Int32} (hd : decode bs pc = .ok (.iadd, 1)) (hp : pc + 1 = pc')
    (k : Goes p.tables e below G (T.setTop (mkF m pc' ls (.int (x + y) :: st)))) : Goes p.tables e below G (T.setTop (mkF m pc ls (.int y :: .int x :: st))) := by
  subst hp
  exact Goes.on (fun _ k => XS.iadd X.here C.1 rfl (hb C.2.2.1 hd) rfl k) k
theorem g_isub (C : Ctx p Z s m meth c bs own maxL ret) (X : Stand p l e R s m args below meth c T locs cells slots) {pc pc' : Nat} {ls : Array Slot} {st : List Value} {x y : Int32} (hd : decode bs pc = .ok (.isub, 1)) (hp : pc + 1 = pc')
    (k : Goes p.tables e below G (T.setTop (mkF m pc' ls (.int (x - y) :: st)))) : Goes p.tables e below G (T.setTop (mkF m pc ls (.int y :: .int x :: st))) := by
  subst hp
  exact Goes.on (fun _ k => XS.isub X.here C.1 rfl (hb C.2.2.1 hd) rfl k) k
theorem g_imul (C : Ctx p Z s m meth c bs own maxL ret) (X : Stand p l e R s m args below meth c T locs cells slots) {pc pc' : Nat} {ls : Array Slot} {st : List Value} {x y : Int32} (hd : decode bs pc = .ok (.imul, 1)) (hp : pc + 1 = pc')
    (k : Goes p.tables e below G (T.setTop (mkF m pc' ls (.int (x * y) :: st)))) : Goes p.tables e below G (T.setTop (mkF m pc ls (.int y :: .int x :: st))) := by
  subst hp
  exact Goes.on (fun _ k => XS.imul X.here C.1 rfl (hb C.2.2.1 hd) rfl k) k
theorem g_iand (C : Ctx p Z s m meth c bs own maxL ret) (X : Stand p l e R s m args below meth c T locs cells slots) {pc pc' : Nat} {ls : Array Slot} {st : List Value} {x y : Int32} (hd : decode bs pc = .ok (.iand, 1)) (hp : pc + 1 = pc')
    (k : Goes p.tables e below G (T.setTop (mkF m pc' ls (.int (x &&& y) :: st)))) : Goes p.tables e below G (T.setTop (mkF m pc ls (.int y :: .int x :: st))) := by
  subst hp
  exact Goes.on (fun _ k => XS.iand X.here C.1 rfl (hb C.2.2.1 hd) rfl k) k
theorem g_ior (C : Ctx p Z s m meth c bs own maxL ret) (X : Stand p l e R s m args below meth c T locs cells slots) {pc pc' : Nat} {ls : Array Slot} {st : List Value} {x y : Int32} (hd : decode bs pc = .ok (.ior, 1)) (hp : pc + 1 = pc')
    (k : Goes p.tables e below G (T.setTop (mkF m pc' ls (.int (x ||| y) :: st)))) : Goes p.tables e below G (T.setTop (mkF m pc ls (.int y :: .int x :: st))) := by
  subst hp
  exact Goes.on (fun _ k => XT.ior X.here C.1 rfl (hb C.2.2.1 hd) rfl k) k
theorem g_ixor (C : Ctx p Z s m meth c bs own maxL ret) (X : Stand p l e R s m args below meth c T locs cells slots) {pc pc' : Nat} {ls : Array Slot} {st : List Value} {x y : Int32} (hd : decode bs pc = .ok (.ixor, 1)) (hp : pc + 1 = pc')
    (k : Goes p.tables e below G (T.setTop (mkF m pc' ls (.int (x ^^^ y) :: st)))) : Goes p.tables e below G (T.setTop (mkF m pc ls (.int y :: .int x :: st))) := by
  subst hp
  exact Goes.on (fun _ k => XT.ixor X.here C.1 rfl (hb C.2.2.1 hd) rfl k) k
theorem g_ishl (C : Ctx p Z s m meth c bs own maxL ret) (X : Stand p l e R s m args below meth c T locs cells slots) {pc pc' : Nat} {ls : Array Slot} {st : List Value} {x y : Int32} (hd : decode bs pc = .ok (.ishl, 1)) (hp : pc + 1 = pc')
    (k : Goes p.tables e below G (T.setTop (mkF m pc' ls (.int (x <<< (y &&& 31)) :: st)))) : Goes p.tables e below G (T.setTop (mkF m pc ls (.int y :: .int x :: st))) := by
  subst hp
  exact Goes.on (fun _ k => XT.ishl X.here C.1 rfl (hb C.2.2.1 hd) rfl k) k
theorem g_ishr (C : Ctx p Z s m meth c bs own maxL ret) (X : Stand p l e R s m args below meth c T locs cells slots) {pc pc' : Nat} {ls : Array Slot} {st : List Value} {x y : Int32} (hd : decode bs pc = .ok (.ishr, 1)) (hp : pc + 1 = pc')
    (k : Goes p.tables e below G (T.setTop (mkF m pc' ls (.int (x >>> (y &&& 31)) :: st)))) : Goes p.tables e below G (T.setTop (mkF m pc ls (.int y :: .int x :: st))) := by
  subst hp
  exact Goes.on (fun _ k => XT.ishr X.here C.1 rfl (hb C.2.2.1 hd) rfl k) k
theorem g_iushr (C : Ctx p Z s m meth c bs own maxL ret) (X : Stand p l e R s m args below meth c T locs cells slots) {pc pc' : Nat} {ls : Array Slot} {st : List Value} {x y : Int32} (hd : decode bs pc = .ok (.iushr, 1)) (hp : pc + 1 = pc')
    (k : Goes p.tables e below G (T.setTop (mkF m pc' ls (.int (XT.ushr x y) :: st)))) : Goes p.tables e below G (T.setTop (mkF m pc ls (.int y :: .int x :: st))) := by
  subst hp
  exact Goes.on (fun _ k => XT.iushr X.here C.1 rfl (hb C.2.2.1 hd) rfl k) k
theorem g_ladd (C : Ctx p Z s m meth c bs own maxL ret) (X : Stand p l e R s m args below meth c T locs cells slots) {pc pc' : Nat} {ls : Array Slot} {st : List Value} {x y : Int64} (hd : decode bs pc = .ok (.ladd, 1)) (hp : pc + 1 = pc')
    (k : Goes p.tables e below G (T.setTop (mkF m pc' ls (.long (x + y) :: st)))) : Goes p.tables e below G (T.setTop (mkF m pc ls (.long y :: .long x :: st))) := by
  subst hp
  exact Goes.on (fun _ k => XT.ladd X.here C.1 rfl (hb C.2.2.1 hd) rfl k) k
theorem g_lsub (C : Ctx p Z s m meth c bs own maxL ret) (X : Stand p l e R s m args below meth c T locs cells slots) {pc pc' : Nat} {ls : Array Slot} {st : List Value} {x y : Int64} (hd : decode bs pc = .ok (.lsub, 1)) (hp : pc + 1 = pc')
    (k : Goes p.tables e below G (T.setTop (mkF m pc' ls (.long (x - y) :: st)))) : Goes p.tables e below G (T.setTop (mkF m pc ls (.long y :: .long x :: st))) := by
  subst hp
  exact Goes.on (fun _ k => XT.lsub X.here C.1 rfl (hb C.2.2.1 hd) rfl k) k
theorem g_lmul (C : Ctx p Z s m meth c bs own maxL ret) (X : Stand p l e R s m args below meth c T locs cells slots) {pc pc' : Nat} {ls : Array Slot} {st : List Value} {x y : Int64} (hd : decode bs pc = .ok (.lmul, 1)) (hp : pc + 1 = pc')
    (k : Goes p.tables e below G (T.setTop (mkF m pc' ls (.long (x * y) :: st)))) : Goes p.tables e below G (T.setTop (mkF m pc ls (.long y :: .long x :: st))) := by
  subst hp
  exact Goes.on (fun _ k => XT.lmul X.here C.1 rfl (hb C.2.2.1 hd) rfl k) k
theorem g_land (C : Ctx p Z s m meth c bs own maxL ret) (X : Stand p l e R s m args below meth c T locs cells slots) {pc pc' : Nat} {ls : Array Slot} {st : List Value} {x y : Int64} (hd : decode bs pc = .ok (.land, 1)) (hp : pc + 1 = pc')
    (k : Goes p.tables e below G (T.setTop (mkF m pc' ls (.long (x &&& y) :: st)))) : Goes p.tables e below G (T.setTop (mkF m pc ls (.long y :: .long x :: st))) := by
  subst hp
  exact Goes.on (fun _ k => XT.land X.here C.1 rfl (hb C.2.2.1 hd) rfl k) k
theorem g_lor (C : Ctx p Z s m meth c bs own maxL ret) (X : Stand p l e R s m args below meth c T locs cells slots) {pc pc' : Nat} {ls : Array Slot} {st : List Value} {x y : Int64} (hd : decode bs pc = .ok (.lor, 1)) (hp : pc + 1 = pc')
    (k : Goes p.tables e below G (T.setTop (mkF m pc' ls (.long (x ||| y) :: st)))) : Goes p.tables e below G (T.setTop (mkF m pc ls (.long y :: .long x :: st))) := by
  subst hp
  exact Goes.on (fun _ k => XT.lor X.here C.1 rfl (hb C.2.2.1 hd) rfl k) k
theorem g_lxor (C : Ctx p Z s m meth c bs own maxL ret) (X : Stand p l e R s m args below meth c T locs cells slots) {pc pc' : Nat} {ls : Array Slot} {st : List Value} {x y : Int64} (hd : decode bs pc = .ok (.lxor, 1)) (hp : pc + 1 = pc')
    (k : Goes p.tables e below G (T.setTop (mkF m pc' ls (.long (x ^^^ y) :: st)))) : Goes p.tables e below G (T.setTop (mkF m pc ls (.long y :: .long x :: st))) := by
  subst hp
  exact Goes.on (fun _ k => XT.lxor X.here C.1 rfl (hb C.2.2.1 hd) rfl k) k
theorem g_lshl (C : Ctx p Z s m meth c bs own maxL ret) (X : Stand p l e R s m args below meth c T locs cells slots) {pc pc' : Nat} {ls : Array Slot} {st : List Value} {x : Int64} {y : Int32} (hd : decode bs pc = .ok (.lshl, 1)) (hp : pc + 1 = pc')
    (k : Goes p.tables e below G (T.setTop (mkF m pc' ls (.long (x <<< (y.toInt64 &&& 63)) :: st)))) : Goes p.tables e below G (T.setTop (mkF m pc ls (.int y :: .long x :: st))) := by
  subst hp
  exact Goes.on (fun _ k => XT.lshl X.here C.1 rfl (hb C.2.2.1 hd) rfl k) k
theorem g_lshr (C : Ctx p Z s m meth c bs own maxL ret) (X : Stand p l e R s m args below meth c T locs cells slots) {pc pc' : Nat} {ls : Array Slot} {st : List Value} {x : Int64} {y : Int32} (hd : decode bs pc = .ok (.lshr, 1)) (hp : pc + 1 = pc')
    (k : Goes p.tables e below G (T.setTop (mkF m pc' ls (.long (x >>> (y.toInt64 &&& 63)) :: st)))) : Goes p.tables e below G (T.setTop (mkF m pc ls (.int y :: .long x :: st))) := by
  subst hp
  exact Goes.on (fun _ k => XT.lshr X.here C.1 rfl (hb C.2.2.1 hd) rfl k) k
theorem g_lushr (C : Ctx p Z s m meth c bs own maxL ret) (X : Stand p l e R s m args below meth c T locs cells slots) {pc pc' : Nat} {ls : Array Slot} {st : List Value} {x : Int64} {y : Int32} (hd : decode bs pc = .ok (.lushr, 1)) (hp : pc + 1 = pc')
    (k : Goes p.tables e below G (T.setTop (mkF m pc' ls (.long (XT.ushrL x y) :: st)))) : Goes p.tables e below G (T.setTop (mkF m pc ls (.int y :: .long x :: st))) := by
  subst hp
  exact Goes.on (fun _ k => XT.lushr X.here C.1 rfl (hb C.2.2.1 hd) rfl k) k
theorem g_idiv (C : Ctx p Z s m meth c bs own maxL ret) (X : Stand p l e R s m args below meth c T locs cells slots) {pc pc' : Nat} {ls : Array Slot} {st : List Value} {x y : Int32} (hd : decode bs pc = .ok (.idiv, 1)) (hp : pc + 1 = pc') (hy : y ≠ 0)
    (k : Goes p.tables e below G (T.setTop (mkF m pc' ls (.int (x / y) :: st)))) : Goes p.tables e below G (T.setTop (mkF m pc ls (.int y :: .int x :: st))) := by
  subst hp
  exact Goes.on (fun _ k => XS.idiv X.here C.1 rfl (hb C.2.2.1 hd) rfl hy k) k
theorem g_ldiv (C : Ctx p Z s m meth c bs own maxL ret) (X : Stand p l e R s m args below meth c T locs cells slots) {pc pc' : Nat} {ls : Array Slot} {st : List Value} {x y : Int64} (hd : decode bs pc = .ok (.ldiv, 1)) (hp : pc + 1 = pc') (hy : y ≠ 0)
    (k : Goes p.tables e below G (T.setTop (mkF m pc' ls (.long (x / y) :: st)))) : Goes p.tables e below G (T.setTop (mkF m pc ls (.long y :: .long x :: st))) := by
  subst hp
  exact Goes.on (fun _ k => XT.ldiv X.here C.1 rfl (hb C.2.2.1 hd) rfl hy k) k
theorem g_irem (C : Ctx p Z s m meth c bs own maxL ret) (X : Stand p l e R s m args below meth c T locs cells slots) {pc pc' : Nat} {ls : Array Slot} {st : List Value} {x y : Int32} (hd : decode bs pc = .ok (.irem, 1)) (hp : pc + 1 = pc') (hy : y ≠ 0)
    (k : Goes p.tables e below G (T.setTop (mkF m pc' ls (.int (x % y) :: st)))) : Goes p.tables e below G (T.setTop (mkF m pc ls (.int y :: .int x :: st))) := by
  subst hp
  exact Goes.on (fun _ k => iremM X C.1 rfl (hb C.2.2.1 hd) rfl hy k) k
theorem g_lrem (C : Ctx p Z s m meth c bs own maxL ret) (X : Stand p l e R s m args below meth c T locs cells slots) {pc pc' : Nat} {ls : Array Slot} {st : List Value} {x y : Int64} (hd : decode bs pc = .ok (.lrem, 1)) (hp : pc + 1 = pc') (hy : y ≠ 0)
    (k : Goes p.tables e below G (T.setTop (mkF m pc' ls (.long (x - (x / y) * y) :: st)))) : Goes p.tables e below G (T.setTop (mkF m pc ls (.long y :: .long x :: st))) := by
  subst hp
  exact Goes.on (fun _ k => XT.lrem X.here C.1 rfl (hb C.2.2.1 hd) rfl hy k) k
theorem g_ineg (C : Ctx p Z s m meth c bs own maxL ret) (X : Stand p l e R s m args below meth c T locs cells slots) {pc pc' : Nat} {ls : Array Slot} {st : List Value} {x : Int32} (hd : decode bs pc = .ok (.ineg, 1)) (hp : pc + 1 = pc')
    (k : Goes p.tables e below G (T.setTop (mkF m pc' ls (.int (-x) :: st)))) : Goes p.tables e below G (T.setTop (mkF m pc ls (.int x :: st))) := by
  subst hp
  exact Goes.on (fun _ k => XS.ineg X.here C.1 rfl (hb C.2.2.1 hd) rfl k) k
theorem g_lneg (C : Ctx p Z s m meth c bs own maxL ret) (X : Stand p l e R s m args below meth c T locs cells slots) {pc pc' : Nat} {ls : Array Slot} {st : List Value} {x : Int64} (hd : decode bs pc = .ok (.lneg, 1)) (hp : pc + 1 = pc')
    (k : Goes p.tables e below G (T.setTop (mkF m pc' ls (.long (-x) :: st)))) : Goes p.tables e below G (T.setTop (mkF m pc ls (.long x :: st))) := by
  subst hp
  exact Goes.on (fun _ k => XT.lneg X.here C.1 rfl (hb C.2.2.1 hd) rfl k) k
theorem g_i2l (C : Ctx p Z s m meth c bs own maxL ret) (X : Stand p l e R s m args below meth c T locs cells slots) {pc pc' : Nat} {ls : Array Slot} {st : List Value} {x : Int32} (hd : decode bs pc = .ok (.i2l, 1)) (hp : pc + 1 = pc')
    (k : Goes p.tables e below G (T.setTop (mkF m pc' ls (.long x.toInt64 :: st)))) : Goes p.tables e below G (T.setTop (mkF m pc ls (.int x :: st))) := by
  subst hp
  exact Goes.on (fun _ k => XT.i2l X.here C.1 rfl (hb C.2.2.1 hd) rfl k) k
theorem g_l2i (C : Ctx p Z s m meth c bs own maxL ret) (X : Stand p l e R s m args below meth c T locs cells slots) {pc pc' : Nat} {ls : Array Slot} {st : List Value} {x : Int64} (hd : decode bs pc = .ok (.l2i, 1)) (hp : pc + 1 = pc')
    (k : Goes p.tables e below G (T.setTop (mkF m pc' ls (.int x.toInt32 :: st)))) : Goes p.tables e below G (T.setTop (mkF m pc ls (.long x :: st))) := by
  subst hp
  exact Goes.on (fun _ k => XT.l2i X.here C.1 rfl (hb C.2.2.1 hd) rfl k) k
theorem g_i2c (C : Ctx p Z s m meth c bs own maxL ret) (X : Stand p l e R s m args below meth c T locs cells slots) {pc pc' : Nat} {ls : Array Slot} {st : List Value} {x : Int32} (hd : decode bs pc = .ok (.i2c, 1)) (hp : pc + 1 = pc')
    (k : Goes p.tables e below G (T.setTop (mkF m pc' ls (.int x.toUInt32.toUInt16.toUInt32.toInt32 :: st)))) : Goes p.tables e below G (T.setTop (mkF m pc ls (.int x :: st))) := by
  subst hp
  exact Goes.on (fun _ k => XT.i2c X.here C.1 rfl (hb C.2.2.1 hd) rfl k) k
theorem g_i2b (C : Ctx p Z s m meth c bs own maxL ret) (X : Stand p l e R s m args below meth c T locs cells slots) {pc pc' : Nat} {ls : Array Slot} {st : List Value} {x : Int32} (hd : decode bs pc = .ok (.i2b, 1)) (hp : pc + 1 = pc')
    (k : Goes p.tables e below G (T.setTop (mkF m pc' ls (.int x.toInt8.toInt32 :: st)))) : Goes p.tables e below G (T.setTop (mkF m pc ls (.int x :: st))) := by
  subst hp
  exact Goes.on (fun _ k => XT.i2b X.here C.1 rfl (hb C.2.2.1 hd) rfl k) k
theorem g_i2s (C : Ctx p Z s m meth c bs own maxL ret) (X : Stand p l e R s m args below meth c T locs cells slots) {pc pc' : Nat} {ls : Array Slot} {st : List Value} {x : Int32} (hd : decode bs pc = .ok (.i2s, 1)) (hp : pc + 1 = pc')
    (k : Goes p.tables e below G (T.setTop (mkF m pc' ls (.int x.toInt16.toInt32 :: st)))) : Goes p.tables e below G (T.setTop (mkF m pc ls (.int x :: st))) := by
  subst hp
  exact Goes.on (fun _ k => XT.i2s X.here C.1 rfl (hb C.2.2.1 hd) rfl k) k
theorem g_dup (C : Ctx p Z s m meth c bs own maxL ret) (X : Stand p l e R s m args below meth c T locs cells slots) {pc pc' : Nat} {ls : Array Slot} {st : List Value} {x : Value} (hd : decode bs pc = .ok (.dup, 1)) (hp : pc + 1 = pc') (hc : x.category = 1)
    (k : Goes p.tables e below G (T.setTop (mkF m pc' ls (x :: x :: st)))) : Goes p.tables e below G (T.setTop (mkF m pc ls (x :: st))) := by
  subst hp
  exact Goes.on (fun _ k => XS.dup X.here C.1 rfl (hb C.2.2.1 hd) rfl hc k) k
theorem g_dupX1 (C : Ctx p Z s m meth c bs own maxL ret) (X : Stand p l e R s m args below meth c T locs cells slots) {pc pc' : Nat} {ls : Array Slot} {st : List Value} {x y : Value} (hd : decode bs pc = .ok (.dup_x1, 1)) (hp : pc + 1 = pc') (hc : x.category = 1) (hc' : y.category = 1)
    (k : Goes p.tables e below G (T.setTop (mkF m pc' ls (x :: y :: x :: st)))) : Goes p.tables e below G (T.setTop (mkF m pc ls (x :: y :: st))) := by
  subst hp
  exact Goes.on (fun _ k => XT.dupX1 X.here C.1 rfl (hb C.2.2.1 hd) rfl hc hc' k) k
theorem g_dup2 (C : Ctx p Z s m meth c bs own maxL ret) (X : Stand p l e R s m args below meth c T locs cells slots) {pc pc' : Nat} {ls : Array Slot} {st : List Value} {x y : Value} (hd : decode bs pc = .ok (.dup2, 1)) (hp : pc + 1 = pc') (hc : x.category = 1) (hc' : y.category = 1)
    (k : Goes p.tables e below G (T.setTop (mkF m pc' ls (x :: y :: x :: y :: st)))) : Goes p.tables e below G (T.setTop (mkF m pc ls (x :: y :: st))) := by
  subst hp
  exact Goes.on (fun _ k => XT.dup2 X.here C.1 rfl (hb C.2.2.1 hd) rfl hc hc' k) k
theorem g_dup2L (C : Ctx p Z s m meth c bs own maxL ret) (X : Stand p l e R s m args below meth c T locs cells slots) {pc pc' : Nat} {ls : Array Slot} {st : List Value} {x : Int64} (hd : decode bs pc = .ok (.dup2, 1)) (hp : pc + 1 = pc')
    (k : Goes p.tables e below G (T.setTop (mkF m pc' ls (.long x :: .long x :: st)))) : Goes p.tables e below G (T.setTop (mkF m pc ls (.long x :: st))) := by
  subst hp
  exact Goes.on (fun _ k => XT.dup2L X.here C.1 rfl (hb C.2.2.1 hd) rfl k) k
theorem g_pop (C : Ctx p Z s m meth c bs own maxL ret) (X : Stand p l e R s m args below meth c T locs cells slots) {pc pc' : Nat} {ls : Array Slot} {st : List Value} {x : Value} (hd : decode bs pc = .ok (.pop, 1)) (hp : pc + 1 = pc') (hc : x.category = 1)
    (k : Goes p.tables e below G (T.setTop (mkF m pc' ls st))) : Goes p.tables e below G (T.setTop (mkF m pc ls (x :: st))) := by
  subst hp
  exact Goes.on (fun _ k => XT.pop X.here C.1 rfl (hb C.2.2.1 hd) rfl hc k) k
theorem g_iinc (C : Ctx p Z s m meth c bs own maxL ret) (X : Stand p l e R s m args below meth c T locs cells slots) {pc pc' : Nat} {ls ls' : Array Slot} {st : List Value} {k : Nat} {cst : Int} {x w : Int32} (hd : decode bs pc = .ok (.iinc k cst, 3)) (hp : pc + 3 = pc') (hl : ls[k]? = some (.val (.int x))) (hv : x + Int32.ofInt cst = w) (hl' : storeLocals ls k (.int w) = some ls')
    (k : Goes p.tables e below G (T.setTop (mkF m pc' ls' st))) : Goes p.tables e below G (T.setTop (mkF m pc ls st)) := by
  subst hp hv
  exact Goes.on (fun _ k => XS.iinc X.here C.1 rfl (hb C.2.2.1 hd) hl hl' k) k
theorem g_dloadN (C : Ctx p Z s m meth c bs own maxL ret) (X : Stand p l e R s m args below meth c T locs cells slots) {pc pc' : Nat} {ls : Array Slot} {st : List Value} {k : Fin 4} {v : UInt64} (hd : decode bs pc = .ok (.dload_n k, 1)) (hp : pc + 1 = pc') (hl : ls[k.val]? = some (.val (.double v)))
    (k : Goes p.tables e below G (T.setTop (mkF m pc' ls (.double v :: st)))) : Goes p.tables e below G (T.setTop (mkF m pc ls st)) := by
  subst hp
  exact Goes.on (fun _ k => XS.dloadN X.here C.1 rfl (hb C.2.2.1 hd) hl k) k
theorem g_dload (C : Ctx p Z s m meth c bs own maxL ret) (X : Stand p l e R s m args below meth c T locs cells slots) {pc pc' : Nat} {ls : Array Slot} {st : List Value} {k : Nat} {v : UInt64} (hd : decode bs pc = .ok (.dload k, 2)) (hp : pc + 2 = pc') (hl : ls[k]? = some (.val (.double v)))
    (k : Goes p.tables e below G (T.setTop (mkF m pc' ls (.double v :: st)))) : Goes p.tables e below G (T.setTop (mkF m pc ls st)) := by
  subst hp
  exact Goes.on (fun _ k => XS.dload X.here C.1 rfl (hb C.2.2.1 hd) hl k) k
theorem g_dstore (C : Ctx p Z s m meth c bs own maxL ret) (X : Stand p l e R s m args below meth c T locs cells slots) {pc pc' : Nat} {ls ls' : Array Slot} {st : List Value} {k : Nat} {v w : UInt64} (hd : decode bs pc = .ok (.dstore k, 2)) (hp : pc + 2 = pc') (hv : v = w) (hl : storeLocals ls k (.double w) = some ls')
    (k : Goes p.tables e below G (T.setTop (mkF m pc' ls' st))) : Goes p.tables e below G (T.setTop (mkF m pc ls (.double v :: st))) := by
  subst hp hv
  exact Goes.on (fun _ k => XS.dstore X.here C.1 rfl (hb C.2.2.1 hd) rfl hl k) k
theorem g_i2d (C : Ctx p Z s m meth c bs own maxL ret) (X : Stand p l e R s m args below meth c T locs cells slots) {pc pc' : Nat} {ls : Array Slot} {st : List Value} {x : Int32} (hd : decode bs pc = .ok (.i2d, 1)) (hp : pc + 1 = pc')
    (k : Goes p.tables e below G (T.setTop (mkF m pc' ls (.double (FP.i2d x) :: st)))) : Goes p.tables e below G (T.setTop (mkF m pc ls (.int x :: st))) := by
  subst hp
  exact Goes.on (fun _ k => XS.i2dS X.here C.1 rfl (hb C.2.2.1 hd) rfl rfl k) k
theorem g_goto (C : Ctx p Z s m meth c bs own maxL ret) (X : Stand p l e R s m args below meth c T locs cells slots) {pc pc' : Nat} {ls : Array Slot} {st : List Value} {o : Int} (hd : decode bs pc = .ok (.goto o, 3)) (ho : 0 ≤ (pc : Int) + o) (hp : ((pc : Int) + o).toNat = pc')
    (k : Goes p.tables e below G (T.setTop (mkF m pc' ls st))) : Goes p.tables e below G (T.setTop (mkF m pc ls st)) :=
  Goes.on (fun _ k => XS.goto X.here C.1 rfl (pc0 := pc) (pc' := pc') rfl (hb C.2.2.1 hd) ho hp k) k
theorem cmpL_lt (x y : Int64) : XT.cmpL x y < 0 ↔ x < y := by unfold XT.cmpL; split <;> (try split) <;> simp_all [Int64.lt_iff_toInt_lt, ← Int64.toInt_inj] <;> omega
theorem cmpL_gt (x y : Int64) : 0 < XT.cmpL x y ↔ y < x := by unfold XT.cmpL; split <;> (try split) <;> simp_all [Int64.lt_iff_toInt_lt, ← Int64.toInt_inj] <;> omega
theorem cmpL_eq (x y : Int64) : XT.cmpL x y = 0 ↔ x = y := by unfold XT.cmpL; split <;> (try split) <;> simp_all [Int64.lt_iff_toInt_lt, ← Int64.toInt_inj] <;> omega
theorem g_icmp_eq (C : Ctx p Z s m meth c bs own maxL ret) (X : Stand p l e R s m args below meth c T locs cells slots) {pc pcT pcN : Nat} {ls : Array Slot} {st : List Value} {x y : Int32} {o : Int} (hd : decode bs pc = .ok (.if_icmp .eq o, 3)) (ho : 0 ≤ (pc : Int) + o) (hp : ((pc : Int) + o).toNat = pcT) (hq : pc + 3 = pcN)
    (hyes : x = y → Goes p.tables e below G (T.setTop (mkF m pcT ls st))) (hno : ¬ x = y → Goes p.tables e below G (T.setTop (mkF m pcN ls st))) : Goes p.tables e below G (T.setTop (mkF m pc ls (.int y :: .int x :: st))) := by
  subst hq
  by_cases q : x = y
  · exact Goes.on (fun _ k => XS.icmpYes X.here C.1 rfl (pc0 := pc) (pc' := pcT) rfl (hb C.2.2.1 hd) rfl (teq q).1 ho hp k) (hyes q)
  · exact Goes.on (fun _ k => XS.icmpNo X.here C.1 rfl (hb C.2.2.1 hd) rfl (feq q).1 k) (hno q)
theorem g_if_eq (C : Ctx p Z s m meth c bs own maxL ret) (X : Stand p l e R s m args below meth c T locs cells slots) {pc pcT pcN : Nat} {ls : Array Slot} {st : List Value} {x : Int32} {o : Int} (hd : decode bs pc = .ok (.ifCond .eq o, 3)) (ho : 0 ≤ (pc : Int) + o) (hp : ((pc : Int) + o).toNat = pcT) (hq : pc + 3 = pcN)
    (hyes : x = (0 : Int32) → Goes p.tables e below G (T.setTop (mkF m pcT ls st))) (hno : ¬ x = (0 : Int32) → Goes p.tables e below G (T.setTop (mkF m pcN ls st))) : Goes p.tables e below G (T.setTop (mkF m pc ls (.int x :: st))) := by
  subst hq
  by_cases q : x = (0 : Int32)
  · exact Goes.on (fun _ k => XS.ifYes X.here C.1 rfl (pc0 := pc) (pc' := pcT) rfl (hb C.2.2.1 hd) rfl ((if0 _ _).trans (teq q).1) ho hp k) (hyes q)
  · exact Goes.on (fun _ k => XS.ifNo X.here C.1 rfl (hb C.2.2.1 hd) rfl ((if0 _ _).trans (feq q).1) k) (hno q)
theorem g_lcmp_eq (C : Ctx p Z s m meth c bs own maxL ret) (X : Stand p l e R s m args below meth c T locs cells slots) {pc pc1 pcT pcN : Nat} {ls : Array Slot} {st : List Value} {x y : Int64} {o : Int} (hd : decode bs pc = .ok (.lcmp, 1)) (h1 : pc + 1 = pc1) (hd1 : decode bs pc1 = .ok (.ifCond .eq o, 3)) (ho : 0 ≤ (pc1 : Int) + o) (hp : ((pc1 : Int) + o).toNat = pcT) (hq : pc1 + 3 = pcN)
    (hyes : x = y → Goes p.tables e below G (T.setTop (mkF m pcT ls st))) (hno : ¬ x = y → Goes p.tables e below G (T.setTop (mkF m pcN ls st))) : Goes p.tables e below G (T.setTop (mkF m pc ls (.long y :: .long x :: st))) := by
  subst h1
  exact Goes.on (fun _ k => XT.lcmp X.here C.1 rfl (hb C.2.2.1 hd) rfl k) (g_if_eq C X hd1 ho hp hq (fun q => hyes ((cmpL_eq x y).mp q)) (fun q => hno ((not_congr (cmpL_eq x y)).mp q)))
theorem g_icmp_ne (C : Ctx p Z s m meth c bs own maxL ret) (X : Stand p l e R s m args below meth c T locs cells slots) {pc pcT pcN : Nat} {ls : Array Slot} {st : List Value} {x y : Int32} {o : Int} (hd : decode bs pc = .ok (.if_icmp .ne o, 3)) (ho : 0 ≤ (pc : Int) + o) (hp : ((pc : Int) + o).toNat = pcT) (hq : pc + 3 = pcN)
    (hyes : ¬ x = y → Goes p.tables e below G (T.setTop (mkF m pcT ls st))) (hno : x = y → Goes p.tables e below G (T.setTop (mkF m pcN ls st))) : Goes p.tables e below G (T.setTop (mkF m pc ls (.int y :: .int x :: st))) := by
  subst hq
  by_cases q : x = y
  · exact Goes.on (fun _ k => XS.icmpNo X.here C.1 rfl (hb C.2.2.1 hd) rfl (teq q).2 k) (hno q)
  · exact Goes.on (fun _ k => XS.icmpYes X.here C.1 rfl (pc0 := pc) (pc' := pcT) rfl (hb C.2.2.1 hd) rfl (feq q).2 ho hp k) (hyes q)
theorem g_if_ne (C : Ctx p Z s m meth c bs own maxL ret) (X : Stand p l e R s m args below meth c T locs cells slots) {pc pcT pcN : Nat} {ls : Array Slot} {st : List Value} {x : Int32} {o : Int} (hd : decode bs pc = .ok (.ifCond .ne o, 3)) (ho : 0 ≤ (pc : Int) + o) (hp : ((pc : Int) + o).toNat = pcT) (hq : pc + 3 = pcN)
    (hyes : ¬ x = (0 : Int32) → Goes p.tables e below G (T.setTop (mkF m pcT ls st))) (hno : x = (0 : Int32) → Goes p.tables e below G (T.setTop (mkF m pcN ls st))) : Goes p.tables e below G (T.setTop (mkF m pc ls (.int x :: st))) := by
  subst hq
  by_cases q : x = (0 : Int32)
  · exact Goes.on (fun _ k => XS.ifNo X.here C.1 rfl (hb C.2.2.1 hd) rfl ((if0 _ _).trans (teq q).2) k) (hno q)
  · exact Goes.on (fun _ k => XS.ifYes X.here C.1 rfl (pc0 := pc) (pc' := pcT) rfl (hb C.2.2.1 hd) rfl ((if0 _ _).trans (feq q).2) ho hp k) (hyes q)
theorem g_lcmp_ne (C : Ctx p Z s m meth c bs own maxL ret) (X : Stand p l e R s m args below meth c T locs cells slots) {pc pc1 pcT pcN : Nat} {ls : Array Slot} {st : List Value} {x y : Int64} {o : Int} (hd : decode bs pc = .ok (.lcmp, 1)) (h1 : pc + 1 = pc1) (hd1 : decode bs pc1 = .ok (.ifCond .ne o, 3)) (ho : 0 ≤ (pc1 : Int) + o) (hp : ((pc1 : Int) + o).toNat = pcT) (hq : pc1 + 3 = pcN)
    (hyes : ¬ x = y → Goes p.tables e below G (T.setTop (mkF m pcT ls st))) (hno : x = y → Goes p.tables e below G (T.setTop (mkF m pcN ls st))) : Goes p.tables e below G (T.setTop (mkF m pc ls (.long y :: .long x :: st))) := by
  subst h1
  exact Goes.on (fun _ k => XT.lcmp X.here C.1 rfl (hb C.2.2.1 hd) rfl k) (g_if_ne C X hd1 ho hp hq (fun q => hyes ((not_congr (cmpL_eq x y)).mp q)) (fun q => hno ((cmpL_eq x y).mp q)))
theorem g_icmp_lt (C : Ctx p Z s m meth c bs own maxL ret) (X : Stand p l e R s m args below meth c T locs cells slots) {pc pcT pcN : Nat} {ls : Array Slot} {st : List Value} {x y : Int32} {o : Int} (hd : decode bs pc = .ok (.if_icmp .lt o, 3)) (ho : 0 ≤ (pc : Int) + o) (hp : ((pc : Int) + o).toNat = pcT) (hq : pc + 3 = pcN)
    (hyes : x < y → Goes p.tables e below G (T.setTop (mkF m pcT ls st))) (hno : ¬ x < y → Goes p.tables e below G (T.setTop (mkF m pcN ls st))) : Goes p.tables e below G (T.setTop (mkF m pc ls (.int y :: .int x :: st))) := by
  subst hq
  by_cases q : x < y
  · exact Goes.on (fun _ k => XS.icmpYes X.here C.1 rfl (pc0 := pc) (pc' := pcT) rfl (hb C.2.2.1 hd) rfl (tlt q).1 ho hp k) (hyes q)
  · exact Goes.on (fun _ k => XS.icmpNo X.here C.1 rfl (hb C.2.2.1 hd) rfl (flt q).1 k) (hno q)
theorem g_if_lt (C : Ctx p Z s m meth c bs own maxL ret) (X : Stand p l e R s m args below meth c T locs cells slots) {pc pcT pcN : Nat} {ls : Array Slot} {st : List Value} {x : Int32} {o : Int} (hd : decode bs pc = .ok (.ifCond .lt o, 3)) (ho : 0 ≤ (pc : Int) + o) (hp : ((pc : Int) + o).toNat = pcT) (hq : pc + 3 = pcN)
    (hyes : x < (0 : Int32) → Goes p.tables e below G (T.setTop (mkF m pcT ls st))) (hno : ¬ x < (0 : Int32) → Goes p.tables e below G (T.setTop (mkF m pcN ls st))) : Goes p.tables e below G (T.setTop (mkF m pc ls (.int x :: st))) := by
  subst hq
  by_cases q : x < (0 : Int32)
  · exact Goes.on (fun _ k => XS.ifYes X.here C.1 rfl (pc0 := pc) (pc' := pcT) rfl (hb C.2.2.1 hd) rfl ((if0 _ _).trans (tlt q).1) ho hp k) (hyes q)
  · exact Goes.on (fun _ k => XS.ifNo X.here C.1 rfl (hb C.2.2.1 hd) rfl ((if0 _ _).trans (flt q).1) k) (hno q)
theorem g_lcmp_lt (C : Ctx p Z s m meth c bs own maxL ret) (X : Stand p l e R s m args below meth c T locs cells slots) {pc pc1 pcT pcN : Nat} {ls : Array Slot} {st : List Value} {x y : Int64} {o : Int} (hd : decode bs pc = .ok (.lcmp, 1)) (h1 : pc + 1 = pc1) (hd1 : decode bs pc1 = .ok (.ifCond .lt o, 3)) (ho : 0 ≤ (pc1 : Int) + o) (hp : ((pc1 : Int) + o).toNat = pcT) (hq : pc1 + 3 = pcN)
    (hyes : x < y → Goes p.tables e below G (T.setTop (mkF m pcT ls st))) (hno : ¬ x < y → Goes p.tables e below G (T.setTop (mkF m pcN ls st))) : Goes p.tables e below G (T.setTop (mkF m pc ls (.long y :: .long x :: st))) := by
  subst h1
  exact Goes.on (fun _ k => XT.lcmp X.here C.1 rfl (hb C.2.2.1 hd) rfl k) (g_if_lt C X hd1 ho hp hq (fun q => hyes ((cmpL_lt x y).mp q)) (fun q => hno ((not_congr (cmpL_lt x y)).mp q)))
theorem g_icmp_ge (C : Ctx p Z s m meth c bs own maxL ret) (X : Stand p l e R s m args below meth c T locs cells slots) {pc pcT pcN : Nat} {ls : Array Slot} {st : List Value} {x y : Int32} {o : Int} (hd : decode bs pc = .ok (.if_icmp .ge o, 3)) (ho : 0 ≤ (pc : Int) + o) (hp : ((pc : Int) + o).toNat = pcT) (hq : pc + 3 = pcN)
    (hyes : ¬ x < y → Goes p.tables e below G (T.setTop (mkF m pcT ls st))) (hno : x < y → Goes p.tables e below G (T.setTop (mkF m pcN ls st))) : Goes p.tables e below G (T.setTop (mkF m pc ls (.int y :: .int x :: st))) := by
  subst hq
  by_cases q : x < y
  · exact Goes.on (fun _ k => XS.icmpNo X.here C.1 rfl (hb C.2.2.1 hd) rfl (tlt q).2.1 k) (hno q)
  · exact Goes.on (fun _ k => XS.icmpYes X.here C.1 rfl (pc0 := pc) (pc' := pcT) rfl (hb C.2.2.1 hd) rfl (flt q).2.1 ho hp k) (hyes q)
theorem g_if_ge (C : Ctx p Z s m meth c bs own maxL ret) (X : Stand p l e R s m args below meth c T locs cells slots) {pc pcT pcN : Nat} {ls : Array Slot} {st : List Value} {x : Int32} {o : Int} (hd : decode bs pc = .ok (.ifCond .ge o, 3)) (ho : 0 ≤ (pc : Int) + o) (hp : ((pc : Int) + o).toNat = pcT) (hq : pc + 3 = pcN)
    (hyes : ¬ x < (0 : Int32) → Goes p.tables e below G (T.setTop (mkF m pcT ls st))) (hno : x < (0 : Int32) → Goes p.tables e below G (T.setTop (mkF m pcN ls st))) : Goes p.tables e below G (T.setTop (mkF m pc ls (.int x :: st))) := by
  subst hq
  by_cases q : x < (0 : Int32)
  · exact Goes.on (fun _ k => XS.ifNo X.here C.1 rfl (hb C.2.2.1 hd) rfl ((if0 _ _).trans (tlt q).2.1) k) (hno q)
  · exact Goes.on (fun _ k => XS.ifYes X.here C.1 rfl (pc0 := pc) (pc' := pcT) rfl (hb C.2.2.1 hd) rfl ((if0 _ _).trans (flt q).2.1) ho hp k) (hyes q)
theorem g_lcmp_ge (C : Ctx p Z s m meth c bs own maxL ret) (X : Stand p l e R s m args below meth c T locs cells slots) {pc pc1 pcT pcN : Nat} {ls : Array Slot} {st : List Value} {x y : Int64} {o : Int} (hd : decode bs pc = .ok (.lcmp, 1)) (h1 : pc + 1 = pc1) (hd1 : decode bs pc1 = .ok (.ifCond .ge o, 3)) (ho : 0 ≤ (pc1 : Int) + o) (hp : ((pc1 : Int) + o).toNat = pcT) (hq : pc1 + 3 = pcN)
    (hyes : ¬ x < y → Goes p.tables e below G (T.setTop (mkF m pcT ls st))) (hno : x < y → Goes p.tables e below G (T.setTop (mkF m pcN ls st))) : Goes p.tables e below G (T.setTop (mkF m pc ls (.long y :: .long x :: st))) := by
  subst h1
  exact Goes.on (fun _ k => XT.lcmp X.here C.1 rfl (hb C.2.2.1 hd) rfl k) (g_if_ge C X hd1 ho hp hq (fun q => hyes ((not_congr (cmpL_lt x y)).mp q)) (fun q => hno ((cmpL_lt x y).mp q)))
theorem g_icmp_gt (C : Ctx p Z s m meth c bs own maxL ret) (X : Stand p l e R s m args below meth c T locs cells slots) {pc pcT pcN : Nat} {ls : Array Slot} {st : List Value} {x y : Int32} {o : Int} (hd : decode bs pc = .ok (.if_icmp .gt o, 3)) (ho : 0 ≤ (pc : Int) + o) (hp : ((pc : Int) + o).toNat = pcT) (hq : pc + 3 = pcN)
    (hyes : y < x → Goes p.tables e below G (T.setTop (mkF m pcT ls st))) (hno : ¬ y < x → Goes p.tables e below G (T.setTop (mkF m pcN ls st))) : Goes p.tables e below G (T.setTop (mkF m pc ls (.int y :: .int x :: st))) := by
  subst hq
  by_cases q : y < x
  · exact Goes.on (fun _ k => XS.icmpYes X.here C.1 rfl (pc0 := pc) (pc' := pcT) rfl (hb C.2.2.1 hd) rfl (tlt q).2.2.1 ho hp k) (hyes q)
  · exact Goes.on (fun _ k => XS.icmpNo X.here C.1 rfl (hb C.2.2.1 hd) rfl (flt q).2.2.1 k) (hno q)
theorem g_if_gt (C : Ctx p Z s m meth c bs own maxL ret) (X : Stand p l e R s m args below meth c T locs cells slots) {pc pcT pcN : Nat} {ls : Array Slot} {st : List Value} {x : Int32} {o : Int} (hd : decode bs pc = .ok (.ifCond .gt o, 3)) (ho : 0 ≤ (pc : Int) + o) (hp : ((pc : Int) + o).toNat = pcT) (hq : pc + 3 = pcN)
    (hyes : (0 : Int32) < x → Goes p.tables e below G (T.setTop (mkF m pcT ls st))) (hno : ¬ (0 : Int32) < x → Goes p.tables e below G (T.setTop (mkF m pcN ls st))) : Goes p.tables e below G (T.setTop (mkF m pc ls (.int x :: st))) := by
  subst hq
  by_cases q : (0 : Int32) < x
  · exact Goes.on (fun _ k => XS.ifYes X.here C.1 rfl (pc0 := pc) (pc' := pcT) rfl (hb C.2.2.1 hd) rfl ((if0 _ _).trans (tlt q).2.2.1) ho hp k) (hyes q)
  · exact Goes.on (fun _ k => XS.ifNo X.here C.1 rfl (hb C.2.2.1 hd) rfl ((if0 _ _).trans (flt q).2.2.1) k) (hno q)
theorem g_lcmp_gt (C : Ctx p Z s m meth c bs own maxL ret) (X : Stand p l e R s m args below meth c T locs cells slots) {pc pc1 pcT pcN : Nat} {ls : Array Slot} {st : List Value} {x y : Int64} {o : Int} (hd : decode bs pc = .ok (.lcmp, 1)) (h1 : pc + 1 = pc1) (hd1 : decode bs pc1 = .ok (.ifCond .gt o, 3)) (ho : 0 ≤ (pc1 : Int) + o) (hp : ((pc1 : Int) + o).toNat = pcT) (hq : pc1 + 3 = pcN)
    (hyes : y < x → Goes p.tables e below G (T.setTop (mkF m pcT ls st))) (hno : ¬ y < x → Goes p.tables e below G (T.setTop (mkF m pcN ls st))) : Goes p.tables e below G (T.setTop (mkF m pc ls (.long y :: .long x :: st))) := by
  subst h1
  exact Goes.on (fun _ k => XT.lcmp X.here C.1 rfl (hb C.2.2.1 hd) rfl k) (g_if_gt C X hd1 ho hp hq (fun q => hyes ((cmpL_gt x y).mp q)) (fun q => hno ((not_congr (cmpL_gt x y)).mp q)))
theorem g_icmp_le (C : Ctx p Z s m meth c bs own maxL ret) (X : Stand p l e R s m args below meth c T locs cells slots) {pc pcT pcN : Nat} {ls : Array Slot} {st : List Value} {x y : Int32} {o : Int} (hd : decode bs pc = .ok (.if_icmp .le o, 3)) (ho : 0 ≤ (pc : Int) + o) (hp : ((pc : Int) + o).toNat = pcT) (hq : pc + 3 = pcN)
    (hyes : ¬ y < x → Goes p.tables e below G (T.setTop (mkF m pcT ls st))) (hno : y < x → Goes p.tables e below G (T.setTop (mkF m pcN ls st))) : Goes p.tables e below G (T.setTop (mkF m pc ls (.int y :: .int x :: st))) := by
  subst hq
  by_cases q : y < x
  · exact Goes.on (fun _ k => XS.icmpNo X.here C.1 rfl (hb C.2.2.1 hd) rfl (tlt q).2.2.2 k) (hno q)
  · exact Goes.on (fun _ k => XS.icmpYes X.here C.1 rfl (pc0 := pc) (pc' := pcT) rfl (hb C.2.2.1 hd) rfl (flt q).2.2.2 ho hp k) (hyes q)
theorem g_if_le (C : Ctx p Z s m meth c bs own maxL ret) (X : Stand p l e R s m args below meth c T locs cells slots) {pc pcT pcN : Nat} {ls : Array Slot} {st : List Value} {x : Int32} {o : Int} (hd : decode bs pc = .ok (.ifCond .le o, 3)) (ho : 0 ≤ (pc : Int) + o) (hp : ((pc : Int) + o).toNat = pcT) (hq : pc + 3 = pcN)
    (hyes : ¬ (0 : Int32) < x → Goes p.tables e below G (T.setTop (mkF m pcT ls st))) (hno : (0 : Int32) < x → Goes p.tables e below G (T.setTop (mkF m pcN ls st))) : Goes p.tables e below G (T.setTop (mkF m pc ls (.int x :: st))) := by
  subst hq
  by_cases q : (0 : Int32) < x
  · exact Goes.on (fun _ k => XS.ifNo X.here C.1 rfl (hb C.2.2.1 hd) rfl ((if0 _ _).trans (tlt q).2.2.2) k) (hno q)
  · exact Goes.on (fun _ k => XS.ifYes X.here C.1 rfl (pc0 := pc) (pc' := pcT) rfl (hb C.2.2.1 hd) rfl ((if0 _ _).trans (flt q).2.2.2) ho hp k) (hyes q)
theorem g_lcmp_le (C : Ctx p Z s m meth c bs own maxL ret) (X : Stand p l e R s m args below meth c T locs cells slots) {pc pc1 pcT pcN : Nat} {ls : Array Slot} {st : List Value} {x y : Int64} {o : Int} (hd : decode bs pc = .ok (.lcmp, 1)) (h1 : pc + 1 = pc1) (hd1 : decode bs pc1 = .ok (.ifCond .le o, 3)) (ho : 0 ≤ (pc1 : Int) + o) (hp : ((pc1 : Int) + o).toNat = pcT) (hq : pc1 + 3 = pcN)
    (hyes : ¬ y < x → Goes p.tables e below G (T.setTop (mkF m pcT ls st))) (hno : y < x → Goes p.tables e below G (T.setTop (mkF m pcN ls st))) : Goes p.tables e below G (T.setTop (mkF m pc ls (.long y :: .long x :: st))) := by
  subst h1
  exact Goes.on (fun _ k => XT.lcmp X.here C.1 rfl (hb C.2.2.1 hd) rfl k) (g_if_le C X hd1 ho hp hq (fun q => hyes ((not_congr (cmpL_gt x y)).mp q)) (fun q => hno ((cmpL_gt x y).mp q)))
theorem g_ldc (C : Ctx p Z s m meth c bs own maxL ret) (X : Stand p l e R s m args below meth c T locs cells slots) {pc pc' : Nat} {ls : Array Slot} {st : List Value} {i : Nat} {v : Int32} (w : (Cond.constant own i v).before a0 Z = true) (hd : decode bs pc = .ok (.ldc i, 2)) (hp : pc + 2 = pc') (k : Goes p.tables e below G (T.setTop (mkF m pc' ls (.int v :: st)))) : Goes p.tables e below G (T.setTop (mkF m pc ls st)) := by
  subst hp
  exact Goes.on (fun _ k => X.ldcInt C.1 C.2.2.2.2.1 (mvT C.2.1 w) (g := mkF m pc ls st) rfl (hb C.2.2.1 hd) _ k) k
theorem g_ldc2 (C : Ctx p Z s m meth c bs own maxL ret) (X : Stand p l e R s m args below meth c T locs cells slots) {pc pc' : Nat} {ls : Array Slot} {st : List Value} {i : Nat} {v : Int64} (w : (Cond.constantLong own i v).before a0 Z = true) (hd : decode bs pc = .ok (.ldc2_w i, 3)) (hp : pc + 3 = pc') (k : Goes p.tables e below G (T.setTop (mkF m pc' ls (.long v :: st)))) : Goes p.tables e below G (T.setTop (mkF m pc ls st)) := by
  subst hp
  exact Goes.on (fun _ k => X.ldc2Long C.1 C.2.2.2.2.1 (mvT C.2.1 w) (g := mkF m pc ls st) rfl (hb C.2.2.1 hd) _ k) k
theorem g_retN {t : FieldType} (C : Ctx p Z s m meth c bs own maxL (some t)) (X : Stand p l e R s m args below meth c T locs cells slots) {Q : Option Value → Heap → List Loc → Prop} (K : ∀ (v : Option Value) (L : List Loc) (T' : State), Q v T'.heap L → s.WarmedH T'.vm → s.sameButNew ({ T' with vm := s.vm } : State) L R.cells R.slots → G (.returned v) T') {pc : Nat} {ls : Array Slot} {rest : List Value} {z : Int32} (ht : t = .boolean ∨ t = .byte ∨ t = .char ∨ t = .short) (hd : decode bs pc = .ok (.ireturn, 1)) (hc : cells ≤ R.cells) (hs : slots ≤ R.slots) (eT : T.heap = h) (hQ : Q (some (.int (nar t z))) h locs) : Goes p.tables e below G (T.setTop (mkF m pc ls (.int z :: rest))) := by
  have hlk : meth.locks = false := C.2.2.2.2.2.2
  obtain ⟨fs, hr, hrun, hended, hW, hsame⟩ := X.leave (v := some (.int (nar t z))) (fun q => by rw [C.2.2.2.2.2.1] at q; cases q) hlk
  refine ⟨_, _, ?_, hrun, hended, K _ locs _ (by show Q _ T.heap locs; rw [eT]; exact hQ) hW (hsame.mono hc hs)⟩
  exact retN X C.1 C.2.2.2.2.2.1 ht (hb C.2.2.1 hd) hr
theorem g_retI (C : Ctx p Z s m meth c bs own maxL (some .int)) (X : Stand p l e R s m args below meth c T locs cells slots) {Q : Option Value → Heap → List Loc → Prop} (K : ∀ (v : Option Value) (L : List Loc) (T' : State), Q v T'.heap L → s.WarmedH T'.vm → s.sameButNew ({ T' with vm := s.vm } : State) L R.cells R.slots → G (.returned v) T') {pc : Nat} {ls : Array Slot} {rest : List Value} {z : Int32} (hd : decode bs pc = .ok (.ireturn, 1)) (hc : cells ≤ R.cells) (hs : slots ≤ R.slots) (eT : T.heap = h) (hQ : Q (some (.int z)) h locs) : Goes p.tables e below G (T.setTop (mkF m pc ls (.int z :: rest))) := by
  have hlk : meth.locks = false := C.2.2.2.2.2.2
  obtain ⟨fs, hr, hrun, hended, hW, hsame⟩ := X.leave (v := some (.int z)) (fun q => by rw [C.2.2.2.2.2.1] at q; cases q) hlk
  refine ⟨_, _, ?_, hrun, hended, K _ locs _ (by show Q _ T.heap locs; rw [eT]; exact hQ) hW (hsame.mono hc hs)⟩
  exact retOut X C.1 (w := .int z) (i := .ireturn) C.2.2.2.2.2.1 rfl (Or.inl ⟨rfl, Or.inl rfl, z, rfl⟩) (hb C.2.2.1 hd) hr
theorem g_retJ (C : Ctx p Z s m meth c bs own maxL (some .long)) (X : Stand p l e R s m args below meth c T locs cells slots) {Q : Option Value → Heap → List Loc → Prop} (K : ∀ (v : Option Value) (L : List Loc) (T' : State), Q v T'.heap L → s.WarmedH T'.vm → s.sameButNew ({ T' with vm := s.vm } : State) L R.cells R.slots → G (.returned v) T') {pc : Nat} {ls : Array Slot} {rest : List Value} {z : Int64} (hd : decode bs pc = .ok (.lreturn, 1)) (hc : cells ≤ R.cells) (hs : slots ≤ R.slots) (eT : T.heap = h) (hQ : Q (some (.long z)) h locs) : Goes p.tables e below G (T.setTop (mkF m pc ls (.long z :: rest))) := by
  have hlk : meth.locks = false := C.2.2.2.2.2.2
  obtain ⟨fs, hr, hrun, hended, hW, hsame⟩ := X.leave (v := some (.long z)) (fun q => by rw [C.2.2.2.2.2.1] at q; cases q) hlk
  refine ⟨_, _, ?_, hrun, hended, K _ locs _ (by show Q _ T.heap locs; rw [eT]; exact hQ) hW (hsame.mono hc hs)⟩
  exact retOut X C.1 (w := .long z) (i := .lreturn) C.2.2.2.2.2.1 rfl (Or.inr (Or.inl ⟨rfl, rfl, z, rfl⟩)) (hb C.2.2.1 hd) hr
theorem g_retA {t : FieldType} (C : Ctx p Z s m meth c bs own maxL (some t)) (X : Stand p l e R s m args below meth c T locs cells slots) {Q : Option Value → Heap → List Loc → Prop} (K : ∀ (v : Option Value) (L : List Loc) (T' : State), Q v T'.heap L → s.WarmedH T'.vm → s.sameButNew ({ T' with vm := s.vm } : State) L R.cells R.slots → G (.returned v) T') {pc : Nat} {ls : Array Slot} {rest : List Value} {w : Value} (ht : t.isReference = true) (hn : narrow t w = w) (hw : w.isRef = true) (hd : decode bs pc = .ok (.areturn, 1)) (hc : cells ≤ R.cells) (hs : slots ≤ R.slots) (eT : T.heap = h) (hQ : Q (some w) h locs) : Goes p.tables e below G (T.setTop (mkF m pc ls (w :: rest))) := by
  have hlk : meth.locks = false := C.2.2.2.2.2.2
  obtain ⟨fs, hr, hrun, hended, hW, hsame⟩ := X.leave (v := some w) (fun q => by rw [C.2.2.2.2.2.1] at q; cases q) hlk
  refine ⟨_, _, ?_, hrun, hended, K _ locs _ (by show Q _ T.heap locs; rw [eT]; exact hQ) hW (hsame.mono hc hs)⟩
  exact retOut X C.1 (w := w) (i := .areturn) C.2.2.2.2.2.1 hn (Or.inr (Or.inr (Or.inr (Or.inr ⟨rfl, ht, hw⟩)))) (hb C.2.2.1 hd) hr
theorem g_retV (C : Ctx p Z s m meth c bs own maxL (none)) (X : Stand p l e R s m args below meth c T locs cells slots) {Q : Option Value → Heap → List Loc → Prop} (K : ∀ (v : Option Value) (L : List Loc) (T' : State), Q v T'.heap L → s.WarmedH T'.vm → s.sameButNew ({ T' with vm := s.vm } : State) L R.cells R.slots → G (.returned v) T') {pc : Nat} {ls : Array Slot} {rest : List Value}  (hd : decode bs pc = .ok (.return_, 1)) (hc : cells ≤ R.cells) (hs : slots ≤ R.slots) (eT : T.heap = h) (hQ : Q (none) h locs) : Goes p.tables e below G (T.setTop (mkF m pc ls [])) := by
  have hlk : meth.locks = false := C.2.2.2.2.2.2
  obtain ⟨fs, hr, hrun, hended, hW, hsame⟩ := X.leave (v := none) (fun _ => rfl) hlk
  refine ⟨_, _, ?_, hrun, hended, K _ locs _ (by show Q _ T.heap locs; rw [eT]; exact hQ) hW (hsame.mono hc hs)⟩
  exact X.returnOut C.1 C.2.2.2.2.2.1 (hb C.2.2.1 hd) hr
theorem g_getF (C : Ctx p Z s m meth c bs own maxL ret) (X : Stand p l e R s m args below meth c T locs cells slots) {pc pc' : Nat} {ls : Array Slot} {st : List Value} {R0 O n d : String} {index : Nat} {a : Addr} {v : Value} (w : (Cond.fieldLink own index R0 n d).before a0 Z = true) (via : Via Z R0 O n d) (eT : T.heap = h) (F : Fld Z h a O n d v) (hd : decode bs pc = .ok (.getfield index, 3)) (hp : pc + 3 = pc')
    (k : ∀ T' : State, Stand p l e R s m args below meth c T' locs cells slots → T'.heap = h → Goes p.tables e below G (T'.setTop (mkF m pc' ls (v :: st)))) : Goes p.tables e below G (T.setTop (mkF m pc ls (.ref a :: st))) := by
  subst hp
  obtain ⟨T', X', e', st'⟩ := getF X C.1 C.2.1 C.2.2.2.2.1 (host := "") (Or.inl w) via eT F (g := mkF m pc ls (.ref a :: st)) rfl rfl (hb C.2.2.1 hd)
  exact Goes.on (fun t k => st' t k) (k T' X' e')
theorem g_getS (C : Ctx p Z s m meth c bs own maxL ret) (X : Stand p l e R s m args below meth c T locs cells slots) {pc pc' : Nat} {ls : Array Slot} {st : List Value} {R0 O n d : String} {index : Nat} {v : Value} (w : (Cond.fieldLink own index R0 n d).before a0 Z = true) (via : Via Z R0 O n d) (eT : T.heap = h) (F : Sta Z h O n d v) (hd : decode bs pc = .ok (.getstatic index, 3)) (hp : pc + 3 = pc')
    (k : ∀ T' : State, Stand p l e R s m args below meth c T' locs cells slots → T'.heap = h → Goes p.tables e below G (T'.setTop (mkF m pc' ls (v :: st)))) : Goes p.tables e below G (T.setTop (mkF m pc ls st)) := by
  subst hp
  obtain ⟨T', X', e', st'⟩ := getS2 X C.1 C.2.1 C.2.2.2.2.1 (host := "") (Or.inl w) via eT F (g := mkF m pc ls st) rfl (hb C.2.2.1 hd)
  exact Goes.on (fun t k => st' t k) (k T' X' e')
theorem g_getFN (C : Ctx p Z s m meth c bs own maxL ret) (X : Stand p l e R s m args below meth c T locs cells slots) {pc pc' : Nat} {ls : Array Slot} {st : List Value} {R0 O n d host : String} {index : Nat} {a : Addr} {v : Value} (w : (Cond.fieldLinkNest own index R0 n d host).before a0 Z = true) (via : Via Z R0 O n d) (eT : T.heap = h) (F : Fld Z h a O n d v) (hd : decode bs pc = .ok (.getfield index, 3)) (hp : pc + 3 = pc')
    (k : ∀ T' : State, Stand p l e R s m args below meth c T' locs cells slots → T'.heap = h → Goes p.tables e below G (T'.setTop (mkF m pc' ls (v :: st)))) : Goes p.tables e below G (T.setTop (mkF m pc ls (.ref a :: st))) := by
  subst hp
  obtain ⟨T', X', e', st'⟩ := getF X C.1 C.2.1 C.2.2.2.2.1 (Or.inr w) via eT F (g := mkF m pc ls (.ref a :: st)) rfl rfl (hb C.2.2.1 hd)
  exact Goes.on (fun t k => st' t k) (k T' X' e')
theorem g_putF (C : Ctx p Z s m meth c bs own maxL ret) (X : Stand p l e R s m args below meth c T locs cells slots) {pc pc' : Nat} {ls : Array Slot} {st : List Value} {R0 O n d K : String} {index kk : Nat} {ty : FieldType} {a : Addr} {v old : Value} (w : (Cond.fieldLink own index R0 n d).before a0 Z = true) (via : Via Z R0 O n d) (eT : T.heap = h) (F : Fld Z h a O n d old) (E : Exa Z h a K) (L : (Cond.lays K O n d).before a0 Z = true ∨ ((Cond.laysFinal K O n d).before a0 Z = true ∧ own = O ∧ meth.name = "<init>")) (wi : (Cond.instantiable K kk).before a0 Z = true) (hty : parseFieldDescriptor d = some ty) (hn : narrow ty v = v) (hf : fits ty v = true) (hd : decode bs pc = .ok (.putfield index, 3)) (hp : pc + 3 = pc')
    (k : ∀ (T' : State) (h' : Heap), Stand p l e R s m args below meth c T' (locs ++ [⟨a, Jvm.RoadKit.slotOf Z O n d⟩]) cells slots → T'.heap = h' → Wr h h' a (Jvm.RoadKit.slotOf Z O n d) v → Goes p.tables e below G (T'.setTop (mkF m pc' ls st))) : Goes p.tables e below G (T.setTop (mkF m pc ls (v :: .ref a :: st))) := by
  subst hp
  obtain ⟨T', h', X', e', W', st'⟩ := putF X C.1 C.2.1 C.2.2.2.2.1 (host := "") (Or.inl w) via eT F E L wi hty hn hf (g := mkF m pc ls (v :: .ref a :: st)) rfl rfl (hb C.2.2.1 hd)
  exact Goes.on (fun t k => st' t k) (k T' h' X' e' W')
theorem g_putFN (C : Ctx p Z s m meth c bs own maxL ret) (X : Stand p l e R s m args below meth c T locs cells slots) {pc pc' : Nat} {ls : Array Slot} {st : List Value} {R0 O n d K : String} {index kk : Nat} {ty : FieldType} {a : Addr} {v old v' : Value} (w : (Cond.fieldLink own index R0 n d).before a0 Z = true) (via : Via Z R0 O n d) (eT : T.heap = h) (F : Fld Z h a O n d old) (E : Exa Z h a K) (L : (Cond.lays K O n d).before a0 Z = true ∨ ((Cond.laysFinal K O n d).before a0 Z = true ∧ own = O ∧ meth.name = "<init>")) (wi : (Cond.instantiable K kk).before a0 Z = true) (hty : parseFieldDescriptor d = some ty) (hn : narrow ty v = v') (hf : fits ty v' = true) (hd : decode bs pc = .ok (.putfield index, 3)) (hp : pc + 3 = pc')
    (k : ∀ (T' : State) (h' : Heap), Stand p l e R s m args below meth c T' (locs ++ [⟨a, Jvm.RoadKit.slotOf Z O n d⟩]) cells slots → T'.heap = h' → Wr h h' a (Jvm.RoadKit.slotOf Z O n d) v' → Goes p.tables e below G (T'.setTop (mkF m pc' ls st))) : Goes p.tables e below G (T.setTop (mkF m pc ls (v :: .ref a :: st))) := by
  subst hp
  obtain ⟨T', h', X', e', W', st'⟩ := putFN X C.1 C.2.1 C.2.2.2.2.1 w via eT F E L wi hty hn hf (g := mkF m pc ls (v :: .ref a :: st)) rfl rfl (hb C.2.2.1 hd)
  exact Goes.on (fun t k => st' t k) (k T' h' X' e' W')
theorem g_new (C : Ctx p Z s m meth c bs own maxL ret) (X : Stand p l e R s m args below meth c T locs cells slots) {pc pc' : Nat} {ls : Array Slot} {st : List Value} {K : String} {index n : Nat} (w : (Cond.classLink own index K).before a0 Z = true) (wi : (Cond.instantiable K n).before a0 Z = true) (wz : (Cond.initialized K).before a0 Z = true) (eT : T.heap = h) (hd : decode bs pc = .ok (.new index, 3)) (hp : pc + 3 = pc') (hc : cells + 1 ≤ R.cells) (hs : slots + n ≤ R.slots)
    (k : ∀ (T' : State) (h' : Heap) (b : Addr), Stand p l e R s m args below meth c T' locs (cells + 1) (slots + n) → T'.heap = h' → b = h.size → Ext h h' → Exa Z h' b K → (∀ {O nm d : String} {ty : FieldType}, Laid Z a0 K O nm d → parseFieldDescriptor d = some ty → Fld Z h' b O nm d (defaultValue ty)) → Goes p.tables e below G (T'.setTop (mkF m pc' ls (.ref b :: st)))) : Goes p.tables e below G (T.setTop (mkF m pc ls st)) := by
  subst hp
  obtain ⟨T', h', X', e', E', A', D', -, st'⟩ := newO X C.1 C.2.1 C.2.2.2.2.1 w wi wz eT (g := mkF m pc ls st) rfl (hb C.2.2.1 hd) hc hs
  exact Goes.on (fun t k => st' t k) (k T' h' h.size X' e' rfl E' A' D')
theorem g_initO (C : Ctx p Z s m meth c bs own maxL ret) (X : Stand p l e R s m args below meth c T locs cells slots) {pc pc' : Nat} {ls : Array Slot} {st : List Value} {idx : Nat} {a : Addr} (w1 : (Cond.methodLink own idx Lib.objectInit).before a0 Z = true) (w2 : (Cond.instanceMethod Lib.objectInit).before a0 Z = true) (w3 : (Cond.code Lib.objectInit ⟨#[0xb1]⟩ 1 none).before a0 Z = true) (eT : T.heap = h) (hls : ls.size = maxL) (hd : decode bs pc = .ok (.invokespecial idx, 3)) (hp : pc + 3 = pc') (hf : 1 ≤ R.frames) {W : Nat} (hW : (st.map fun v => v.category).sum ≤ W) (hl : W + 12 ≤ R.locals)
    (k : ∀ T' : State, Stand p l e R s m args below meth c T' locs cells slots → T'.heap = h → Goes p.tables e below G (T'.setTop (mkF m pc' ls st))) : Goes p.tables e below G (T.setTop (mkF m pc ls (.ref a :: st))) := by
  subst hp
  obtain ⟨T', X', e', st'⟩ := initO X C.1 C.2.1 C.2.2.2.2.1 w1 w2 w3 eT (g := mkF m pc ls (.ref a :: st)) rfl (by rw [C.2.2.2.1]; exact hls) rfl (hb C.2.2.1 hd) hf (W := W) (by show 2 * 0 + _ ≤ _; omega) hl
  exact Goes.on (fun t k => st' t k) (k T' X' e')
theorem g_callS (C : Ctx p Z s m meth c bs own maxL ret) (X : Stand p l e R s m args below meth c T locs cells slots) {pc pc' : Nat} {ls : Array Slot} {y : MethodName} {index : Nat} {bytes : ByteArray} {maxY : Nat} {retY : Option FieldType} {rm : Room} {W : Nat} {Q : Option Value → Heap → List Loc → Prop} {ps : List FieldType} {rr : Option FieldType} {argsL rest stk : List Value} (w1 : (Cond.methodLink own index y).before a0 Z = true) (w2 : (Cond.static y).before a0 Z = true) (w3 : (Cond.initialized y.cls).before a0 Z = true) (w4 : (Cond.code y bytes maxY retY).before a0 Z = true) (hy : y.cls ≠ "java/lang/invoke/MethodHandle" ∧ y.cls ≠ "java/lang/invoke/VarHandle") (hd : decode bs pc = .ok (.invokestatic index, 3)) (hM : MetFree l y (head1 [Cond.code y bytes maxY retY] rm) (fun a' U => a' = argsL.toArray ∧ Z.Warmed39 U.vm ∧ U.heap = h) (fun _ _ _ _ _ => True) (fun _ U o U' => ∃ v L, o = .returned v ∧ Q v U'.heap L ∧ FrameEnd U o U' L rm.cells rm.slots)) (hf : rm.frames + 1 ≤ R.frames) (hl : W + (maxY + 11) + rm.locals ≤ R.locals) (hls : ls.size = maxL) (hpd : parseMethodDescriptor y.desc = some ⟨ps, rr⟩) (hlen : argsL.length = ps.length) (hst : stk = argsL.reverse ++ rest) (hW : (rest.map fun v => v.category).sum ≤ W) (eT : T.heap = h) (hc : cells + rm.cells ≤ R.cells) (hs : slots + rm.slots ≤ R.slots) (hp : pc + 3 = pc')
    (k : ∀ (v : Option Value) (T' : State) (L : List Loc), Stand p l e R s m args below meth c T' (locs ++ L) (cells + rm.cells) (slots + rm.slots) → Q v T'.heap L → Goes p.tables e below G (T'.setTop (mkF m pc' ls (v.toList ++ rest)))) : Goes p.tables e below G (T.setTop (mkF m pc ls stk)) := by
  subst hp hst
  obtain ⟨v, _, ⟨T', L', k', n'⟩, -, X', ⟨L, hQ, l1, l2, l3⟩, st'⟩ := Jvm.LawKit.callS X C.1 (y := y) C.2.2.2.2.1 (mvT C.2.1 w1) (mvT C.2.1 w2) (mvT C.2.1 w3) (mvT C.2.1 w4) hy (backOf (W := W) hM C.2.1 w4 w3 hf hl) (g := mkF m pc ls (argsL.reverse ++ rest)) rfl (by rw [C.2.2.2.1]; exact hls) (argsL := argsL) (rest := rest) (lenOf hpd hlen) rfl (by show 2 * 0 + _ ≤ _; omega) (hb C.2.2.1 hd) (fun _ _ => ⟨rfl, eT, hc, hs⟩)
  dsimp only [Pt.U, Pt.locs, Pt.cells, Pt.slots] at X' l1 l2 l3 st' hQ
  subst l1 l2 l3
  exact Goes.on (fun t k => st' t k) (k v T' L X' hQ)
theorem g_callI (C : Ctx p Z s m meth c bs own maxL ret) (X : Stand p l e R s m args below meth c T locs cells slots) {pc pc' : Nat} {ls : Array Slot} {a : Addr} {y : MethodName} {index : Nat} {bytes : ByteArray} {maxY : Nat} {rm : Room} {W : Nat} {Q : Option Value → Heap → List Loc → Prop} {ps : List FieldType} {rr : Option FieldType} {argsL rest stk : List Value} (hn : y.name = "<init>") (w1 : (Cond.methodLink own index y).before a0 Z = true) (w2 : (Cond.instanceMethod y).before a0 Z = true) (w3 : (Cond.initialized y.cls).before a0 Z = true) (w4 : (Cond.code y bytes maxY none).before a0 Z = true) (hy : y.cls ≠ "java/lang/invoke/MethodHandle" ∧ y.cls ≠ "java/lang/invoke/VarHandle") (hd : decode bs pc = .ok (.invokespecial index, 3)) (hM : MetFree l y (head1 [Cond.code y bytes maxY none] rm) (fun a' U => a' = (.ref a :: argsL).toArray ∧ Z.Warmed39 U.vm ∧ U.heap = h) (fun _ _ _ _ _ => True) (fun _ U o U' => ∃ v L, o = .returned v ∧ Q v U'.heap L ∧ FrameEnd U o U' L rm.cells rm.slots)) (hf : rm.frames + 1 ≤ R.frames) (hl : W + (maxY + 11) + rm.locals ≤ R.locals) (hls : ls.size = maxL) (hpd : parseMethodDescriptor y.desc = some ⟨ps, rr⟩) (hlen : argsL.length = ps.length) (hst : stk = argsL.reverse ++ .ref a :: rest) (hW : (rest.map fun v => v.category).sum ≤ W) (eT : T.heap = h) (hc : cells + rm.cells ≤ R.cells) (hs : slots + rm.slots ≤ R.slots) (hp : pc + 3 = pc')
    (k : ∀ (v : Option Value) (T' : State) (L : List Loc), Stand p l e R s m args below meth c T' (locs ++ L) (cells + rm.cells) (slots + rm.slots) → Q v T'.heap L → Goes p.tables e below G (T'.setTop (mkF m pc' ls (v.toList ++ rest)))) : Goes p.tables e below G (T.setTop (mkF m pc ls stk)) := by
  subst hp hst
  obtain ⟨v, _, ⟨T', L', k', n'⟩, -, X', ⟨L, hQ, l1, l2, l3⟩, st'⟩ := X.specialBack C.1 (y := y) hn C.2.2.2.2.1 (mvT C.2.1 w1) (mvT C.2.1 w2) (mvT C.2.1 w4) hy (backOf (W := W) hM C.2.1 w4 w3 hf hl) (g := mkF m pc ls (argsL.reverse ++ .ref a :: rest)) rfl (by rw [C.2.2.2.1]; exact hls) (Steps.refl _) (a := a) (argsL := argsL) (rest := rest) (lenOf hpd hlen) rfl (by show 2 * 0 + _ ≤ _; omega) (hb C.2.2.1 hd) (fun _ _ => ⟨rfl, eT, hc, hs⟩)
  dsimp only [Pt.U, Pt.locs, Pt.cells, Pt.slots] at X' l1 l2 l3 st' hQ
  subst l1 l2 l3
  exact Goes.on (fun t k => st'.trans k) (k v T' L X' hQ)
theorem g_callV (C : Ctx p Z s m meth c bs own maxL ret) (X : Stand p l e R s m args below meth c T locs cells slots) {pc pc' : Nat} {ls : Array Slot} {a : Addr} {K : String} {y z : MethodName} {index : Nat} {bytes : ByteArray} {maxY : Nat} {retY : Option FieldType} {rm : Room} {W : Nat} {Q : Option Value → Heap → List Loc → Prop} {ps : List FieldType} {rr : Option FieldType} {argsL rest stk : List Value} (w1 : (Cond.methodLink own index y).before a0 Z = true) (w2 : (Cond.declares y).before a0 Z = true) (hnf : NotFace s y) (w3 : (Cond.selects K y z).before a0 Z = true) (w4 : (Cond.instanceMethod z).before a0 Z = true) (w5 : (Cond.code z bytes maxY retY).before a0 Z = true) (w6 : (Cond.initialized z.cls).before a0 Z = true) (hy : y.cls ≠ "java/lang/invoke/MethodHandle" ∧ y.cls ≠ "java/lang/invoke/VarHandle") (E : Exa Z h a K) (hd : decode bs pc = .ok (.invokevirtual index, 3)) (hM : MetFree l z (head1 [Cond.code z bytes maxY retY] rm) (fun a' U => a' = (.ref a :: argsL).toArray ∧ Z.Warmed39 U.vm ∧ U.heap = h) (fun _ _ _ _ _ => True) (fun _ U o U' => ∃ v L, o = .returned v ∧ Q v U'.heap L ∧ FrameEnd U o U' L rm.cells rm.slots)) (hf : rm.frames + 1 ≤ R.frames) (hl : W + (maxY + 11) + rm.locals ≤ R.locals) (hls : ls.size = maxL) (hpd : parseMethodDescriptor y.desc = some ⟨ps, rr⟩) (hlen : argsL.length = ps.length) (hst : stk = argsL.reverse ++ .ref a :: rest) (hW : (rest.map fun v => v.category).sum ≤ W) (eT : T.heap = h) (hc : cells + rm.cells ≤ R.cells) (hs : slots + rm.slots ≤ R.slots) (hp : pc + 3 = pc')
    (k : ∀ (v : Option Value) (T' : State) (L : List Loc), Stand p l e R s m args below meth c T' (locs ++ L) (cells + rm.cells) (slots + rm.slots) → Q v T'.heap L → Goes p.tables e below G (T'.setTop (mkF m pc' ls (v.toList ++ rest)))) : Goes p.tables e below G (T.setTop (mkF m pc ls stk)) := by
  subst hp hst
  obtain ⟨cq, kq, qa, qb, qc⟩ := isOf C.2.1 eT E
  obtain ⟨v, _, ⟨T', L', k', n'⟩, -, X', ⟨L, hQ, l1, l2, l3⟩, st'⟩ := X.virtualBack C.1 (y := y) (z := z) C.2.2.2.2.1 (mvT C.2.1 w1) (mvT C.2.1 w2) hnf (mvT C.2.1 w3) (mvT C.2.1 w4) hy (backOf (W := W) hM C.2.1 w5 w6 hf hl) qa qc (g := mkF m pc ls (argsL.reverse ++ .ref a :: rest)) rfl (by rw [C.2.2.2.1]; exact hls) (Steps.refl _) (argsL := argsL) (rest := rest) (lenOf hpd hlen) rfl (by show 2 * 0 + _ ≤ _; omega) (hb C.2.2.1 hd) (fun _ _ => ⟨rfl, eT, hc, hs⟩)
  dsimp only [Pt.U, Pt.locs, Pt.cells, Pt.slots] at X' l1 l2 l3 st' hQ
  subst l1 l2 l3
  exact Goes.on (fun t k => st'.trans k) (k v T' L X' hQ)
theorem g_callVU (C : Ctx p Z s m meth c bs own maxL ret) (X : Stand p l e R s m args below meth c T locs cells slots) {pc pc' : Nat} {ls : Array Slot} {a : Addr} {K owner : String} {y z : MethodName} {index : Nat} {bytes : ByteArray} {maxY : Nat} {retY : Option FieldType} {rm : Room} {W : Nat} {Q : Option Value → Heap → List Loc → Prop} {ps : List FieldType} {rr : Option FieldType} {argsL rest stk : List Value} (w1 : (Cond.methodLink own index y).before a0 Z = true) (w2 : (Cond.sameMethod y.cls owner y.name y.desc).before a0 Z = true) (w2' : (Cond.declares ⟨owner, y.name, y.desc⟩).before a0 Z = true) (w3 : (Cond.selects K y z).before a0 Z = true) (w4 : (Cond.instanceMethod z).before a0 Z = true) (w5 : (Cond.code z bytes maxY retY).before a0 Z = true) (w6 : (Cond.initialized z.cls).before a0 Z = true) (hy : owner ≠ "java/lang/invoke/MethodHandle" ∧ owner ≠ "java/lang/invoke/VarHandle") (E : Exa Z h a K) (hd : decode bs pc = .ok (.invokevirtual index, 3)) (hM : MetFree l z (head1 [Cond.code z bytes maxY retY] rm) (fun a' U => a' = (.ref a :: argsL).toArray ∧ Z.Warmed39 U.vm ∧ U.heap = h) (fun _ _ _ _ _ => True) (fun _ U o U' => ∃ v L, o = .returned v ∧ Q v U'.heap L ∧ FrameEnd U o U' L rm.cells rm.slots)) (hf : rm.frames + 1 ≤ R.frames) (hl : W + (maxY + 11) + rm.locals ≤ R.locals) (hls : ls.size = maxL) (hpd : parseMethodDescriptor y.desc = some ⟨ps, rr⟩) (hlen : argsL.length = ps.length) (hst : stk = argsL.reverse ++ .ref a :: rest) (hW : (rest.map fun v => v.category).sum ≤ W) (eT : T.heap = h) (hc : cells + rm.cells ≤ R.cells) (hs : slots + rm.slots ≤ R.slots) (hp : pc + 3 = pc')
    (k : ∀ (v : Option Value) (T' : State) (L : List Loc), Stand p l e R s m args below meth c T' (locs ++ L) (cells + rm.cells) (slots + rm.slots) → Q v T'.heap L → Goes p.tables e below G (T'.setTop (mkF m pc' ls (v.toList ++ rest)))) : Goes p.tables e below G (T.setTop (mkF m pc ls stk)) := by
  subst hp hst
  obtain ⟨cq, kq, qa, qb, qc⟩ := isOf C.2.1 eT E
  obtain ⟨v, _, ⟨T', L', k', n'⟩, -, X', ⟨L, hQ, l1, l2, l3⟩, st'⟩ := X.virtualBackUp C.1 (x := y) (y := z) C.2.2.2.2.1 (mvT C.2.1 w1) (mvT C.2.1 w2) (mvT C.2.1 w2') hy (mvT C.2.1 w3) (mvT C.2.1 w4) (backOf (W := W) hM C.2.1 w5 w6 hf hl) qa qc (g := mkF m pc ls (argsL.reverse ++ .ref a :: rest)) rfl (by rw [C.2.2.2.1]; exact hls) (Steps.refl _) (argsL := argsL) (rest := rest) (lenOf hpd hlen) rfl (by show 2 * 0 + _ ≤ _; omega) (hb C.2.2.1 hd) (fun _ _ => ⟨rfl, eT, hc, hs⟩)
  dsimp only [Pt.U, Pt.locs, Pt.cells, Pt.slots] at X' l1 l2 l3 st' hQ
  subst l1 l2 l3
  exact Goes.on (fun t k => st'.trans k) (k v T' L X' hQ)
theorem g_ifnullY (C : Ctx p Z s m meth c bs own maxL ret) (X : Stand p l e R s m args below meth c T locs cells slots) {pc pc' : Nat} {ls : Array Slot} {st : List Value}  {o : Int} (hd : decode bs pc = .ok (.ifnull o, 3)) (ho : 0 ≤ (pc : Int) + o) (hp : ((pc : Int) + o).toNat = pc')
    (k : Goes p.tables e below G (T.setTop (mkF m pc' ls st))) : Goes p.tables e below G (T.setTop (mkF m pc ls (.null :: st))) :=
  Goes.on (fun _ k => XS.ifnullYes X.here C.1 rfl (pc0 := pc) (pc' := pc') rfl (hb C.2.2.1 hd) rfl ho hp k) k
theorem g_ifnullN (C : Ctx p Z s m meth c bs own maxL ret) (X : Stand p l e R s m args below meth c T locs cells slots) {pc pc' : Nat} {ls : Array Slot} {st : List Value} {b : Addr} {o : Int} (hd : decode bs pc = .ok (.ifnull o, 3)) (hp : pc + 3 = pc')
    (k : Goes p.tables e below G (T.setTop (mkF m pc' ls st))) : Goes p.tables e below G (T.setTop (mkF m pc ls (.ref b :: st))) := by
  subst hp
  exact Goes.on (fun _ k => XS.ifnullNo X.here C.1 rfl (hb C.2.2.1 hd) rfl k) k
theorem g_ifnonnullY (C : Ctx p Z s m meth c bs own maxL ret) (X : Stand p l e R s m args below meth c T locs cells slots) {pc pc' : Nat} {ls : Array Slot} {st : List Value} {b : Addr} {o : Int} (hd : decode bs pc = .ok (.ifnonnull o, 3)) (ho : 0 ≤ (pc : Int) + o) (hp : ((pc : Int) + o).toNat = pc')
    (k : Goes p.tables e below G (T.setTop (mkF m pc' ls st))) : Goes p.tables e below G (T.setTop (mkF m pc ls (.ref b :: st))) :=
  Goes.on (fun _ k => XT.ifnonnullYes X.here C.1 rfl (pc0 := pc) (pc' := pc') rfl (hb C.2.2.1 hd) rfl ho hp k) k
theorem g_ifnonnullN (C : Ctx p Z s m meth c bs own maxL ret) (X : Stand p l e R s m args below meth c T locs cells slots) {pc pc' : Nat} {ls : Array Slot} {st : List Value}  {o : Int} (hd : decode bs pc = .ok (.ifnonnull o, 3)) (hp : pc + 3 = pc')
    (k : Goes p.tables e below G (T.setTop (mkF m pc' ls st))) : Goes p.tables e below G (T.setTop (mkF m pc ls (.null :: st))) := by
  subst hp
  exact Goes.on (fun _ k => XT.ifnonnullNo X.here C.1 rfl (hb C.2.2.1 hd) rfl k) k
theorem g_acmp_eq (C : Ctx p Z s m meth c bs own maxL ret) (X : Stand p l e R s m args below meth c T locs cells slots) {pc pcT pcN : Nat} {ls : Array Slot} {st : List Value} {x y : Value} {o : Int} (h1 : x.isRef = true) (h2 : y.isRef = true) (hd : decode bs pc = .ok (.if_acmp .eq o, 3)) (ho : 0 ≤ (pc : Int) + o) (hp : ((pc : Int) + o).toNat = pcT) (hq : pc + 3 = pcN)
    (hyes : x = y → Goes p.tables e below G (T.setTop (mkF m pcT ls st))) (hno : ¬ x = y → Goes p.tables e below G (T.setTop (mkF m pcN ls st))) : Goes p.tables e below G (T.setTop (mkF m pc ls (y :: x :: st))) := by
  subst hq
  by_cases q : x = y
  · exact Goes.on (fun _ k => XT.acmpYes X.here C.1 rfl (pc0 := pc) (pc' := pcT) rfl (hb C.2.2.1 hd) rfl h1 h2 (by simp [XT.acmp, q]) ho hp k) (hyes q)
  · exact Goes.on (fun _ k => XT.acmpNo X.here C.1 rfl (hb C.2.2.1 hd) rfl h1 h2 (by simp [XT.acmp, q]) k) (hno q)
theorem g_acmp_ne (C : Ctx p Z s m meth c bs own maxL ret) (X : Stand p l e R s m args below meth c T locs cells slots) {pc pcT pcN : Nat} {ls : Array Slot} {st : List Value} {x y : Value} {o : Int} (h1 : x.isRef = true) (h2 : y.isRef = true) (hd : decode bs pc = .ok (.if_acmp .ne o, 3)) (ho : 0 ≤ (pc : Int) + o) (hp : ((pc : Int) + o).toNat = pcT) (hq : pc + 3 = pcN)
    (hyes : ¬ x = y → Goes p.tables e below G (T.setTop (mkF m pcT ls st))) (hno : x = y → Goes p.tables e below G (T.setTop (mkF m pcN ls st))) : Goes p.tables e below G (T.setTop (mkF m pc ls (y :: x :: st))) := by
  subst hq
  by_cases q : x = y
  · exact Goes.on (fun _ k => XT.acmpNo X.here C.1 rfl (hb C.2.2.1 hd) rfl h1 h2 (by simp [XT.acmp, q]) k) (hno q)
  · exact Goes.on (fun _ k => XT.acmpYes X.here C.1 rfl (pc0 := pc) (pc' := pcT) rfl (hb C.2.2.1 hd) rfl h1 h2 (by simp [XT.acmp, q]) ho hp k) (hyes q)
theorem g_tsw (C : Ctx p Z s m meth c bs own maxL ret) (X : Stand p l e R s m args below meth c T locs cells slots) {pc pc' : Nat} {ls : Array Slot} {st : List Value} {dflt low high : Int} {offs : Array Int} {len : Nat} {o : Int} {i : Int32} (hd : decode bs pc = .ok (.tableswitch dflt low high offs, len)) (hin : ¬ (i.toInt < low ∨ i.toInt > high)) (hoff : offs[(i.toInt - low).toNat]? = some o) (ho : 0 ≤ (pc : Int) + o) (hp : ((pc : Int) + o).toNat = pc')
    (k : Goes p.tables e below G (T.setTop (mkF m pc' ls st))) : Goes p.tables e below G (T.setTop (mkF m pc ls (.int i :: st))) :=
  Goes.on (fun _ k => XS.tswIn X.here C.1 rfl (pc0 := pc) (pc' := pc') rfl (hb C.2.2.1 hd) rfl hin hoff ho hp k) k
theorem ne_of_fld {a b : Addr} {K n d : String} {v w : Value} (F : Fld Z h a K n d v) (F' : Fld Z h b K n d w) (hv : v ≠ w) : a ≠ b := fun q => by
  subst q
  obtain ⟨c1, f1, k1, i1, g1, a1, a2, -, -, -, -, a7⟩ := F
  obtain ⟨c2, f2, k2, i2, g2, b1, b2, -, -, -, -, b7⟩ := F'
  cases a1.symm.trans b1
  cases a2.symm.trans b2
  exact hv (Option.some.inj (a7.symm.trans b7))
theorem ref_of_exactly {t : Term} {K : String} (hx : (Cond.exactly t K).value args s none s [] = some true) : ∃ a, t.eval args s none [] s = some (.ref a) ∧ Exa s s.heap a K := by
  obtain ⟨a, -, -, -, e1, -⟩ := Cond.exactly_spec (Cond.before_iff.mpr hx)
  exact ⟨a, e1, Exa.start e1 hx⟩
theorem fldI_of {t : Term} {K n d : String} {k : Int32} {a : Addr} (ht : t.eval args s none [] s = some (.ref a)) (hx : (Cond.eq (.field t K n d) (.int k)).value args s none s [] = some true) : Fld s s.heap a K n d (.int k) := by
  obtain ⟨x, y, e1, e2, k1, k2⟩ := cmp_v (Or.inl hx)
  have e3 : y = .int k := (Option.some.inj e2).symm
  subst e3
  obtain ⟨z, rfl⟩ : ∃ z, x = .int z := k2
  have e4 := e1
  rw [fld_at ht] at e4
  have e5 : z = k := by
    simp only [Cond.value, e1, e2] at hx
    simpa using hx
  subst e5
  exact Fld.start e4
theorem fldN_of {t : Term} {K n d : String} {a : Addr} (ht : t.eval args s none [] s = some (.ref a)) (hx : (Cond.eq (.field t K n d) .null).value args s none s [] = some true) : Fld s s.heap a K n d .null := by
  have e := null_v hx
  rw [fld_at ht] at e
  exact Fld.start e
theorem fldR_of {t u : Term} {K n d : String} {a b : Addr} (ht : t.eval args s none [] s = some (.ref a)) (hu : u.eval args s none [] s = some (.ref b)) (hx : (Cond.eq (.field t K n d) u).value args s none s [] = some true) : Fld s s.heap a K n d (.ref b) := by
  obtain ⟨x, y, e1, e2, k1, k2⟩ := cmp_v (Or.inl hx)
  cases e2.symm.trans hu
  have hr : x.isRef = true := k2.2
  have e5 := gotT (eq_R e1 e2 hr rfl) hx
  subst e5
  rw [fld_at ht] at e1
  exact Fld.start e1
end Kit
end Jvm.Own

namespace Jvm.Pilot.@@N@@
open Jvm Jvm.ClassFile Sem Op Lib Jvm.Free Jvm.Stand Jvm.LawKit Jvm.RoadKit Jvm.Own Bundle Jvm.Pilot.@@N@@.Jvm.D
theorem ef_3 (m : MethodId) (x0 : Int32) : entryFrame m #[(.int x0)] 1 = mkF m 0 #[.val (.int x0)] [] := by first | (simp [entryFrame, mkF, argsToLocals, Value.category]; done) | rfl
theorem d3_0 : decode jdk_89_method_16_code 0 = .ok (.iload_n 0, 1) := by decide +kernel
theorem d3_1 : decode jdk_89_method_16_code 1 = .ok (.ldc 75, 2) := by decide +kernel
theorem w_14 {Z : State} {a0 : Array Value} (hw : ∀ d ∈ tables_1, d.before a0 Z = true) : Jvm.Cond.before (Jvm.Cond.constant "java/lang/Character" (75 : Nat) (55296 : Int32)) a0 Z = true := hw _ (List.mem_of_getElem? (i := 14) rfl)
theorem d3_3 : decode jdk_89_method_16_code 3 = .ok (.if_icmp .lt 13, 3) := by decide +kernel
theorem d3_16 : decode jdk_89_method_16_code 16 = .ok (.iconst 0, 1) := by decide +kernel
theorem d3_17 : decode jdk_89_method_16_code 17 = .ok (.ireturn, 1) := by decide +kernel
theorem d3_6 : decode jdk_89_method_16_code 6 = .ok (.iload_n 0, 1) := by decide +kernel
theorem d3_7 : decode jdk_89_method_16_code 7 = .ok (.ldc 77, 2) := by decide +kernel
theorem w_15 {Z : State} {a0 : Array Value} (hw : ∀ d ∈ tables_1, d.before a0 Z = true) : Jvm.Cond.before (Jvm.Cond.constant "java/lang/Character" (77 : Nat) (57344 : Int32)) a0 Z = true := hw _ (List.mem_of_getElem? (i := 15) rfl)
theorem d3_9 : decode jdk_89_method_16_code 9 = .ok (.if_icmp .ge 7, 3) := by decide +kernel
theorem d3_12 : decode jdk_89_method_16_code 12 = .ok (.iconst 1, 1) := by decide +kernel
theorem d3_13 : decode jdk_89_method_16_code 13 = .ok (.goto 4, 3) := by decide +kernel
def f3 (x0 : Int32) : Int32 := if x0 < (55296 : Int32) then (0 : Int32) else if x0 < (57344 : Int32) then (1 : Int32) else (0 : Int32)
def Q3 (Z : State) (x0 : Int32) (h0 : Heap) (n0 : Nat) (v : Option Value) (h : Heap) (L : List Loc) : Prop := v = some (.int (f3 x0)) ∧ Fr n0 L ∧ h = h0
theorem pn_3 : plainName "java/lang/Character" = true := by first | (simp [plainName, overriddenIn]; done) | decide +kernel
set_option maxRecDepth 65536 in
set_option maxHeartbeats 40000000 in
theorem rm3 (l : Launch) (Z : State) (a0 : Array Value) (hw : ∀ d ∈ tables_1, d.before a0 Z = true) (ws : List Jvm.Cond) (x0 : Int32) (h0 : Heap) (n0 : Nat) (Z0 : n0 ≤ h0.size) :
    MetFree l (⟨"java/lang/Character", "isSurrogate", "(C)Z"⟩ : MethodName) (head1 (Jvm.Cond.code (⟨"java/lang/Character", "isSurrogate", "(C)Z"⟩ : MethodName) jdk_89_method_16_code 1 (some .boolean) :: ws) ({ frames := 0, cells := 0, slots := 0, locals := 0 } : Room)) (fun a U => a = #[(.int x0)] ∧ Z.Warmed39 U.vm ∧ U.heap = h0) (fun _ _ _ _ _ => True) (fun _ U o U' => ∃ v L, o = .returned v ∧ Q3 Z x0 h0 n0 v U'.heap L ∧ FrameEnd U o U' L ({ frames := 0, cells := 0, slots := 0, locals := 0 } : Room).cells ({ frames := 0, cells := 0, slots := 0, locals := 0 } : Room).slots) := by
  refine body_of (y := (⟨"java/lang/Character", "isSurrogate", "(C)Z"⟩ : MethodName)) (Q := Q3 Z x0 h0 n0) (plainFor_of_name pn_3) ?_
  intro p e s m below meth c T0 G C hnm X0 e0 K
  have N0 := Fr.nil n0
  refine Goes.to (congrArg T0.setTop (ef_3 m x0)) ?_
  refine g_iloadN C X0 d3_0 (pc' := 1) rfl rfl ?_
  refine g_ldc C X0 (w_14 hw) d3_1 (pc' := 3) rfl ?_
  refine g_icmp_lt C X0 d3_3 (pcT := 16) (pcN := 6) (by decide) (by decide) rfl (fun hc3 => ?_) (fun hc3 => ?_)
  · refine g_iconst C X0 d3_16 (pc' := 17) rfl (v := 0) rfl ?_
    exact g_retN C X0 K (by simp) d3_17 (by decide) (by decide) e0 ⟨by (unfold f3; rw [if_pos hc3]) <;> rfl, N0, rfl⟩
  · refine g_iloadN C X0 d3_6 (pc' := 7) rfl rfl ?_
    refine g_ldc C X0 (w_15 hw) d3_7 (pc' := 9) rfl ?_
    refine g_icmp_ge C X0 d3_9 (pcT := 16) (pcN := 12) (by decide) (by decide) rfl (fun hc9 => ?_) (fun hc9 => ?_)
    · refine g_iconst C X0 d3_16 (pc' := 17) rfl (v := 0) rfl ?_
      exact g_retN C X0 K (by simp) d3_17 (by decide) (by decide) e0 ⟨by (unfold f3; rw [if_neg hc3, if_neg hc9]) <;> rfl, N0, rfl⟩
    · refine g_iconst C X0 d3_12 (pc' := 13) rfl (v := 1) rfl ?_
      refine g_goto C X0 d3_13 (pc' := 17) (by decide) (by decide) ?_
      exact g_retN C X0 K (by simp) d3_17 (by decide) (by decide) e0 ⟨by (unfold f3; rw [if_neg hc3, if_pos hc9]) <;> rfl, N0, rfl⟩
theorem ef_1 (m : MethodId) (x0 : Int32) (x1 : Int32) : entryFrame m #[(.int x0), (.int x1)] 4 = mkF m 0 #[.val (.int x0), .val (.int x1), .unset, .unset] [] := by first | (simp [entryFrame, mkF, argsToLocals, Value.category]; done) | rfl
theorem d1_0 : decode method_2_code 0 = .ok (.iload_n 1, 1) := by decide +kernel
theorem d1_1 : decode method_2_code 1 = .ok (.bipush 7, 2) := by decide +kernel
theorem d1_3 : decode method_2_code 3 = .ok (.iand, 1) := by decide +kernel
theorem d1_4 : decode method_2_code 4 = .ok (.istore_n 2, 1) := by decide +kernel
theorem d1_5 : decode method_2_code 5 = .ok (.iload_n 2, 1) := by decide +kernel
theorem d1_6 : decode method_2_code 6 = .ok (.iconst 1, 1) := by decide +kernel
theorem d1_7 : decode method_2_code 7 = .ok (.if_icmp .ne 6, 3) := by decide +kernel
theorem d1_13 : decode method_2_code 13 = .ok (.iload_n 2, 1) := by decide +kernel
theorem d1_14 : decode method_2_code 14 = .ok (.iconst 2, 1) := by decide +kernel
theorem d1_15 : decode method_2_code 15 = .ok (.if_icmp .ne 6, 3) := by decide +kernel
theorem d1_21 : decode method_2_code 21 = .ok (.iload_n 2, 1) := by decide +kernel
theorem d1_22 : decode method_2_code 22 = .ok (.iconst 3, 1) := by decide +kernel
theorem d1_23 : decode method_2_code 23 = .ok (.if_icmp .ne 6, 3) := by decide +kernel
theorem d1_29 : decode method_2_code 29 = .ok (.iload_n 2, 1) := by decide +kernel
theorem d1_30 : decode method_2_code 30 = .ok (.iconst 4, 1) := by decide +kernel
theorem d1_31 : decode method_2_code 31 = .ok (.if_icmp .ne 13, 3) := by decide +kernel
theorem d1_44 : decode method_2_code 44 = .ok (.iload_n 2, 1) := by decide +kernel
theorem d1_45 : decode method_2_code 45 = .ok (.iconst 5, 1) := by decide +kernel
theorem d1_46 : decode method_2_code 46 = .ok (.if_icmp .ne 33, 3) := by decide +kernel
theorem d1_79 : decode method_2_code 79 = .ok (.iload_n 2, 1) := by decide +kernel
theorem d1_80 : decode method_2_code 80 = .ok (.bipush 6, 2) := by decide +kernel
theorem d1_82 : decode method_2_code 82 = .ok (.if_icmp .ne 10, 3) := by decide +kernel
theorem d1_92 : decode method_2_code 92 = .ok (.iload_n 0, 1) := by decide +kernel
theorem d1_93 : decode method_2_code 93 = .ok (.i2c, 1) := by decide +kernel
theorem d1_94 : decode method_2_code 94 = .ok (.ireturn, 1) := by decide +kernel
theorem d1_85 : decode method_2_code 85 = .ok (.iload_n 0, 1) := by decide +kernel
theorem d1_86 : decode method_2_code 86 = .ok (.sipush 255, 3) := by decide +kernel
theorem d1_89 : decode method_2_code 89 = .ok (.iand, 1) := by decide +kernel
theorem d1_90 : decode method_2_code 90 = .ok (.i2c, 1) := by decide +kernel
theorem d1_91 : decode method_2_code 91 = .ok (.ireturn, 1) := by decide +kernel
theorem d1_49 : decode method_2_code 49 = .ok (.iload_n 0, 1) := by decide +kernel
theorem d1_50 : decode method_2_code 50 = .ok (.iconst 3, 1) := by decide +kernel
theorem d1_51 : decode method_2_code 51 = .ok (.iand, 1) := by decide +kernel
theorem d1_52 : decode method_2_code 52 = .ok (.istore_n 3, 1) := by decide +kernel
theorem d1_53 : decode method_2_code 53 = .ok (.iload_n 3, 1) := by decide +kernel
theorem d1_54 : decode method_2_code 54 = .ok (.ifCond .ne 6, 3) := by decide +kernel
theorem d1_60 : decode method_2_code 60 = .ok (.iload_n 3, 1) := by decide +kernel
theorem d1_61 : decode method_2_code 61 = .ok (.iconst 1, 1) := by decide +kernel
theorem d1_62 : decode method_2_code 62 = .ok (.if_icmp .ne 6, 3) := by decide +kernel
theorem d1_68 : decode method_2_code 68 = .ok (.iload_n 3, 1) := by decide +kernel
theorem d1_69 : decode method_2_code 69 = .ok (.iconst 2, 1) := by decide +kernel
theorem d1_70 : decode method_2_code 70 = .ok (.if_icmp .ne 6, 3) := by decide +kernel
theorem d1_76 : decode method_2_code 76 = .ok (.ldc 10, 2) := by decide +kernel
theorem w_17 {Z : State} {a0 : Array Value} (hw : ∀ d ∈ tables_1, d.before a0 Z = true) : Jvm.Cond.before (Jvm.Cond.constant "com/example/tokenweave/tokenweave/log/CsvReaderIsSeparatorPinLaw" (10 : Nat) (57344 : Int32)) a0 Z = true := hw _ (List.mem_of_getElem? (i := 17) rfl)
theorem d1_78 : decode method_2_code 78 = .ok (.ireturn, 1) := by decide +kernel
theorem d1_73 : decode method_2_code 73 = .ok (.ldc 9, 2) := by decide +kernel
theorem w_9 {Z : State} {a0 : Array Value} (hw : ∀ d ∈ tables_1, d.before a0 Z = true) : Jvm.Cond.before (Jvm.Cond.constant "com/example/tokenweave/tokenweave/log/CsvReaderIsSeparatorPinLaw" (9 : Nat) (57343 : Int32)) a0 Z = true := hw _ (List.mem_of_getElem? (i := 9) rfl)
theorem d1_75 : decode method_2_code 75 = .ok (.ireturn, 1) := by decide +kernel
theorem d1_65 : decode method_2_code 65 = .ok (.ldc 7, 2) := by decide +kernel
theorem w_8 {Z : State} {a0 : Array Value} (hw : ∀ d ∈ tables_1, d.before a0 Z = true) : Jvm.Cond.before (Jvm.Cond.constant "com/example/tokenweave/tokenweave/log/CsvReaderIsSeparatorPinLaw" (7 : Nat) (55296 : Int32)) a0 Z = true := hw _ (List.mem_of_getElem? (i := 8) rfl)
theorem d1_67 : decode method_2_code 67 = .ok (.ireturn, 1) := by decide +kernel
theorem d1_57 : decode method_2_code 57 = .ok (.ldc 8, 2) := by decide +kernel
theorem w_16 {Z : State} {a0 : Array Value} (hw : ∀ d ∈ tables_1, d.before a0 Z = true) : Jvm.Cond.before (Jvm.Cond.constant "com/example/tokenweave/tokenweave/log/CsvReaderIsSeparatorPinLaw" (8 : Nat) (55295 : Int32)) a0 Z = true := hw _ (List.mem_of_getElem? (i := 16) rfl)
theorem d1_59 : decode method_2_code 59 = .ok (.ireturn, 1) := by decide +kernel
theorem d1_34 : decode method_2_code 34 = .ok (.ldc 7, 2) := by decide +kernel
theorem d1_36 : decode method_2_code 36 = .ok (.iload_n 0, 1) := by decide +kernel
theorem d1_37 : decode method_2_code 37 = .ok (.sipush 2047, 3) := by decide +kernel
theorem d1_40 : decode method_2_code 40 = .ok (.iand, 1) := by decide +kernel
theorem d1_41 : decode method_2_code 41 = .ok (.iadd, 1) := by decide +kernel
theorem d1_42 : decode method_2_code 42 = .ok (.i2c, 1) := by decide +kernel
theorem d1_43 : decode method_2_code 43 = .ok (.ireturn, 1) := by decide +kernel
theorem d1_26 : decode method_2_code 26 = .ok (.bipush 10, 2) := by decide +kernel
theorem d1_28 : decode method_2_code 28 = .ok (.ireturn, 1) := by decide +kernel
theorem d1_18 : decode method_2_code 18 = .ok (.bipush 13, 2) := by decide +kernel
theorem d1_20 : decode method_2_code 20 = .ok (.ireturn, 1) := by decide +kernel
theorem d1_10 : decode method_2_code 10 = .ok (.bipush 34, 2) := by decide +kernel
theorem d1_12 : decode method_2_code 12 = .ok (.ireturn, 1) := by decide +kernel
def f1 (x0 : Int32) (x1 : Int32) : Int32 := if (x1 &&& (7 : Int32)) = (1 : Int32) then (nar .char (34 : Int32)) else if (x1 &&& (7 : Int32)) = (2 : Int32) then (nar .char (13 : Int32)) else if (x1 &&& (7 : Int32)) = (3 : Int32) then (nar .char (10 : Int32)) else if (x1 &&& (7 : Int32)) = (4 : Int32) then (nar .char ((55296 : Int32) + (x0 &&& (2047 : Int32))).toUInt32.toUInt16.toUInt32.toInt32) else if (x1 &&& (7 : Int32)) = (5 : Int32) then if (x0 &&& (3 : Int32)) = (0 : Int32) then (nar .char (55295 : Int32)) else if (x0 &&& (3 : Int32)) = (1 : Int32) then (nar .char (55296 : Int32)) else if (x0 &&& (3 : Int32)) = (2 : Int32) then (nar .char (57343 : Int32)) else (nar .char (57344 : Int32)) else if (x1 &&& (7 : Int32)) = (6 : Int32) then (nar .char (x0 &&& (255 : Int32)).toUInt32.toUInt16.toUInt32.toInt32) else (nar .char x0.toUInt32.toUInt16.toUInt32.toInt32)
def Q1 (Z : State) (x0 : Int32) (x1 : Int32) (h0 : Heap) (n0 : Nat) (v : Option Value) (h : Heap) (L : List Loc) : Prop := v = some (.int (f1 x0 x1)) ∧ Fr n0 L ∧ h = h0
theorem pn_0 : plainName "com/example/tokenweave/tokenweave/log/CsvReaderIsSeparatorPinLaw" = true := by first | (simp [plainName, overriddenIn]; done) | decide +kernel
set_option maxRecDepth 65536 in
set_option maxHeartbeats 40000000 in
theorem rm1 (l : Launch) (Z : State) (a0 : Array Value) (hw : ∀ d ∈ tables_1, d.before a0 Z = true) (ws : List Jvm.Cond) (x0 : Int32) (x1 : Int32) (h0 : Heap) (n0 : Nat) (Z0 : n0 ≤ h0.size) :
    MetFree l (⟨"com/example/tokenweave/tokenweave/log/CsvReaderIsSeparatorPinLaw", "pick", "(II)C"⟩ : MethodName) (head1 (Jvm.Cond.code (⟨"com/example/tokenweave/tokenweave/log/CsvReaderIsSeparatorPinLaw", "pick", "(II)C"⟩ : MethodName) method_2_code 4 (some .char) :: ws) ({ frames := 0, cells := 0, slots := 0, locals := 0 } : Room)) (fun a U => a = #[(.int x0), (.int x1)] ∧ Z.Warmed39 U.vm ∧ U.heap = h0) (fun _ _ _ _ _ => True) (fun _ U o U' => ∃ v L, o = .returned v ∧ Q1 Z x0 x1 h0 n0 v U'.heap L ∧ FrameEnd U o U' L ({ frames := 0, cells := 0, slots := 0, locals := 0 } : Room).cells ({ frames := 0, cells := 0, slots := 0, locals := 0 } : Room).slots) := by
  refine body_of (y := (⟨"com/example/tokenweave/tokenweave/log/CsvReaderIsSeparatorPinLaw", "pick", "(II)C"⟩ : MethodName)) (Q := Q1 Z x0 x1 h0 n0) (plainFor_of_name pn_0) ?_
  intro p e s m below meth c T0 G C hnm X0 e0 K
  have N0 := Fr.nil n0
  refine Goes.to (congrArg T0.setTop (ef_1 m x0 x1)) ?_
  refine g_iloadN C X0 d1_0 (pc' := 1) rfl rfl ?_
  refine g_bipush C X0 d1_1 (pc' := 3) rfl (v := 7) rfl ?_
  refine g_iand C X0 d1_3 (pc' := 4) rfl ?_
  refine g_istoreN C X0 d1_4 (pc' := 5) rfl (w := (x1 &&& (7 : Int32))) rfl (ls' := #[.val (.int x0), .val (.int x1), .val (.int (x1 &&& (7 : Int32))), .unset]) rfl ?_
  refine g_iloadN C X0 d1_5 (pc' := 6) rfl rfl ?_
  refine g_iconst C X0 d1_6 (pc' := 7) rfl (v := 1) rfl ?_
  refine g_icmp_ne C X0 d1_7 (pcT := 13) (pcN := 10) (by decide) (by decide) rfl (fun hc7 => ?_) (fun hc7 => ?_)
  · refine g_iloadN C X0 d1_13 (pc' := 14) rfl rfl ?_
    refine g_iconst C X0 d1_14 (pc' := 15) rfl (v := 2) rfl ?_
    refine g_icmp_ne C X0 d1_15 (pcT := 21) (pcN := 18) (by decide) (by decide) rfl (fun hc15 => ?_) (fun hc15 => ?_)
    · refine g_iloadN C X0 d1_21 (pc' := 22) rfl rfl ?_
      refine g_iconst C X0 d1_22 (pc' := 23) rfl (v := 3) rfl ?_
      refine g_icmp_ne C X0 d1_23 (pcT := 29) (pcN := 26) (by decide) (by decide) rfl (fun hc23 => ?_) (fun hc23 => ?_)
      · refine g_iloadN C X0 d1_29 (pc' := 30) rfl rfl ?_
        refine g_iconst C X0 d1_30 (pc' := 31) rfl (v := 4) rfl ?_
        refine g_icmp_ne C X0 d1_31 (pcT := 44) (pcN := 34) (by decide) (by decide) rfl (fun hc31 => ?_) (fun hc31 => ?_)
        · refine g_iloadN C X0 d1_44 (pc' := 45) rfl rfl ?_
          refine g_iconst C X0 d1_45 (pc' := 46) rfl (v := 5) rfl ?_
          refine g_icmp_ne C X0 d1_46 (pcT := 79) (pcN := 49) (by decide) (by decide) rfl (fun hc46 => ?_) (fun hc46 => ?_)
          · refine g_iloadN C X0 d1_79 (pc' := 80) rfl rfl ?_
            refine g_bipush C X0 d1_80 (pc' := 82) rfl (v := 6) rfl ?_
            refine g_icmp_ne C X0 d1_82 (pcT := 92) (pcN := 85) (by decide) (by decide) rfl (fun hc82 => ?_) (fun hc82 => ?_)
            · refine g_iloadN C X0 d1_92 (pc' := 93) rfl rfl ?_
              refine g_i2c C X0 d1_93 (pc' := 94) rfl ?_
              exact g_retN C X0 K (by simp) d1_94 (by decide) (by decide) e0 ⟨by (unfold f1; rw [if_neg hc7, if_neg hc15, if_neg hc23, if_neg hc31, if_neg hc46, if_neg hc82]) <;> rfl, N0, rfl⟩
            · refine g_iloadN C X0 d1_85 (pc' := 86) rfl rfl ?_
              refine g_sipush C X0 d1_86 (pc' := 89) rfl (v := 255) rfl ?_
              refine g_iand C X0 d1_89 (pc' := 90) rfl ?_
              refine g_i2c C X0 d1_90 (pc' := 91) rfl ?_
              exact g_retN C X0 K (by simp) d1_91 (by decide) (by decide) e0 ⟨by (unfold f1; rw [if_neg hc7, if_neg hc15, if_neg hc23, if_neg hc31, if_neg hc46, if_pos hc82]) <;> rfl, N0, rfl⟩
          · refine g_iloadN C X0 d1_49 (pc' := 50) rfl rfl ?_
            refine g_iconst C X0 d1_50 (pc' := 51) rfl (v := 3) rfl ?_
            refine g_iand C X0 d1_51 (pc' := 52) rfl ?_
            refine g_istoreN C X0 d1_52 (pc' := 53) rfl (w := (x0 &&& (3 : Int32))) rfl (ls' := #[.val (.int x0), .val (.int x1), .val (.int (x1 &&& (7 : Int32))), .val (.int (x0 &&& (3 : Int32)))]) rfl ?_
            refine g_iloadN C X0 d1_53 (pc' := 54) rfl rfl ?_
            refine g_if_ne C X0 d1_54 (pcT := 60) (pcN := 57) (by decide) (by decide) rfl (fun hc54 => ?_) (fun hc54 => ?_)
            · refine g_iloadN C X0 d1_60 (pc' := 61) rfl rfl ?_
              refine g_iconst C X0 d1_61 (pc' := 62) rfl (v := 1) rfl ?_
              refine g_icmp_ne C X0 d1_62 (pcT := 68) (pcN := 65) (by decide) (by decide) rfl (fun hc62 => ?_) (fun hc62 => ?_)
              · refine g_iloadN C X0 d1_68 (pc' := 69) rfl rfl ?_
                refine g_iconst C X0 d1_69 (pc' := 70) rfl (v := 2) rfl ?_
                refine g_icmp_ne C X0 d1_70 (pcT := 76) (pcN := 73) (by decide) (by decide) rfl (fun hc70 => ?_) (fun hc70 => ?_)
                · refine g_ldc C X0 (w_17 hw) d1_76 (pc' := 78) rfl ?_
                  exact g_retN C X0 K (by simp) d1_78 (by decide) (by decide) e0 ⟨by (unfold f1; rw [if_neg hc7, if_neg hc15, if_neg hc23, if_neg hc31, if_pos hc46, if_neg hc54, if_neg hc62, if_neg hc70]) <;> rfl, N0, rfl⟩
                · refine g_ldc C X0 (w_9 hw) d1_73 (pc' := 75) rfl ?_
                  exact g_retN C X0 K (by simp) d1_75 (by decide) (by decide) e0 ⟨by (unfold f1; rw [if_neg hc7, if_neg hc15, if_neg hc23, if_neg hc31, if_pos hc46, if_neg hc54, if_neg hc62, if_pos hc70]) <;> rfl, N0, rfl⟩
              · refine g_ldc C X0 (w_8 hw) d1_65 (pc' := 67) rfl ?_
                exact g_retN C X0 K (by simp) d1_67 (by decide) (by decide) e0 ⟨by (unfold f1; rw [if_neg hc7, if_neg hc15, if_neg hc23, if_neg hc31, if_pos hc46, if_neg hc54, if_pos hc62]) <;> rfl, N0, rfl⟩
            · refine g_ldc C X0 (w_16 hw) d1_57 (pc' := 59) rfl ?_
              exact g_retN C X0 K (by simp) d1_59 (by decide) (by decide) e0 ⟨by (unfold f1; rw [if_neg hc7, if_neg hc15, if_neg hc23, if_neg hc31, if_pos hc46, if_pos hc54]) <;> rfl, N0, rfl⟩
        · refine g_ldc C X0 (w_8 hw) d1_34 (pc' := 36) rfl ?_
          refine g_iloadN C X0 d1_36 (pc' := 37) rfl rfl ?_
          refine g_sipush C X0 d1_37 (pc' := 40) rfl (v := 2047) rfl ?_
          refine g_iand C X0 d1_40 (pc' := 41) rfl ?_
          refine g_iadd C X0 d1_41 (pc' := 42) rfl ?_
          refine g_i2c C X0 d1_42 (pc' := 43) rfl ?_
          exact g_retN C X0 K (by simp) d1_43 (by decide) (by decide) e0 ⟨by (unfold f1; rw [if_neg hc7, if_neg hc15, if_neg hc23, if_pos hc31]) <;> rfl, N0, rfl⟩
      · refine g_bipush C X0 d1_26 (pc' := 28) rfl (v := 10) rfl ?_
        exact g_retN C X0 K (by simp) d1_28 (by decide) (by decide) e0 ⟨by (unfold f1; rw [if_neg hc7, if_neg hc15, if_pos hc23]) <;> rfl, N0, rfl⟩
    · refine g_bipush C X0 d1_18 (pc' := 20) rfl (v := 13) rfl ?_
      exact g_retN C X0 K (by simp) d1_20 (by decide) (by decide) e0 ⟨by (unfold f1; rw [if_neg hc7, if_pos hc15]) <;> rfl, N0, rfl⟩
  · refine g_bipush C X0 d1_10 (pc' := 12) rfl (v := 34) rfl ?_
    exact g_retN C X0 K (by simp) d1_12 (by decide) (by decide) e0 ⟨by (unfold f1; rw [if_pos hc7]) <;> rfl, N0, rfl⟩
theorem ef_2 (m : MethodId) (x0 : Int32) : entryFrame m #[(.int x0)] 1 = mkF m 0 #[.val (.int x0)] [] := by first | (simp [entryFrame, mkF, argsToLocals, Value.category]; done) | rfl
theorem d2_0 : decode prog_71_method_2_code 0 = .ok (.iload_n 0, 1) := by decide +kernel
theorem d2_1 : decode prog_71_method_2_code 1 = .ok (.bipush 34, 2) := by decide +kernel
theorem d2_3 : decode prog_71_method_2_code 3 = .ok (.if_icmp .eq 26, 3) := by decide +kernel
theorem d2_29 : decode prog_71_method_2_code 29 = .ok (.iconst 0, 1) := by decide +kernel
theorem d2_30 : decode prog_71_method_2_code 30 = .ok (.ireturn, 1) := by decide +kernel
theorem d2_6 : decode prog_71_method_2_code 6 = .ok (.iload_n 0, 1) := by decide +kernel
theorem d2_7 : decode prog_71_method_2_code 7 = .ok (.bipush 13, 2) := by decide +kernel
theorem d2_9 : decode prog_71_method_2_code 9 = .ok (.if_icmp .eq 20, 3) := by decide +kernel
theorem d2_12 : decode prog_71_method_2_code 12 = .ok (.iload_n 0, 1) := by decide +kernel
theorem d2_13 : decode prog_71_method_2_code 13 = .ok (.bipush 10, 2) := by decide +kernel
theorem d2_15 : decode prog_71_method_2_code 15 = .ok (.if_icmp .eq 14, 3) := by decide +kernel
theorem d2_18 : decode prog_71_method_2_code 18 = .ok (.iload_n 0, 1) := by decide +kernel
theorem d2_19 : decode prog_71_method_2_code 19 = .ok (.invokestatic 23, 3) := by decide +kernel
theorem w_13 {Z : State} {a0 : Array Value} (hw : ∀ d ∈ tables_1, d.before a0 Z = true) : Jvm.Cond.before (Jvm.Cond.code ({ cls := "java/lang/Character", name := "isSurrogate", desc := "(C)Z" } : Jvm.MethodName) jdk_89_method_16_code (1 : Nat) (Option.some Jvm.ClassFile.FieldType.boolean)) a0 Z = true := hw _ (List.mem_of_getElem? (i := 13) rfl)
theorem w_12 {Z : State} {a0 : Array Value} (hw : ∀ d ∈ tables_1, d.before a0 Z = true) : Jvm.Cond.before (Jvm.Cond.initialized "java/lang/Character") a0 Z = true := hw _ (List.mem_of_getElem? (i := 12) rfl)
theorem w_10 {Z : State} {a0 : Array Value} (hw : ∀ d ∈ tables_1, d.before a0 Z = true) : Jvm.Cond.before (Jvm.Cond.methodLink "com/example/tokenweave/tokenweave/log/CsvReader" (23 : Nat) ({ cls := "java/lang/Character", name := "isSurrogate", desc := "(C)Z" } : Jvm.MethodName)) a0 Z = true := hw _ (List.mem_of_getElem? (i := 10) rfl)
theorem pd_0 : parseMethodDescriptor "(C)Z" = some ⟨[.char], some .boolean⟩ := by decide +kernel
theorem w_11 {Z : State} {a0 : Array Value} (hw : ∀ d ∈ tables_1, d.before a0 Z = true) : Jvm.Cond.before (Jvm.Cond.static ({ cls := "java/lang/Character", name := "isSurrogate", desc := "(C)Z" } : Jvm.MethodName)) a0 Z = true := hw _ (List.mem_of_getElem? (i := 11) rfl)
theorem d2_22 : decode prog_71_method_2_code 22 = .ok (.ifCond .ne 7, 3) := by decide +kernel
theorem d2_25 : decode prog_71_method_2_code 25 = .ok (.iconst 1, 1) := by decide +kernel
theorem d2_26 : decode prog_71_method_2_code 26 = .ok (.goto 4, 3) := by decide +kernel
def f2 (x0 : Int32) : Int32 := if x0 = (34 : Int32) then (0 : Int32) else if x0 = (13 : Int32) then (0 : Int32) else if x0 = (10 : Int32) then (0 : Int32) else if (f3 x0) = (0 : Int32) then (1 : Int32) else (0 : Int32)
def Q2 (Z : State) (x0 : Int32) (h0 : Heap) (n0 : Nat) (v : Option Value) (h : Heap) (L : List Loc) : Prop := v = some (.int (f2 x0)) ∧ Fr n0 L ∧ h = h0
theorem pn_2 : plainName "com/example/tokenweave/tokenweave/log/CsvReader" = true := by first | (simp [plainName, overriddenIn]; done) | decide +kernel
set_option maxRecDepth 65536 in
set_option maxHeartbeats 40000000 in
theorem rm2 (l : Launch) (Z : State) (a0 : Array Value) (hw : ∀ d ∈ tables_1, d.before a0 Z = true) (ws : List Jvm.Cond) (x0 : Int32) (h0 : Heap) (n0 : Nat) (Z0 : n0 ≤ h0.size) :
    MetFree l (⟨"com/example/tokenweave/tokenweave/log/CsvReader", "isSeparator", "(C)Z"⟩ : MethodName) (head1 (Jvm.Cond.code (⟨"com/example/tokenweave/tokenweave/log/CsvReader", "isSeparator", "(C)Z"⟩ : MethodName) prog_71_method_2_code 1 (some .boolean) :: ws) ({ frames := 1, cells := 0, slots := 0, locals := 12 } : Room)) (fun a U => a = #[(.int x0)] ∧ Z.Warmed39 U.vm ∧ U.heap = h0) (fun _ _ _ _ _ => True) (fun _ U o U' => ∃ v L, o = .returned v ∧ Q2 Z x0 h0 n0 v U'.heap L ∧ FrameEnd U o U' L ({ frames := 1, cells := 0, slots := 0, locals := 12 } : Room).cells ({ frames := 1, cells := 0, slots := 0, locals := 12 } : Room).slots) := by
  refine body_of (y := (⟨"com/example/tokenweave/tokenweave/log/CsvReader", "isSeparator", "(C)Z"⟩ : MethodName)) (Q := Q2 Z x0 h0 n0) (plainFor_of_name pn_2) ?_
  intro p e s m below meth c T0 G C hnm X0 e0 K
  have N0 := Fr.nil n0
  refine Goes.to (congrArg T0.setTop (ef_2 m x0)) ?_
  refine g_iloadN C X0 d2_0 (pc' := 1) rfl rfl ?_
  refine g_bipush C X0 d2_1 (pc' := 3) rfl (v := 34) rfl ?_
  refine g_icmp_eq C X0 d2_3 (pcT := 29) (pcN := 6) (by decide) (by decide) rfl (fun hc3 => ?_) (fun hc3 => ?_)
  · refine g_iconst C X0 d2_29 (pc' := 30) rfl (v := 0) rfl ?_
    exact g_retN C X0 K (by simp) d2_30 (by decide) (by decide) e0 ⟨by (unfold f2; rw [if_pos hc3]) <;> rfl, N0, rfl⟩
  · refine g_iloadN C X0 d2_6 (pc' := 7) rfl rfl ?_
    refine g_bipush C X0 d2_7 (pc' := 9) rfl (v := 13) rfl ?_
    refine g_icmp_eq C X0 d2_9 (pcT := 29) (pcN := 12) (by decide) (by decide) rfl (fun hc9 => ?_) (fun hc9 => ?_)
    · refine g_iconst C X0 d2_29 (pc' := 30) rfl (v := 0) rfl ?_
      exact g_retN C X0 K (by simp) d2_30 (by decide) (by decide) e0 ⟨by (unfold f2; rw [if_neg hc3, if_pos hc9]) <;> rfl, N0, rfl⟩
    · refine g_iloadN C X0 d2_12 (pc' := 13) rfl rfl ?_
      refine g_bipush C X0 d2_13 (pc' := 15) rfl (v := 10) rfl ?_
      refine g_icmp_eq C X0 d2_15 (pcT := 29) (pcN := 18) (by decide) (by decide) rfl (fun hc15 => ?_) (fun hc15 => ?_)
      · refine g_iconst C X0 d2_29 (pc' := 30) rfl (v := 0) rfl ?_
        exact g_retN C X0 K (by simp) d2_30 (by decide) (by decide) e0 ⟨by (unfold f2; rw [if_neg hc3, if_neg hc9, if_pos hc15]) <;> rfl, N0, rfl⟩
      · refine g_iloadN C X0 d2_18 (pc' := 19) rfl rfl ?_
        refine g_callS C X0 (w_10 hw) (w_11 hw) (w_12 hw) (w_13 hw) (by decide) d2_19 (rm3 l Z a0 hw [] x0 h0 n0 Z0) (by decide) (by decide) rfl pd_0 rfl (argsL := [(.int x0)]) (rest := []) rfl (W := 0) (Nat.le_of_eq rfl) e0 (by decide) (by decide) (pc' := 22) rfl (fun u1 T1 L1 X1 hQ1 => ?_)
        obtain ⟨rfl, Nq1, eq1⟩ := hQ1
        have N1 := Fr.app N0 Nq1
        show Goes p.tables e below G (T1.setTop (mkF m 22 #[.val (.int x0)] [(.int (f3 x0))]))
        refine g_if_ne C X1 d2_22 (pcT := 29) (pcN := 25) (by decide) (by decide) rfl (fun hc22 => ?_) (fun hc22 => ?_)
        · refine g_iconst C X1 d2_29 (pc' := 30) rfl (v := 0) rfl ?_
          exact g_retN C X1 K (by simp) d2_30 (by decide) (by decide) eq1 ⟨by (unfold f2; rw [if_neg hc3, if_neg hc9, if_neg hc15, if_neg hc22]) <;> rfl, N1, rfl⟩
        · refine g_iconst C X1 d2_25 (pc' := 26) rfl (v := 1) rfl ?_
          refine g_goto C X1 d2_26 (pc' := 30) (by decide) (by decide) ?_
          exact g_retN C X1 K (by simp) d2_30 (by decide) (by decide) eq1 ⟨by (unfold f2; rw [if_neg hc3, if_neg hc9, if_neg hc15, if_pos hc22]) <;> rfl, N1, rfl⟩
theorem own_lo {n : Int32} (h : n < (55296 : Int32)) : f3 n = 0 := by unfold f3; rw [if_pos h]
theorem own_mid {n : Int32} (h : ¬ n < (55296 : Int32)) (h2 : ¬ (57343 : Int32) < n) : f3 n = 1 := by
  have e1 : (57343 : Int32).toInt = 57343 := by decide
  have e2 : (57344 : Int32).toInt = 57344 := by decide
  rw [Int32.lt_iff_toInt_lt] at h2
  unfold f3; rw [if_neg h, if_pos (by rw [Int32.lt_iff_toInt_lt]; omega)]
theorem own_hi {n : Int32} (h : ¬ n < (55296 : Int32)) (h2 : (57343 : Int32) < n) : f3 n = 0 := by
  have e1 : (57343 : Int32).toInt = 57343 := by decide
  have e2 : (57344 : Int32).toInt = 57344 := by decide
  rw [Int32.lt_iff_toInt_lt] at h2
  unfold f3; rw [if_neg h, if_neg (by rw [Int32.lt_iff_toInt_lt]; omega)]
theorem ef_0 (m : MethodId) (p0 : Int32) (p1 : Int32) : entryFrame m #[(.int p0), (.int p1)] maxLocals = mkF m 0 #[.val (.int p0), .val (.int p1), .unset, .unset, .unset, .unset] [] := by first | (simp [entryFrame, mkF, argsToLocals, Value.category, maxLocals]; done) | rfl
theorem w_3 {Z : State} {a0 : Array Value} (hw : ∀ d ∈ tables_1, d.before a0 Z = true) : Jvm.Cond.before (Jvm.Cond.code ({ cls := "com/example/tokenweave/tokenweave/log/CsvReaderIsSeparatorPinLaw", name := "pick", desc := "(II)C" } : Jvm.MethodName) method_2_code (4 : Nat) (Option.some Jvm.ClassFile.FieldType.char)) a0 Z = true := hw _ (List.mem_of_getElem? (i := 3) rfl)
theorem w_2 {Z : State} {a0 : Array Value} (hw : ∀ d ∈ tables_1, d.before a0 Z = true) : Jvm.Cond.before (Jvm.Cond.initialized "com/example/tokenweave/tokenweave/log/CsvReaderIsSeparatorPinLaw") a0 Z = true := hw _ (List.mem_of_getElem? (i := 2) rfl)
theorem w_0 {Z : State} {a0 : Array Value} (hw : ∀ d ∈ tables_1, d.before a0 Z = true) : Jvm.Cond.before (Jvm.Cond.methodLink "com/example/tokenweave/tokenweave/log/CsvReaderIsSeparatorPinLaw" (11 : Nat) ({ cls := "com/example/tokenweave/tokenweave/log/CsvReaderIsSeparatorPinLaw", name := "pick", desc := "(II)C" } : Jvm.MethodName)) a0 Z = true := hw _ (List.mem_of_getElem? (i := 0) rfl)
theorem pd_1 : parseMethodDescriptor "(II)C" = some ⟨[.int, .int], some .char⟩ := by decide +kernel
theorem w_1 {Z : State} {a0 : Array Value} (hw : ∀ d ∈ tables_1, d.before a0 Z = true) : Jvm.Cond.before (Jvm.Cond.static ({ cls := "com/example/tokenweave/tokenweave/log/CsvReaderIsSeparatorPinLaw", name := "pick", desc := "(II)C" } : Jvm.MethodName)) a0 Z = true := hw _ (List.mem_of_getElem? (i := 1) rfl)
theorem w_7 {Z : State} {a0 : Array Value} (hw : ∀ d ∈ tables_1, d.before a0 Z = true) : Jvm.Cond.before (Jvm.Cond.code ({ cls := "com/example/tokenweave/tokenweave/log/CsvReader", name := "isSeparator", desc := "(C)Z" } : Jvm.MethodName) prog_71_method_2_code (1 : Nat) (Option.some Jvm.ClassFile.FieldType.boolean)) a0 Z = true := hw _ (List.mem_of_getElem? (i := 7) rfl)
theorem w_6 {Z : State} {a0 : Array Value} (hw : ∀ d ∈ tables_1, d.before a0 Z = true) : Jvm.Cond.before (Jvm.Cond.initialized "com/example/tokenweave/tokenweave/log/CsvReader") a0 Z = true := hw _ (List.mem_of_getElem? (i := 6) rfl)
theorem w_4 {Z : State} {a0 : Array Value} (hw : ∀ d ∈ tables_1, d.before a0 Z = true) : Jvm.Cond.before (Jvm.Cond.methodLink "com/example/tokenweave/tokenweave/log/CsvReaderIsSeparatorPinLaw" (17 : Nat) ({ cls := "com/example/tokenweave/tokenweave/log/CsvReader", name := "isSeparator", desc := "(C)Z" } : Jvm.MethodName)) a0 Z = true := hw _ (List.mem_of_getElem? (i := 4) rfl)
theorem w_5 {Z : State} {a0 : Array Value} (hw : ∀ d ∈ tables_1, d.before a0 Z = true) : Jvm.Cond.before (Jvm.Cond.static ({ cls := "com/example/tokenweave/tokenweave/log/CsvReader", name := "isSeparator", desc := "(C)Z" } : Jvm.MethodName)) a0 Z = true := hw _ (List.mem_of_getElem? (i := 5) rfl)
def Q0 (Z : State) (p0 : Int32) (p1 : Int32) (h0 : Heap) (n0 : Nat) (v : Option Value) (h : Heap) (L : List Loc) : Prop := v = some (.int 1) ∧ Fr n0 L
set_option maxRecDepth 65536 in
set_option maxHeartbeats 40000000 in
theorem rm0 (l : Launch) (Z : State) (a0 : Array Value) (hw : ∀ d ∈ tables_1, d.before a0 Z = true) (ws : List Jvm.Cond) (p0 : Int32) (p1 : Int32) (h0 : Heap) (n0 : Nat) (Z0 : n0 ≤ h0.size) :
    MetFree l x (head1 (Jvm.Cond.code x code maxLocals ret :: ws) room_1) (fun a U => a = #[(.int p0), (.int p1)] ∧ Z.Warmed39 U.vm ∧ U.heap = h0) (fun _ _ _ _ _ => True) (fun _ U o U' => ∃ v L, o = .returned v ∧ Q0 Z p0 p1 h0 n0 v U'.heap L ∧ FrameEnd U o U' L room_1.cells room_1.slots) := by
  refine body_of (y := x) (Q := Q0 Z p0 p1 h0 n0) (plainFor_of_name pn_0) ?_
  intro p e s m below meth c T0 G C hnm X0 e0 K
  have N0 := Fr.nil n0
  refine Goes.to (congrArg T0.setTop (ef_0 m p0 p1)) ?_
  refine g_iloadN C X0 at_0 (pc' := 1) rfl rfl ?_
  refine g_iloadN C X0 at_1 (pc' := 2) rfl rfl ?_
  refine g_callS C X0 (w_0 hw) (w_1 hw) (w_2 hw) (w_3 hw) (by decide) at_2 (rm1 l Z a0 hw [] p0 p1 h0 n0 Z0) (by decide) (by decide) rfl pd_1 rfl (argsL := [(.int p0), (.int p1)]) (rest := []) rfl (W := 0) (Nat.le_of_eq rfl) e0 (by decide) (by decide) (pc' := 5) rfl (fun u1 T1 L1 X1 hQ1 => ?_)
  obtain ⟨rfl, Nq1, eq1⟩ := hQ1
  have N1 := Fr.app N0 Nq1
  obtain ⟨r1, hr1⟩ : ∃ z : Int32, f1 p0 p1 = z := ⟨_, rfl⟩
  rw [hr1]
  show Goes p.tables e below G (T1.setTop (mkF m 5 #[.val (.int p0), .val (.int p1), .unset, .unset, .unset, .unset] [(.int r1)]))
  refine g_istoreN C X1 at_5 (pc' := 6) rfl (w := r1) rfl (ls' := #[.val (.int p0), .val (.int p1), .val (.int r1), .unset, .unset, .unset]) rfl ?_
  refine g_iloadN C X1 at_6 (pc' := 7) rfl rfl ?_
  refine g_istoreN C X1 at_7 (pc' := 8) rfl (w := r1) rfl (ls' := #[.val (.int p0), .val (.int p1), .val (.int r1), .val (.int r1), .unset, .unset]) rfl ?_
  refine g_iloadN C X1 at_8 (pc' := 9) rfl rfl ?_
  refine g_bipush C X1 at_9 (pc' := 11) rfl (v := 34) rfl ?_
  refine g_icmp_eq C X1 at_11 (pcT := 38) (pcN := 14) (by decide) (by decide) rfl (fun hc11 => ?_) (fun hc11 => ?_)
  · subst hc11
    refine g_iconst C X1 at_38 (pc' := 39) rfl (v := 1) rfl ?_
    refine g_goto C X1 at_39 (pc' := 43) (by decide) (by decide) ?_
    refine g_istore C X1 at_43 (pc' := 45) rfl (w := (1 : Int32)) rfl (ls' := #[.val (.int p0), .val (.int p1), .val (.int (34 : Int32)), .val (.int (34 : Int32)), .val (.int (1 : Int32)), .unset]) rfl ?_
    refine g_iload C X1 at_45 (pc' := 47) rfl rfl ?_
    refine g_if_ne C X1 at_47 (pcT := 54) (pcN := 50) (by decide) (by decide) rfl (fun hc47 => ?_) (fun hc47 => absurd hc47 (by decide))
    refine g_iconst C X1 at_54 (pc' := 55) rfl (v := 0) rfl ?_
    refine g_istore C X1 at_55 (pc' := 57) rfl (w := (0 : Int32)) rfl (ls' := #[.val (.int p0), .val (.int p1), .val (.int (34 : Int32)), .val (.int (34 : Int32)), .val (.int (1 : Int32)), .val (.int (0 : Int32))]) rfl ?_
    refine g_iloadN C X1 at_57 (pc' := 58) rfl rfl ?_
    refine g_callS C X1 (w_4 hw) (w_5 hw) (w_6 hw) (w_7 hw) (by decide) at_58 (rm2 l Z a0 hw [] (34 : Int32) h0 n0 Z0) (by decide) (by decide) rfl pd_0 rfl (argsL := [(.int (34 : Int32))]) (rest := []) rfl (W := 0) (Nat.le_of_eq rfl) eq1 (by decide) (by decide) (pc' := 61) rfl (fun u2 T2 L2 X2 hQ2 => ?_)
    obtain ⟨rfl, Nq2, eq2⟩ := hQ2
    have N2 := Fr.app N1 Nq2
    obtain ⟨r2, hr2⟩ : ∃ z : Int32, f2 (34 : Int32) = z := ⟨_, rfl⟩
    rw [hr2]
    show Goes p.tables e below G (T2.setTop (mkF m 61 #[.val (.int p0), .val (.int p1), .val (.int (34 : Int32)), .val (.int (34 : Int32)), .val (.int (1 : Int32)), .val (.int (0 : Int32))] [(.int r2)]))
    refine g_iload C X2 at_61 (pc' := 63) rfl rfl ?_
    refine g_icmp_ne C X2 at_63 (pcT := 70) (pcN := 66) (by decide) (by decide) rfl (fun hc63 => absurd (hr2.symm.trans (by decide)) hc63) (fun hc63 => ?_)
    subst hc63
    refine g_iconst C X2 at_66 (pc' := 67) rfl (v := 1) rfl ?_
    refine g_goto C X2 at_67 (pc' := 71) (by decide) (by decide) ?_
    exact g_retN C X2 K (by simp) at_71 (by decide) (by decide) eq2 ⟨rfl, N2⟩
  · refine g_iloadN C X1 at_14 (pc' := 15) rfl rfl ?_
    refine g_bipush C X1 at_15 (pc' := 17) rfl (v := 13) rfl ?_
    refine g_icmp_eq C X1 at_17 (pcT := 38) (pcN := 20) (by decide) (by decide) rfl (fun hc17 => ?_) (fun hc17 => ?_)
    · subst hc17
      refine g_iconst C X1 at_38 (pc' := 39) rfl (v := 1) rfl ?_
      refine g_goto C X1 at_39 (pc' := 43) (by decide) (by decide) ?_
      refine g_istore C X1 at_43 (pc' := 45) rfl (w := (1 : Int32)) rfl (ls' := #[.val (.int p0), .val (.int p1), .val (.int (13 : Int32)), .val (.int (13 : Int32)), .val (.int (1 : Int32)), .unset]) rfl ?_
      refine g_iload C X1 at_45 (pc' := 47) rfl rfl ?_
      refine g_if_ne C X1 at_47 (pcT := 54) (pcN := 50) (by decide) (by decide) rfl (fun hc47 => ?_) (fun hc47 => absurd hc47 (by decide))
      refine g_iconst C X1 at_54 (pc' := 55) rfl (v := 0) rfl ?_
      refine g_istore C X1 at_55 (pc' := 57) rfl (w := (0 : Int32)) rfl (ls' := #[.val (.int p0), .val (.int p1), .val (.int (13 : Int32)), .val (.int (13 : Int32)), .val (.int (1 : Int32)), .val (.int (0 : Int32))]) rfl ?_
      refine g_iloadN C X1 at_57 (pc' := 58) rfl rfl ?_
      refine g_callS C X1 (w_4 hw) (w_5 hw) (w_6 hw) (w_7 hw) (by decide) at_58 (rm2 l Z a0 hw [] (13 : Int32) h0 n0 Z0) (by decide) (by decide) rfl pd_0 rfl (argsL := [(.int (13 : Int32))]) (rest := []) rfl (W := 0) (Nat.le_of_eq rfl) eq1 (by decide) (by decide) (pc' := 61) rfl (fun u3 T3 L3 X3 hQ3 => ?_)
      obtain ⟨rfl, Nq3, eq3⟩ := hQ3
      have N3 := Fr.app N1 Nq3
      obtain ⟨r3, hr3⟩ : ∃ z : Int32, f2 (13 : Int32) = z := ⟨_, rfl⟩
      rw [hr3]
      show Goes p.tables e below G (T3.setTop (mkF m 61 #[.val (.int p0), .val (.int p1), .val (.int (13 : Int32)), .val (.int (13 : Int32)), .val (.int (1 : Int32)), .val (.int (0 : Int32))] [(.int r3)]))
      refine g_iload C X3 at_61 (pc' := 63) rfl rfl ?_
      refine g_icmp_ne C X3 at_63 (pcT := 70) (pcN := 66) (by decide) (by decide) rfl (fun hc63 => absurd (hr3.symm.trans (by decide)) hc63) (fun hc63 => ?_)
      subst hc63
      refine g_iconst C X3 at_66 (pc' := 67) rfl (v := 1) rfl ?_
      refine g_goto C X3 at_67 (pc' := 71) (by decide) (by decide) ?_
      exact g_retN C X3 K (by simp) at_71 (by decide) (by decide) eq3 ⟨rfl, N3⟩
    · refine g_iloadN C X1 at_20 (pc' := 21) rfl rfl ?_
      refine g_bipush C X1 at_21 (pc' := 23) rfl (v := 10) rfl ?_
      refine g_icmp_eq C X1 at_23 (pcT := 38) (pcN := 26) (by decide) (by decide) rfl (fun hc23 => ?_) (fun hc23 => ?_)
      · subst hc23
        refine g_iconst C X1 at_38 (pc' := 39) rfl (v := 1) rfl ?_
        refine g_goto C X1 at_39 (pc' := 43) (by decide) (by decide) ?_
        refine g_istore C X1 at_43 (pc' := 45) rfl (w := (1 : Int32)) rfl (ls' := #[.val (.int p0), .val (.int p1), .val (.int (10 : Int32)), .val (.int (10 : Int32)), .val (.int (1 : Int32)), .unset]) rfl ?_
        refine g_iload C X1 at_45 (pc' := 47) rfl rfl ?_
        refine g_if_ne C X1 at_47 (pcT := 54) (pcN := 50) (by decide) (by decide) rfl (fun hc47 => ?_) (fun hc47 => absurd hc47 (by decide))
        refine g_iconst C X1 at_54 (pc' := 55) rfl (v := 0) rfl ?_
        refine g_istore C X1 at_55 (pc' := 57) rfl (w := (0 : Int32)) rfl (ls' := #[.val (.int p0), .val (.int p1), .val (.int (10 : Int32)), .val (.int (10 : Int32)), .val (.int (1 : Int32)), .val (.int (0 : Int32))]) rfl ?_
        refine g_iloadN C X1 at_57 (pc' := 58) rfl rfl ?_
        refine g_callS C X1 (w_4 hw) (w_5 hw) (w_6 hw) (w_7 hw) (by decide) at_58 (rm2 l Z a0 hw [] (10 : Int32) h0 n0 Z0) (by decide) (by decide) rfl pd_0 rfl (argsL := [(.int (10 : Int32))]) (rest := []) rfl (W := 0) (Nat.le_of_eq rfl) eq1 (by decide) (by decide) (pc' := 61) rfl (fun u4 T4 L4 X4 hQ4 => ?_)
        obtain ⟨rfl, Nq4, eq4⟩ := hQ4
        have N4 := Fr.app N1 Nq4
        obtain ⟨r4, hr4⟩ : ∃ z : Int32, f2 (10 : Int32) = z := ⟨_, rfl⟩
        rw [hr4]
        show Goes p.tables e below G (T4.setTop (mkF m 61 #[.val (.int p0), .val (.int p1), .val (.int (10 : Int32)), .val (.int (10 : Int32)), .val (.int (1 : Int32)), .val (.int (0 : Int32))] [(.int r4)]))
        refine g_iload C X4 at_61 (pc' := 63) rfl rfl ?_
        refine g_icmp_ne C X4 at_63 (pcT := 70) (pcN := 66) (by decide) (by decide) rfl (fun hc63 => absurd (hr4.symm.trans (by decide)) hc63) (fun hc63 => ?_)
        subst hc63
        refine g_iconst C X4 at_66 (pc' := 67) rfl (v := 1) rfl ?_
        refine g_goto C X4 at_67 (pc' := 71) (by decide) (by decide) ?_
        exact g_retN C X4 K (by simp) at_71 (by decide) (by decide) eq4 ⟨rfl, N4⟩
      · refine g_iloadN C X1 at_26 (pc' := 27) rfl rfl ?_
        refine g_ldc C X1 (w_8 hw) at_27 (pc' := 29) rfl ?_
        refine g_icmp_lt C X1 at_29 (pcT := 42) (pcN := 32) (by decide) (by decide) rfl (fun hc29 => ?_) (fun hc29 => ?_)
        · refine g_iconst C X1 at_42 (pc' := 43) rfl (v := 0) rfl ?_
          refine g_istore C X1 at_43 (pc' := 45) rfl (w := (0 : Int32)) rfl (ls' := #[.val (.int p0), .val (.int p1), .val (.int r1), .val (.int r1), .val (.int (0 : Int32)), .unset]) rfl ?_
          refine g_iload C X1 at_45 (pc' := 47) rfl rfl ?_
          refine g_if_ne C X1 at_47 (pcT := 54) (pcN := 50) (by decide) (by decide) rfl (fun hc47 => absurd hc47 (by decide)) (fun hc47 => ?_)
          refine g_iconst C X1 at_50 (pc' := 51) rfl (v := 1) rfl ?_
          refine g_goto C X1 at_51 (pc' := 55) (by decide) (by decide) ?_
          refine g_istore C X1 at_55 (pc' := 57) rfl (w := (1 : Int32)) rfl (ls' := #[.val (.int p0), .val (.int p1), .val (.int r1), .val (.int r1), .val (.int (0 : Int32)), .val (.int (1 : Int32))]) rfl ?_
          refine g_iloadN C X1 at_57 (pc' := 58) rfl rfl ?_
          refine g_callS C X1 (w_4 hw) (w_5 hw) (w_6 hw) (w_7 hw) (by decide) at_58 (rm2 l Z a0 hw [] r1 h0 n0 Z0) (by decide) (by decide) rfl pd_0 rfl (argsL := [(.int r1)]) (rest := []) rfl (W := 0) (Nat.le_of_eq rfl) eq1 (by decide) (by decide) (pc' := 61) rfl (fun u5 T5 L5 X5 hQ5 => ?_)
          obtain ⟨rfl, Nq5, eq5⟩ := hQ5
          have N5 := Fr.app N1 Nq5
          obtain ⟨r5, hr5⟩ : ∃ z : Int32, f2 r1 = z := ⟨_, rfl⟩
          rw [hr5]
          show Goes p.tables e below G (T5.setTop (mkF m 61 #[.val (.int p0), .val (.int p1), .val (.int r1), .val (.int r1), .val (.int (0 : Int32)), .val (.int (1 : Int32))] [(.int r5)]))
          refine g_iload C X5 at_61 (pc' := 63) rfl rfl ?_
          refine g_icmp_ne C X5 at_63 (pcT := 70) (pcN := 66) (by decide) (by decide) rfl (fun hc63 => absurd (hr5.symm.trans (by unfold f2; rw [if_neg hc11, if_neg hc17, if_neg hc23, own_lo hc29]; rfl)) hc63) (fun hc63 => ?_)
          subst hc63
          refine g_iconst C X5 at_66 (pc' := 67) rfl (v := 1) rfl ?_
          refine g_goto C X5 at_67 (pc' := 71) (by decide) (by decide) ?_
          exact g_retN C X5 K (by simp) at_71 (by decide) (by decide) eq5 ⟨rfl, N5⟩
        · refine g_iloadN C X1 at_32 (pc' := 33) rfl rfl ?_
          refine g_ldc C X1 (w_9 hw) at_33 (pc' := 35) rfl ?_
          refine g_icmp_gt C X1 at_35 (pcT := 42) (pcN := 38) (by decide) (by decide) rfl (fun hc35 => ?_) (fun hc35 => ?_)
          · refine g_iconst C X1 at_42 (pc' := 43) rfl (v := 0) rfl ?_
            refine g_istore C X1 at_43 (pc' := 45) rfl (w := (0 : Int32)) rfl (ls' := #[.val (.int p0), .val (.int p1), .val (.int r1), .val (.int r1), .val (.int (0 : Int32)), .unset]) rfl ?_
            refine g_iload C X1 at_45 (pc' := 47) rfl rfl ?_
            refine g_if_ne C X1 at_47 (pcT := 54) (pcN := 50) (by decide) (by decide) rfl (fun hc47 => absurd hc47 (by decide)) (fun hc47 => ?_)
            refine g_iconst C X1 at_50 (pc' := 51) rfl (v := 1) rfl ?_
            refine g_goto C X1 at_51 (pc' := 55) (by decide) (by decide) ?_
            refine g_istore C X1 at_55 (pc' := 57) rfl (w := (1 : Int32)) rfl (ls' := #[.val (.int p0), .val (.int p1), .val (.int r1), .val (.int r1), .val (.int (0 : Int32)), .val (.int (1 : Int32))]) rfl ?_
            refine g_iloadN C X1 at_57 (pc' := 58) rfl rfl ?_
            refine g_callS C X1 (w_4 hw) (w_5 hw) (w_6 hw) (w_7 hw) (by decide) at_58 (rm2 l Z a0 hw [] r1 h0 n0 Z0) (by decide) (by decide) rfl pd_0 rfl (argsL := [(.int r1)]) (rest := []) rfl (W := 0) (Nat.le_of_eq rfl) eq1 (by decide) (by decide) (pc' := 61) rfl (fun u6 T6 L6 X6 hQ6 => ?_)
            obtain ⟨rfl, Nq6, eq6⟩ := hQ6
            have N6 := Fr.app N1 Nq6
            obtain ⟨r6, hr6⟩ : ∃ z : Int32, f2 r1 = z := ⟨_, rfl⟩
            rw [hr6]
            show Goes p.tables e below G (T6.setTop (mkF m 61 #[.val (.int p0), .val (.int p1), .val (.int r1), .val (.int r1), .val (.int (0 : Int32)), .val (.int (1 : Int32))] [(.int r6)]))
            refine g_iload C X6 at_61 (pc' := 63) rfl rfl ?_
            refine g_icmp_ne C X6 at_63 (pcT := 70) (pcN := 66) (by decide) (by decide) rfl (fun hc63 => absurd (hr6.symm.trans (by unfold f2; rw [if_neg hc11, if_neg hc17, if_neg hc23, own_hi hc29 hc35]; rfl)) hc63) (fun hc63 => ?_)
            subst hc63
            refine g_iconst C X6 at_66 (pc' := 67) rfl (v := 1) rfl ?_
            refine g_goto C X6 at_67 (pc' := 71) (by decide) (by decide) ?_
            exact g_retN C X6 K (by simp) at_71 (by decide) (by decide) eq6 ⟨rfl, N6⟩
          · refine g_iconst C X1 at_38 (pc' := 39) rfl (v := 1) rfl ?_
            refine g_goto C X1 at_39 (pc' := 43) (by decide) (by decide) ?_
            refine g_istore C X1 at_43 (pc' := 45) rfl (w := (1 : Int32)) rfl (ls' := #[.val (.int p0), .val (.int p1), .val (.int r1), .val (.int r1), .val (.int (1 : Int32)), .unset]) rfl ?_
            refine g_iload C X1 at_45 (pc' := 47) rfl rfl ?_
            refine g_if_ne C X1 at_47 (pcT := 54) (pcN := 50) (by decide) (by decide) rfl (fun hc47 => ?_) (fun hc47 => absurd hc47 (by decide))
            refine g_iconst C X1 at_54 (pc' := 55) rfl (v := 0) rfl ?_
            refine g_istore C X1 at_55 (pc' := 57) rfl (w := (0 : Int32)) rfl (ls' := #[.val (.int p0), .val (.int p1), .val (.int r1), .val (.int r1), .val (.int (1 : Int32)), .val (.int (0 : Int32))]) rfl ?_
            refine g_iloadN C X1 at_57 (pc' := 58) rfl rfl ?_
            refine g_callS C X1 (w_4 hw) (w_5 hw) (w_6 hw) (w_7 hw) (by decide) at_58 (rm2 l Z a0 hw [] r1 h0 n0 Z0) (by decide) (by decide) rfl pd_0 rfl (argsL := [(.int r1)]) (rest := []) rfl (W := 0) (Nat.le_of_eq rfl) eq1 (by decide) (by decide) (pc' := 61) rfl (fun u7 T7 L7 X7 hQ7 => ?_)
            obtain ⟨rfl, Nq7, eq7⟩ := hQ7
            have N7 := Fr.app N1 Nq7
            obtain ⟨r7, hr7⟩ : ∃ z : Int32, f2 r1 = z := ⟨_, rfl⟩
            rw [hr7]
            show Goes p.tables e below G (T7.setTop (mkF m 61 #[.val (.int p0), .val (.int p1), .val (.int r1), .val (.int r1), .val (.int (1 : Int32)), .val (.int (0 : Int32))] [(.int r7)]))
            refine g_iload C X7 at_61 (pc' := 63) rfl rfl ?_
            refine g_icmp_ne C X7 at_63 (pcT := 70) (pcN := 66) (by decide) (by decide) rfl (fun hc63 => absurd (hr7.symm.trans (by unfold f2; rw [if_neg hc11, if_neg hc17, if_neg hc23, own_mid hc29 hc35]; rfl)) hc63) (fun hc63 => ?_)
            subst hc63
            refine g_iconst C X7 at_66 (pc' := 67) rfl (v := 1) rfl ?_
            refine g_goto C X7 at_67 (pc' := 71) (by decide) (by decide) ?_
            exact g_retN C X7 K (by simp) at_71 (by decide) (by decide) eq7 ⟨rfl, N7⟩
set_option maxRecDepth 65536 in
set_option maxHeartbeats 40000000 in
theorem comes_1 {Post : Tables → Env → Array Value → State → Outcome → State → Prop} (hpost : ∀ tb e args s v u, (limb_1_1.after args s (.returned v) u = true ∧ limb_1_2.after args s (.returned v) u = true ∧ True) → FrameEnd s (.returned v) u (Jvm.fieldLocs frame_1_writes args s ++ Jvm.arrayLocs frame_1_arrays args s ++ Jvm.staticLocs frame_1_statics s) 0 0 → Post tb e args s (.returned v) u) :
    ArmFor flags0 classFile x code maxLocals ret World_1 tables_1 room_1 Calls_1 rest_1 Pre_1 Post := by
  intro l hfl _ _ p e ha hc hk s m args below hf hA hF happ hP
  obtain ⟨hcalls, hrest, hpre⟩ := hP
  obtain ⟨-, -, -, hnamed, -, -, -, hat⟩ := (Spec.applies_iff hf).mp happ
  obtain ⟨hg, hn⟩ := and_e (Cond.before_iff.mp (show (Jvm.Cond.and given_1 narrow_1).before args s = true from hpre))
  obtain ⟨gc, g0⟩ := and_e hg
  obtain ⟨k0, g1⟩ := and_e g0
  have k1 := g1
  obtain ⟨w0, w1, rfl⟩ : ∃ w0 w1 : Value, args = #[w0, w1] := by
    have hs : args.size = 2 := by simpa [Cond.value, given_1] using gc
    obtain ⟨L⟩ := args
    match L, hs with
    | [w0, w1], _ => exact ⟨w0, w1, rfl⟩
  have hw := fun d (hd : d ∈ tables_1) => atoms_spec (ws := Jvm.Cond.code x code maxLocals ret :: tables_1) hat d (List.mem_cons_of_mem _ hd)
  obtain ⟨i0, ei0⟩ := is_v k0
  obtain rfl : w0 = (.int i0) := Option.some.inj ei0
  obtain ⟨i1, ei1⟩ := is_v k1
  obtain rfl : w1 = (.int i1) := Option.some.inj ei1
  obtain ⟨n, o, h1, h2, h3, _, L, rfl, ⟨rfl, N⟩, hq⟩ := rm0 l s _ hw tables_1 i0 i1  s.heap s.heap.size (Nat.le_refl _) p e ha hc hk s m _ below hf ((Spec.applies_iff_loose hf).mp happ).1 ⟨rfl, State.Warmed39.refl s, rfl⟩ trivial
  refine ⟨n, _, h1, h2, h3, hpost _ _ _ _ _ _ ⟨Cond.after_iff.mpr rfl, Cond.after_iff.mpr (eq_i res_at (Term.int_eval (1)) rfl), trivial⟩ ⟨hq.1, hq.2.1, (hq.2.2.sift fun y hy => Or.inr (N y hy)).mono (by decide) (by decide)⟩⟩
theorem main_1_1 : Claimed_1_1 := comes_1 fun _ _ _ _ _ _ h hF => ⟨h.1, hF⟩
theorem main_1_2 : Claimed_1_2 := comes_1 fun _ _ _ _ _ _ h hF => ⟨h.2.1, hF⟩
end Jvm.Pilot.@@N@@
namespace Jvm.Pilot.@@N@@
open Jvm Jvm.ClassFile Sem Op Lib Jvm.Free Jvm.Stand Jvm.Pilot.@@N@@.Jvm.D
/-! MADE BY PROGRAM (witnessworld.py) out of the Statement's table words and the real class files: 13 classes; the members and pool entries that the words name. The judged class is class 1, her method 2. -/
namespace start1
open Jvm.ClassFile
def u (s : String) : CpInfo := .utf8 (stringToUtf16 s)
/-- a pool by its gaps: so many unusable entries, then the entry; so many at the end -/
def gap : Nat → List CpInfo → List CpInfo
  | 0, r => r
  | n + 1, r => .unusable :: gap n r
def poolList (es : List (Nat × CpInfo)) (last : Nat) : List CpInfo := es.foldr (fun e r => gap e.1 (e.2 :: r)) (gap last [])
def pool (es : List (Nat × CpInfo)) (last : Nat) : Array CpInfo := ⟨poolList es last⟩
def fileOf (pool : Array CpInfo) (this : Nat) (attrs : Array Attribute := #[]) (ms : Array MethodInfo := #[]) (fl : Nat := 33) (sup : Nat := 0) (ifs : Array Nat := #[]) (fds : Array FieldInfo := #[]) : ClassFile where
  minorVersion := 0
  majorVersion := 65
  constantPool := pool
  accessFlags := fl
  thisClass := this
  superClass := sup
  interfaces := ifs
  fields := fds
  methods := ms
  attributes := attrs
def plain (name : String) (sup : Option ClassId) : Class where
  name := name
  kind := .ordinary
  loader := none
  accessFlags := 33
  super := sup
  interfaces := #[]
  cf := none
  fields := #[]
  methods := #[]
  instanceTypes := #[]
  staticTypes := #[]
  resolved := #[]
  callSites := []
  init := .initialized
  statics := none
  mirror := none

def pool0 : Array CpInfo := pool [(5, u "<init>"), (0, u "()V"), (1, .class_ 10), (1, u "java/lang/Object")] 113

def k0m0 : Method := { name := "<init>", desc := "()V", sig := { parameters := [], returnType := none }, accessFlags := 1, code := none }
/-- java/lang/Object -/
def k0 : Class := { plain "java/lang/Object" none with
  accessFlags := 33
  interfaces := #[]
  cf := some (fileOf pool0 8 #[] #[{ accessFlags := 1, nameIndex := 5, descriptorIndex := 6, attributes := #[] }] 33 0 #[] #[])
  fields := #[]
  methods := #[k0m0]
  instanceTypes := #[]
  staticTypes := #[]
  resolved := Array.replicate 124 none
  statics := none }

def pool1 : Array CpInfo := pool [(2, .class_ 4), (1, u "java/lang/Object"), (0, u "<init>"), (0, u "()V"), (0, .integer 55296), (0, .integer 55295), (0, .integer 57343), (0, .integer 57344), (0, .methodref 12 13), (0, .class_ 14), (0, .nameAndType 15 16), (0, u "com/example/tokenweave/tokenweave/log/CsvReaderIsSeparatorPinLaw"), (0, u "pick"), (0, u "(II)C"), (0, .methodref 18 19), (0, .class_ 20), (0, .nameAndType 21 22), (0, u "com/example/tokenweave/tokenweave/log/CsvReader"), (0, u "isSeparator"), (0, u "(C)Z"), (3, u "law"), (0, u "(II)Z")] 2

def k1m0 : Method := { name := "<init>", desc := "()V", sig := { parameters := [], returnType := none }, accessFlags := 2, code := none }
def k1c1 : Code := { maxStack := 3, maxLocals := 4, code := method_2_code, exceptionTable := #[], attributes := #[] }
def k1m1 : Method := { name := "pick", desc := "(II)C", sig := { parameters := [.int, .int], returnType := some .char }, accessFlags := 10, code := some k1c1 }
def k1c2 : Code := { maxStack := 2, maxLocals := 6, code := code, exceptionTable := #[], attributes := #[] }
def k1m2 : Method := { name := "law", desc := "(II)Z", sig := { parameters := [.int, .int], returnType := some .boolean }, accessFlags := 9, code := some k1c2 }
/-- com/example/tokenweave/tokenweave/log/CsvReaderIsSeparatorPinLaw -/
def k1 : Class := { plain "com/example/tokenweave/tokenweave/log/CsvReaderIsSeparatorPinLaw" (some 0) with
  accessFlags := 49
  interfaces := #[]
  cf := some (fileOf pool1 12 #[] #[{ accessFlags := 2, nameIndex := 5, descriptorIndex := 6, attributes := #[] }, { accessFlags := 10, nameIndex := 15, descriptorIndex := 16, attributes := #[] }, { accessFlags := 9, nameIndex := 26, descriptorIndex := 27, attributes := #[] }] 49 2 #[] #[])
  fields := #[]
  methods := #[k1m0, k1m1, k1m2]
  instanceTypes := #[]
  staticTypes := #[]
  resolved := Array.replicate 30 none
  statics := none }

def pool2 : Array CpInfo := pool [(1, .class_ 2), (0, u "java/lang/AutoCloseable"), (0, .class_ 4), (0, u "java/lang/Object")] 7

/-- java/lang/AutoCloseable -/
def k2 : Class := { plain "java/lang/AutoCloseable" (some 0) with
  accessFlags := 1537
  interfaces := #[]
  cf := some (fileOf pool2 1 #[] #[] 1537 3 #[] #[])
  fields := #[]
  methods := #[]
  instanceTypes := #[]
  staticTypes := #[]
  resolved := Array.replicate 12 none
  statics := none }

def pool3 : Array CpInfo := pool [(2, .class_ 4), (1, u "java/lang/Object"), (3, .class_ 10), (1, u "com/example/tokenweave/tokenweave/log/CsvReader"), (0, u "m_aInput"), (0, u "Lcom/example/tokenweave/tokenweave/log/CsvInput;"), (8, u "m_aColumns"), (0, u "Ljava/util/List;"), (0, .methodref 24 25), (0, .class_ 26), (0, .nameAndType 27 28), (0, u "java/lang/Character"), (0, u "isSurrogate"), (0, u "(C)Z"), (2, u "isSeparator"), (90, u "m_nRows"), (0, u "I"), (5, u "m_bRead"), (0, u "Z"), (108, u "MILLIS"), (0, u "Ljava/util/regex/Pattern;"), (111, .class_ 353), (0, u "java/lang/AutoCloseable")] 76

def k3c0 : Code := { maxStack := 2, maxLocals := 1, code := prog_71_method_2_code, exceptionTable := #[], attributes := #[] }
def k3m0 : Method := { name := "isSeparator", desc := "(C)Z", sig := { parameters := [.char], returnType := some .boolean }, accessFlags := 9, code := some k3c0 }
/-- com/example/tokenweave/tokenweave/log/CsvReader -/
def k3 : Class := { plain "com/example/tokenweave/tokenweave/log/CsvReader" (some 0) with
  accessFlags := 49
  interfaces := #[2]
  cf := some (fileOf pool3 8 #[] #[{ accessFlags := 9, nameIndex := 31, descriptorIndex := 28, attributes := #[] }] 49 2 #[352] #[{ accessFlags := 26, nameIndex := 239, descriptorIndex := 240, attributes := #[] }, { accessFlags := 18, nameIndex := 11, descriptorIndex := 12, attributes := #[] }, { accessFlags := 18, nameIndex := 21, descriptorIndex := 22, attributes := #[] }, { accessFlags := 2, nameIndex := 122, descriptorIndex := 123, attributes := #[] }, { accessFlags := 2, nameIndex := 129, descriptorIndex := 130, attributes := #[] }])
  fields := #[{ name := "MILLIS", type := (.object "java/util/regex/Pattern"), accessFlags := 26, slot := 0, constantValue := 0 }, { name := "m_aInput", type := (.object "com/example/tokenweave/tokenweave/log/CsvInput"), accessFlags := 18, slot := 0, constantValue := 0 }, { name := "m_aColumns", type := (.object "java/util/List"), accessFlags := 18, slot := 1, constantValue := 0 }, { name := "m_nRows", type := .int, accessFlags := 2, slot := 2, constantValue := 0 }, { name := "m_bRead", type := .boolean, accessFlags := 2, slot := 3, constantValue := 0 }]
  methods := #[k3m0]
  instanceTypes := #[(.object "com/example/tokenweave/tokenweave/log/CsvInput"), (.object "java/util/List"), .int, .boolean]
  staticTypes := #[(.object "java/util/regex/Pattern")]
  resolved := Array.replicate 430 none
  statics := none }

def pool4 : Array CpInfo := pool [(1, .class_ 2), (0, u "java/io/Serializable"), (0, .class_ 4), (0, u "java/lang/Object")] 2

/-- java/io/Serializable -/
def k4 : Class := { plain "java/io/Serializable" (some 0) with
  accessFlags := 1537
  interfaces := #[]
  cf := some (fileOf pool4 1 #[] #[] 1537 3 #[] #[])
  fields := #[]
  methods := #[]
  instanceTypes := #[]
  staticTypes := #[]
  resolved := Array.replicate 7 none
  statics := none }

def pool5 : Array CpInfo := pool [(1, .class_ 2), (0, u "java/lang/Comparable"), (0, .class_ 4), (0, u "java/lang/Object")] 7

/-- java/lang/Comparable -/
def k5 : Class := { plain "java/lang/Comparable" (some 0) with
  accessFlags := 1537
  interfaces := #[]
  cf := some (fileOf pool5 1 #[] #[] 1537 3 #[] #[])
  fields := #[]
  methods := #[]
  instanceTypes := #[]
  staticTypes := #[]
  resolved := Array.replicate 12 none
  statics := none }

def pool6 : Array CpInfo := pool [(1, .class_ 2), (0, u "java/lang/constant/Constable"), (0, .class_ 4), (0, u "java/lang/Object")] 6

/-- java/lang/constant/Constable -/
def k6 : Class := { plain "java/lang/constant/Constable" (some 0) with
  accessFlags := 1537
  interfaces := #[]
  cf := some (fileOf pool6 1 #[] #[] 1537 3 #[] #[])
  fields := #[]
  methods := #[]
  instanceTypes := #[]
  staticTypes := #[]
  resolved := Array.replicate 11 none
  statics := none }

def pool7 : Array CpInfo := pool [(1, .class_ 2), (0, u "java/lang/Character"), (18, u "value"), (0, u "C"), (19, .class_ 44), (1, u "java/lang/Object"), (3, .class_ 50), (1, u "java/lang/Character$CharacterCache"), (24, .integer 55296), (1, .integer 57344), (3, u "(C)Z"), (202, u "$assertionsDisabled"), (0, u "Z"), (21, .class_ 309), (1, u "java/lang/Character$UnicodeBlock"), (73, u "TYPE"), (0, u "Ljava/lang/Class;"), (0, .class_ 386), (0, u "java/io/Serializable"), (0, .class_ 388), (0, u "java/lang/Comparable"), (0, .class_ 390), (0, u "java/lang/constant/Constable"), (0, u "MIN_RADIX"), (0, u "I"), (2, u "MAX_RADIX"), (1, u "MIN_VALUE"), (1, u "MAX_VALUE"), (3, u "UNASSIGNED"), (0, u "B"), (0, u "UPPERCASE_LETTER"), (1, u "LOWERCASE_LETTER"), (0, u "TITLECASE_LETTER"), (1, u "MODIFIER_LETTER"), (1, u "OTHER_LETTER"), (1, u "NON_SPACING_MARK"), (1, u "ENCLOSING_MARK"), (1, u "COMBINING_SPACING_MARK"), (1, u "DECIMAL_DIGIT_NUMBER"), (1, u "LETTER_NUMBER"), (1, u "OTHER_NUMBER"), (1, u "SPACE_SEPARATOR"), (1, u "LINE_SEPARATOR"), (1, u "PARAGRAPH_SEPARATOR"), (1, u "CONTROL"), (1, u "FORMAT"), (1, u "PRIVATE_USE"), (1, u "SURROGATE"), (1, u "DASH_PUNCTUATION"), (1, u "START_PUNCTUATION"), (1, u "END_PUNCTUATION"), (1, u "CONNECTOR_PUNCTUATION"), (1, u "OTHER_PUNCTUATION"), (1, u "MATH_SYMBOL"), (1, u "CURRENCY_SYMBOL"), (1, u "MODIFIER_SYMBOL"), (1, u "OTHER_SYMBOL"), (1, u "INITIAL_QUOTE_PUNCTUATION"), (1, u "FINAL_QUOTE_PUNCTUATION"), (1, u "ERROR"), (1, u "DIRECTIONALITY_UNDEFINED"), (0, u "DIRECTIONALITY_LEFT_TO_RIGHT"), (0, u "DIRECTIONALITY_RIGHT_TO_LEFT"), (0, u "DIRECTIONALITY_RIGHT_TO_LEFT_ARABIC"), (0, u "DIRECTIONALITY_EUROPEAN_NUMBER"), (0, u "DIRECTIONALITY_EUROPEAN_NUMBER_SEPARATOR"), (0, u "DIRECTIONALITY_EUROPEAN_NUMBER_TERMINATOR"), (0, u "DIRECTIONALITY_ARABIC_NUMBER"), (0, u "DIRECTIONALITY_COMMON_NUMBER_SEPARATOR"), (0, u "DIRECTIONALITY_NONSPACING_MARK"), (0, u "DIRECTIONALITY_BOUNDARY_NEUTRAL"), (0, u "DIRECTIONALITY_PARAGRAPH_SEPARATOR"), (0, u "DIRECTIONALITY_SEGMENT_SEPARATOR"), (0, u "DIRECTIONALITY_WHITESPACE"), (0, u "DIRECTIONALITY_OTHER_NEUTRALS"), (0, u "DIRECTIONALITY_LEFT_TO_RIGHT_EMBEDDING"), (0, u "DIRECTIONALITY_LEFT_TO_RIGHT_OVERRIDE"), (0, u "DIRECTIONALITY_RIGHT_TO_LEFT_EMBEDDING"), (0, u "DIRECTIONALITY_RIGHT_TO_LEFT_OVERRIDE"), (1, u "DIRECTIONALITY_POP_DIRECTIONAL_FORMAT"), (0, u "DIRECTIONALITY_LEFT_TO_RIGHT_ISOLATE"), (0, u "DIRECTIONALITY_RIGHT_TO_LEFT_ISOLATE"), (0, u "DIRECTIONALITY_FIRST_STRONG_ISOLATE"), (0, u "DIRECTIONALITY_POP_DIRECTIONAL_ISOLATE"), (0, u "MIN_HIGH_SURROGATE"), (0, u "MAX_HIGH_SURROGATE"), (1, u "MIN_LOW_SURROGATE"), (0, u "MAX_LOW_SURROGATE"), (1, u "MIN_SURROGATE"), (0, u "MAX_SURROGATE"), (0, u "MIN_SUPPLEMENTARY_CODE_POINT"), (0, u "MIN_CODE_POINT"), (0, u "MAX_CODE_POINT"), (1, u "serialVersionUID"), (0, u "J"), (2, u "SIZE"), (0, u "BYTES"), (24, u "isSurrogate"), (63, .class_ 596), (0, u "java/lang/Character$UnicodeScript"), (0, .class_ 598), (0, u "java/lang/Character$Subset")] 5

def k7c0 : Code := { maxStack := 2, maxLocals := 1, code := jdk_89_method_16_code, exceptionTable := #[], attributes := #[] }
def k7m0 : Method := { name := "isSurrogate", desc := "(C)Z", sig := { parameters := [.char], returnType := some .boolean }, accessFlags := 9, code := some k7c0 }
/-- java/lang/Character -/
def k7 : Class := { plain "java/lang/Character" (some 0) with
  accessFlags := 49
  interfaces := #[4, 5, 6]
  cf := some (fileOf pool7 1 #[.nestMembers #[48, 595, 307, 597]] #[{ accessFlags := 9, nameIndex := 531, descriptorIndex := 81, attributes := #[] }] 49 42 #[385, 387, 389] #[{ accessFlags := 25, nameIndex := 391, descriptorIndex := 392, attributes := #[] }, { accessFlags := 25, nameIndex := 395, descriptorIndex := 392, attributes := #[] }, { accessFlags := 25, nameIndex := 397, descriptorIndex := 22, attributes := #[] }, { accessFlags := 25, nameIndex := 399, descriptorIndex := 22, attributes := #[] }, { accessFlags := 25, nameIndex := 383, descriptorIndex := 384, attributes := #[] }, { accessFlags := 25, nameIndex := 403, descriptorIndex := 404, attributes := #[] }, { accessFlags := 25, nameIndex := 405, descriptorIndex := 404, attributes := #[] }, { accessFlags := 25, nameIndex := 407, descriptorIndex := 404, attributes := #[] }, { accessFlags := 25, nameIndex := 408, descriptorIndex := 404, attributes := #[] }, { accessFlags := 25, nameIndex := 410, descriptorIndex := 404, attributes := #[] }, { accessFlags := 25, nameIndex := 412, descriptorIndex := 404, attributes := #[] }, { accessFlags := 25, nameIndex := 414, descriptorIndex := 404, attributes := #[] }, { accessFlags := 25, nameIndex := 416, descriptorIndex := 404, attributes := #[] }, { accessFlags := 25, nameIndex := 418, descriptorIndex := 404, attributes := #[] }, { accessFlags := 25, nameIndex := 420, descriptorIndex := 404, attributes := #[] }, { accessFlags := 25, nameIndex := 422, descriptorIndex := 404, attributes := #[] }, { accessFlags := 25, nameIndex := 424, descriptorIndex := 404, attributes := #[] }, { accessFlags := 25, nameIndex := 426, descriptorIndex := 404, attributes := #[] }, { accessFlags := 25, nameIndex := 428, descriptorIndex := 404, attributes := #[] }, { accessFlags := 25, nameIndex := 430, descriptorIndex := 404, attributes := #[] }, { accessFlags := 25, nameIndex := 432, descriptorIndex := 404, attributes := #[] }, { accessFlags := 25, nameIndex := 434, descriptorIndex := 404, attributes := #[] }, { accessFlags := 25, nameIndex := 436, descriptorIndex := 404, attributes := #[] }, { accessFlags := 25, nameIndex := 438, descriptorIndex := 404, attributes := #[] }, { accessFlags := 25, nameIndex := 440, descriptorIndex := 404, attributes := #[] }, { accessFlags := 25, nameIndex := 442, descriptorIndex := 404, attributes := #[] }, { accessFlags := 25, nameIndex := 444, descriptorIndex := 404, attributes := #[] }, { accessFlags := 25, nameIndex := 446, descriptorIndex := 404, attributes := #[] }, { accessFlags := 25, nameIndex := 448, descriptorIndex := 404, attributes := #[] }, { accessFlags := 25, nameIndex := 450, descriptorIndex := 404, attributes := #[] }, { accessFlags := 25, nameIndex := 452, descriptorIndex := 404, attributes := #[] }, { accessFlags := 25, nameIndex := 454, descriptorIndex := 404, attributes := #[] }, { accessFlags := 25, nameIndex := 456, descriptorIndex := 404, attributes := #[] }, { accessFlags := 25, nameIndex := 458, descriptorIndex := 404, attributes := #[] }, { accessFlags := 25, nameIndex := 460, descriptorIndex := 404, attributes := #[] }, { accessFlags := 24, nameIndex := 462, descriptorIndex := 392, attributes := #[] }, { accessFlags := 25, nameIndex := 464, descriptorIndex := 404, attributes := #[] }, { accessFlags := 25, nameIndex := 465, descriptorIndex := 404, attributes := #[] }, { accessFlags := 25, nameIndex := 466, descriptorIndex := 404, attributes := #[] }, { accessFlags := 25, nameIndex := 467, descriptorIndex := 404, attributes := #[] }, { accessFlags := 25, nameIndex := 468, descriptorIndex := 404, attributes := #[] }, { accessFlags := 25, nameIndex := 469, descriptorIndex := 404, attributes := #[] }, { accessFlags := 25, nameIndex := 470, descriptorIndex := 404, attributes := #[] }, { accessFlags := 25, nameIndex := 471, descriptorIndex := 404, attributes := #[] }, { accessFlags := 25, nameIndex := 472, descriptorIndex := 404, attributes := #[] }, { accessFlags := 25, nameIndex := 473, descriptorIndex := 404, attributes := #[] }, { accessFlags := 25, nameIndex := 474, descriptorIndex := 404, attributes := #[] }, { accessFlags := 25, nameIndex := 475, descriptorIndex := 404, attributes := #[] }, { accessFlags := 25, nameIndex := 476, descriptorIndex := 404, attributes := #[] }, { accessFlags := 25, nameIndex := 477, descriptorIndex := 404, attributes := #[] }, { accessFlags := 25, nameIndex := 478, descriptorIndex := 404, attributes := #[] }, { accessFlags := 25, nameIndex := 479, descriptorIndex := 404, attributes := #[] }, { accessFlags := 25, nameIndex := 480, descriptorIndex := 404, attributes := #[] }, { accessFlags := 25, nameIndex := 481, descriptorIndex := 404, attributes := #[] }, { accessFlags := 25, nameIndex := 482, descriptorIndex := 404, attributes := #[] }, { accessFlags := 25, nameIndex := 484, descriptorIndex := 404, attributes := #[] }, { accessFlags := 25, nameIndex := 485, descriptorIndex := 404, attributes := #[] }, { accessFlags := 25, nameIndex := 486, descriptorIndex := 404, attributes := #[] }, { accessFlags := 25, nameIndex := 487, descriptorIndex := 404, attributes := #[] }, { accessFlags := 25, nameIndex := 488, descriptorIndex := 404, attributes := #[] }, { accessFlags := 25, nameIndex := 489, descriptorIndex := 22, attributes := #[] }, { accessFlags := 25, nameIndex := 490, descriptorIndex := 22, attributes := #[] }, { accessFlags := 25, nameIndex := 492, descriptorIndex := 22, attributes := #[] }, { accessFlags := 25, nameIndex := 493, descriptorIndex := 22, attributes := #[] }, { accessFlags := 25, nameIndex := 495, descriptorIndex := 22, attributes := #[] }, { accessFlags := 25, nameIndex := 496, descriptorIndex := 22, attributes := #[] }, { accessFlags := 25, nameIndex := 497, descriptorIndex := 392, attributes := #[] }, { accessFlags := 25, nameIndex := 498, descriptorIndex := 392, attributes := #[] }, { accessFlags := 25, nameIndex := 499, descriptorIndex := 392, attributes := #[] }, { accessFlags := 18, nameIndex := 21, descriptorIndex := 22, attributes := #[] }, { accessFlags := 26, nameIndex := 501, descriptorIndex := 502, attributes := #[] }, { accessFlags := 25, nameIndex := 505, descriptorIndex := 392, attributes := #[] }, { accessFlags := 25, nameIndex := 506, descriptorIndex := 392, attributes := #[] }, { accessFlags := 4120, nameIndex := 284, descriptorIndex := 285, attributes := #[] }])
  fields := #[{ name := "MIN_RADIX", type := .int, accessFlags := 25, slot := 0, constantValue := 0 }, { name := "MAX_RADIX", type := .int, accessFlags := 25, slot := 1, constantValue := 0 }, { name := "MIN_VALUE", type := .char, accessFlags := 25, slot := 2, constantValue := 0 }, { name := "MAX_VALUE", type := .char, accessFlags := 25, slot := 3, constantValue := 0 }, { name := "TYPE", type := (.object "java/lang/Class"), accessFlags := 25, slot := 4, constantValue := 0 }, { name := "UNASSIGNED", type := .byte, accessFlags := 25, slot := 5, constantValue := 0 }, { name := "UPPERCASE_LETTER", type := .byte, accessFlags := 25, slot := 6, constantValue := 0 }, { name := "LOWERCASE_LETTER", type := .byte, accessFlags := 25, slot := 7, constantValue := 0 }, { name := "TITLECASE_LETTER", type := .byte, accessFlags := 25, slot := 8, constantValue := 0 }, { name := "MODIFIER_LETTER", type := .byte, accessFlags := 25, slot := 9, constantValue := 0 }, { name := "OTHER_LETTER", type := .byte, accessFlags := 25, slot := 10, constantValue := 0 }, { name := "NON_SPACING_MARK", type := .byte, accessFlags := 25, slot := 11, constantValue := 0 }, { name := "ENCLOSING_MARK", type := .byte, accessFlags := 25, slot := 12, constantValue := 0 }, { name := "COMBINING_SPACING_MARK", type := .byte, accessFlags := 25, slot := 13, constantValue := 0 }, { name := "DECIMAL_DIGIT_NUMBER", type := .byte, accessFlags := 25, slot := 14, constantValue := 0 }, { name := "LETTER_NUMBER", type := .byte, accessFlags := 25, slot := 15, constantValue := 0 }, { name := "OTHER_NUMBER", type := .byte, accessFlags := 25, slot := 16, constantValue := 0 }, { name := "SPACE_SEPARATOR", type := .byte, accessFlags := 25, slot := 17, constantValue := 0 }, { name := "LINE_SEPARATOR", type := .byte, accessFlags := 25, slot := 18, constantValue := 0 }, { name := "PARAGRAPH_SEPARATOR", type := .byte, accessFlags := 25, slot := 19, constantValue := 0 }, { name := "CONTROL", type := .byte, accessFlags := 25, slot := 20, constantValue := 0 }, { name := "FORMAT", type := .byte, accessFlags := 25, slot := 21, constantValue := 0 }, { name := "PRIVATE_USE", type := .byte, accessFlags := 25, slot := 22, constantValue := 0 }, { name := "SURROGATE", type := .byte, accessFlags := 25, slot := 23, constantValue := 0 }, { name := "DASH_PUNCTUATION", type := .byte, accessFlags := 25, slot := 24, constantValue := 0 }, { name := "START_PUNCTUATION", type := .byte, accessFlags := 25, slot := 25, constantValue := 0 }, { name := "END_PUNCTUATION", type := .byte, accessFlags := 25, slot := 26, constantValue := 0 }, { name := "CONNECTOR_PUNCTUATION", type := .byte, accessFlags := 25, slot := 27, constantValue := 0 }, { name := "OTHER_PUNCTUATION", type := .byte, accessFlags := 25, slot := 28, constantValue := 0 }, { name := "MATH_SYMBOL", type := .byte, accessFlags := 25, slot := 29, constantValue := 0 }, { name := "CURRENCY_SYMBOL", type := .byte, accessFlags := 25, slot := 30, constantValue := 0 }, { name := "MODIFIER_SYMBOL", type := .byte, accessFlags := 25, slot := 31, constantValue := 0 }, { name := "OTHER_SYMBOL", type := .byte, accessFlags := 25, slot := 32, constantValue := 0 }, { name := "INITIAL_QUOTE_PUNCTUATION", type := .byte, accessFlags := 25, slot := 33, constantValue := 0 }, { name := "FINAL_QUOTE_PUNCTUATION", type := .byte, accessFlags := 25, slot := 34, constantValue := 0 }, { name := "ERROR", type := .int, accessFlags := 24, slot := 35, constantValue := 0 }, { name := "DIRECTIONALITY_UNDEFINED", type := .byte, accessFlags := 25, slot := 36, constantValue := 0 }, { name := "DIRECTIONALITY_LEFT_TO_RIGHT", type := .byte, accessFlags := 25, slot := 37, constantValue := 0 }, { name := "DIRECTIONALITY_RIGHT_TO_LEFT", type := .byte, accessFlags := 25, slot := 38, constantValue := 0 }, { name := "DIRECTIONALITY_RIGHT_TO_LEFT_ARABIC", type := .byte, accessFlags := 25, slot := 39, constantValue := 0 }, { name := "DIRECTIONALITY_EUROPEAN_NUMBER", type := .byte, accessFlags := 25, slot := 40, constantValue := 0 }, { name := "DIRECTIONALITY_EUROPEAN_NUMBER_SEPARATOR", type := .byte, accessFlags := 25, slot := 41, constantValue := 0 }, { name := "DIRECTIONALITY_EUROPEAN_NUMBER_TERMINATOR", type := .byte, accessFlags := 25, slot := 42, constantValue := 0 }, { name := "DIRECTIONALITY_ARABIC_NUMBER", type := .byte, accessFlags := 25, slot := 43, constantValue := 0 }, { name := "DIRECTIONALITY_COMMON_NUMBER_SEPARATOR", type := .byte, accessFlags := 25, slot := 44, constantValue := 0 }, { name := "DIRECTIONALITY_NONSPACING_MARK", type := .byte, accessFlags := 25, slot := 45, constantValue := 0 }, { name := "DIRECTIONALITY_BOUNDARY_NEUTRAL", type := .byte, accessFlags := 25, slot := 46, constantValue := 0 }, { name := "DIRECTIONALITY_PARAGRAPH_SEPARATOR", type := .byte, accessFlags := 25, slot := 47, constantValue := 0 }, { name := "DIRECTIONALITY_SEGMENT_SEPARATOR", type := .byte, accessFlags := 25, slot := 48, constantValue := 0 }, { name := "DIRECTIONALITY_WHITESPACE", type := .byte, accessFlags := 25, slot := 49, constantValue := 0 }, { name := "DIRECTIONALITY_OTHER_NEUTRALS", type := .byte, accessFlags := 25, slot := 50, constantValue := 0 }, { name := "DIRECTIONALITY_LEFT_TO_RIGHT_EMBEDDING", type := .byte, accessFlags := 25, slot := 51, constantValue := 0 }, { name := "DIRECTIONALITY_LEFT_TO_RIGHT_OVERRIDE", type := .byte, accessFlags := 25, slot := 52, constantValue := 0 }, { name := "DIRECTIONALITY_RIGHT_TO_LEFT_EMBEDDING", type := .byte, accessFlags := 25, slot := 53, constantValue := 0 }, { name := "DIRECTIONALITY_RIGHT_TO_LEFT_OVERRIDE", type := .byte, accessFlags := 25, slot := 54, constantValue := 0 }, { name := "DIRECTIONALITY_POP_DIRECTIONAL_FORMAT", type := .byte, accessFlags := 25, slot := 55, constantValue := 0 }, { name := "DIRECTIONALITY_LEFT_TO_RIGHT_ISOLATE", type := .byte, accessFlags := 25, slot := 56, constantValue := 0 }, { name := "DIRECTIONALITY_RIGHT_TO_LEFT_ISOLATE", type := .byte, accessFlags := 25, slot := 57, constantValue := 0 }, { name := "DIRECTIONALITY_FIRST_STRONG_ISOLATE", type := .byte, accessFlags := 25, slot := 58, constantValue := 0 }, { name := "DIRECTIONALITY_POP_DIRECTIONAL_ISOLATE", type := .byte, accessFlags := 25, slot := 59, constantValue := 0 }, { name := "MIN_HIGH_SURROGATE", type := .char, accessFlags := 25, slot := 60, constantValue := 0 }, { name := "MAX_HIGH_SURROGATE", type := .char, accessFlags := 25, slot := 61, constantValue := 0 }, { name := "MIN_LOW_SURROGATE", type := .char, accessFlags := 25, slot := 62, constantValue := 0 }, { name := "MAX_LOW_SURROGATE", type := .char, accessFlags := 25, slot := 63, constantValue := 0 }, { name := "MIN_SURROGATE", type := .char, accessFlags := 25, slot := 64, constantValue := 0 }, { name := "MAX_SURROGATE", type := .char, accessFlags := 25, slot := 65, constantValue := 0 }, { name := "MIN_SUPPLEMENTARY_CODE_POINT", type := .int, accessFlags := 25, slot := 66, constantValue := 0 }, { name := "MIN_CODE_POINT", type := .int, accessFlags := 25, slot := 67, constantValue := 0 }, { name := "MAX_CODE_POINT", type := .int, accessFlags := 25, slot := 68, constantValue := 0 }, { name := "value", type := .char, accessFlags := 18, slot := 0, constantValue := 0 }, { name := "serialVersionUID", type := .long, accessFlags := 26, slot := 69, constantValue := 0 }, { name := "SIZE", type := .int, accessFlags := 25, slot := 70, constantValue := 0 }, { name := "BYTES", type := .int, accessFlags := 25, slot := 71, constantValue := 0 }, { name := "$assertionsDisabled", type := .boolean, accessFlags := 4120, slot := 72, constantValue := 0 }]
  methods := #[k7m0]
  instanceTypes := #[.char]
  staticTypes := #[.int, .int, .char, .char, (.object "java/lang/Class"), .byte, .byte, .byte, .byte, .byte, .byte, .byte, .byte, .byte, .byte, .byte, .byte, .byte, .byte, .byte, .byte, .byte, .byte, .byte, .byte, .byte, .byte, .byte, .byte, .byte, .byte, .byte, .byte, .byte, .byte, .int, .byte, .byte, .byte, .byte, .byte, .byte, .byte, .byte, .byte, .byte, .byte, .byte, .byte, .byte, .byte, .byte, .byte, .byte, .byte, .byte, .byte, .byte, .byte, .byte, .char, .char, .char, .char, .char, .char, .int, .int, .int, .long, .int, .int, .boolean]
  resolved := Array.replicate 604 none
  statics := none }

def pool8 : Array CpInfo := pool [(1, u "java/lang/Cloneable"), (0, .class_ 1), (0, u "java/lang/Object"), (0, .class_ 3)] 3

/-- java/lang/Cloneable -/
def k8 : Class := { plain "java/lang/Cloneable" (some 0) with
  accessFlags := 1537
  interfaces := #[]
  cf := some (fileOf pool8 2 #[] #[] 1537 4 #[] #[])
  fields := #[]
  methods := #[]
  instanceTypes := #[]
  staticTypes := #[]
  resolved := Array.replicate 8 none
  statics := none }

/-- the primitive byte -/
def k9 : Class := { plain "byte" none with kind := .primitive 'B', accessFlags := 0x411 }
/-- [B -/
def k10 : Class := { plain "[B" (some 0) with kind := .array 9 .byte, interfaces := #[8, 4], accessFlags := 1041 }

/-- the primitive int -/
def k11 : Class := { plain "int" none with kind := .primitive 'I', accessFlags := 0x411 }
/-- [I -/
def k12 : Class := { plain "[I" (some 0) with kind := .array 11 .int, interfaces := #[8, 4], accessFlags := 1041 }

def heap : Heap := #[]
def classes : Array Class := #[k0, k1, k2, k3, k4, k5, k6, k7, k8, k9, k10, k11, k12]
def interned : List (Array UInt16 × Addr) := []
def slotsUsed : Nat := 0
def theMethod : MethodId := ⟨1, 2⟩
def args0 : Array Value := #[.int 5, .int 3]
def aboutOver (below : List Frame) : State where
  vm := { classes := classes, interned := interned.toArray }
  heap := heap
  slotsUsed := slotsUsed
  threads := #[{ frames := .invoking theMethod args0 :: below }]
def below0 : List Frame := [.native { method := ⟨0, 0⟩, args := #[] }]
def about1 : State := aboutOver below0
def p0 : Program := .bare "" "" ""
def e0 : Env := launch0.env 0 0 0
theorem w_frames : about1.frames = Frame.invoking theMethod args0 :: below0 := rfl
set_option maxRecDepth 65536 in
theorem w_args : argsFit about1.vm theMethod args0 = true := by decide +kernel
set_option maxRecDepth 65536 in
theorem w_heap : heapFits about1 = true := by decide +kernel
set_option maxRecDepth 65536 in
theorem w_runnable : about1.curStatus? = some .runnable := by decide +kernel
set_option maxRecDepth 65536 in
theorem w_alone : about1.alone = true := by decide +kernel
set_option maxRecDepth 65536 in
theorem w_named : about1.methodNamed? x = some theMethod := by decide +kernel
set_option maxRecDepth 65536 in
theorem w_hears : about1.hears theMethod below0 = true := by decide +kernel
set_option maxRecDepth 65536 in
theorem w_ripe : about1.ripe theMethod args0 below0 = true := by decide +kernel
theorem w_running : about1.status = .running := rfl
set_option maxRecDepth 65536 in
theorem w_room : about1.hasRoom e0.platform room_1 = true :=
  launch0.hasRoom_least _ room_1 (by decide +kernel) (by decide +kernel) (by decide +kernel) (by decide +kernel) (by decide +kernel) (by decide +kernel)
theorem allAtoms_all (ts : List Jvm.Cond) (a : Array Jvm.Value) (st : Jvm.State) : (allAtoms ts).before a st = ts.all (fun c => c.before a st) := by
  induction ts with
  | nil => rfl
  | cons c t ih =>
    show (Jvm.Cond.and c (allAtoms t)).before a st = _
    rw [Jvm.Cond.before_and, ih, List.all_cons]
def words1 : List Jvm.Cond := Jvm.Cond.code x code maxLocals ret :: tables_1
/-- a 'code' word, met by the world's own term for the bytes: nothing is compared byte by byte -/
theorem code_word {y : MethodName} {bytes : ByteArray} {mx : Nat} {rt : Option FieldType} {a : Array Value} {s : State} {m : MethodId} {meth : Method} {c : Code} (h1 : s.methodNamed? y = some m) (h2 : s.vm.method? m = some meth) (h3 : meth.code = some c) (h4 : c.code = bytes)
    (h5 : (c.maxLocals == mx && c.exceptionTable.isEmpty && decide (c.maxStack ≤ mostOperands) && decide (meth.sig.returnType = rt) && !meth.locks && decide (parseMethodDescriptor y.desc = some meth.sig)) = true) : (Jvm.Cond.code y bytes mx rt).before a s = true := by
  simp only [Bool.and_eq_true, beq_iff_eq, Bool.not_eq_true', decide_eq_true_eq] at h5
  obtain ⟨⟨⟨⟨⟨g1, g2⟩, g3⟩, g4⟩, g5⟩, g6⟩ := h5
  simp [Cond.before, Cond.holds, Cond.value, h1, h2, h3, h4, g1, g2, g3, g4, g5, g6]
def isCode : Jvm.Cond → Bool
  | .code _ _ _ _ => true
  | _ => false
theorem all_split {L : List Jvm.Cond} {P : Jvm.Cond → Bool} (h1 : L.all (fun c => isCode c || P c) = true) (h2 : ∀ c ∈ L.filter isCode, P c = true) : L.all P = true := by
  refine List.all_eq_true.mpr fun c hc => ?_
  have h := List.all_eq_true.mp h1 c hc
  rcases Bool.eq_false_or_eq_true (isCode c) with hi | hi
  · exact h2 c (List.mem_filter.mpr ⟨hc, hi⟩)
  · simpa [hi] using h
set_option maxRecDepth 65536 in
theorem w_c0 : (Jvm.Cond.code x code maxLocals ret).before args0 about1 = true := code_word (m := ⟨1, 2⟩) (meth := k1m2) (c := k1c2) (by decide +kernel) rfl rfl rfl (by decide +kernel)
set_option maxRecDepth 65536 in
theorem w_c1 : (Jvm.Cond.code ({ cls := "com/example/tokenweave/tokenweave/log/CsvReaderIsSeparatorPinLaw", name := "pick", desc := "(II)C" } : Jvm.MethodName) method_2_code (4 : Nat) (Option.some Jvm.ClassFile.FieldType.char)).before args0 about1 = true := code_word (m := ⟨1, 1⟩) (meth := k1m1) (c := k1c1) (by decide +kernel) rfl rfl rfl (by decide +kernel)
set_option maxRecDepth 65536 in
theorem w_c2 : (Jvm.Cond.code ({ cls := "com/example/tokenweave/tokenweave/log/CsvReader", name := "isSeparator", desc := "(C)Z" } : Jvm.MethodName) prog_71_method_2_code (1 : Nat) (Option.some Jvm.ClassFile.FieldType.boolean)).before args0 about1 = true := code_word (m := ⟨3, 0⟩) (meth := k3m0) (c := k3c0) (by decide +kernel) rfl rfl rfl (by decide +kernel)
set_option maxRecDepth 65536 in
theorem w_c3 : (Jvm.Cond.code ({ cls := "java/lang/Character", name := "isSurrogate", desc := "(C)Z" } : Jvm.MethodName) jdk_89_method_16_code (1 : Nat) (Option.some Jvm.ClassFile.FieldType.boolean)).before args0 about1 = true := code_word (m := ⟨7, 0⟩) (meth := k7m0) (c := k7c0) (by decide +kernel) rfl rfl rfl (by decide +kernel)
def codes1 : List Jvm.Cond := [Jvm.Cond.code x code maxLocals ret, Jvm.Cond.code ({ cls := "com/example/tokenweave/tokenweave/log/CsvReaderIsSeparatorPinLaw", name := "pick", desc := "(II)C" } : Jvm.MethodName) method_2_code (4 : Nat) (Option.some Jvm.ClassFile.FieldType.char), Jvm.Cond.code ({ cls := "com/example/tokenweave/tokenweave/log/CsvReader", name := "isSeparator", desc := "(C)Z" } : Jvm.MethodName) prog_71_method_2_code (1 : Nat) (Option.some Jvm.ClassFile.FieldType.boolean), Jvm.Cond.code ({ cls := "java/lang/Character", name := "isSurrogate", desc := "(C)Z" } : Jvm.MethodName) jdk_89_method_16_code (1 : Nat) (Option.some Jvm.ClassFile.FieldType.boolean)]
set_option maxRecDepth 65536 in
theorem codes_eq : words1.filter isCode = codes1 := rfl
theorem w_codes : ∀ c ∈ words1.filter isCode, c.before args0 about1 = true := by
  rw [codes_eq]
  intro c hc
  simp only [codes1, List.mem_cons, List.not_mem_nil, or_false] at hc
  rcases hc with rfl | rfl | rfl | rfl
  · exact w_c0
  · exact w_c1
  · exact w_c2
  · exact w_c3
set_option maxRecDepth 65536 in
theorem w_t1 : words1.all (fun c => isCode c || c.before args0 about1) = true := by decide +kernel
theorem w_tables : (allAtoms (Jvm.Cond.code x code maxLocals ret :: tables_1)).before args0 about1 = true := by
  rw [allAtoms_all]
  show words1.all (fun c => c.before args0 about1) = true
  refine all_split ?_ w_codes
  rw [w_t1]
set_option maxRecDepth 65536 in
theorem w_case : (Jvm.Cond.and given_1 narrow_1).before args0 about1 = true := by decide +kernel
theorem w_applies : (headSpec (Jvm.Cond.code x code maxLocals ret :: tables_1) room_1).applies x e0.platform about1 = true :=
  (Spec.applies_iff w_frames).mpr ⟨w_running, w_runnable, w_alone, w_named, w_hears, w_ripe, w_room, w_tables⟩
theorem atStart : AtStart classFile x code maxLocals ret World_1 tables_1 room_1 Calls_1 rest_1 Pre_1 launch0 p0 e0 about1 theMethod args0 below0 :=
  ⟨lists_1, trivial, launch0.admits_env _ _ _, launch0.least_env, fairChoices_fair.cas, fairChoices_fair.clock, w_frames, w_args, w_heap, w_applies, trivial, trivial, w_case⟩
end start1
theorem witness_1 : WitnessClaimed_1 := ⟨start1.p0, start1.e0, start1.about1, start1.theMethod, start1.args0, start1.below0, start1.atStart⟩
end Jvm.Pilot.@@N@@
