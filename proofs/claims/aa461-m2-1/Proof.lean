import JvmDerived
import JvmDerived.Pilot.@@N@@Statement
import JvmDerived.Pilot.@@N@@Code
set_option linter.unusedVariables false
set_option linter.unusedSimpArgs false
@@BLOCK:NumsL.lean.txt@@
namespace Jvm.Own
open Sem ClassFile Op Lib Jvm.Stand Jvm.Free Jvm.LawKit Jvm.RoadKit
/-- from the state A the run comes to an end that meets G -/
def Goes (tb : Tables) (e : Env) (below : List Frame) (G : Outcome → State → Prop) (A : State) : Prop := ∃ s₂ o, Steps tb e below A s₂ ∧ s₂.status = .running ∧ Ended s₂ below o ∧ G o s₂
/-- what a body's walk may lean on throughout -/
def Ctx (p : Program) (Z s : State) (m : MethodId) (meth : Method) (c : Code) (bs : ByteArray) (own : String) (maxL : Nat) (ret : Option FieldType) : Prop :=
  p.tables.exec = Jvm.exec ∧ Z.Warmed39 s.vm ∧ c.code = bs ∧ c.maxLocals = maxL ∧ s.vm.findClass own = some m.cls ∧ meth.sig.returnType = ret ∧ meth.locks = false
section Kit
variable {p : Program} {l : Launch} {e : Env} {R : Room} {s : State} {m : MethodId} {args : Array Value} {below : List Frame} {meth : Method} {c : Code} {T : State} {locs : List Loc} {cells slots : Nat} {Z : State} {a0 : Array Value} {h : Heap} {G : Outcome → State → Prop} {bs : ByteArray} {own : String} {maxL : Nat} {ret : Option FieldType}
theorem Goes.on {tb : Tables} {A B : State} (k : ∀ t, Steps tb e below B t → Steps tb e below A t) (h : Goes tb e below G B) : Goes tb e below G A := by
  obtain ⟨s2, o, h1, h2⟩ := h
  exact ⟨s2, o, k _ h1, h2⟩
theorem Goes.to {tb : Tables} {A B : State} (q : A = B) (h : Goes tb e below G B) : Goes tb e below G A := q ▸ h
theorem body_of {y : MethodName} {bytes : ByteArray} {ws : List Cond} {as' : Array Value} {h0 : Heap} {Q : Option Value → Heap → List Loc → Prop} (hplain : plainFor y = true)
    (H : ∀ p e s m below meth c s₁ G, Ctx p Z s m meth c bytes y.cls maxL ret → meth.name = y.name → s.methodNamed? y = some m → Stand p l e R s m as' below meth c s₁ [] 0 0 → s₁.heap = h0 →
      (∀ (v : Option Value) (L : List Loc) (T' : State), Q v T'.heap L → s.WarmedH T'.vm → s.sameButNew ({ T' with vm := s.vm } : State) L R.cells R.slots → G (.returned v) T') →
      Goes p.tables e below G (s₁.setTop (entryFrame m as' maxL))) :
    MetFree l y (head1 (Cond.code y bytes maxL ret :: ws) R) (fun a U => a = as' ∧ Z.Warmed39 U.vm ∧ U.heap = h0) (fun _ _ _ _ _ => True) (fun _ U o U' => ∃ v L, o = .returned v ∧ Q v U'.heap L ∧ FrameEnd U o U' L R.cells R.slots) := by
  refine MetFree.of_bodySF hplain hisR ?_
  intro p e s m args below meth c s₁ Bd hml0 hP hK
  obtain ⟨rfl, hZ, hh⟩ := hP
  exact H p e s m below meth c s₁ _ ⟨Bd.exec, hZ, Bd.bytes, hml0, findClass_of_methodNamed Bd.named, Bd.returns, BodyLoose.notSynchronized Bd⟩ (name_of_methodNamed Bd.named Bd.method).1 Bd.named (Stand.of_body Bd) (by rw [← hh, Bd.state]; rfl)
    (fun v L T' hQ hW hS => ⟨v, L, rfl, hQ, ⟨_, rfl⟩, hW, hS⟩)

theorem g_iloadN (C : Ctx p Z s m meth c bs own maxL ret) (X : Stand p l e R s m args below meth c T locs cells slots) {pc pc' : Nat} {ls : Array Slot} {st : List Value} {k : Fin 4} {v : Int32} (hd : decode bs pc = .ok (.iload_n k, 1)) (hp : pc + 1 = pc') (hl : ls[k.val]? = some (.val (.int v)))
    (k : Goes p.tables e below G (T.setTop (mkF m pc' ls (.int v :: st)))) : Goes p.tables e below G (T.setTop (mkF m pc ls st)) := by
  subst hp
  exact Goes.on (fun _ k => XS.iloadN X.here C.1 rfl (hb C.2.2.1 hd) hl k) k
theorem g_iload (C : Ctx p Z s m meth c bs own maxL ret) (X : Stand p l e R s m args below meth c T locs cells slots) {pc pc' : Nat} {ls : Array Slot} {st : List Value} {k : Nat} {v : Int32} (hd : decode bs pc = .ok (.iload k, 2)) (hp : pc + 2 = pc') (hl : ls[k]? = some (.val (.int v)))
    (k : Goes p.tables e below G (T.setTop (mkF m pc' ls (.int v :: st)))) : Goes p.tables e below G (T.setTop (mkF m pc ls st)) := by
  subst hp
  exact Goes.on (fun _ k => XS.iload X.here C.1 rfl (hb C.2.2.1 hd) hl k) k
theorem g_istoreN (C : Ctx p Z s m meth c bs own maxL ret) (X : Stand p l e R s m args below meth c T locs cells slots) {pc pc' : Nat} {ls ls' : Array Slot} {st : List Value} {k : Fin 4} {v w : Int32} (hd : decode bs pc = .ok (.istore_n k, 1)) (hp : pc + 1 = pc') (hv : v = w) (hl : storeLocals ls k.val (.int w) = some ls')
    (k : Goes p.tables e below G (T.setTop (mkF m pc' ls' st))) : Goes p.tables e below G (T.setTop (mkF m pc ls (.int v :: st))) := by
  subst hp hv
  exact Goes.on (fun _ k => XS.istoreN X.here C.1 rfl (hb C.2.2.1 hd) rfl hl k) k
theorem g_istore (C : Ctx p Z s m meth c bs own maxL ret) (X : Stand p l e R s m args below meth c T locs cells slots) {pc pc' : Nat} {ls ls' : Array Slot} {st : List Value} {k : Nat} {v w : Int32} (hd : decode bs pc = .ok (.istore k, 2)) (hp : pc + 2 = pc') (hv : v = w) (hl : storeLocals ls k (.int w) = some ls')
    (k : Goes p.tables e below G (T.setTop (mkF m pc' ls' st))) : Goes p.tables e below G (T.setTop (mkF m pc ls (.int v :: st))) := by
  subst hp hv
  exact Goes.on (fun _ k => XS.istore X.here C.1 rfl (hb C.2.2.1 hd) rfl hl k) k
theorem g_lloadN (C : Ctx p Z s m meth c bs own maxL ret) (X : Stand p l e R s m args below meth c T locs cells slots) {pc pc' : Nat} {ls : Array Slot} {st : List Value} {k : Fin 4} {v : Int64} (hd : decode bs pc = .ok (.lload_n k, 1)) (hp : pc + 1 = pc') (hl : ls[k.val]? = some (.val (.long v)))
    (k : Goes p.tables e below G (T.setTop (mkF m pc' ls (.long v :: st)))) : Goes p.tables e below G (T.setTop (mkF m pc ls st)) := by
  subst hp
  exact Goes.on (fun _ k => XT.lloadN X.here C.1 rfl (hb C.2.2.1 hd) hl k) k
theorem g_lload (C : Ctx p Z s m meth c bs own maxL ret) (X : Stand p l e R s m args below meth c T locs cells slots) {pc pc' : Nat} {ls : Array Slot} {st : List Value} {k : Nat} {v : Int64} (hd : decode bs pc = .ok (.lload k, 2)) (hp : pc + 2 = pc') (hl : ls[k]? = some (.val (.long v)))
    (k : Goes p.tables e below G (T.setTop (mkF m pc' ls (.long v :: st)))) : Goes p.tables e below G (T.setTop (mkF m pc ls st)) := by
  subst hp
  exact Goes.on (fun _ k => XT.lload X.here C.1 rfl (hb C.2.2.1 hd) hl k) k
theorem g_lstoreN (C : Ctx p Z s m meth c bs own maxL ret) (X : Stand p l e R s m args below meth c T locs cells slots) {pc pc' : Nat} {ls ls' : Array Slot} {st : List Value} {k : Fin 4} {v w : Int64} (hd : decode bs pc = .ok (.lstore_n k, 1)) (hp : pc + 1 = pc') (hv : v = w) (hl : storeLocals ls k.val (.long w) = some ls')
    (k : Goes p.tables e below G (T.setTop (mkF m pc' ls' st))) : Goes p.tables e below G (T.setTop (mkF m pc ls (.long v :: st))) := by
  subst hp hv
  exact Goes.on (fun _ k => XT.lstoreN X.here C.1 rfl (hb C.2.2.1 hd) rfl hl k) k
theorem g_lstore (C : Ctx p Z s m meth c bs own maxL ret) (X : Stand p l e R s m args below meth c T locs cells slots) {pc pc' : Nat} {ls ls' : Array Slot} {st : List Value} {k : Nat} {v w : Int64} (hd : decode bs pc = .ok (.lstore k, 2)) (hp : pc + 2 = pc') (hv : v = w) (hl : storeLocals ls k (.long w) = some ls')
    (k : Goes p.tables e below G (T.setTop (mkF m pc' ls' st))) : Goes p.tables e below G (T.setTop (mkF m pc ls (.long v :: st))) := by
  subst hp hv
  exact Goes.on (fun _ k => XT.lstore X.here C.1 rfl (hb C.2.2.1 hd) rfl hl k) k
theorem g_aloadN (C : Ctx p Z s m meth c bs own maxL ret) (X : Stand p l e R s m args below meth c T locs cells slots) {pc pc' : Nat} {ls : Array Slot} {st : List Value} {k : Fin 4} {v : Value} (hd : decode bs pc = .ok (.aload_n k, 1)) (hp : pc + 1 = pc') (hl : ls[k.val]? = some (.val v)) (hv : v.isRef = true)
    (k : Goes p.tables e below G (T.setTop (mkF m pc' ls (v :: st)))) : Goes p.tables e below G (T.setTop (mkF m pc ls st)) := by
  subst hp
  exact Goes.on (fun _ k => XS.aloadN X.here C.1 rfl (hb C.2.2.1 hd) hl hv k) k
theorem g_aload (C : Ctx p Z s m meth c bs own maxL ret) (X : Stand p l e R s m args below meth c T locs cells slots) {pc pc' : Nat} {ls : Array Slot} {st : List Value} {k : Nat} {v : Value} (hd : decode bs pc = .ok (.aload k, 2)) (hp : pc + 2 = pc') (hl : ls[k]? = some (.val v)) (hv : v.isRef = true)
    (k : Goes p.tables e below G (T.setTop (mkF m pc' ls (v :: st)))) : Goes p.tables e below G (T.setTop (mkF m pc ls st)) := by
  subst hp
  exact Goes.on (fun _ k => XS.aload X.here C.1 rfl (hb C.2.2.1 hd) hl hv k) k
theorem g_astoreN (C : Ctx p Z s m meth c bs own maxL ret) (X : Stand p l e R s m args below meth c T locs cells slots) {pc pc' : Nat} {ls ls' : Array Slot} {st : List Value} {k : Fin 4} {v : Value} (hd : decode bs pc = .ok (.astore_n k, 1)) (hp : pc + 1 = pc') (hv : v.isRef = true) (hl : storeLocals ls k.val v = some ls')
    (k : Goes p.tables e below G (T.setTop (mkF m pc' ls' st))) : Goes p.tables e below G (T.setTop (mkF m pc ls (v :: st))) := by
  subst hp
  exact Goes.on (fun _ k => XS.astoreN X.here C.1 rfl (hb C.2.2.1 hd) rfl hv hl k) k
theorem g_astore (C : Ctx p Z s m meth c bs own maxL ret) (X : Stand p l e R s m args below meth c T locs cells slots) {pc pc' : Nat} {ls ls' : Array Slot} {st : List Value} {k : Nat} {v : Value} (hd : decode bs pc = .ok (.astore k, 2)) (hp : pc + 2 = pc') (hv : v.isRef = true) (hl : storeLocals ls k v = some ls')
    (k : Goes p.tables e below G (T.setTop (mkF m pc' ls' st))) : Goes p.tables e below G (T.setTop (mkF m pc ls (v :: st))) := by
  subst hp
  exact Goes.on (fun _ k => XS.astore X.here C.1 rfl (hb C.2.2.1 hd) rfl hv hl k) k
theorem g_iconst (C : Ctx p Z s m meth c bs own maxL ret) (X : Stand p l e R s m args below meth c T locs cells slots) {pc pc' : Nat} {ls : Array Slot} {st : List Value} {i : Int} {v : Int32} (hd : decode bs pc = .ok (.iconst i, 1)) (hp : pc + 1 = pc') (hv : Int32.ofInt i = v)
    (k : Goes p.tables e below G (T.setTop (mkF m pc' ls (.int v :: st)))) : Goes p.tables e below G (T.setTop (mkF m pc ls st)) := by
  subst hp hv
  exact Goes.on (fun _ k => XS.iconst X.here C.1 rfl (hb C.2.2.1 hd) k) k
theorem g_bipush (C : Ctx p Z s m meth c bs own maxL ret) (X : Stand p l e R s m args below meth c T locs cells slots) {pc pc' : Nat} {ls : Array Slot} {st : List Value} {i : Int} {v : Int32} (hd : decode bs pc = .ok (.bipush i, 2)) (hp : pc + 2 = pc') (hv : (Int8.ofInt i).toInt32 = v)
    (k : Goes p.tables e below G (T.setTop (mkF m pc' ls (.int v :: st)))) : Goes p.tables e below G (T.setTop (mkF m pc ls st)) := by
  subst hp hv
  exact Goes.on (fun _ k => XS.bipush X.here C.1 rfl (hb C.2.2.1 hd) k) k
theorem g_sipush (C : Ctx p Z s m meth c bs own maxL ret) (X : Stand p l e R s m args below meth c T locs cells slots) {pc pc' : Nat} {ls : Array Slot} {st : List Value} {i : Int} {v : Int32} (hd : decode bs pc = .ok (.sipush i, 3)) (hp : pc + 3 = pc') (hv : (Int16.ofInt i).toInt32 = v)
    (k : Goes p.tables e below G (T.setTop (mkF m pc' ls (.int v :: st)))) : Goes p.tables e below G (T.setTop (mkF m pc ls st)) := by
  subst hp hv
  exact Goes.on (fun _ k => XS.sipush X.here C.1 rfl (hb C.2.2.1 hd) k) k
theorem g_lconst (C : Ctx p Z s m meth c bs own maxL ret) (X : Stand p l e R s m args below meth c T locs cells slots) {pc pc' : Nat} {ls : Array Slot} {st : List Value} {i : Fin 2} {v : Int64} (hd : decode bs pc = .ok (.lconst i, 1)) (hp : pc + 1 = pc') (hv : Int64.ofNat i = v)
    (k : Goes p.tables e below G (T.setTop (mkF m pc' ls (.long v :: st)))) : Goes p.tables e below G (T.setTop (mkF m pc ls st)) := by
  subst hp hv
  exact Goes.on (fun _ k => XT.lconst X.here C.1 rfl (hb C.2.2.1 hd) k) k
theorem g_aconstNull (C : Ctx p Z s m meth c bs own maxL ret) (X : Stand p l e R s m args below meth c T locs cells slots) {pc pc' : Nat} {ls : Array Slot} {st : List Value}  (hd : decode bs pc = .ok (.aconst_null, 1)) (hp : pc + 1 = pc')
    (k : Goes p.tables e below G (T.setTop (mkF m pc' ls (.null :: st)))) : Goes p.tables e below G (T.setTop (mkF m pc ls st)) := by
  subst hp
  exact Goes.on (fun _ k => XS.aconstNull X.here C.1 rfl (hb C.2.2.1 hd) k) k
theorem g_iadd (C : Ctx p Z s m meth c bs own maxL ret) (X : Stand p l e R s m args below meth c T locs cells slots) {pc pc' : Nat} {ls : Array Slot} {st : List Value} {x y : Int32} (hd : decode bs pc = .ok (.iadd, 1)) (hp : pc + 1 = pc')
    (k : Goes p.tables e below G (T.setTop (mkF m pc' ls (.int (x + y) :: st)))) : Goes p.tables e below G (T.setTop (mkF m pc ls (.int y :: .int x :: st))) := by
  subst hp
  exact Goes.on (fun _ k => XS.iadd X.here C.1 rfl (hb C.2.2.1 hd) rfl k) k
theorem g_isub (C : Ctx p Z s m meth c bs own maxL ret) (X : Stand p l e R s m args below meth c T locs cells slots) {pc pc' : Nat} {ls : Array Slot} {st : List Value} {x y : Int32} (hd : decode bs pc = .ok (.isub, 1)) (hp : pc + 1 = pc')
    (k : Goes p.tables e below G (T.setTop (mkF m pc' ls (.int (x - y) :: st)))) : Goes p.tables e below G (T.setTop (mkF m pc ls (.int y :: .int x :: st))) := by
  subst hp
  exact Goes.on (fun _ k => XS.isub X.here C.1 rfl (hb C.2.2.1 hd) rfl k) k
theorem g_imul (C : Ctx p Z s m meth c bs own maxL ret) (X : Stand p l e R s m args below meth c T locs cells slots) {pc pc' : Nat} {ls : Array Slot} {st : List Value} {x y : Int32} (hd : decode bs pc = .ok (.imul, 1)) (hp : pc + 1 = pc')
    (k : Goes p.tables e below G (T.setTop (mkF m pc' ls (.int (x * y) :: st)))) : Goes p.tables e below G (T.setTop (mkF m pc ls (.int y :: .int x :: st))) := by
  subst hp
  exact Goes.on (fun _ k => XS.imul X.here C.1 rfl (hb C.2.2.1 hd) rfl k) k
theorem g_iand (C : Ctx p Z s m meth c bs own maxL ret) (X : Stand p l e R s m args below meth c T locs cells slots) {pc pc' : Nat} {ls : Array Slot} {st : List Value} {x y : Int32} (hd : decode bs pc = .ok (.iand, 1)) (hp : pc + 1 = pc')
    (k : Goes p.tables e below G (T.setTop (mkF m pc' ls (.int (x &&& y) :: st)))) : Goes p.tables e below G (T.setTop (mkF m pc ls (.int y :: .int x :: st))) := by
  subst hp
  exact Goes.on (fun _ k => XS.iand X.here C.1 rfl (hb C.2.2.1 hd) rfl k) k
theorem g_ior (C : Ctx p Z s m meth c bs own maxL ret) (X : Stand p l e R s m args below meth c T locs cells slots) {pc pc' : Nat} {ls : Array Slot} {st : List Value} {x y : Int32} (hd : decode bs pc = .ok (.ior, 1)) (hp : pc + 1 = pc')
    (k : Goes p.tables e below G (T.setTop (mkF m pc' ls (.int (x ||| y) :: st)))) : Goes p.tables e below G (T.setTop (mkF m pc ls (.int y :: .int x :: st))) := by
  subst hp
  exact Goes.on (fun _ k => XT.ior X.here C.1 rfl (hb C.2.2.1 hd) rfl k) k
theorem g_ixor (C : Ctx p Z s m meth c bs own maxL ret) (X : Stand p l e R s m args below meth c T locs cells slots) {pc pc' : Nat} {ls : Array Slot} {st : List Value} {x y : Int32} (hd : decode bs pc = .ok (.ixor, 1)) (hp : pc + 1 = pc')
    (k : Goes p.tables e below G (T.setTop (mkF m pc' ls (.int (x ^^^ y) :: st)))) : Goes p.tables e below G (T.setTop (mkF m pc ls (.int y :: .int x :: st))) := by
  subst hp
  exact Goes.on (fun _ k => XT.ixor X.here C.1 rfl (hb C.2.2.1 hd) rfl k) k
theorem g_ishl (C : Ctx p Z s m meth c bs own maxL ret) (X : Stand p l e R s m args below meth c T locs cells slots) {pc pc' : Nat} {ls : Array Slot} {st : List Value} {x y : Int32} (hd : decode bs pc = .ok (.ishl, 1)) (hp : pc + 1 = pc')
    (k : Goes p.tables e below G (T.setTop (mkF m pc' ls (.int (x <<< (y &&& 31)) :: st)))) : Goes p.tables e below G (T.setTop (mkF m pc ls (.int y :: .int x :: st))) := by
  subst hp
  exact Goes.on (fun _ k => XT.ishl X.here C.1 rfl (hb C.2.2.1 hd) rfl k) k
theorem g_ishr (C : Ctx p Z s m meth c bs own maxL ret) (X : Stand p l e R s m args below meth c T locs cells slots) {pc pc' : Nat} {ls : Array Slot} {st : List Value} {x y : Int32} (hd : decode bs pc = .ok (.ishr, 1)) (hp : pc + 1 = pc')
    (k : Goes p.tables e below G (T.setTop (mkF m pc' ls (.int (x >>> (y &&& 31)) :: st)))) : Goes p.tables e below G (T.setTop (mkF m pc ls (.int y :: .int x :: st))) := by
  subst hp
  exact Goes.on (fun _ k => XT.ishr X.here C.1 rfl (hb C.2.2.1 hd) rfl k) k
theorem g_iushr (C : Ctx p Z s m meth c bs own maxL ret) (X : Stand p l e R s m args below meth c T locs cells slots) {pc pc' : Nat} {ls : Array Slot} {st : List Value} {x y : Int32} (hd : decode bs pc = .ok (.iushr, 1)) (hp : pc + 1 = pc')
    (k : Goes p.tables e below G (T.setTop (mkF m pc' ls (.int (XT.ushr x y) :: st)))) : Goes p.tables e below G (T.setTop (mkF m pc ls (.int y :: .int x :: st))) := by
  subst hp
  exact Goes.on (fun _ k => XT.iushr X.here C.1 rfl (hb C.2.2.1 hd) rfl k) k
theorem g_ladd (C : Ctx p Z s m meth c bs own maxL ret) (X : Stand p l e R s m args below meth c T locs cells slots) {pc pc' : Nat} {ls : Array Slot} {st : List Value} {x y : Int64} (hd : decode bs pc = .ok (.ladd, 1)) (hp : pc + 1 = pc')
    (k : Goes p.tables e below G (T.setTop (mkF m pc' ls (.long (x + y) :: st)))) : Goes p.tables e below G (T.setTop (mkF m pc ls (.long y :: .long x :: st))) := by
  subst hp
  exact Goes.on (fun _ k => XT.ladd X.here C.1 rfl (hb C.2.2.1 hd) rfl k) k
theorem g_lsub (C : Ctx p Z s m meth c bs own maxL ret) (X : Stand p l e R s m args below meth c T locs cells slots) {pc pc' : Nat} {ls : Array Slot} {st : List Value} {x y : Int64} (hd : decode bs pc = .ok (.lsub, 1)) (hp : pc + 1 = pc')
    (k : Goes p.tables e below G (T.setTop (mkF m pc' ls (.long (x - y) :: st)))) : Goes p.tables e below G (T.setTop (mkF m pc ls (.long y :: .long x :: st))) := by
  subst hp
  exact Goes.on (fun _ k => XT.lsub X.here C.1 rfl (hb C.2.2.1 hd) rfl k) k
theorem g_lmul (C : Ctx p Z s m meth c bs own maxL ret) (X : Stand p l e R s m args below meth c T locs cells slots) {pc pc' : Nat} {ls : Array Slot} {st : List Value} {x y : Int64} (hd : decode bs pc = .ok (.lmul, 1)) (hp : pc + 1 = pc')
    (k : Goes p.tables e below G (T.setTop (mkF m pc' ls (.long (x * y) :: st)))) : Goes p.tables e below G (T.setTop (mkF m pc ls (.long y :: .long x :: st))) := by
  subst hp
  exact Goes.on (fun _ k => XT.lmul X.here C.1 rfl (hb C.2.2.1 hd) rfl k) k
theorem g_land (C : Ctx p Z s m meth c bs own maxL ret) (X : Stand p l e R s m args below meth c T locs cells slots) {pc pc' : Nat} {ls : Array Slot} {st : List Value} {x y : Int64} (hd : decode bs pc = .ok (.land, 1)) (hp : pc + 1 = pc')
    (k : Goes p.tables e below G (T.setTop (mkF m pc' ls (.long (x &&& y) :: st)))) : Goes p.tables e below G (T.setTop (mkF m pc ls (.long y :: .long x :: st))) := by
  subst hp
  exact Goes.on (fun _ k => XT.land X.here C.1 rfl (hb C.2.2.1 hd) rfl k) k
theorem g_lor (C : Ctx p Z s m meth c bs own maxL ret) (X : Stand p l e R s m args below meth c T locs cells slots) {pc pc' : Nat} {ls : Array Slot} {st : List Value} {x y : Int64} (hd : decode bs pc = .ok (.lor, 1)) (hp : pc + 1 = pc')
    (k : Goes p.tables e below G (T.setTop (mkF m pc' ls (.long (x ||| y) :: st)))) : Goes p.tables e below G (T.setTop (mkF m pc ls (.long y :: .long x :: st))) := by
  subst hp
  exact Goes.on (fun _ k => XT.lor X.here C.1 rfl (hb C.2.2.1 hd) rfl k) k
theorem g_lxor (C : Ctx p Z s m meth c bs own maxL ret) (X : Stand p l e R s m args below meth c T locs cells slots) {pc pc' : Nat} {ls : Array Slot} {st : List Value} {x y : Int64} (hd : decode bs pc = .ok (.lxor, 1)) (hp : pc + 1 = pc')
    (k : Goes p.tables e below G (T.setTop (mkF m pc' ls (.long (x ^^^ y) :: st)))) : Goes p.tables e below G (T.setTop (mkF m pc ls (.long y :: .long x :: st))) := by
  subst hp
  exact Goes.on (fun _ k => XT.lxor X.here C.1 rfl (hb C.2.2.1 hd) rfl k) k
theorem g_lshl (C : Ctx p Z s m meth c bs own maxL ret) (X : Stand p l e R s m args below meth c T locs cells slots) {pc pc' : Nat} {ls : Array Slot} {st : List Value} {x : Int64} {y : Int32} (hd : decode bs pc = .ok (.lshl, 1)) (hp : pc + 1 = pc')
    (k : Goes p.tables e below G (T.setTop (mkF m pc' ls (.long (x <<< (y.toInt64 &&& 63)) :: st)))) : Goes p.tables e below G (T.setTop (mkF m pc ls (.int y :: .long x :: st))) := by
  subst hp
  exact Goes.on (fun _ k => XT.lshl X.here C.1 rfl (hb C.2.2.1 hd) rfl k) k
theorem g_lshr (C : Ctx p Z s m meth c bs own maxL ret) (X : Stand p l e R s m args below meth c T locs cells slots) {pc pc' : Nat} {ls : Array Slot} {st : List Value} {x : Int64} {y : Int32} (hd : decode bs pc = .ok (.lshr, 1)) (hp : pc + 1 = pc')
    (k : Goes p.tables e below G (T.setTop (mkF m pc' ls (.long (x >>> (y.toInt64 &&& 63)) :: st)))) : Goes p.tables e below G (T.setTop (mkF m pc ls (.int y :: .long x :: st))) := by
  subst hp
  exact Goes.on (fun _ k => XT.lshr X.here C.1 rfl (hb C.2.2.1 hd) rfl k) k
theorem g_lushr (C : Ctx p Z s m meth c bs own maxL ret) (X : Stand p l e R s m args below meth c T locs cells slots) {pc pc' : Nat} {ls : Array Slot} {st : List Value} {x : Int64} {y : Int32} (hd : decode bs pc = .ok (.lushr, 1)) (hp : pc + 1 = pc')
    (k : Goes p.tables e below G (T.setTop (mkF m pc' ls (.long (XT.ushrL x y) :: st)))) : Goes p.tables e below G (T.setTop (mkF m pc ls (.int y :: .long x :: st))) := by
  subst hp
  exact Goes.on (fun _ k => XT.lushr X.here C.1 rfl (hb C.2.2.1 hd) rfl k) k
theorem g_idiv (C : Ctx p Z s m meth c bs own maxL ret) (X : Stand p l e R s m args below meth c T locs cells slots) {pc pc' : Nat} {ls : Array Slot} {st : List Value} {x y : Int32} (hd : decode bs pc = .ok (.idiv, 1)) (hp : pc + 1 = pc') (hy : y ≠ 0)
    (k : Goes p.tables e below G (T.setTop (mkF m pc' ls (.int (x / y) :: st)))) : Goes p.tables e below G (T.setTop (mkF m pc ls (.int y :: .int x :: st))) := by
  subst hp
  exact Goes.on (fun _ k => XS.idiv X.here C.1 rfl (hb C.2.2.1 hd) rfl hy k) k
theorem g_ldiv (C : Ctx p Z s m meth c bs own maxL ret) (X : Stand p l e R s m args below meth c T locs cells slots) {pc pc' : Nat} {ls : Array Slot} {st : List Value} {x y : Int64} (hd : decode bs pc = .ok (.ldiv, 1)) (hp : pc + 1 = pc') (hy : y ≠ 0)
    (k : Goes p.tables e below G (T.setTop (mkF m pc' ls (.long (x / y) :: st)))) : Goes p.tables e below G (T.setTop (mkF m pc ls (.long y :: .long x :: st))) := by
  subst hp
  exact Goes.on (fun _ k => XT.ldiv X.here C.1 rfl (hb C.2.2.1 hd) rfl hy k) k
theorem g_irem (C : Ctx p Z s m meth c bs own maxL ret) (X : Stand p l e R s m args below meth c T locs cells slots) {pc pc' : Nat} {ls : Array Slot} {st : List Value} {x y : Int32} (hd : decode bs pc = .ok (.irem, 1)) (hp : pc + 1 = pc') (hy : y ≠ 0)
    (k : Goes p.tables e below G (T.setTop (mkF m pc' ls (.int (x % y) :: st)))) : Goes p.tables e below G (T.setTop (mkF m pc ls (.int y :: .int x :: st))) := by
  subst hp
  exact Goes.on (fun _ k => iremM X C.1 rfl (hb C.2.2.1 hd) rfl hy k) k
theorem g_lrem (C : Ctx p Z s m meth c bs own maxL ret) (X : Stand p l e R s m args below meth c T locs cells slots) {pc pc' : Nat} {ls : Array Slot} {st : List Value} {x y : Int64} (hd : decode bs pc = .ok (.lrem, 1)) (hp : pc + 1 = pc') (hy : y ≠ 0)
    (k : Goes p.tables e below G (T.setTop (mkF m pc' ls (.long (x - (x / y) * y) :: st)))) : Goes p.tables e below G (T.setTop (mkF m pc ls (.long y :: .long x :: st))) := by
  subst hp
  exact Goes.on (fun _ k => XT.lrem X.here C.1 rfl (hb C.2.2.1 hd) rfl hy k) k
theorem g_ineg (C : Ctx p Z s m meth c bs own maxL ret) (X : Stand p l e R s m args below meth c T locs cells slots) {pc pc' : Nat} {ls : Array Slot} {st : List Value} {x : Int32} (hd : decode bs pc = .ok (.ineg, 1)) (hp : pc + 1 = pc')
    (k : Goes p.tables e below G (T.setTop (mkF m pc' ls (.int (-x) :: st)))) : Goes p.tables e below G (T.setTop (mkF m pc ls (.int x :: st))) := by
  subst hp
  exact Goes.on (fun _ k => XS.ineg X.here C.1 rfl (hb C.2.2.1 hd) rfl k) k
theorem g_lneg (C : Ctx p Z s m meth c bs own maxL ret) (X : Stand p l e R s m args below meth c T locs cells slots) {pc pc' : Nat} {ls : Array Slot} {st : List Value} {x : Int64} (hd : decode bs pc = .ok (.lneg, 1)) (hp : pc + 1 = pc')
    (k : Goes p.tables e below G (T.setTop (mkF m pc' ls (.long (-x) :: st)))) : Goes p.tables e below G (T.setTop (mkF m pc ls (.long x :: st))) := by
  subst hp
  exact Goes.on (fun _ k => XT.lneg X.here C.1 rfl (hb C.2.2.1 hd) rfl k) k
theorem g_i2l (C : Ctx p Z s m meth c bs own maxL ret) (X : Stand p l e R s m args below meth c T locs cells slots) {pc pc' : Nat} {ls : Array Slot} {st : List Value} {x : Int32} (hd : decode bs pc = .ok (.i2l, 1)) (hp : pc + 1 = pc')
    (k : Goes p.tables e below G (T.setTop (mkF m pc' ls (.long x.toInt64 :: st)))) : Goes p.tables e below G (T.setTop (mkF m pc ls (.int x :: st))) := by
  subst hp
  exact Goes.on (fun _ k => XT.i2l X.here C.1 rfl (hb C.2.2.1 hd) rfl k) k
theorem g_l2i (C : Ctx p Z s m meth c bs own maxL ret) (X : Stand p l e R s m args below meth c T locs cells slots) {pc pc' : Nat} {ls : Array Slot} {st : List Value} {x : Int64} (hd : decode bs pc = .ok (.l2i, 1)) (hp : pc + 1 = pc')
    (k : Goes p.tables e below G (T.setTop (mkF m pc' ls (.int x.toInt32 :: st)))) : Goes p.tables e below G (T.setTop (mkF m pc ls (.long x :: st))) := by
  subst hp
  exact Goes.on (fun _ k => XT.l2i X.here C.1 rfl (hb C.2.2.1 hd) rfl k) k
theorem g_i2c (C : Ctx p Z s m meth c bs own maxL ret) (X : Stand p l e R s m args below meth c T locs cells slots) {pc pc' : Nat} {ls : Array Slot} {st : List Value} {x : Int32} (hd : decode bs pc = .ok (.i2c, 1)) (hp : pc + 1 = pc')
    (k : Goes p.tables e below G (T.setTop (mkF m pc' ls (.int x.toUInt32.toUInt16.toUInt32.toInt32 :: st)))) : Goes p.tables e below G (T.setTop (mkF m pc ls (.int x :: st))) := by
  subst hp
  exact Goes.on (fun _ k => XT.i2c X.here C.1 rfl (hb C.2.2.1 hd) rfl k) k
theorem g_i2b (C : Ctx p Z s m meth c bs own maxL ret) (X : Stand p l e R s m args below meth c T locs cells slots) {pc pc' : Nat} {ls : Array Slot} {st : List Value} {x : Int32} (hd : decode bs pc = .ok (.i2b, 1)) (hp : pc + 1 = pc')
    (k : Goes p.tables e below G (T.setTop (mkF m pc' ls (.int x.toInt8.toInt32 :: st)))) : Goes p.tables e below G (T.setTop (mkF m pc ls (.int x :: st))) := by
  subst hp
  exact Goes.on (fun _ k => XT.i2b X.here C.1 rfl (hb C.2.2.1 hd) rfl k) k
theorem g_i2s (C : Ctx p Z s m meth c bs own maxL ret) (X : Stand p l e R s m args below meth c T locs cells slots) {pc pc' : Nat} {ls : Array Slot} {st : List Value} {x : Int32} (hd : decode bs pc = .ok (.i2s, 1)) (hp : pc + 1 = pc')
    (k : Goes p.tables e below G (T.setTop (mkF m pc' ls (.int x.toInt16.toInt32 :: st)))) : Goes p.tables e below G (T.setTop (mkF m pc ls (.int x :: st))) := by
  subst hp
  exact Goes.on (fun _ k => XT.i2s X.here C.1 rfl (hb C.2.2.1 hd) rfl k) k
theorem g_dup (C : Ctx p Z s m meth c bs own maxL ret) (X : Stand p l e R s m args below meth c T locs cells slots) {pc pc' : Nat} {ls : Array Slot} {st : List Value} {x : Value} (hd : decode bs pc = .ok (.dup, 1)) (hp : pc + 1 = pc') (hc : x.category = 1)
    (k : Goes p.tables e below G (T.setTop (mkF m pc' ls (x :: x :: st)))) : Goes p.tables e below G (T.setTop (mkF m pc ls (x :: st))) := by
  subst hp
  exact Goes.on (fun _ k => XS.dup X.here C.1 rfl (hb C.2.2.1 hd) rfl hc k) k
theorem g_dupX1 (C : Ctx p Z s m meth c bs own maxL ret) (X : Stand p l e R s m args below meth c T locs cells slots) {pc pc' : Nat} {ls : Array Slot} {st : List Value} {x y : Value} (hd : decode bs pc = .ok (.dup_x1, 1)) (hp : pc + 1 = pc') (hc : x.category = 1) (hc' : y.category = 1)
    (k : Goes p.tables e below G (T.setTop (mkF m pc' ls (x :: y :: x :: st)))) : Goes p.tables e below G (T.setTop (mkF m pc ls (x :: y :: st))) := by
  subst hp
  exact Goes.on (fun _ k => XT.dupX1 X.here C.1 rfl (hb C.2.2.1 hd) rfl hc hc' k) k
theorem g_dup2 (C : Ctx p Z s m meth c bs own maxL ret) (X : Stand p l e R s m args below meth c T locs cells slots) {pc pc' : Nat} {ls : Array Slot} {st : List Value} {x y : Value} (hd : decode bs pc = .ok (.dup2, 1)) (hp : pc + 1 = pc') (hc : x.category = 1) (hc' : y.category = 1)
    (k : Goes p.tables e below G (T.setTop (mkF m pc' ls (x :: y :: x :: y :: st)))) : Goes p.tables e below G (T.setTop (mkF m pc ls (x :: y :: st))) := by
  subst hp
  exact Goes.on (fun _ k => XT.dup2 X.here C.1 rfl (hb C.2.2.1 hd) rfl hc hc' k) k
theorem g_dup2L (C : Ctx p Z s m meth c bs own maxL ret) (X : Stand p l e R s m args below meth c T locs cells slots) {pc pc' : Nat} {ls : Array Slot} {st : List Value} {x : Int64} (hd : decode bs pc = .ok (.dup2, 1)) (hp : pc + 1 = pc')
    (k : Goes p.tables e below G (T.setTop (mkF m pc' ls (.long x :: .long x :: st)))) : Goes p.tables e below G (T.setTop (mkF m pc ls (.long x :: st))) := by
  subst hp
  exact Goes.on (fun _ k => XT.dup2L X.here C.1 rfl (hb C.2.2.1 hd) rfl k) k
theorem g_pop (C : Ctx p Z s m meth c bs own maxL ret) (X : Stand p l e R s m args below meth c T locs cells slots) {pc pc' : Nat} {ls : Array Slot} {st : List Value} {x : Value} (hd : decode bs pc = .ok (.pop, 1)) (hp : pc + 1 = pc') (hc : x.category = 1)
    (k : Goes p.tables e below G (T.setTop (mkF m pc' ls st))) : Goes p.tables e below G (T.setTop (mkF m pc ls (x :: st))) := by
  subst hp
  exact Goes.on (fun _ k => XT.pop X.here C.1 rfl (hb C.2.2.1 hd) rfl hc k) k
theorem g_iinc (C : Ctx p Z s m meth c bs own maxL ret) (X : Stand p l e R s m args below meth c T locs cells slots) {pc pc' : Nat} {ls ls' : Array Slot} {st : List Value} {k : Nat} {cst : Int} {x w : Int32} (hd : decode bs pc = .ok (.iinc k cst, 3)) (hp : pc + 3 = pc') (hl : ls[k]? = some (.val (.int x))) (hv : x + Int32.ofInt cst = w) (hl' : storeLocals ls k (.int w) = some ls')
    (k : Goes p.tables e below G (T.setTop (mkF m pc' ls' st))) : Goes p.tables e below G (T.setTop (mkF m pc ls st)) := by
  subst hp hv
  exact Goes.on (fun _ k => XS.iinc X.here C.1 rfl (hb C.2.2.1 hd) hl hl' k) k
theorem g_dloadN (C : Ctx p Z s m meth c bs own maxL ret) (X : Stand p l e R s m args below meth c T locs cells slots) {pc pc' : Nat} {ls : Array Slot} {st : List Value} {k : Fin 4} {v : UInt64} (hd : decode bs pc = .ok (.dload_n k, 1)) (hp : pc + 1 = pc') (hl : ls[k.val]? = some (.val (.double v)))
    (k : Goes p.tables e below G (T.setTop (mkF m pc' ls (.double v :: st)))) : Goes p.tables e below G (T.setTop (mkF m pc ls st)) := by
  subst hp
  exact Goes.on (fun _ k => XS.dloadN X.here C.1 rfl (hb C.2.2.1 hd) hl k) k
theorem g_dload (C : Ctx p Z s m meth c bs own maxL ret) (X : Stand p l e R s m args below meth c T locs cells slots) {pc pc' : Nat} {ls : Array Slot} {st : List Value} {k : Nat} {v : UInt64} (hd : decode bs pc = .ok (.dload k, 2)) (hp : pc + 2 = pc') (hl : ls[k]? = some (.val (.double v)))
    (k : Goes p.tables e below G (T.setTop (mkF m pc' ls (.double v :: st)))) : Goes p.tables e below G (T.setTop (mkF m pc ls st)) := by
  subst hp
  exact Goes.on (fun _ k => XS.dload X.here C.1 rfl (hb C.2.2.1 hd) hl k) k
theorem g_dstore (C : Ctx p Z s m meth c bs own maxL ret) (X : Stand p l e R s m args below meth c T locs cells slots) {pc pc' : Nat} {ls ls' : Array Slot} {st : List Value} {k : Nat} {v w : UInt64} (hd : decode bs pc = .ok (.dstore k, 2)) (hp : pc + 2 = pc') (hv : v = w) (hl : storeLocals ls k (.double w) = some ls')
    (k : Goes p.tables e below G (T.setTop (mkF m pc' ls' st))) : Goes p.tables e below G (T.setTop (mkF m pc ls (.double v :: st))) := by
  subst hp hv
  exact Goes.on (fun _ k => XS.dstore X.here C.1 rfl (hb C.2.2.1 hd) rfl hl k) k
theorem g_i2d (C : Ctx p Z s m meth c bs own maxL ret) (X : Stand p l e R s m args below meth c T locs cells slots) {pc pc' : Nat} {ls : Array Slot} {st : List Value} {x : Int32} (hd : decode bs pc = .ok (.i2d, 1)) (hp : pc + 1 = pc')
    (k : Goes p.tables e below G (T.setTop (mkF m pc' ls (.double (FP.i2d x) :: st)))) : Goes p.tables e below G (T.setTop (mkF m pc ls (.int x :: st))) := by
  subst hp
  exact Goes.on (fun _ k => XS.i2dS X.here C.1 rfl (hb C.2.2.1 hd) rfl rfl k) k
theorem g_goto (C : Ctx p Z s m meth c bs own maxL ret) (X : Stand p l e R s m args below meth c T locs cells slots) {pc pc' : Nat} {ls : Array Slot} {st : List Value} {o : Int} (hd : decode bs pc = .ok (.goto o, 3)) (ho : 0 ≤ (pc : Int) + o) (hp : ((pc : Int) + o).toNat = pc')
    (k : Goes p.tables e below G (T.setTop (mkF m pc' ls st))) : Goes p.tables e below G (T.setTop (mkF m pc ls st)) :=
  Goes.on (fun _ k => XS.goto X.here C.1 rfl (pc0 := pc) (pc' := pc') rfl (hb C.2.2.1 hd) ho hp k) k
theorem cmpL_lt (x y : Int64) : XT.cmpL x y < 0 ↔ x < y := by unfold XT.cmpL; split <;> (try split) <;> simp_all [Int64.lt_iff_toInt_lt, ← Int64.toInt_inj] <;> omega
theorem cmpL_gt (x y : Int64) : 0 < XT.cmpL x y ↔ y < x := by unfold XT.cmpL; split <;> (try split) <;> simp_all [Int64.lt_iff_toInt_lt, ← Int64.toInt_inj] <;> omega
theorem cmpL_eq (x y : Int64) : XT.cmpL x y = 0 ↔ x = y := by unfold XT.cmpL; split <;> (try split) <;> simp_all [Int64.lt_iff_toInt_lt, ← Int64.toInt_inj] <;> omega
theorem g_icmp_eq (C : Ctx p Z s m meth c bs own maxL ret) (X : Stand p l e R s m args below meth c T locs cells slots) {pc pcT pcN : Nat} {ls : Array Slot} {st : List Value} {x y : Int32} {o : Int} (hd : decode bs pc = .ok (.if_icmp .eq o, 3)) (ho : 0 ≤ (pc : Int) + o) (hp : ((pc : Int) + o).toNat = pcT) (hq : pc + 3 = pcN)
    (hyes : x = y → Goes p.tables e below G (T.setTop (mkF m pcT ls st))) (hno : ¬ x = y → Goes p.tables e below G (T.setTop (mkF m pcN ls st))) : Goes p.tables e below G (T.setTop (mkF m pc ls (.int y :: .int x :: st))) := by
  subst hq
  by_cases q : x = y
  · exact Goes.on (fun _ k => XS.icmpYes X.here C.1 rfl (pc0 := pc) (pc' := pcT) rfl (hb C.2.2.1 hd) rfl (teq q).1 ho hp k) (hyes q)
  · exact Goes.on (fun _ k => XS.icmpNo X.here C.1 rfl (hb C.2.2.1 hd) rfl (feq q).1 k) (hno q)
theorem g_if_eq (C : Ctx p Z s m meth c bs own maxL ret) (X : Stand p l e R s m args below meth c T locs cells slots) {pc pcT pcN : Nat} {ls : Array Slot} {st : List Value} {x : Int32} {o : Int} (hd : decode bs pc = .ok (.ifCond .eq o, 3)) (ho : 0 ≤ (pc : Int) + o) (hp : ((pc : Int) + o).toNat = pcT) (hq : pc + 3 = pcN)
    (hyes : x = (0 : Int32) → Goes p.tables e below G (T.setTop (mkF m pcT ls st))) (hno : ¬ x = (0 : Int32) → Goes p.tables e below G (T.setTop (mkF m pcN ls st))) : Goes p.tables e below G (T.setTop (mkF m pc ls (.int x :: st))) := by
  subst hq
  by_cases q : x = (0 : Int32)
  · exact Goes.on (fun _ k => XS.ifYes X.here C.1 rfl (pc0 := pc) (pc' := pcT) rfl (hb C.2.2.1 hd) rfl ((if0 _ _).trans (teq q).1) ho hp k) (hyes q)
  · exact Goes.on (fun _ k => XS.ifNo X.here C.1 rfl (hb C.2.2.1 hd) rfl ((if0 _ _).trans (feq q).1) k) (hno q)
theorem g_lcmp_eq (C : Ctx p Z s m meth c bs own maxL ret) (X : Stand p l e R s m args below meth c T locs cells slots) {pc pc1 pcT pcN : Nat} {ls : Array Slot} {st : List Value} {x y : Int64} {o : Int} (hd : decode bs pc = .ok (.lcmp, 1)) (h1 : pc + 1 = pc1) (hd1 : decode bs pc1 = .ok (.ifCond .eq o, 3)) (ho : 0 ≤ (pc1 : Int) + o) (hp : ((pc1 : Int) + o).toNat = pcT) (hq : pc1 + 3 = pcN)
    (hyes : x = y → Goes p.tables e below G (T.setTop (mkF m pcT ls st))) (hno : ¬ x = y → Goes p.tables e below G (T.setTop (mkF m pcN ls st))) : Goes p.tables e below G (T.setTop (mkF m pc ls (.long y :: .long x :: st))) := by
  subst h1
  exact Goes.on (fun _ k => XT.lcmp X.here C.1 rfl (hb C.2.2.1 hd) rfl k) (g_if_eq C X hd1 ho hp hq (fun q => hyes ((cmpL_eq x y).mp q)) (fun q => hno ((not_congr (cmpL_eq x y)).mp q)))
theorem g_icmp_ne (C : Ctx p Z s m meth c bs own maxL ret) (X : Stand p l e R s m args below meth c T locs cells slots) {pc pcT pcN : Nat} {ls : Array Slot} {st : List Value} {x y : Int32} {o : Int} (hd : decode bs pc = .ok (.if_icmp .ne o, 3)) (ho : 0 ≤ (pc : Int) + o) (hp : ((pc : Int) + o).toNat = pcT) (hq : pc + 3 = pcN)
    (hyes : ¬ x = y → Goes p.tables e below G (T.setTop (mkF m pcT ls st))) (hno : x = y → Goes p.tables e below G (T.setTop (mkF m pcN ls st))) : Goes p.tables e below G (T.setTop (mkF m pc ls (.int y :: .int x :: st))) := by
  subst hq
  by_cases q : x = y
  · exact Goes.on (fun _ k => XS.icmpNo X.here C.1 rfl (hb C.2.2.1 hd) rfl (teq q).2 k) (hno q)
  · exact Goes.on (fun _ k => XS.icmpYes X.here C.1 rfl (pc0 := pc) (pc' := pcT) rfl (hb C.2.2.1 hd) rfl (feq q).2 ho hp k) (hyes q)
theorem g_if_ne (C : Ctx p Z s m meth c bs own maxL ret) (X : Stand p l e R s m args below meth c T locs cells slots) {pc pcT pcN : Nat} {ls : Array Slot} {st : List Value} {x : Int32} {o : Int} (hd : decode bs pc = .ok (.ifCond .ne o, 3)) (ho : 0 ≤ (pc : Int) + o) (hp : ((pc : Int) + o).toNat = pcT) (hq : pc + 3 = pcN)
    (hyes : ¬ x = (0 : Int32) → Goes p.tables e below G (T.setTop (mkF m pcT ls st))) (hno : x = (0 : Int32) → Goes p.tables e below G (T.setTop (mkF m pcN ls st))) : Goes p.tables e below G (T.setTop (mkF m pc ls (.int x :: st))) := by
  subst hq
  by_cases q : x = (0 : Int32)
  · exact Goes.on (fun _ k => XS.ifNo X.here C.1 rfl (hb C.2.2.1 hd) rfl ((if0 _ _).trans (teq q).2) k) (hno q)
  · exact Goes.on (fun _ k => XS.ifYes X.here C.1 rfl (pc0 := pc) (pc' := pcT) rfl (hb C.2.2.1 hd) rfl ((if0 _ _).trans (feq q).2) ho hp k) (hyes q)
theorem g_lcmp_ne (C : Ctx p Z s m meth c bs own maxL ret) (X : Stand p l e R s m args below meth c T locs cells slots) {pc pc1 pcT pcN : Nat} {ls : Array Slot} {st : List Value} {x y : Int64} {o : Int} (hd : decode bs pc = .ok (.lcmp, 1)) (h1 : pc + 1 = pc1) (hd1 : decode bs pc1 = .ok (.ifCond .ne o, 3)) (ho : 0 ≤ (pc1 : Int) + o) (hp : ((pc1 : Int) + o).toNat = pcT) (hq : pc1 + 3 = pcN)
    (hyes : ¬ x = y → Goes p.tables e below G (T.setTop (mkF m pcT ls st))) (hno : x = y → Goes p.tables e below G (T.setTop (mkF m pcN ls st))) : Goes p.tables e below G (T.setTop (mkF m pc ls (.long y :: .long x :: st))) := by
  subst h1
  exact Goes.on (fun _ k => XT.lcmp X.here C.1 rfl (hb C.2.2.1 hd) rfl k) (g_if_ne C X hd1 ho hp hq (fun q => hyes ((not_congr (cmpL_eq x y)).mp q)) (fun q => hno ((cmpL_eq x y).mp q)))
theorem g_icmp_lt (C : Ctx p Z s m meth c bs own maxL ret) (X : Stand p l e R s m args below meth c T locs cells slots) {pc pcT pcN : Nat} {ls : Array Slot} {st : List Value} {x y : Int32} {o : Int} (hd : decode bs pc = .ok (.if_icmp .lt o, 3)) (ho : 0 ≤ (pc : Int) + o) (hp : ((pc : Int) + o).toNat = pcT) (hq : pc + 3 = pcN)
    (hyes : x < y → Goes p.tables e below G (T.setTop (mkF m pcT ls st))) (hno : ¬ x < y → Goes p.tables e below G (T.setTop (mkF m pcN ls st))) : Goes p.tables e below G (T.setTop (mkF m pc ls (.int y :: .int x :: st))) := by
  subst hq
  by_cases q : x < y
  · exact Goes.on (fun _ k => XS.icmpYes X.here C.1 rfl (pc0 := pc) (pc' := pcT) rfl (hb C.2.2.1 hd) rfl (tlt q).1 ho hp k) (hyes q)
  · exact Goes.on (fun _ k => XS.icmpNo X.here C.1 rfl (hb C.2.2.1 hd) rfl (flt q).1 k) (hno q)
theorem g_if_lt (C : Ctx p Z s m meth c bs own maxL ret) (X : Stand p l e R s m args below meth c T locs cells slots) {pc pcT pcN : Nat} {ls : Array Slot} {st : List Value} {x : Int32} {o : Int} (hd : decode bs pc = .ok (.ifCond .lt o, 3)) (ho : 0 ≤ (pc : Int) + o) (hp : ((pc : Int) + o).toNat = pcT) (hq : pc + 3 = pcN)
    (hyes : x < (0 : Int32) → Goes p.tables e below G (T.setTop (mkF m pcT ls st))) (hno : ¬ x < (0 : Int32) → Goes p.tables e below G (T.setTop (mkF m pcN ls st))) : Goes p.tables e below G (T.setTop (mkF m pc ls (.int x :: st))) := by
  subst hq
  by_cases q : x < (0 : Int32)
  · exact Goes.on (fun _ k => XS.ifYes X.here C.1 rfl (pc0 := pc) (pc' := pcT) rfl (hb C.2.2.1 hd) rfl ((if0 _ _).trans (tlt q).1) ho hp k) (hyes q)
  · exact Goes.on (fun _ k => XS.ifNo X.here C.1 rfl (hb C.2.2.1 hd) rfl ((if0 _ _).trans (flt q).1) k) (hno q)
theorem g_lcmp_lt (C : Ctx p Z s m meth c bs own maxL ret) (X : Stand p l e R s m args below meth c T locs cells slots) {pc pc1 pcT pcN : Nat} {ls : Array Slot} {st : List Value} {x y : Int64} {o : Int} (hd : decode bs pc = .ok (.lcmp, 1)) (h1 : pc + 1 = pc1) (hd1 : decode bs pc1 = .ok (.ifCond .lt o, 3)) (ho : 0 ≤ (pc1 : Int) + o) (hp : ((pc1 : Int) + o).toNat = pcT) (hq : pc1 + 3 = pcN)
    (hyes : x < y → Goes p.tables e below G (T.setTop (mkF m pcT ls st))) (hno : ¬ x < y → Goes p.tables e below G (T.setTop (mkF m pcN ls st))) : Goes p.tables e below G (T.setTop (mkF m pc ls (.long y :: .long x :: st))) := by
  subst h1
  exact Goes.on (fun _ k => XT.lcmp X.here C.1 rfl (hb C.2.2.1 hd) rfl k) (g_if_lt C X hd1 ho hp hq (fun q => hyes ((cmpL_lt x y).mp q)) (fun q => hno ((not_congr (cmpL_lt x y)).mp q)))
theorem g_icmp_ge (C : Ctx p Z s m meth c bs own maxL ret) (X : Stand p l e R s m args below meth c T locs cells slots) {pc pcT pcN : Nat} {ls : Array Slot} {st : List Value} {x y : Int32} {o : Int} (hd : decode bs pc = .ok (.if_icmp .ge o, 3)) (ho : 0 ≤ (pc : Int) + o) (hp : ((pc : Int) + o).toNat = pcT) (hq : pc + 3 = pcN)
    (hyes : ¬ x < y → Goes p.tables e below G (T.setTop (mkF m pcT ls st))) (hno : x < y → Goes p.tables e below G (T.setTop (mkF m pcN ls st))) : Goes p.tables e below G (T.setTop (mkF m pc ls (.int y :: .int x :: st))) := by
  subst hq
  by_cases q : x < y
  · exact Goes.on (fun _ k => XS.icmpNo X.here C.1 rfl (hb C.2.2.1 hd) rfl (tlt q).2.1 k) (hno q)
  · exact Goes.on (fun _ k => XS.icmpYes X.here C.1 rfl (pc0 := pc) (pc' := pcT) rfl (hb C.2.2.1 hd) rfl (flt q).2.1 ho hp k) (hyes q)
theorem g_if_ge (C : Ctx p Z s m meth c bs own maxL ret) (X : Stand p l e R s m args below meth c T locs cells slots) {pc pcT pcN : Nat} {ls : Array Slot} {st : List Value} {x : Int32} {o : Int} (hd : decode bs pc = .ok (.ifCond .ge o, 3)) (ho : 0 ≤ (pc : Int) + o) (hp : ((pc : Int) + o).toNat = pcT) (hq : pc + 3 = pcN)
    (hyes : ¬ x < (0 : Int32) → Goes p.tables e below G (T.setTop (mkF m pcT ls st))) (hno : x < (0 : Int32) → Goes p.tables e below G (T.setTop (mkF m pcN ls st))) : Goes p.tables e below G (T.setTop (mkF m pc ls (.int x :: st))) := by
  subst hq
  by_cases q : x < (0 : Int32)
  · exact Goes.on (fun _ k => XS.ifNo X.here C.1 rfl (hb C.2.2.1 hd) rfl ((if0 _ _).trans (tlt q).2.1) k) (hno q)
  · exact Goes.on (fun _ k => XS.ifYes X.here C.1 rfl (pc0 := pc) (pc' := pcT) rfl (hb C.2.2.1 hd) rfl ((if0 _ _).trans (flt q).2.1) ho hp k) (hyes q)
theorem g_lcmp_ge (C : Ctx p Z s m meth c bs own maxL ret) (X : Stand p l e R s m args below meth c T locs cells slots) {pc pc1 pcT pcN : Nat} {ls : Array Slot} {st : List Value} {x y : Int64} {o : Int} (hd : decode bs pc = .ok (.lcmp, 1)) (h1 : pc + 1 = pc1) (hd1 : decode bs pc1 = .ok (.ifCond .ge o, 3)) (ho : 0 ≤ (pc1 : Int) + o) (hp : ((pc1 : Int) + o).toNat = pcT) (hq : pc1 + 3 = pcN)
    (hyes : ¬ x < y → Goes p.tables e below G (T.setTop (mkF m pcT ls st))) (hno : x < y → Goes p.tables e below G (T.setTop (mkF m pcN ls st))) : Goes p.tables e below G (T.setTop (mkF m pc ls (.long y :: .long x :: st))) := by
  subst h1
  exact Goes.on (fun _ k => XT.lcmp X.here C.1 rfl (hb C.2.2.1 hd) rfl k) (g_if_ge C X hd1 ho hp hq (fun q => hyes ((not_congr (cmpL_lt x y)).mp q)) (fun q => hno ((cmpL_lt x y).mp q)))
theorem g_icmp_gt (C : Ctx p Z s m meth c bs own maxL ret) (X : Stand p l e R s m args below meth c T locs cells slots) {pc pcT pcN : Nat} {ls : Array Slot} {st : List Value} {x y : Int32} {o : Int} (hd : decode bs pc = .ok (.if_icmp .gt o, 3)) (ho : 0 ≤ (pc : Int) + o) (hp : ((pc : Int) + o).toNat = pcT) (hq : pc + 3 = pcN)
    (hyes : y < x → Goes p.tables e below G (T.setTop (mkF m pcT ls st))) (hno : ¬ y < x → Goes p.tables e below G (T.setTop (mkF m pcN ls st))) : Goes p.tables e below G (T.setTop (mkF m pc ls (.int y :: .int x :: st))) := by
  subst hq
  by_cases q : y < x
  · exact Goes.on (fun _ k => XS.icmpYes X.here C.1 rfl (pc0 := pc) (pc' := pcT) rfl (hb C.2.2.1 hd) rfl (tlt q).2.2.1 ho hp k) (hyes q)
  · exact Goes.on (fun _ k => XS.icmpNo X.here C.1 rfl (hb C.2.2.1 hd) rfl (flt q).2.2.1 k) (hno q)
theorem g_if_gt (C : Ctx p Z s m meth c bs own maxL ret) (X : Stand p l e R s m args below meth c T locs cells slots) {pc pcT pcN : Nat} {ls : Array Slot} {st : List Value} {x : Int32} {o : Int} (hd : decode bs pc = .ok (.ifCond .gt o, 3)) (ho : 0 ≤ (pc : Int) + o) (hp : ((pc : Int) + o).toNat = pcT) (hq : pc + 3 = pcN)
    (hyes : (0 : Int32) < x → Goes p.tables e below G (T.setTop (mkF m pcT ls st))) (hno : ¬ (0 : Int32) < x → Goes p.tables e below G (T.setTop (mkF m pcN ls st))) : Goes p.tables e below G (T.setTop (mkF m pc ls (.int x :: st))) := by
  subst hq
  by_cases q : (0 : Int32) < x
  · exact Goes.on (fun _ k => XS.ifYes X.here C.1 rfl (pc0 := pc) (pc' := pcT) rfl (hb C.2.2.1 hd) rfl ((if0 _ _).trans (tlt q).2.2.1) ho hp k) (hyes q)
  · exact Goes.on (fun _ k => XS.ifNo X.here C.1 rfl (hb C.2.2.1 hd) rfl ((if0 _ _).trans (flt q).2.2.1) k) (hno q)
theorem g_lcmp_gt (C : Ctx p Z s m meth c bs own maxL ret) (X : Stand p l e R s m args below meth c T locs cells slots) {pc pc1 pcT pcN : Nat} {ls : Array Slot} {st : List Value} {x y : Int64} {o : Int} (hd : decode bs pc = .ok (.lcmp, 1)) (h1 : pc + 1 = pc1) (hd1 : decode bs pc1 = .ok (.ifCond .gt o, 3)) (ho : 0 ≤ (pc1 : Int) + o) (hp : ((pc1 : Int) + o).toNat = pcT) (hq : pc1 + 3 = pcN)
    (hyes : y < x → Goes p.tables e below G (T.setTop (mkF m pcT ls st))) (hno : ¬ y < x → Goes p.tables e below G (T.setTop (mkF m pcN ls st))) : Goes p.tables e below G (T.setTop (mkF m pc ls (.long y :: .long x :: st))) := by
  subst h1
  exact Goes.on (fun _ k => XT.lcmp X.here C.1 rfl (hb C.2.2.1 hd) rfl k) (g_if_gt C X hd1 ho hp hq (fun q => hyes ((cmpL_gt x y).mp q)) (fun q => hno ((not_congr (cmpL_gt x y)).mp q)))
theorem g_icmp_le (C : Ctx p Z s m meth c bs own maxL ret) (X : Stand p l e R s m args below meth c T locs cells slots) {pc pcT pcN : Nat} {ls : Array Slot} {st : List Value} {x y : Int32} {o : Int} (hd : decode bs pc = .ok (.if_icmp .le o, 3)) (ho : 0 ≤ (pc : Int) + o) (hp : ((pc : Int) + o).toNat = pcT) (hq : pc + 3 = pcN)
    (hyes : ¬ y < x → Goes p.tables e below G (T.setTop (mkF m pcT ls st))) (hno : y < x → Goes p.tables e below G (T.setTop (mkF m pcN ls st))) : Goes p.tables e below G (T.setTop (mkF m pc ls (.int y :: .int x :: st))) := by
  subst hq
  by_cases q : y < x
  · exact Goes.on (fun _ k => XS.icmpNo X.here C.1 rfl (hb C.2.2.1 hd) rfl (tlt q).2.2.2 k) (hno q)
  · exact Goes.on (fun _ k => XS.icmpYes X.here C.1 rfl (pc0 := pc) (pc' := pcT) rfl (hb C.2.2.1 hd) rfl (flt q).2.2.2 ho hp k) (hyes q)
theorem g_if_le (C : Ctx p Z s m meth c bs own maxL ret) (X : Stand p l e R s m args below meth c T locs cells slots) {pc pcT pcN : Nat} {ls : Array Slot} {st : List Value} {x : Int32} {o : Int} (hd : decode bs pc = .ok (.ifCond .le o, 3)) (ho : 0 ≤ (pc : Int) + o) (hp : ((pc : Int) + o).toNat = pcT) (hq : pc + 3 = pcN)
    (hyes : ¬ (0 : Int32) < x → Goes p.tables e below G (T.setTop (mkF m pcT ls st))) (hno : (0 : Int32) < x → Goes p.tables e below G (T.setTop (mkF m pcN ls st))) : Goes p.tables e below G (T.setTop (mkF m pc ls (.int x :: st))) := by
  subst hq
  by_cases q : (0 : Int32) < x
  · exact Goes.on (fun _ k => XS.ifNo X.here C.1 rfl (hb C.2.2.1 hd) rfl ((if0 _ _).trans (tlt q).2.2.2) k) (hno q)
  · exact Goes.on (fun _ k => XS.ifYes X.here C.1 rfl (pc0 := pc) (pc' := pcT) rfl (hb C.2.2.1 hd) rfl ((if0 _ _).trans (flt q).2.2.2) ho hp k) (hyes q)
theorem g_lcmp_le (C : Ctx p Z s m meth c bs own maxL ret) (X : Stand p l e R s m args below meth c T locs cells slots) {pc pc1 pcT pcN : Nat} {ls : Array Slot} {st : List Value} {x y : Int64} {o : Int} (hd : decode bs pc = .ok (.lcmp, 1)) (h1 : pc + 1 = pc1) (hd1 : decode bs pc1 = .ok (.ifCond .le o, 3)) (ho : 0 ≤ (pc1 : Int) + o) (hp : ((pc1 : Int) + o).toNat = pcT) (hq : pc1 + 3 = pcN)
    (hyes : ¬ y < x → Goes p.tables e below G (T.setTop (mkF m pcT ls st))) (hno : y < x → Goes p.tables e below G (T.setTop (mkF m pcN ls st))) : Goes p.tables e below G (T.setTop (mkF m pc ls (.long y :: .long x :: st))) := by
  subst h1
  exact Goes.on (fun _ k => XT.lcmp X.here C.1 rfl (hb C.2.2.1 hd) rfl k) (g_if_le C X hd1 ho hp hq (fun q => hyes ((not_congr (cmpL_gt x y)).mp q)) (fun q => hno ((cmpL_gt x y).mp q)))
theorem g_ldc (C : Ctx p Z s m meth c bs own maxL ret) (X : Stand p l e R s m args below meth c T locs cells slots) {pc pc' : Nat} {ls : Array Slot} {st : List Value} {i : Nat} {v : Int32} (w : (Cond.constant own i v).before a0 Z = true) (hd : decode bs pc = .ok (.ldc i, 2)) (hp : pc + 2 = pc') (k : Goes p.tables e below G (T.setTop (mkF m pc' ls (.int v :: st)))) : Goes p.tables e below G (T.setTop (mkF m pc ls st)) := by
  subst hp
  exact Goes.on (fun _ k => X.ldcInt C.1 C.2.2.2.2.1 (mvT C.2.1 w) (g := mkF m pc ls st) rfl (hb C.2.2.1 hd) _ k) k
theorem g_ldc2 (C : Ctx p Z s m meth c bs own maxL ret) (X : Stand p l e R s m args below meth c T locs cells slots) {pc pc' : Nat} {ls : Array Slot} {st : List Value} {i : Nat} {v : Int64} (w : (Cond.constantLong own i v).before a0 Z = true) (hd : decode bs pc = .ok (.ldc2_w i, 3)) (hp : pc + 3 = pc') (k : Goes p.tables e below G (T.setTop (mkF m pc' ls (.long v :: st)))) : Goes p.tables e below G (T.setTop (mkF m pc ls st)) := by
  subst hp
  exact Goes.on (fun _ k => X.ldc2Long C.1 C.2.2.2.2.1 (mvT C.2.1 w) (g := mkF m pc ls st) rfl (hb C.2.2.1 hd) _ k) k
theorem g_retN {t : FieldType} (C : Ctx p Z s m meth c bs own maxL (some t)) (X : Stand p l e R s m args below meth c T locs cells slots) {Q : Option Value → Heap → List Loc → Prop} (K : ∀ (v : Option Value) (L : List Loc) (T' : State), Q v T'.heap L → s.WarmedH T'.vm → s.sameButNew ({ T' with vm := s.vm } : State) L R.cells R.slots → G (.returned v) T') {pc : Nat} {ls : Array Slot} {rest : List Value} {z : Int32} (ht : t = .boolean ∨ t = .byte ∨ t = .char ∨ t = .short) (hd : decode bs pc = .ok (.ireturn, 1)) (hc : cells ≤ R.cells) (hs : slots ≤ R.slots) (eT : T.heap = h) (hQ : Q (some (.int (nar t z))) h locs) : Goes p.tables e below G (T.setTop (mkF m pc ls (.int z :: rest))) := by
  have hlk : meth.locks = false := C.2.2.2.2.2.2
  obtain ⟨fs, hr, hrun, hended, hW, hsame⟩ := X.leave (v := some (.int (nar t z))) (fun q => by rw [C.2.2.2.2.2.1] at q; cases q) hlk
  refine ⟨_, _, ?_, hrun, hended, K _ locs _ (by show Q _ T.heap locs; rw [eT]; exact hQ) hW (hsame.mono hc hs)⟩
  exact retN X C.1 C.2.2.2.2.2.1 ht (hb C.2.2.1 hd) hr
theorem g_retI (C : Ctx p Z s m meth c bs own maxL (some .int)) (X : Stand p l e R s m args below meth c T locs cells slots) {Q : Option Value → Heap → List Loc → Prop} (K : ∀ (v : Option Value) (L : List Loc) (T' : State), Q v T'.heap L → s.WarmedH T'.vm → s.sameButNew ({ T' with vm := s.vm } : State) L R.cells R.slots → G (.returned v) T') {pc : Nat} {ls : Array Slot} {rest : List Value} {z : Int32} (hd : decode bs pc = .ok (.ireturn, 1)) (hc : cells ≤ R.cells) (hs : slots ≤ R.slots) (eT : T.heap = h) (hQ : Q (some (.int z)) h locs) : Goes p.tables e below G (T.setTop (mkF m pc ls (.int z :: rest))) := by
  have hlk : meth.locks = false := C.2.2.2.2.2.2
  obtain ⟨fs, hr, hrun, hended, hW, hsame⟩ := X.leave (v := some (.int z)) (fun q => by rw [C.2.2.2.2.2.1] at q; cases q) hlk
  refine ⟨_, _, ?_, hrun, hended, K _ locs _ (by show Q _ T.heap locs; rw [eT]; exact hQ) hW (hsame.mono hc hs)⟩
  exact retOut X C.1 (w := .int z) (i := .ireturn) C.2.2.2.2.2.1 rfl (Or.inl ⟨rfl, Or.inl rfl, z, rfl⟩) (hb C.2.2.1 hd) hr
theorem g_retJ (C : Ctx p Z s m meth c bs own maxL (some .long)) (X : Stand p l e R s m args below meth c T locs cells slots) {Q : Option Value → Heap → List Loc → Prop} (K : ∀ (v : Option Value) (L : List Loc) (T' : State), Q v T'.heap L → s.WarmedH T'.vm → s.sameButNew ({ T' with vm := s.vm } : State) L R.cells R.slots → G (.returned v) T') {pc : Nat} {ls : Array Slot} {rest : List Value} {z : Int64} (hd : decode bs pc = .ok (.lreturn, 1)) (hc : cells ≤ R.cells) (hs : slots ≤ R.slots) (eT : T.heap = h) (hQ : Q (some (.long z)) h locs) : Goes p.tables e below G (T.setTop (mkF m pc ls (.long z :: rest))) := by
  have hlk : meth.locks = false := C.2.2.2.2.2.2
  obtain ⟨fs, hr, hrun, hended, hW, hsame⟩ := X.leave (v := some (.long z)) (fun q => by rw [C.2.2.2.2.2.1] at q; cases q) hlk
  refine ⟨_, _, ?_, hrun, hended, K _ locs _ (by show Q _ T.heap locs; rw [eT]; exact hQ) hW (hsame.mono hc hs)⟩
  exact retOut X C.1 (w := .long z) (i := .lreturn) C.2.2.2.2.2.1 rfl (Or.inr (Or.inl ⟨rfl, rfl, z, rfl⟩)) (hb C.2.2.1 hd) hr
theorem g_retA {t : FieldType} (C : Ctx p Z s m meth c bs own maxL (some t)) (X : Stand p l e R s m args below meth c T locs cells slots) {Q : Option Value → Heap → List Loc → Prop} (K : ∀ (v : Option Value) (L : List Loc) (T' : State), Q v T'.heap L → s.WarmedH T'.vm → s.sameButNew ({ T' with vm := s.vm } : State) L R.cells R.slots → G (.returned v) T') {pc : Nat} {ls : Array Slot} {rest : List Value} {w : Value} (ht : t.isReference = true) (hn : narrow t w = w) (hw : w.isRef = true) (hd : decode bs pc = .ok (.areturn, 1)) (hc : cells ≤ R.cells) (hs : slots ≤ R.slots) (eT : T.heap = h) (hQ : Q (some w) h locs) : Goes p.tables e below G (T.setTop (mkF m pc ls (w :: rest))) := by
  have hlk : meth.locks = false := C.2.2.2.2.2.2
  obtain ⟨fs, hr, hrun, hended, hW, hsame⟩ := X.leave (v := some w) (fun q => by rw [C.2.2.2.2.2.1] at q; cases q) hlk
  refine ⟨_, _, ?_, hrun, hended, K _ locs _ (by show Q _ T.heap locs; rw [eT]; exact hQ) hW (hsame.mono hc hs)⟩
  exact retOut X C.1 (w := w) (i := .areturn) C.2.2.2.2.2.1 hn (Or.inr (Or.inr (Or.inr (Or.inr ⟨rfl, ht, hw⟩)))) (hb C.2.2.1 hd) hr
theorem g_retV (C : Ctx p Z s m meth c bs own maxL (none)) (X : Stand p l e R s m args below meth c T locs cells slots) {Q : Option Value → Heap → List Loc → Prop} (K : ∀ (v : Option Value) (L : List Loc) (T' : State), Q v T'.heap L → s.WarmedH T'.vm → s.sameButNew ({ T' with vm := s.vm } : State) L R.cells R.slots → G (.returned v) T') {pc : Nat} {ls : Array Slot}  (hd : decode bs pc = .ok (.return_, 1)) (hc : cells ≤ R.cells) (hs : slots ≤ R.slots) (eT : T.heap = h) (hQ : Q (none) h locs) : Goes p.tables e below G (T.setTop (mkF m pc ls [])) := by
  have hlk : meth.locks = false := C.2.2.2.2.2.2
  obtain ⟨fs, hr, hrun, hended, hW, hsame⟩ := X.leave (v := none) (fun _ => rfl) hlk
  refine ⟨_, _, ?_, hrun, hended, K _ locs _ (by show Q _ T.heap locs; rw [eT]; exact hQ) hW (hsame.mono hc hs)⟩
  exact X.returnOut C.1 C.2.2.2.2.2.1 (hb C.2.2.1 hd) hr
theorem g_getF (C : Ctx p Z s m meth c bs own maxL ret) (X : Stand p l e R s m args below meth c T locs cells slots) {pc pc' : Nat} {ls : Array Slot} {st : List Value} {R0 O n d : String} {index : Nat} {a : Addr} {v : Value} (w : (Cond.fieldLink own index R0 n d).before a0 Z = true) (via : Via Z R0 O n d) (eT : T.heap = h) (F : Fld Z h a O n d v) (hd : decode bs pc = .ok (.getfield index, 3)) (hp : pc + 3 = pc')
    (k : ∀ T' : State, Stand p l e R s m args below meth c T' locs cells slots → T'.heap = h → Goes p.tables e below G (T'.setTop (mkF m pc' ls (v :: st)))) : Goes p.tables e below G (T.setTop (mkF m pc ls (.ref a :: st))) := by
  subst hp
  obtain ⟨T', X', e', st'⟩ := getF X C.1 C.2.1 C.2.2.2.2.1 (host := "") (Or.inl w) via eT F (g := mkF m pc ls (.ref a :: st)) rfl rfl (hb C.2.2.1 hd)
  exact Goes.on (fun t k => st' t k) (k T' X' e')
theorem g_getS (C : Ctx p Z s m meth c bs own maxL ret) (X : Stand p l e R s m args below meth c T locs cells slots) {pc pc' : Nat} {ls : Array Slot} {st : List Value} {R0 O n d : String} {index : Nat} {v : Value} (w : (Cond.fieldLink own index R0 n d).before a0 Z = true) (via : Via Z R0 O n d) (eT : T.heap = h) (F : Sta Z h O n d v) (hd : decode bs pc = .ok (.getstatic index, 3)) (hp : pc + 3 = pc')
    (k : ∀ T' : State, Stand p l e R s m args below meth c T' locs cells slots → T'.heap = h → Goes p.tables e below G (T'.setTop (mkF m pc' ls (v :: st)))) : Goes p.tables e below G (T.setTop (mkF m pc ls st)) := by
  subst hp
  obtain ⟨T', X', e', st'⟩ := getS2 X C.1 C.2.1 C.2.2.2.2.1 (host := "") (Or.inl w) via eT F (g := mkF m pc ls st) rfl (hb C.2.2.1 hd)
  exact Goes.on (fun t k => st' t k) (k T' X' e')
theorem g_getFN (C : Ctx p Z s m meth c bs own maxL ret) (X : Stand p l e R s m args below meth c T locs cells slots) {pc pc' : Nat} {ls : Array Slot} {st : List Value} {R0 O n d host : String} {index : Nat} {a : Addr} {v : Value} (w : (Cond.fieldLinkNest own index R0 n d host).before a0 Z = true) (via : Via Z R0 O n d) (eT : T.heap = h) (F : Fld Z h a O n d v) (hd : decode bs pc = .ok (.getfield index, 3)) (hp : pc + 3 = pc')
    (k : ∀ T' : State, Stand p l e R s m args below meth c T' locs cells slots → T'.heap = h → Goes p.tables e below G (T'.setTop (mkF m pc' ls (v :: st)))) : Goes p.tables e below G (T.setTop (mkF m pc ls (.ref a :: st))) := by
  subst hp
  obtain ⟨T', X', e', st'⟩ := getF X C.1 C.2.1 C.2.2.2.2.1 (Or.inr w) via eT F (g := mkF m pc ls (.ref a :: st)) rfl rfl (hb C.2.2.1 hd)
  exact Goes.on (fun t k => st' t k) (k T' X' e')
theorem g_putF (C : Ctx p Z s m meth c bs own maxL ret) (X : Stand p l e R s m args below meth c T locs cells slots) {pc pc' : Nat} {ls : Array Slot} {st : List Value} {R0 O n d K : String} {index kk : Nat} {ty : FieldType} {a : Addr} {v old : Value} (w : (Cond.fieldLink own index R0 n d).before a0 Z = true) (via : Via Z R0 O n d) (eT : T.heap = h) (F : Fld Z h a O n d old) (E : Exa Z h a K) (L : (Cond.lays K O n d).before a0 Z = true ∨ ((Cond.laysFinal K O n d).before a0 Z = true ∧ own = O ∧ meth.name = "<init>")) (wi : (Cond.instantiable K kk).before a0 Z = true) (hty : parseFieldDescriptor d = some ty) (hn : narrow ty v = v) (hf : fits ty v = true) (hd : decode bs pc = .ok (.putfield index, 3)) (hp : pc + 3 = pc')
    (k : ∀ (T' : State) (h' : Heap), Stand p l e R s m args below meth c T' (locs ++ [⟨a, Jvm.RoadKit.slotOf Z O n d⟩]) cells slots → T'.heap = h' → Wr h h' a (Jvm.RoadKit.slotOf Z O n d) v → Goes p.tables e below G (T'.setTop (mkF m pc' ls st))) : Goes p.tables e below G (T.setTop (mkF m pc ls (v :: .ref a :: st))) := by
  subst hp
  obtain ⟨T', h', X', e', W', st'⟩ := putF X C.1 C.2.1 C.2.2.2.2.1 (host := "") (Or.inl w) via eT F E L wi hty hn hf (g := mkF m pc ls (v :: .ref a :: st)) rfl rfl (hb C.2.2.1 hd)
  exact Goes.on (fun t k => st' t k) (k T' h' X' e' W')
theorem g_putFN (C : Ctx p Z s m meth c bs own maxL ret) (X : Stand p l e R s m args below meth c T locs cells slots) {pc pc' : Nat} {ls : Array Slot} {st : List Value} {R0 O n d K : String} {index kk : Nat} {ty : FieldType} {a : Addr} {v old v' : Value} (w : (Cond.fieldLink own index R0 n d).before a0 Z = true) (via : Via Z R0 O n d) (eT : T.heap = h) (F : Fld Z h a O n d old) (E : Exa Z h a K) (L : (Cond.lays K O n d).before a0 Z = true ∨ ((Cond.laysFinal K O n d).before a0 Z = true ∧ own = O ∧ meth.name = "<init>")) (wi : (Cond.instantiable K kk).before a0 Z = true) (hty : parseFieldDescriptor d = some ty) (hn : narrow ty v = v') (hf : fits ty v' = true) (hd : decode bs pc = .ok (.putfield index, 3)) (hp : pc + 3 = pc')
    (k : ∀ (T' : State) (h' : Heap), Stand p l e R s m args below meth c T' (locs ++ [⟨a, Jvm.RoadKit.slotOf Z O n d⟩]) cells slots → T'.heap = h' → Wr h h' a (Jvm.RoadKit.slotOf Z O n d) v' → Goes p.tables e below G (T'.setTop (mkF m pc' ls st))) : Goes p.tables e below G (T.setTop (mkF m pc ls (v :: .ref a :: st))) := by
  subst hp
  obtain ⟨T', h', X', e', W', st'⟩ := putFN X C.1 C.2.1 C.2.2.2.2.1 w via eT F E L wi hty hn hf (g := mkF m pc ls (v :: .ref a :: st)) rfl rfl (hb C.2.2.1 hd)
  exact Goes.on (fun t k => st' t k) (k T' h' X' e' W')
theorem g_new (C : Ctx p Z s m meth c bs own maxL ret) (X : Stand p l e R s m args below meth c T locs cells slots) {pc pc' : Nat} {ls : Array Slot} {st : List Value} {K : String} {index n : Nat} (w : (Cond.classLink own index K).before a0 Z = true) (wi : (Cond.instantiable K n).before a0 Z = true) (wz : (Cond.initialized K).before a0 Z = true) (eT : T.heap = h) (hd : decode bs pc = .ok (.new index, 3)) (hp : pc + 3 = pc') (hc : cells + 1 ≤ R.cells) (hs : slots + n ≤ R.slots)
    (k : ∀ (T' : State) (h' : Heap) (b : Addr), Stand p l e R s m args below meth c T' locs (cells + 1) (slots + n) → T'.heap = h' → b = h.size → Ext h h' → Exa Z h' b K → (∀ {O nm d : String} {ty : FieldType}, Laid Z a0 K O nm d → parseFieldDescriptor d = some ty → Fld Z h' b O nm d (defaultValue ty)) → Goes p.tables e below G (T'.setTop (mkF m pc' ls (.ref b :: st)))) : Goes p.tables e below G (T.setTop (mkF m pc ls st)) := by
  subst hp
  obtain ⟨T', h', X', e', E', A', D', -, st'⟩ := newO X C.1 C.2.1 C.2.2.2.2.1 w wi wz eT (g := mkF m pc ls st) rfl (hb C.2.2.1 hd) hc hs
  exact Goes.on (fun t k => st' t k) (k T' h' h.size X' e' rfl E' A' D')
theorem g_initO (C : Ctx p Z s m meth c bs own maxL ret) (X : Stand p l e R s m args below meth c T locs cells slots) {pc pc' : Nat} {ls : Array Slot} {st : List Value} {idx : Nat} {a : Addr} (w1 : (Cond.methodLink own idx Lib.objectInit).before a0 Z = true) (w2 : (Cond.instanceMethod Lib.objectInit).before a0 Z = true) (w3 : (Cond.code Lib.objectInit ⟨#[0xb1]⟩ 1 none).before a0 Z = true) (eT : T.heap = h) (hls : ls.size = maxL) (hd : decode bs pc = .ok (.invokespecial idx, 3)) (hp : pc + 3 = pc') (hf : 1 ≤ R.frames) {W : Nat} (hW : (st.map fun v => v.category).sum ≤ W) (hl : W + 12 ≤ R.locals)
    (k : ∀ T' : State, Stand p l e R s m args below meth c T' locs cells slots → T'.heap = h → Goes p.tables e below G (T'.setTop (mkF m pc' ls st))) : Goes p.tables e below G (T.setTop (mkF m pc ls (.ref a :: st))) := by
  subst hp
  obtain ⟨T', X', e', st'⟩ := initO X C.1 C.2.1 C.2.2.2.2.1 w1 w2 w3 eT (g := mkF m pc ls (.ref a :: st)) rfl (by rw [C.2.2.2.1]; exact hls) rfl (hb C.2.2.1 hd) hf (W := W) (by show 2 * 0 + _ ≤ _; omega) hl
  exact Goes.on (fun t k => st' t k) (k T' X' e')
theorem g_callS (C : Ctx p Z s m meth c bs own maxL ret) (X : Stand p l e R s m args below meth c T locs cells slots) {pc pc' : Nat} {ls : Array Slot} {y : MethodName} {index : Nat} {bytes : ByteArray} {maxY : Nat} {retY : Option FieldType} {rm : Room} {W : Nat} {Q : Option Value → Heap → List Loc → Prop} {ps : List FieldType} {rr : Option FieldType} {argsL rest stk : List Value} (w1 : (Cond.methodLink own index y).before a0 Z = true) (w2 : (Cond.static y).before a0 Z = true) (w3 : (Cond.initialized y.cls).before a0 Z = true) (w4 : (Cond.code y bytes maxY retY).before a0 Z = true) (hy : y.cls ≠ "java/lang/invoke/MethodHandle" ∧ y.cls ≠ "java/lang/invoke/VarHandle") (hd : decode bs pc = .ok (.invokestatic index, 3)) (hM : MetFree l y (head1 [Cond.code y bytes maxY retY] rm) (fun a' U => a' = argsL.toArray ∧ Z.Warmed39 U.vm ∧ U.heap = h) (fun _ _ _ _ _ => True) (fun _ U o U' => ∃ v L, o = .returned v ∧ Q v U'.heap L ∧ FrameEnd U o U' L rm.cells rm.slots)) (hf : rm.frames + 1 ≤ R.frames) (hl : W + (maxY + 11) + rm.locals ≤ R.locals) (hls : ls.size = maxL) (hpd : parseMethodDescriptor y.desc = some ⟨ps, rr⟩) (hlen : argsL.length = ps.length) (hst : stk = argsL.reverse ++ rest) (hW : (rest.map fun v => v.category).sum ≤ W) (eT : T.heap = h) (hc : cells + rm.cells ≤ R.cells) (hs : slots + rm.slots ≤ R.slots) (hp : pc + 3 = pc')
    (k : ∀ (v : Option Value) (T' : State) (L : List Loc), Stand p l e R s m args below meth c T' (locs ++ L) (cells + rm.cells) (slots + rm.slots) → Q v T'.heap L → Goes p.tables e below G (T'.setTop (mkF m pc' ls (v.toList ++ rest)))) : Goes p.tables e below G (T.setTop (mkF m pc ls stk)) := by
  subst hp hst
  obtain ⟨v, _, ⟨T', L', k', n'⟩, -, X', ⟨L, hQ, l1, l2, l3⟩, st'⟩ := Jvm.LawKit.callS X C.1 (y := y) C.2.2.2.2.1 (mvT C.2.1 w1) (mvT C.2.1 w2) (mvT C.2.1 w3) (mvT C.2.1 w4) hy (backOf (W := W) hM C.2.1 w4 w3 hf hl) (g := mkF m pc ls (argsL.reverse ++ rest)) rfl (by rw [C.2.2.2.1]; exact hls) (argsL := argsL) (rest := rest) (lenOf hpd hlen) rfl (by show 2 * 0 + _ ≤ _; omega) (hb C.2.2.1 hd) (fun _ _ => ⟨rfl, eT, hc, hs⟩)
  dsimp only [Pt.U, Pt.locs, Pt.cells, Pt.slots] at X' l1 l2 l3 st' hQ
  subst l1 l2 l3
  exact Goes.on (fun t k => st' t k) (k v T' L X' hQ)
theorem g_callI (C : Ctx p Z s m meth c bs own maxL ret) (X : Stand p l e R s m args below meth c T locs cells slots) {pc pc' : Nat} {ls : Array Slot} {a : Addr} {y : MethodName} {index : Nat} {bytes : ByteArray} {maxY : Nat} {rm : Room} {W : Nat} {Q : Option Value → Heap → List Loc → Prop} {ps : List FieldType} {rr : Option FieldType} {argsL rest stk : List Value} (hn : y.name = "<init>") (w1 : (Cond.methodLink own index y).before a0 Z = true) (w2 : (Cond.instanceMethod y).before a0 Z = true) (w3 : (Cond.initialized y.cls).before a0 Z = true) (w4 : (Cond.code y bytes maxY none).before a0 Z = true) (hy : y.cls ≠ "java/lang/invoke/MethodHandle" ∧ y.cls ≠ "java/lang/invoke/VarHandle") (hd : decode bs pc = .ok (.invokespecial index, 3)) (hM : MetFree l y (head1 [Cond.code y bytes maxY none] rm) (fun a' U => a' = (.ref a :: argsL).toArray ∧ Z.Warmed39 U.vm ∧ U.heap = h) (fun _ _ _ _ _ => True) (fun _ U o U' => ∃ v L, o = .returned v ∧ Q v U'.heap L ∧ FrameEnd U o U' L rm.cells rm.slots)) (hf : rm.frames + 1 ≤ R.frames) (hl : W + (maxY + 11) + rm.locals ≤ R.locals) (hls : ls.size = maxL) (hpd : parseMethodDescriptor y.desc = some ⟨ps, rr⟩) (hlen : argsL.length = ps.length) (hst : stk = argsL.reverse ++ .ref a :: rest) (hW : (rest.map fun v => v.category).sum ≤ W) (eT : T.heap = h) (hc : cells + rm.cells ≤ R.cells) (hs : slots + rm.slots ≤ R.slots) (hp : pc + 3 = pc')
    (k : ∀ (v : Option Value) (T' : State) (L : List Loc), Stand p l e R s m args below meth c T' (locs ++ L) (cells + rm.cells) (slots + rm.slots) → Q v T'.heap L → Goes p.tables e below G (T'.setTop (mkF m pc' ls (v.toList ++ rest)))) : Goes p.tables e below G (T.setTop (mkF m pc ls stk)) := by
  subst hp hst
  obtain ⟨v, _, ⟨T', L', k', n'⟩, -, X', ⟨L, hQ, l1, l2, l3⟩, st'⟩ := X.specialBack C.1 (y := y) hn C.2.2.2.2.1 (mvT C.2.1 w1) (mvT C.2.1 w2) (mvT C.2.1 w4) hy (backOf (W := W) hM C.2.1 w4 w3 hf hl) (g := mkF m pc ls (argsL.reverse ++ .ref a :: rest)) rfl (by rw [C.2.2.2.1]; exact hls) (Steps.refl _) (a := a) (argsL := argsL) (rest := rest) (lenOf hpd hlen) rfl (by show 2 * 0 + _ ≤ _; omega) (hb C.2.2.1 hd) (fun _ _ => ⟨rfl, eT, hc, hs⟩)
  dsimp only [Pt.U, Pt.locs, Pt.cells, Pt.slots] at X' l1 l2 l3 st' hQ
  subst l1 l2 l3
  exact Goes.on (fun t k => st'.trans k) (k v T' L X' hQ)
theorem g_callV (C : Ctx p Z s m meth c bs own maxL ret) (X : Stand p l e R s m args below meth c T locs cells slots) {pc pc' : Nat} {ls : Array Slot} {a : Addr} {K : String} {y z : MethodName} {index : Nat} {bytes : ByteArray} {maxY : Nat} {retY : Option FieldType} {rm : Room} {W : Nat} {Q : Option Value → Heap → List Loc → Prop} {ps : List FieldType} {rr : Option FieldType} {argsL rest stk : List Value} (w1 : (Cond.methodLink own index y).before a0 Z = true) (w2 : (Cond.declares y).before a0 Z = true) (hnf : NotFace s y) (w3 : (Cond.selects K y z).before a0 Z = true) (w4 : (Cond.instanceMethod z).before a0 Z = true) (w5 : (Cond.code z bytes maxY retY).before a0 Z = true) (w6 : (Cond.initialized z.cls).before a0 Z = true) (hy : y.cls ≠ "java/lang/invoke/MethodHandle" ∧ y.cls ≠ "java/lang/invoke/VarHandle") (E : Exa Z h a K) (hd : decode bs pc = .ok (.invokevirtual index, 3)) (hM : MetFree l z (head1 [Cond.code z bytes maxY retY] rm) (fun a' U => a' = (.ref a :: argsL).toArray ∧ Z.Warmed39 U.vm ∧ U.heap = h) (fun _ _ _ _ _ => True) (fun _ U o U' => ∃ v L, o = .returned v ∧ Q v U'.heap L ∧ FrameEnd U o U' L rm.cells rm.slots)) (hf : rm.frames + 1 ≤ R.frames) (hl : W + (maxY + 11) + rm.locals ≤ R.locals) (hls : ls.size = maxL) (hpd : parseMethodDescriptor y.desc = some ⟨ps, rr⟩) (hlen : argsL.length = ps.length) (hst : stk = argsL.reverse ++ .ref a :: rest) (hW : (rest.map fun v => v.category).sum ≤ W) (eT : T.heap = h) (hc : cells + rm.cells ≤ R.cells) (hs : slots + rm.slots ≤ R.slots) (hp : pc + 3 = pc')
    (k : ∀ (v : Option Value) (T' : State) (L : List Loc), Stand p l e R s m args below meth c T' (locs ++ L) (cells + rm.cells) (slots + rm.slots) → Q v T'.heap L → Goes p.tables e below G (T'.setTop (mkF m pc' ls (v.toList ++ rest)))) : Goes p.tables e below G (T.setTop (mkF m pc ls stk)) := by
  subst hp hst
  obtain ⟨cq, kq, qa, qb, qc⟩ := isOf C.2.1 eT E
  obtain ⟨v, _, ⟨T', L', k', n'⟩, -, X', ⟨L, hQ, l1, l2, l3⟩, st'⟩ := X.virtualBack C.1 (y := y) (z := z) C.2.2.2.2.1 (mvT C.2.1 w1) (mvT C.2.1 w2) hnf (mvT C.2.1 w3) (mvT C.2.1 w4) hy (backOf (W := W) hM C.2.1 w5 w6 hf hl) qa qc (g := mkF m pc ls (argsL.reverse ++ .ref a :: rest)) rfl (by rw [C.2.2.2.1]; exact hls) (Steps.refl _) (argsL := argsL) (rest := rest) (lenOf hpd hlen) rfl (by show 2 * 0 + _ ≤ _; omega) (hb C.2.2.1 hd) (fun _ _ => ⟨rfl, eT, hc, hs⟩)
  dsimp only [Pt.U, Pt.locs, Pt.cells, Pt.slots] at X' l1 l2 l3 st' hQ
  subst l1 l2 l3
  exact Goes.on (fun t k => st'.trans k) (k v T' L X' hQ)
theorem g_callVU (C : Ctx p Z s m meth c bs own maxL ret) (X : Stand p l e R s m args below meth c T locs cells slots) {pc pc' : Nat} {ls : Array Slot} {a : Addr} {K owner : String} {y z : MethodName} {index : Nat} {bytes : ByteArray} {maxY : Nat} {retY : Option FieldType} {rm : Room} {W : Nat} {Q : Option Value → Heap → List Loc → Prop} {ps : List FieldType} {rr : Option FieldType} {argsL rest stk : List Value} (w1 : (Cond.methodLink own index y).before a0 Z = true) (w2 : (Cond.sameMethod y.cls owner y.name y.desc).before a0 Z = true) (w2' : (Cond.declares ⟨owner, y.name, y.desc⟩).before a0 Z = true) (w3 : (Cond.selects K y z).before a0 Z = true) (w4 : (Cond.instanceMethod z).before a0 Z = true) (w5 : (Cond.code z bytes maxY retY).before a0 Z = true) (w6 : (Cond.initialized z.cls).before a0 Z = true) (hy : owner ≠ "java/lang/invoke/MethodHandle" ∧ owner ≠ "java/lang/invoke/VarHandle") (E : Exa Z h a K) (hd : decode bs pc = .ok (.invokevirtual index, 3)) (hM : MetFree l z (head1 [Cond.code z bytes maxY retY] rm) (fun a' U => a' = (.ref a :: argsL).toArray ∧ Z.Warmed39 U.vm ∧ U.heap = h) (fun _ _ _ _ _ => True) (fun _ U o U' => ∃ v L, o = .returned v ∧ Q v U'.heap L ∧ FrameEnd U o U' L rm.cells rm.slots)) (hf : rm.frames + 1 ≤ R.frames) (hl : W + (maxY + 11) + rm.locals ≤ R.locals) (hls : ls.size = maxL) (hpd : parseMethodDescriptor y.desc = some ⟨ps, rr⟩) (hlen : argsL.length = ps.length) (hst : stk = argsL.reverse ++ .ref a :: rest) (hW : (rest.map fun v => v.category).sum ≤ W) (eT : T.heap = h) (hc : cells + rm.cells ≤ R.cells) (hs : slots + rm.slots ≤ R.slots) (hp : pc + 3 = pc')
    (k : ∀ (v : Option Value) (T' : State) (L : List Loc), Stand p l e R s m args below meth c T' (locs ++ L) (cells + rm.cells) (slots + rm.slots) → Q v T'.heap L → Goes p.tables e below G (T'.setTop (mkF m pc' ls (v.toList ++ rest)))) : Goes p.tables e below G (T.setTop (mkF m pc ls stk)) := by
  subst hp hst
  obtain ⟨cq, kq, qa, qb, qc⟩ := isOf C.2.1 eT E
  obtain ⟨v, _, ⟨T', L', k', n'⟩, -, X', ⟨L, hQ, l1, l2, l3⟩, st'⟩ := X.virtualBackUp C.1 (x := y) (y := z) C.2.2.2.2.1 (mvT C.2.1 w1) (mvT C.2.1 w2) (mvT C.2.1 w2') hy (mvT C.2.1 w3) (mvT C.2.1 w4) (backOf (W := W) hM C.2.1 w5 w6 hf hl) qa qc (g := mkF m pc ls (argsL.reverse ++ .ref a :: rest)) rfl (by rw [C.2.2.2.1]; exact hls) (Steps.refl _) (argsL := argsL) (rest := rest) (lenOf hpd hlen) rfl (by show 2 * 0 + _ ≤ _; omega) (hb C.2.2.1 hd) (fun _ _ => ⟨rfl, eT, hc, hs⟩)
  dsimp only [Pt.U, Pt.locs, Pt.cells, Pt.slots] at X' l1 l2 l3 st' hQ
  subst l1 l2 l3
  exact Goes.on (fun t k => st'.trans k) (k v T' L X' hQ)
theorem g_ifnullY (C : Ctx p Z s m meth c bs own maxL ret) (X : Stand p l e R s m args below meth c T locs cells slots) {pc pc' : Nat} {ls : Array Slot} {st : List Value}  {o : Int} (hd : decode bs pc = .ok (.ifnull o, 3)) (ho : 0 ≤ (pc : Int) + o) (hp : ((pc : Int) + o).toNat = pc')
    (k : Goes p.tables e below G (T.setTop (mkF m pc' ls st))) : Goes p.tables e below G (T.setTop (mkF m pc ls (.null :: st))) :=
  Goes.on (fun _ k => XS.ifnullYes X.here C.1 rfl (pc0 := pc) (pc' := pc') rfl (hb C.2.2.1 hd) rfl ho hp k) k
theorem g_ifnullN (C : Ctx p Z s m meth c bs own maxL ret) (X : Stand p l e R s m args below meth c T locs cells slots) {pc pc' : Nat} {ls : Array Slot} {st : List Value} {b : Addr} {o : Int} (hd : decode bs pc = .ok (.ifnull o, 3)) (hp : pc + 3 = pc')
    (k : Goes p.tables e below G (T.setTop (mkF m pc' ls st))) : Goes p.tables e below G (T.setTop (mkF m pc ls (.ref b :: st))) := by
  subst hp
  exact Goes.on (fun _ k => XS.ifnullNo X.here C.1 rfl (hb C.2.2.1 hd) rfl k) k
theorem g_ifnonnullY (C : Ctx p Z s m meth c bs own maxL ret) (X : Stand p l e R s m args below meth c T locs cells slots) {pc pc' : Nat} {ls : Array Slot} {st : List Value} {b : Addr} {o : Int} (hd : decode bs pc = .ok (.ifnonnull o, 3)) (ho : 0 ≤ (pc : Int) + o) (hp : ((pc : Int) + o).toNat = pc')
    (k : Goes p.tables e below G (T.setTop (mkF m pc' ls st))) : Goes p.tables e below G (T.setTop (mkF m pc ls (.ref b :: st))) :=
  Goes.on (fun _ k => XT.ifnonnullYes X.here C.1 rfl (pc0 := pc) (pc' := pc') rfl (hb C.2.2.1 hd) rfl ho hp k) k
theorem g_ifnonnullN (C : Ctx p Z s m meth c bs own maxL ret) (X : Stand p l e R s m args below meth c T locs cells slots) {pc pc' : Nat} {ls : Array Slot} {st : List Value}  {o : Int} (hd : decode bs pc = .ok (.ifnonnull o, 3)) (hp : pc + 3 = pc')
    (k : Goes p.tables e below G (T.setTop (mkF m pc' ls st))) : Goes p.tables e below G (T.setTop (mkF m pc ls (.null :: st))) := by
  subst hp
  exact Goes.on (fun _ k => XT.ifnonnullNo X.here C.1 rfl (hb C.2.2.1 hd) rfl k) k
theorem g_acmp_eq (C : Ctx p Z s m meth c bs own maxL ret) (X : Stand p l e R s m args below meth c T locs cells slots) {pc pcT pcN : Nat} {ls : Array Slot} {st : List Value} {x y : Value} {o : Int} (h1 : x.isRef = true) (h2 : y.isRef = true) (hd : decode bs pc = .ok (.if_acmp .eq o, 3)) (ho : 0 ≤ (pc : Int) + o) (hp : ((pc : Int) + o).toNat = pcT) (hq : pc + 3 = pcN)
    (hyes : x = y → Goes p.tables e below G (T.setTop (mkF m pcT ls st))) (hno : ¬ x = y → Goes p.tables e below G (T.setTop (mkF m pcN ls st))) : Goes p.tables e below G (T.setTop (mkF m pc ls (y :: x :: st))) := by
  subst hq
  by_cases q : x = y
  · exact Goes.on (fun _ k => XT.acmpYes X.here C.1 rfl (pc0 := pc) (pc' := pcT) rfl (hb C.2.2.1 hd) rfl h1 h2 (by simp [XT.acmp, q]) ho hp k) (hyes q)
  · exact Goes.on (fun _ k => XT.acmpNo X.here C.1 rfl (hb C.2.2.1 hd) rfl h1 h2 (by simp [XT.acmp, q]) k) (hno q)
theorem g_acmp_ne (C : Ctx p Z s m meth c bs own maxL ret) (X : Stand p l e R s m args below meth c T locs cells slots) {pc pcT pcN : Nat} {ls : Array Slot} {st : List Value} {x y : Value} {o : Int} (h1 : x.isRef = true) (h2 : y.isRef = true) (hd : decode bs pc = .ok (.if_acmp .ne o, 3)) (ho : 0 ≤ (pc : Int) + o) (hp : ((pc : Int) + o).toNat = pcT) (hq : pc + 3 = pcN)
    (hyes : ¬ x = y → Goes p.tables e below G (T.setTop (mkF m pcT ls st))) (hno : x = y → Goes p.tables e below G (T.setTop (mkF m pcN ls st))) : Goes p.tables e below G (T.setTop (mkF m pc ls (y :: x :: st))) := by
  subst hq
  by_cases q : x = y
  · exact Goes.on (fun _ k => XT.acmpNo X.here C.1 rfl (hb C.2.2.1 hd) rfl h1 h2 (by simp [XT.acmp, q]) k) (hno q)
  · exact Goes.on (fun _ k => XT.acmpYes X.here C.1 rfl (pc0 := pc) (pc' := pcT) rfl (hb C.2.2.1 hd) rfl h1 h2 (by simp [XT.acmp, q]) ho hp k) (hyes q)
theorem g_tsw (C : Ctx p Z s m meth c bs own maxL ret) (X : Stand p l e R s m args below meth c T locs cells slots) {pc pc' : Nat} {ls : Array Slot} {st : List Value} {dflt low high : Int} {offs : Array Int} {len : Nat} {o : Int} {i : Int32} (hd : decode bs pc = .ok (.tableswitch dflt low high offs, len)) (hin : ¬ (i.toInt < low ∨ i.toInt > high)) (hoff : offs[(i.toInt - low).toNat]? = some o) (ho : 0 ≤ (pc : Int) + o) (hp : ((pc : Int) + o).toNat = pc')
    (k : Goes p.tables e below G (T.setTop (mkF m pc' ls st))) : Goes p.tables e below G (T.setTop (mkF m pc ls (.int i :: st))) :=
  Goes.on (fun _ k => XS.tswIn X.here C.1 rfl (pc0 := pc) (pc' := pc') rfl (hb C.2.2.1 hd) rfl hin hoff ho hp k) k
theorem body_ofW {y : MethodName} {bytes : ByteArray} {ws : List Cond} {as' : Array Value} {h0 : Heap} {Q : Option Value → Heap → List Loc → Prop} (hplain : plainFor y = true)
    (H : ∀ p e s m below meth c s₁ G, Ctx p Z (s.setVm s.vm) m meth c bytes y.cls maxL ret → meth.name = y.name → (s.setVm s.vm).methodNamed? y = some m → Stand p l e R (s.setVm s.vm) m as' below meth c s₁ [] 0 0 → s₁.heap = h0 → s.heap = h0 → s.Since s.vm 0 →
      (∀ (v : Option Value) (L : List Loc) (T' : State), Q v T'.heap L → ReturnedEndW s (.returned v) T' L R.cells R.slots → G (.returned v) T') →
      Goes p.tables e below G (s₁.setTop (entryFrame m as' maxL))) :
    MetFree l y (head1 (Cond.code y bytes maxL ret :: ws) R) (fun a U => a = as' ∧ Z.Warmed39 U.vm ∧ U.heap = h0) (fun _ _ _ _ _ => True) (fun _ U o U' => ∃ v L, o = .returned v ∧ Q v U'.heap L ∧ ReturnedEndW U o U' L R.cells R.slots) := by
  refine MetFree.of_bodySF hplain hisR ?_
  intro p e s m args below meth c s₁ Bd hml0 hP hK
  obtain ⟨rfl, hZ, hh⟩ := hP
  exact H p e s m below meth c s₁ _ ⟨Bd.exec, hZ, Bd.bytes, hml0, findClass_of_methodNamed Bd.named, Bd.returns, BodyLoose.notSynchronized Bd⟩ (name_of_methodNamed Bd.named Bd.method).1 Bd.named (Stand.of_body Bd) (by rw [← hh, Bd.state]; rfl) hh ((State.WarmedH.refl s).since 0)
    (fun v L T' hQ hE => ⟨v, L, rfl, hQ, hE⟩)
theorem g_ldcS {vm0 : Vm} (C : Ctx p Z (s.setVm vm0) m meth c bs own maxL ret) (X : Stand p l e R (s.setVm vm0) m args below meth c T locs cells slots) {pc pc' : Nat} {ls : Array Slot} {st : List Value} {text : String} {index k0 n : Nat} (w : (Cond.stringLink own index text).before a0 Z = true) (wS : ∀ a ∈ Bundle.stringAtoms, a.before a0 Z = true) (eT : T.heap = h) (hS : s.Since vm0 k0) (hk : k0 ≤ h.size) (hd : decode bs pc = .ok (.ldc index, 2)) (hp : pc + 2 = pc') (hn : 4 * text.toList.length ≤ n) (hbig : n ≤ 536870912) (hc : cells + 2 ≤ R.cells) (hl : slots + (n + 4) ≤ R.slots)
    (k : ∀ (b : Addr) (T' : State) (h' : Heap) (k1 : Nat), Ctx p Z (s.setVm T'.vm) m meth c bs own maxL ret → Stand p l e R (s.setVm T'.vm) m args below meth c T' locs (cells + 2) (slots + (n + 4)) → T'.heap = h' → Ext h h' → s.Since T'.vm k1 → k1 ≤ h'.size → Goes p.tables e below G (T'.setTop (mkF m pc' ls (.ref b :: st)))) : Goes p.tables e below G (T.setTop (mkF m pc ls st)) := by
  subst hp
  obtain ⟨b, T', h', k1, X', e', E', hS', hk', hZ', hown', st'⟩ := ldcS X C.1 C.2.1 C.2.2.2.2.1 w wS eT hS hk (g := mkF m pc ls st) rfl (hb C.2.2.1 hd) hn hbig hc hl
  exact Goes.on (fun t k => st' t k) (k b T' h' k1 ⟨C.1, hZ', C.2.2.1, C.2.2.2.1, hown', C.2.2.2.2.2⟩ X' e' E' hS' hk')
theorem lam_alike {y : MethodName} (hZ : Z.Warmed39 s.vm) (hnm : s.methodNamed? y = some m) : Z.methodNamed? y = some m := by
  have q : (Z.setVm s.vm).methodNamed? y = s.methodNamed? y := rfl
  rw [State.methodNamed?_setVm hZ.alike] at q
  rw [q]; exact hnm
theorem g_lam {y : MethodName} (C : Ctx p Z s m meth c bs own maxL ret) (X : Stand p l e R s m args below meth c T locs cells slots) (hnm : s.methodNamed? y = some m) {pc pc' : Nat} {ls : Array Slot} {st : List Value} {index : Nat} {σ : Lambda.Shape} {D : String} {v0 : Value} (w : (Cond.lambdaSite y pc index σ).before a0 Z = true) (wO : (Cond.instantiable "java/lang/Object" 0).before a0 Z = true) (hcl : σ.captured.length = 1) (lays : ((σ.file y.cls).bind (layoutFields · 0)).map (·.2.1) = some #[.object D])
    (hr0 : v0.isRef = true) (eT : T.heap = h) (hls : ls.size = maxL) (hd : decode bs pc = .ok (.invokedynamic index, 5)) (hp : pc + 5 = pc') {W : Nat} (hW : (st.map fun v => v.category).sum ≤ W) (hl : W + 1 + 3072 ≤ R.locals) (hc : cells + 1 ≤ R.cells) (hs : slots + 1 ≤ R.slots)
    (k : ∀ (T' : State) (h' : Heap) (b : Addr), Stand p l e R s m args below meth c T' locs (cells + 1) (slots + 1) → T'.heap = h' → b = h.size → Ext h h' → (∀ q, b = q → h'.size = h.size + 1) → Goes p.tables e below G (T'.setTop (mkF m pc' ls (.ref b :: st)))) : Goes p.tables e below G (T.setTop (mkF m pc ls (v0 :: st))) := by
  subst hp
  obtain ⟨cK, one, hat⟩ := Cond.lambdaSite_spec w
  obtain ⟨m', kZ, cfZ, i0, p0, lk, hm', hkZ, hcfZ, hshape, -, hfind, hmade, hcan, hlk⟩ := State.lambdaAt?_spec hat
  cases (lam_alike C.2.1 hnm).symm.trans hm'
  obtain ⟨rfl, rfl, -⟩ : lk = .makes cK ∧ one = none ∧ σ.captured ≠ [] := by
    rcases hlk with ⟨a, cell, -, -, q, -⟩ | q
    · rw [q] at hcl; cases hcl
    · exact q
  obtain ⟨kZ', hkZ', hnameZ⟩ := className_of_methodNamed hm'
  cases hkZ.symm.trans hkZ'
  obtain ⟨bsm, nt, desc, site, hcp, hnt, hsite, hpar⟩ := Lambda.shapeOf?_site hshape
  obtain ⟨kK, hkK, htyK, hkindK, hhid⟩ := Lambda.made_types hmade hkZ wO (by rw [hnameZ]; exact lays)
  obtain ⟨kS, hkS, ekS⟩ := C.2.1.alike.2.2 _ _ hkZ
  obtain ⟨kL, hkL, ekL⟩ := C.2.1.alike.2.2 _ _ hkK
  have htyL : kL.instanceTypes = #[.object D] := by rw [ekL]; exact htyK
  have hkindL : kL.kind = .ordinary := by rw [ekL]; exact hkindK
  have hc0 : v0.category = 1 := by cases v0 <;> first | rfl | cases hr0
  have hn0 : narrow (.object D) v0 = v0 := by cases v0 <;> rfl
  have hf0 : fits (.object D) v0 = true := by cases v0 <;> first | rfl | cases hr0
  have hslotsE : ((kL.instanceTypes.toList.zip [(v0 : Value)]).map fun (t, v) => narrow t v) = [v0] := by
    rw [htyL]; simp [hn0]
  obtain ⟨X', st'⟩ := X.lambdaMakes C.1 (g := mkF m pc ls (v0 :: st)) rfl (by rw [C.2.2.2.1]; exact hls) (hb C.2.2.1 hd) (vals := [v0]) (rest := st)
    hkS (by rw [ekS]; exact hfind) (by rw [ekS]; exact hcfZ) hcp hnt (parseLong_of_parse hsite) (by rw [hpar]; simpa using hcl.symm) rfl hkL
    (by rw [X.admits.platform]; show 2 * 0 + (v0.category + (st.map fun v => v.category).sum) + 3072 ≤ R.locals; rw [hc0]; omega) hc (by rw [hslotsE]; exact hs)
    (fun i v hv => by
      rw [hslotsE] at hv
      match i, hv with
      | 0, hv => simp at hv; subst hv; simp [State.fitsSlot, State.slotType?, hkL, hkindL, htyL, hf0]
      | k + 1, hv => simp at hv)
  rw [hslotsE] at X' st'
  subst eT
  refine Goes.on (fun t k => st' t k) (k _ _ T.heap.size X' rfl rfl ⟨by show T.heap.size ≤ (T.heap.push _).size; simp, fun a c q => ?_⟩ (fun _ _ => by show (T.heap.push _).size = _; simp))
  show (T.heap.push _)[a]? = _
  rw [Array.getElem?_push_lt (Array.getElem?_eq_some_iff.mp q).1]; exact (Array.getElem?_eq_getElem _).symm.trans q
theorem g_retNW {t : FieldType} {vm0 : Vm} {k0 : Nat} (C : Ctx p Z (s.setVm vm0) m meth c bs own maxL (some t)) (X : Stand p l e R (s.setVm vm0) m args below meth c T locs cells slots) {Q : Option Value → Heap → List Loc → Prop} (K : ∀ (v : Option Value) (L : List Loc) (T' : State), Q v T'.heap L → ReturnedEndW s (.returned v) T' L R.cells R.slots → G (.returned v) T') (hS : s.Since vm0 k0) (hk : k0 ≤ h.size) {pc : Nat} {ls : Array Slot} {rest : List Value} {z : Int32} (ht : t = .boolean ∨ t = .byte ∨ t = .char ∨ t = .short) (hd : decode bs pc = .ok (.ireturn, 1)) (hc : cells ≤ R.cells) (hs : slots ≤ R.slots) (eT : T.heap = h) (hQ : Q (some (.int (nar t z))) h locs) : Goes p.tables e below G (T.setTop (mkF m pc ls (.int z :: rest))) := by
  have hlk : meth.locks = false := C.2.2.2.2.2.2
  obtain ⟨fs, hr, hrun, hended, hE⟩ := X.leaveW hS (by rw [eT]; exact hk) (v := some (.int (nar t z))) (fun q => by rw [C.2.2.2.2.2.1] at q; cases q) hlk
  refine ⟨_, _, ?_, hrun, hended, K _ locs _ (by show Q _ T.heap locs; rw [eT]; exact hQ) ⟨hE.1, hE.2.1, hE.2.2.1, hE.2.2.2.mono hc hs⟩⟩
  exact retN X C.1 C.2.2.2.2.2.1 ht (hb C.2.2.1 hd) hr
theorem g_retIW {vm0 : Vm} {k0 : Nat} (C : Ctx p Z (s.setVm vm0) m meth c bs own maxL (some .int)) (X : Stand p l e R (s.setVm vm0) m args below meth c T locs cells slots) {Q : Option Value → Heap → List Loc → Prop} (K : ∀ (v : Option Value) (L : List Loc) (T' : State), Q v T'.heap L → ReturnedEndW s (.returned v) T' L R.cells R.slots → G (.returned v) T') (hS : s.Since vm0 k0) (hk : k0 ≤ h.size) {pc : Nat} {ls : Array Slot} {rest : List Value} {z : Int32} (hd : decode bs pc = .ok (.ireturn, 1)) (hc : cells ≤ R.cells) (hs : slots ≤ R.slots) (eT : T.heap = h) (hQ : Q (some (.int z)) h locs) : Goes p.tables e below G (T.setTop (mkF m pc ls (.int z :: rest))) := by
  have hlk : meth.locks = false := C.2.2.2.2.2.2
  obtain ⟨fs, hr, hrun, hended, hE⟩ := X.leaveW hS (by rw [eT]; exact hk) (v := some (.int z)) (fun q => by rw [C.2.2.2.2.2.1] at q; cases q) hlk
  refine ⟨_, _, ?_, hrun, hended, K _ locs _ (by show Q _ T.heap locs; rw [eT]; exact hQ) ⟨hE.1, hE.2.1, hE.2.2.1, hE.2.2.2.mono hc hs⟩⟩
  exact retOut X C.1 (w := .int z) (i := .ireturn) C.2.2.2.2.2.1 rfl (Or.inl ⟨rfl, Or.inl rfl, z, rfl⟩) (hb C.2.2.1 hd) hr
theorem g_retAW {t : FieldType} {vm0 : Vm} {k0 : Nat} (C : Ctx p Z (s.setVm vm0) m meth c bs own maxL (some t)) (X : Stand p l e R (s.setVm vm0) m args below meth c T locs cells slots) {Q : Option Value → Heap → List Loc → Prop} (K : ∀ (v : Option Value) (L : List Loc) (T' : State), Q v T'.heap L → ReturnedEndW s (.returned v) T' L R.cells R.slots → G (.returned v) T') (hS : s.Since vm0 k0) (hk : k0 ≤ h.size) {pc : Nat} {ls : Array Slot} {rest : List Value} {w : Value} (ht : t.isReference = true) (hn : narrow t w = w) (hw : w.isRef = true) (hd : decode bs pc = .ok (.areturn, 1)) (hc : cells ≤ R.cells) (hs : slots ≤ R.slots) (eT : T.heap = h) (hQ : Q (some w) h locs) : Goes p.tables e below G (T.setTop (mkF m pc ls (w :: rest))) := by
  have hlk : meth.locks = false := C.2.2.2.2.2.2
  obtain ⟨fs, hr, hrun, hended, hE⟩ := X.leaveW hS (by rw [eT]; exact hk) (v := some w) (fun q => by rw [C.2.2.2.2.2.1] at q; cases q) hlk
  refine ⟨_, _, ?_, hrun, hended, K _ locs _ (by show Q _ T.heap locs; rw [eT]; exact hQ) ⟨hE.1, hE.2.1, hE.2.2.1, hE.2.2.2.mono hc hs⟩⟩
  exact retOut X C.1 (w := w) (i := .areturn) C.2.2.2.2.2.1 hn (Or.inr (Or.inr (Or.inr (Or.inr ⟨rfl, ht, hw⟩)))) (hb C.2.2.1 hd) hr
theorem g_retVW {vm0 : Vm} {k0 : Nat} (C : Ctx p Z (s.setVm vm0) m meth c bs own maxL (none)) (X : Stand p l e R (s.setVm vm0) m args below meth c T locs cells slots) {Q : Option Value → Heap → List Loc → Prop} (K : ∀ (v : Option Value) (L : List Loc) (T' : State), Q v T'.heap L → ReturnedEndW s (.returned v) T' L R.cells R.slots → G (.returned v) T') (hS : s.Since vm0 k0) (hk : k0 ≤ h.size) {pc : Nat} {ls : Array Slot}  (hd : decode bs pc = .ok (.return_, 1)) (hc : cells ≤ R.cells) (hs : slots ≤ R.slots) (eT : T.heap = h) (hQ : Q (none) h locs) : Goes p.tables e below G (T.setTop (mkF m pc ls [])) := by
  have hlk : meth.locks = false := C.2.2.2.2.2.2
  obtain ⟨fs, hr, hrun, hended, hE⟩ := X.leaveW hS (by rw [eT]; exact hk) (v := none) (fun _ => rfl) hlk
  refine ⟨_, _, ?_, hrun, hended, K _ locs _ (by show Q _ T.heap locs; rw [eT]; exact hQ) ⟨hE.1, hE.2.1, hE.2.2.1, hE.2.2.2.mono hc hs⟩⟩
  exact X.returnOut C.1 C.2.2.2.2.2.1 (hb C.2.2.1 hd) hr
theorem Exa.ns {x : Addr} {K : String} (E : Exa Z h x K) : ∀ cell : Cell, h[x]? = some cell → cell.vm.isStatics = false := by
  obtain ⟨c1, k1, h1, -, -, h4, -⟩ := E
  intro cell q
  cases h1.symm.trans q; exact h4
theorem Sta.keepN {h' : Heap} {K n d : String} {w : Value} {ws : List Addr} (F : Sta Z h K n d w) (Kp : Keep h h' ws) (q : ∀ x ∈ ws, ∀ cell : Cell, h[x]? = some cell → cell.vm.isStatics = false) : Sta Z h' K n d w := by
  obtain ⟨cf, i, k, f, st, cell, h1, h2, h3, h4, h5, h6, h7⟩ := F
  refine ⟨cf, i, k, f, st, cell, h1, h2, h3, h4, Kp.2.1 st cell h5 (fun r => ?_), h6, h7⟩
  have z := q st r cell h5
  rw [z] at h6; cases h6
theorem g_newA (C : Ctx p Z s m meth c bs own maxL ret) (X : Stand p l e R s m args below meth c T locs cells slots) {pc pc' : Nat} {ls : Array Slot} {st : List Value} {aty : ArrayType} {n : Int32} {cap : Nat} (w : (Cond.arrayClass (newarray.typeOf aty)).before a0 Z = true) (eT : T.heap = h) (hd : decode bs pc = .ok (.newarray aty, 2)) (hp : pc + 2 = pc') (hn : ¬ n < 0) (hcap : n.toNatClampNeg ≤ cap) (hbig : cap * 8 ≤ 536870912) (hc : cells + 1 ≤ R.cells) (hs : slots + cap ≤ R.slots)
    (k : ∀ (T' : State) (h' : Heap) (b : Addr) (kd : ClassId), Stand p l e R s m args below meth c T' locs (cells + 1) (slots + cap) → T'.heap = h' → b = h.size → Ext h h' → Arv Z h' b kd (newarray.typeOf aty) n [] (defaultValue (newarray.typeOf aty)) → Goes p.tables e below G (T'.setTop (mkF m pc' ls (.ref b :: st)))) : Goes p.tables e below G (T.setTop (mkF m pc ls (.int n :: st))) := by
  subst hp
  obtain ⟨T', h', kd, X', e', E', A', st'⟩ := newP X C.1 C.2.1 w eT (g := mkF m pc ls (.int n :: st)) rfl (hb C.2.2.1 hd) rfl hn hcap hbig hc hs
  exact Goes.on (fun t k => st' t k) (k T' h' h.size kd X' e' rfl E' (Arv.new A' hn))
theorem g_arraylength (C : Ctx p Z s m meth c bs own maxL ret) (X : Stand p l e R s m args below meth c T locs cells slots) {pc pc' : Nat} {ls : Array Slot} {st : List Value} {a : Addr} {kd : ClassId} {ty : FieldType} {n : Int32} {vs : List Value} {d : Value} (eT : T.heap = h) (V : Arv Z h a kd ty n vs d) (hd : decode bs pc = .ok (.arraylength, 1)) (hp : pc + 1 = pc')
    (k : Goes p.tables e below G (T.setTop (mkF m pc' ls (.int n :: st)))) : Goes p.tables e below G (T.setTop (mkF m pc ls (.ref a :: st))) := by
  subst hp
  obtain ⟨cl, A, q1, S, q3, -⟩ := V
  refine Goes.on (fun t k => X.arraylength C.1 (by rw [eT]; exact A.1) (State.isArrayOf_alike C.2.1.alike A.2.1) (g := mkF m pc ls (.ref a :: st)) rfl rfl (hb C.2.2.1 hd) t (by rw [len_of S q3]; exact k)) k
theorem g_castore (C : Ctx p Z s m meth c bs own maxL ret) (X : Stand p l e R s m args below meth c T locs cells slots) {pc pc' : Nat} {ls : Array Slot} {st : List Value} {a : Addr} {kd : ClassId} {n j : Int32} {x : Int32} {vs : List Value} {d : Value} {i : Nat} (eT : T.heap = h) (V : Arv Z h a kd .char n vs d) (hj : ¬ j < 0 ∧ j < n) (hi : j.toNatClampNeg = i) (hlt : i < vs.length) (hd : decode bs pc = .ok (.castore, 1)) (hp : pc + 1 = pc')
    (k : ∀ (T' : State) (h' : Heap), Stand p l e R s m args below meth c T' (locs ++ [⟨a, j.toNatClampNeg⟩]) cells slots → T'.heap = h' → Wr h h' a j.toNatClampNeg (.int (nar .char x)) → Arv Z h' a kd .char n (vs.set i (.int (nar .char x))) d → Goes p.tables e below G (T'.setTop (mkF m pc' ls st))) : Goes p.tables e below G (T.setTop (mkF m pc ls (.int x :: .int j :: .ref a :: st))) := by
  subst hp
  obtain ⟨cl, A, q1, S, q3, H, Gf⟩ := V
  obtain ⟨T', h', X', e', W', st'⟩ := stC X C.1 C.2.1 eT A (j := j) (inb_of S hj) (g := mkF m pc ls (.int x :: .int j :: .ref a :: st)) rfl rfl (hb C.2.2.1 hd)
  exact Goes.on (fun t k => st' t k) (k T' h' X' e' W' (Arv.set A q1 S q3 H Gf (fits_nar_char _) W' i hi hlt))
theorem g_bastore (C : Ctx p Z s m meth c bs own maxL ret) (X : Stand p l e R s m args below meth c T locs cells slots) {pc pc' : Nat} {ls : Array Slot} {st : List Value} {a : Addr} {kd : ClassId} {n j : Int32} {x : Int32} {vs : List Value} {d : Value} {i : Nat} (eT : T.heap = h) (V : Arv Z h a kd .byte n vs d) (hj : ¬ j < 0 ∧ j < n) (hi : j.toNatClampNeg = i) (hlt : i < vs.length) (hd : decode bs pc = .ok (.bastore, 1)) (hp : pc + 1 = pc')
    (k : ∀ (T' : State) (h' : Heap), Stand p l e R s m args below meth c T' (locs ++ [⟨a, j.toNatClampNeg⟩]) cells slots → T'.heap = h' → Wr h h' a j.toNatClampNeg (.int (nar .byte x)) → Arv Z h' a kd .byte n (vs.set i (.int (nar .byte x))) d → Goes p.tables e below G (T'.setTop (mkF m pc' ls st))) : Goes p.tables e below G (T.setTop (mkF m pc ls (.int x :: .int j :: .ref a :: st))) := by
  subst hp
  obtain ⟨cl, A, q1, S, q3, H, Gf⟩ := V
  obtain ⟨T', h', X', e', W', st'⟩ := stB X C.1 C.2.1 eT A (j := j) (inb_of S hj) (g := mkF m pc ls (.int x :: .int j :: .ref a :: st)) rfl rfl (hb C.2.2.1 hd)
  exact Goes.on (fun t k => st' t k) (k T' h' X' e' W' (Arv.set A q1 S q3 H Gf (fits_nar_byte _) W' i hi hlt))
theorem g_iastore (C : Ctx p Z s m meth c bs own maxL ret) (X : Stand p l e R s m args below meth c T locs cells slots) {pc pc' : Nat} {ls : Array Slot} {st : List Value} {a : Addr} {kd : ClassId} {n j : Int32} {x : Int32} {vs : List Value} {d : Value} {i : Nat} (eT : T.heap = h) (V : Arv Z h a kd .int n vs d) (hj : ¬ j < 0 ∧ j < n) (hi : j.toNatClampNeg = i) (hlt : i < vs.length) (hd : decode bs pc = .ok (.iastore, 1)) (hp : pc + 1 = pc')
    (k : ∀ (T' : State) (h' : Heap), Stand p l e R s m args below meth c T' (locs ++ [⟨a, j.toNatClampNeg⟩]) cells slots → T'.heap = h' → Wr h h' a j.toNatClampNeg (.int x) → Arv Z h' a kd .int n (vs.set i (.int x)) d → Goes p.tables e below G (T'.setTop (mkF m pc' ls st))) : Goes p.tables e below G (T.setTop (mkF m pc ls (.int x :: .int j :: .ref a :: st))) := by
  subst hp
  obtain ⟨cl, A, q1, S, q3, H, Gf⟩ := V
  obtain ⟨T', h', X', e', W', st'⟩ := stI X C.1 C.2.1 eT A (j := j) (inb_of S hj) (g := mkF m pc ls (.int x :: .int j :: .ref a :: st)) rfl rfl (hb C.2.2.1 hd)
  exact Goes.on (fun t k => st' t k) (k T' h' X' e' W' (Arv.set A q1 S q3 H Gf rfl W' i hi hlt))
theorem g_lastore (C : Ctx p Z s m meth c bs own maxL ret) (X : Stand p l e R s m args below meth c T locs cells slots) {pc pc' : Nat} {ls : Array Slot} {st : List Value} {a : Addr} {kd : ClassId} {n j : Int32} {x : Int64} {vs : List Value} {d : Value} {i : Nat} (eT : T.heap = h) (V : Arv Z h a kd .long n vs d) (hj : ¬ j < 0 ∧ j < n) (hi : j.toNatClampNeg = i) (hlt : i < vs.length) (hd : decode bs pc = .ok (.lastore, 1)) (hp : pc + 1 = pc')
    (k : ∀ (T' : State) (h' : Heap), Stand p l e R s m args below meth c T' (locs ++ [⟨a, j.toNatClampNeg⟩]) cells slots → T'.heap = h' → Wr h h' a j.toNatClampNeg (.long x) → Arv Z h' a kd .long n (vs.set i (.long x)) d → Goes p.tables e below G (T'.setTop (mkF m pc' ls st))) : Goes p.tables e below G (T.setTop (mkF m pc ls (.long x :: .int j :: .ref a :: st))) := by
  subst hp
  obtain ⟨cl, A, q1, S, q3, H, Gf⟩ := V
  obtain ⟨T', h', X', e', W', st'⟩ := stJ X C.1 C.2.1 eT A (j := j) (inb_of S hj) (g := mkF m pc ls (.long x :: .int j :: .ref a :: st)) rfl rfl (hb C.2.2.1 hd)
  exact Goes.on (fun t k => st' t k) (k T' h' X' e' W' (Arv.set A q1 S q3 H Gf rfl W' i hi hlt))
theorem g_caload (C : Ctx p Z s m meth c bs own maxL ret) (X : Stand p l e R s m args below meth c T locs cells slots) {pc pc' : Nat} {ls : Array Slot} {st : List Value} {a : Addr} {kd : ClassId} {n j : Int32} {vs : List Value} {d v : Value} (eT : T.heap = h) (V : Arv Z h a kd .char n vs d) (hj : ¬ j < 0 ∧ j < n) (hv : vs.getD j.toNatClampNeg d = v) (hd : decode bs pc = .ok (.caload, 1)) (hp : pc + 1 = pc')
    (k : Goes p.tables e below G (T.setTop (mkF m pc' ls (v :: st)))) : Goes p.tables e below G (T.setTop (mkF m pc ls (.int j :: .ref a :: st))) := by
  subst hp
  obtain ⟨cl, A, q1, S, q3, H, Gf⟩ := V
  exact Goes.on (fun t k => X.caload C.1 (j := j) (v := v) (by rw [eT]; exact A.1) (State.isArrayOf_alike C.2.1.alike A.2.1) A.2.2 (inb_of S hj) (H.at (inb_of S hj) hv) (g := mkF m pc ls (.int j :: .ref a :: st)) rfl rfl (hb C.2.2.1 hd) t k) k
theorem g_baload (C : Ctx p Z s m meth c bs own maxL ret) (X : Stand p l e R s m args below meth c T locs cells slots) {pc pc' : Nat} {ls : Array Slot} {st : List Value} {a : Addr} {kd : ClassId} {n j : Int32} {vs : List Value} {d v : Value} (eT : T.heap = h) (V : Arv Z h a kd .byte n vs d) (hj : ¬ j < 0 ∧ j < n) (hv : vs.getD j.toNatClampNeg d = v) (hd : decode bs pc = .ok (.baload, 1)) (hp : pc + 1 = pc')
    (k : Goes p.tables e below G (T.setTop (mkF m pc' ls (v :: st)))) : Goes p.tables e below G (T.setTop (mkF m pc ls (.int j :: .ref a :: st))) := by
  subst hp
  obtain ⟨cl, A, q1, S, q3, H, Gf⟩ := V
  exact Goes.on (fun t k => X.baloadBytes C.1 (j := j) (v := v) (by rw [eT]; exact A.1) (State.isArrayOf_alike C.2.1.alike A.2.1) A.2.2 (inb_of S hj) (H.at (inb_of S hj) hv) (g := mkF m pc ls (.int j :: .ref a :: st)) rfl rfl (hb C.2.2.1 hd) t k) k
theorem g_iaload (C : Ctx p Z s m meth c bs own maxL ret) (X : Stand p l e R s m args below meth c T locs cells slots) {pc pc' : Nat} {ls : Array Slot} {st : List Value} {a : Addr} {kd : ClassId} {n j : Int32} {vs : List Value} {d v : Value} (eT : T.heap = h) (V : Arv Z h a kd .int n vs d) (hj : ¬ j < 0 ∧ j < n) (hv : vs.getD j.toNatClampNeg d = v) (hd : decode bs pc = .ok (.iaload, 1)) (hp : pc + 1 = pc')
    (k : Goes p.tables e below G (T.setTop (mkF m pc' ls (v :: st)))) : Goes p.tables e below G (T.setTop (mkF m pc ls (.int j :: .ref a :: st))) := by
  subst hp
  obtain ⟨cl, A, q1, S, q3, H, Gf⟩ := V
  exact Goes.on (fun t k => X.iaload C.1 (j := j) (v := v) (by rw [eT]; exact A.1) (State.isArrayOf_alike C.2.1.alike A.2.1) A.2.2 (inb_of S hj) (H.at (inb_of S hj) hv) (g := mkF m pc ls (.int j :: .ref a :: st)) rfl rfl (hb C.2.2.1 hd) t k) k
theorem g_laload (C : Ctx p Z s m meth c bs own maxL ret) (X : Stand p l e R s m args below meth c T locs cells slots) {pc pc' : Nat} {ls : Array Slot} {st : List Value} {a : Addr} {kd : ClassId} {n j : Int32} {vs : List Value} {d v : Value} (eT : T.heap = h) (V : Arv Z h a kd .long n vs d) (hj : ¬ j < 0 ∧ j < n) (hv : vs.getD j.toNatClampNeg d = v) (hd : decode bs pc = .ok (.laload, 1)) (hp : pc + 1 = pc')
    (k : Goes p.tables e below G (T.setTop (mkF m pc' ls (v :: st)))) : Goes p.tables e below G (T.setTop (mkF m pc ls (.int j :: .ref a :: st))) := by
  subst hp
  obtain ⟨cl, A, q1, S, q3, H, Gf⟩ := V
  exact Goes.on (fun t k => X.laload C.1 (j := j) (v := v) (by rw [eT]; exact A.1) (State.isArrayOf_alike C.2.1.alike A.2.1) A.2.2 (inb_of S hj) (H.at (inb_of S hj) hv) (g := mkF m pc ls (.int j :: .ref a :: st)) rfl rfl (hb C.2.2.1 hd) t k) k
theorem ne_of_fld {a b : Addr} {K n d : String} {v w : Value} (F : Fld Z h a K n d v) (F' : Fld Z h b K n d w) (hv : v ≠ w) : a ≠ b := fun q => by
  subst q
  obtain ⟨c1, f1, k1, i1, g1, a1, a2, -, -, -, -, a7⟩ := F
  obtain ⟨c2, f2, k2, i2, g2, b1, b2, -, -, -, -, b7⟩ := F'
  cases a1.symm.trans b1
  cases a2.symm.trans b2
  exact hv (Option.some.inj (a7.symm.trans b7))
theorem ref_of_exactly {t : Term} {K : String} (hx : (Cond.exactly t K).value args s none s [] = some true) : ∃ a, t.eval args s none [] s = some (.ref a) ∧ Exa s s.heap a K := by
  obtain ⟨a, -, -, -, e1, -⟩ := Cond.exactly_spec (Cond.before_iff.mpr hx)
  exact ⟨a, e1, Exa.start e1 hx⟩
theorem fldI_of {t : Term} {K n d : String} {k : Int32} {a : Addr} (ht : t.eval args s none [] s = some (.ref a)) (hx : (Cond.eq (.field t K n d) (.int k)).value args s none s [] = some true) : Fld s s.heap a K n d (.int k) := by
  obtain ⟨x, y, e1, e2, k1, k2⟩ := cmp_v (Or.inl hx)
  have e3 : y = .int k := (Option.some.inj e2).symm
  subst e3
  obtain ⟨z, rfl⟩ : ∃ z, x = .int z := k2
  have e4 := e1
  rw [fld_at ht] at e4
  have e5 : z = k := by
    simp only [Cond.value, e1, e2] at hx
    simpa using hx
  subst e5
  exact Fld.start e4
theorem fldN_of {t : Term} {K n d : String} {a : Addr} (ht : t.eval args s none [] s = some (.ref a)) (hx : (Cond.eq (.field t K n d) .null).value args s none s [] = some true) : Fld s s.heap a K n d .null := by
  have e := null_v hx
  rw [fld_at ht] at e
  exact Fld.start e
theorem fldR_of {t u : Term} {K n d : String} {a b : Addr} (ht : t.eval args s none [] s = some (.ref a)) (hu : u.eval args s none [] s = some (.ref b)) (hx : (Cond.eq (.field t K n d) u).value args s none s [] = some true) : Fld s s.heap a K n d (.ref b) := by
  obtain ⟨x, y, e1, e2, k1, k2⟩ := cmp_v (Or.inl hx)
  cases e2.symm.trans hu
  have hr : x.isRef = true := k2.2
  have e5 := gotT (eq_R e1 e2 hr rfl) hx
  subst e5
  rw [fld_at ht] at e1
  exact Fld.start e1
end Kit
end Jvm.Own

namespace Jvm.Pilot.@@N@@
open Jvm Jvm.ClassFile Sem Op Lib Jvm.Free Jvm.Stand Jvm.LawKit Jvm.RoadKit Jvm.Own Bundle Jvm.Pilot.@@N@@.Jvm.D
def own_ch (b : Int32) : Int32 := nar .char (b &&& 255).toUInt32.toUInt16.toUInt32.toInt32
def own_lat (c : Int32) : Prop := ¬ c < 0 ∧ ¬ 255 < c
theorem own_ch_fin : ∀ n : Fin 256, own_ch (nar .byte (Int32.ofNat n.val).toInt8.toInt32) = Int32.ofNat n.val := by decide +kernel
theorem own_lat_fin {c : Int32} (h : own_lat c) : ∃ n : Fin 256, c = Int32.ofNat n.val := by
  obtain ⟨h1, h2⟩ := h
  have e0 : (0 : Int32).toInt = 0 := by decide
  have e1 : (255 : Int32).toInt = 255 := by decide
  rw [Int32.lt_iff_toInt_lt] at h1 h2
  refine ⟨⟨c.toInt.toNat, by omega⟩, ?_⟩
  rw [← Int32.toInt_inj]
  show c.toInt = (Int32.ofNat c.toInt.toNat).toInt
  rw [Int32.toInt_ofNat_of_lt (by omega)]; omega
theorem own_ch_of {c : Int32} (h : own_lat c) : own_ch (nar .byte c.toInt8.toInt32) = c := by
  obtain ⟨n, rfl⟩ := own_lat_fin h
  exact own_ch_fin n
theorem own_and_lat (x : Int32) : own_lat (x &&& 255) := by
  have e : (x &&& 255 : Int32).toInt = x.toInt % 2 ^ 8 := Jvm.Kit.i32_mask x 255 (k := 8) (by decide) (by decide)
  have e0 : (0 : Int32).toInt = 0 := by decide
  have e1 : (255 : Int32).toInt = 255 := by decide
  refine ⟨?_, ?_⟩ <;> rw [Int32.lt_iff_toInt_lt] <;> omega
theorem own_i2c_fin : ∀ n : Fin 256, (Int32.ofNat n.val).toUInt32.toUInt16.toUInt32.toInt32 = Int32.ofNat n.val := by decide +kernel
theorem own_i2c {c : Int32} (h : own_lat c) : c.toUInt32.toUInt16.toUInt32.toInt32 = c := by
  obtain ⟨n, rfl⟩ := own_lat_fin h
  exact own_i2c_fin n
theorem own_narc {c : Int32} (h : own_lat c) : nar .char c = c := own_i2c h
theorem own_c255 (x : Int32) : own_lat (x &&& 255).toUInt32.toUInt16.toUInt32.toInt32 := by rw [own_i2c (own_and_lat x)]; exact own_and_lat x
theorem own_bs (c : Int32) : nar .char c = c.toUInt32.toUInt16.toUInt32.toInt32 := rfl
theorem own_u16 (u : UInt16) : u.toUInt32.toInt32.toUInt32.toUInt16 = u := by
  show u.toUInt32.toUInt16 = u
  simp
theorem own_narr (b : Int32) : nar .char (own_ch b) = own_ch b := by
  show (b &&& 255).toUInt32.toUInt16.toUInt32.toInt32.toUInt32.toUInt16.toUInt32.toInt32.toUInt32.toUInt16.toUInt32.toInt32 = (b &&& 255).toUInt32.toUInt16.toUInt32.toInt32.toUInt32.toUInt16.toUInt32.toInt32
  rw [own_u16]
theorem own_ne0 {t : Term} {args : Array Value} {s : State} {x k : Int32} (ev : t.eval args s none [] s = some (.int x)) (h : (Jvm.Cond.eq t (.int k)).value args s none s [] = some false) : ¬ x = k := by
  have e2 : (Term.int k).eval args s none [] s = some (.int k) := rfl
  simp only [Cond.value, ev, e2] at h
  simpa using h
theorem ef_5l1_0l3_0l4_1 (m : MethodId) (o1 : Addr) (o2 : Addr) : entryFrame m #[(.ref o1), (.int (0 : Int32)), (.ref o2), (.int (0 : Int32)), (.int (1 : Int32))] 7 = mkF m 0 #[.val (.ref o1), .val (.int (0 : Int32)), .val (.ref o2), .val (.int (0 : Int32)), .val (.int (1 : Int32)), .unset, .unset] [] := by first | (simp [entryFrame, mkF, argsToLocals, Value.category]; done) | rfl
theorem d5_0 : decode jdk_52_method_21_code 0 = .ok (.iconst 0, 1) := by decide +kernel
theorem d5_1 : decode jdk_52_method_21_code 1 = .ok (.istore 5, 2) := by decide +kernel
theorem d5_3 : decode jdk_52_method_21_code 3 = .ok (.iload 5, 2) := by decide +kernel
theorem d5_5 : decode jdk_52_method_21_code 5 = .ok (.iload 4, 2) := by decide +kernel
theorem d5_7 : decode jdk_52_method_21_code 7 = .ok (.if_icmp .ge 37, 3) := by decide +kernel
theorem d5_10 : decode jdk_52_method_21_code 10 = .ok (.aload_n 0, 1) := by decide +kernel
theorem d5_11 : decode jdk_52_method_21_code 11 = .ok (.iload_n 1, 1) := by decide +kernel
theorem d5_12 : decode jdk_52_method_21_code 12 = .ok (.caload, 1) := by decide +kernel
theorem d5_13 : decode jdk_52_method_21_code 13 = .ok (.istore 6, 2) := by decide +kernel
theorem d5_15 : decode jdk_52_method_21_code 15 = .ok (.iload 6, 2) := by decide +kernel
theorem d5_17 : decode jdk_52_method_21_code 17 = .ok (.sipush 255, 3) := by decide +kernel
theorem d5_20 : decode jdk_52_method_21_code 20 = .ok (.if_icmp .le 6, 3) := by decide +kernel
theorem d5_26 : decode jdk_52_method_21_code 26 = .ok (.aload_n 2, 1) := by decide +kernel
theorem d5_27 : decode jdk_52_method_21_code 27 = .ok (.iload_n 3, 1) := by decide +kernel
theorem d5_28 : decode jdk_52_method_21_code 28 = .ok (.iload 6, 2) := by decide +kernel
theorem d5_30 : decode jdk_52_method_21_code 30 = .ok (.i2b, 1) := by decide +kernel
theorem d5_31 : decode jdk_52_method_21_code 31 = .ok (.bastore, 1) := by decide +kernel
theorem d5_32 : decode jdk_52_method_21_code 32 = .ok (.iinc 1 1, 3) := by decide +kernel
theorem d5_35 : decode jdk_52_method_21_code 35 = .ok (.iinc 3 1, 3) := by decide +kernel
theorem d5_38 : decode jdk_52_method_21_code 38 = .ok (.iinc 5 1, 3) := by decide +kernel
theorem d5_41 : decode jdk_52_method_21_code 41 = .ok (.goto (-38), 3) := by decide +kernel
theorem d5_44 : decode jdk_52_method_21_code 44 = .ok (.iload 4, 2) := by decide +kernel
theorem d5_46 : decode jdk_52_method_21_code 46 = .ok (.ireturn, 1) := by decide +kernel
def Q5_1 (Z : State) (o1 : Addr) (o2 : Addr) (kd1 : ClassId) (kd2 : ClassId) (c1 : Int32) (h0 : Heap) (n0 : Nat) (v : Option Value) (h : Heap) (L : List Loc) : Prop := v = some (.int (1 : Int32)) ∧ Fr n0 L ∧ Keep h0 h [o2] ∧ Arv Z h o2 kd2 .byte (1 : Int32) [(.int (nar .byte c1.toInt8.toInt32))] (.int (0 : Int32))
theorem pn_4 : plainName "java/lang/StringUTF16" = true := by first | (simp [plainName, overriddenIn]; done) | decide +kernel
set_option maxRecDepth 65536 in
set_option maxHeartbeats 40000000 in
theorem rm5_1 (l : Launch) (Z : State) (a0 : Array Value) (hw : ∀ d ∈ tables_1, d.before a0 Z = true) (ws : List Jvm.Cond) (o1 : Addr) (o2 : Addr) (kd1 : ClassId) (kd2 : ClassId) (c1 : Int32) (h0 : Heap) (n0 : Nat) (Z0 : n0 ≤ h0.size) (F0 : Arv Z h0 o1 kd1 .char (1 : Int32) [(.int c1)] (.int (0 : Int32))) (F1 : Arv Z h0 o2 kd2 .byte (1 : Int32) [(.int (0 : Int32))] (.int (0 : Int32))) (gn_o2 : n0 ≤ o2) (la1 : ¬ (255 : Int32) < c1) (ne_o1_o2 : o1 ≠ o2) :
    MetFree l (⟨"java/lang/StringUTF16", "compress", "([CI[BII)I"⟩ : MethodName) (head1 (Jvm.Cond.code (⟨"java/lang/StringUTF16", "compress", "([CI[BII)I"⟩ : MethodName) jdk_52_method_21_code 7 (some .int) :: ws) ({ frames := 0, cells := 0, slots := 0, locals := 0 } : Room)) (fun a U => a = #[(.ref o1), (.int (0 : Int32)), (.ref o2), (.int (0 : Int32)), (.int (1 : Int32))] ∧ Z.Warmed39 U.vm ∧ U.heap = h0) (fun _ _ _ _ _ => True) (fun _ U o U' => ∃ v L, o = .returned v ∧ Q5_1 Z o1 o2 kd1 kd2 c1 h0 n0 v U'.heap L ∧ FrameEnd U o U' L ({ frames := 0, cells := 0, slots := 0, locals := 0 } : Room).cells ({ frames := 0, cells := 0, slots := 0, locals := 0 } : Room).slots) := by
  refine body_of (y := (⟨"java/lang/StringUTF16", "compress", "([CI[BII)I"⟩ : MethodName)) (Q := Q5_1 Z o1 o2 kd1 kd2 c1 h0 n0) (plainFor_of_name pn_4) ?_
  intro p e s m below meth c T0 G C hnm hnamed X0 e0 K
  have N0 := Fr.nil n0
  refine Goes.to (congrArg T0.setTop (ef_5l1_0l3_0l4_1 m o1 o2)) ?_
  have K00 := Keep.refl h0 [o2]
  refine g_iconst C X0 d5_0 (pc' := 1) rfl (v := 0) rfl ?_
  refine g_istore C X0 d5_1 (pc' := 3) rfl (w := (0 : Int32)) rfl (ls' := #[.val (.ref o1), .val (.int (0 : Int32)), .val (.ref o2), .val (.int (0 : Int32)), .val (.int (1 : Int32)), .val (.int (0 : Int32)), .unset]) rfl ?_
  refine g_iload C X0 d5_3 (pc' := 5) rfl rfl ?_
  refine g_iload C X0 d5_5 (pc' := 7) rfl rfl ?_
  refine g_icmp_ge C X0 d5_7 (pcT := 44) (pcN := 10) (by decide) (by decide) rfl (fun hc7 => absurd hc7 (by decide)) (fun hc7 => ?_)
  refine g_aloadN C X0 d5_10 (pc' := 11) rfl rfl rfl ?_
  refine g_iloadN C X0 d5_11 (pc' := 12) rfl rfl ?_
  refine g_caload C X0 e0 F0 (by decide) (v := (.int c1)) rfl d5_12 (pc' := 13) rfl ?_
  refine g_istore C X0 d5_13 (pc' := 15) rfl (w := c1) rfl (ls' := #[.val (.ref o1), .val (.int (0 : Int32)), .val (.ref o2), .val (.int (0 : Int32)), .val (.int (1 : Int32)), .val (.int (0 : Int32)), .val (.int c1)]) rfl ?_
  refine g_iload C X0 d5_15 (pc' := 17) rfl rfl ?_
  refine g_sipush C X0 d5_17 (pc' := 20) rfl (v := 255) rfl ?_
  refine g_icmp_le C X0 d5_20 (pcT := 26) (pcN := 23) (by decide) (by decide) rfl (fun hc20 => ?_) (fun hc20 => absurd hc20 la1)
  refine g_aloadN C X0 d5_26 (pc' := 27) rfl rfl rfl ?_
  refine g_iloadN C X0 d5_27 (pc' := 28) rfl rfl ?_
  refine g_iload C X0 d5_28 (pc' := 30) rfl rfl ?_
  refine g_i2b C X0 d5_30 (pc' := 31) rfl ?_
  refine g_bastore C X0 (i := 0) e0 F1 (by decide) rfl (Nat.le_of_ble_eq_true rfl) d5_31 (pc' := 32) rfl (fun T1 h1 X1 e1 W1 A1 => ?_)
  have f2 := F0.other W1 ne_o1_o2
  have f3 : Arv Z h1 o2 kd2 .byte (1 : Int32) [(.int (nar .byte c1.toInt8.toInt32))] (.int (0 : Int32)) := A1
  have N1 := Fr.snoc X1 N0 gn_o2
  have Z1 := Nat.le_trans Z0 (Nat.le_of_eq W1.size.symm)
  have K1 := K00.wr W1 (Or.inl (List.mem_of_getElem? (i := 0) rfl))
  refine g_iinc C X1 d5_32 (pc' := 35) rfl rfl (w := (1 : Int32)) rfl (ls' := #[.val (.ref o1), .val (.int (1 : Int32)), .val (.ref o2), .val (.int (0 : Int32)), .val (.int (1 : Int32)), .val (.int (0 : Int32)), .val (.int c1)]) rfl ?_
  refine g_iinc C X1 d5_35 (pc' := 38) rfl rfl (w := (1 : Int32)) rfl (ls' := #[.val (.ref o1), .val (.int (1 : Int32)), .val (.ref o2), .val (.int (1 : Int32)), .val (.int (1 : Int32)), .val (.int (0 : Int32)), .val (.int c1)]) rfl ?_
  refine g_iinc C X1 d5_38 (pc' := 41) rfl rfl (w := (1 : Int32)) rfl (ls' := #[.val (.ref o1), .val (.int (1 : Int32)), .val (.ref o2), .val (.int (1 : Int32)), .val (.int (1 : Int32)), .val (.int (1 : Int32)), .val (.int c1)]) rfl ?_
  refine g_goto C X1 d5_41 (pc' := 3) (by decide) (by decide) ?_
  refine g_iload C X1 d5_3 (pc' := 5) rfl rfl ?_
  refine g_iload C X1 d5_5 (pc' := 7) rfl rfl ?_
  refine g_icmp_ge C X1 d5_7 (pcT := 44) (pcN := 10) (by decide) (by decide) rfl (fun hc7 => ?_) (fun hc7 => absurd hc7 (by decide))
  refine g_iload C X1 d5_44 (pc' := 46) rfl rfl ?_
  exact g_retI C X1 K d5_46 (by decide) (by decide) e1 ⟨rfl, N1, K1, f3⟩
theorem ef_4l1_0l2_1 (m : MethodId) (o1 : Addr) : entryFrame m #[(.ref o1), (.int (0 : Int32)), (.int (1 : Int32))] 6 = mkF m 0 #[.val (.ref o1), .val (.int (0 : Int32)), .val (.int (1 : Int32)), .unset, .unset, .unset] [] := by first | (simp [entryFrame, mkF, argsToLocals, Value.category]; done) | rfl
theorem d4_0 : decode jdk_52_method_16_code 0 = .ok (.iload_n 2, 1) := by decide +kernel
theorem d4_1 : decode jdk_52_method_16_code 1 = .ok (.newarray .byte, 2) := by decide +kernel
theorem w_20 {Z : State} {a0 : Array Value} (hw : ∀ d ∈ tables_1, d.before a0 Z = true) : Jvm.Cond.before (Jvm.Cond.arrayClass Jvm.ClassFile.FieldType.byte) a0 Z = true := hw _ (List.mem_of_getElem? (i := 20) rfl)
theorem d4_3 : decode jdk_52_method_16_code 3 = .ok (.astore_n 3, 1) := by decide +kernel
theorem d4_4 : decode jdk_52_method_16_code 4 = .ok (.aload_n 0, 1) := by decide +kernel
theorem d4_5 : decode jdk_52_method_16_code 5 = .ok (.iload_n 1, 1) := by decide +kernel
theorem d4_6 : decode jdk_52_method_16_code 6 = .ok (.aload_n 3, 1) := by decide +kernel
theorem d4_7 : decode jdk_52_method_16_code 7 = .ok (.iconst 0, 1) := by decide +kernel
theorem d4_8 : decode jdk_52_method_16_code 8 = .ok (.iload_n 2, 1) := by decide +kernel
theorem d4_9 : decode jdk_52_method_16_code 9 = .ok (.invokestatic 115, 3) := by decide +kernel
theorem w_23 {Z : State} {a0 : Array Value} (hw : ∀ d ∈ tables_1, d.before a0 Z = true) : Jvm.Cond.before (Jvm.Cond.code ({ cls := "java/lang/StringUTF16", name := "compress", desc := "([CI[BII)I" } : Jvm.MethodName) jdk_52_method_21_code (7 : Nat) (Option.some Jvm.ClassFile.FieldType.int)) a0 Z = true := hw _ (List.mem_of_getElem? (i := 23) rfl)
theorem w_18 {Z : State} {a0 : Array Value} (hw : ∀ d ∈ tables_1, d.before a0 Z = true) : Jvm.Cond.before (Jvm.Cond.initialized "java/lang/StringUTF16") a0 Z = true := hw _ (List.mem_of_getElem? (i := 18) rfl)
theorem w_21 {Z : State} {a0 : Array Value} (hw : ∀ d ∈ tables_1, d.before a0 Z = true) : Jvm.Cond.before (Jvm.Cond.methodLink "java/lang/StringUTF16" (115 : Nat) ({ cls := "java/lang/StringUTF16", name := "compress", desc := "([CI[BII)I" } : Jvm.MethodName)) a0 Z = true := hw _ (List.mem_of_getElem? (i := 21) rfl)
theorem pd_0 : parseMethodDescriptor "([CI[BII)I" = some ⟨[(.array .char), .int, (.array .byte), .int, .int], some .int⟩ := by decide +kernel
theorem w_22 {Z : State} {a0 : Array Value} (hw : ∀ d ∈ tables_1, d.before a0 Z = true) : Jvm.Cond.before (Jvm.Cond.static ({ cls := "java/lang/StringUTF16", name := "compress", desc := "([CI[BII)I" } : Jvm.MethodName)) a0 Z = true := hw _ (List.mem_of_getElem? (i := 22) rfl)
theorem d4_12 : decode jdk_52_method_16_code 12 = .ok (.istore 4, 2) := by decide +kernel
theorem d4_14 : decode jdk_52_method_16_code 14 = .ok (.iload 4, 2) := by decide +kernel
theorem d4_16 : decode jdk_52_method_16_code 16 = .ok (.iload_n 2, 1) := by decide +kernel
theorem d4_17 : decode jdk_52_method_16_code 17 = .ok (.if_icmp .eq 40, 3) := by decide +kernel
theorem d4_57 : decode jdk_52_method_16_code 57 = .ok (.aload_n 3, 1) := by decide +kernel
theorem d4_58 : decode jdk_52_method_16_code 58 = .ok (.areturn, 1) := by decide +kernel
def Q4_1 (Z : State) (o1 : Addr) (kd1 : ClassId) (c1 : Int32) (h0 : Heap) (n0 : Nat) (v : Option Value) (h : Heap) (L : List Loc) : Prop := ∃ (o3 : Addr) (kd3 : ClassId), v = some (.ref o3) ∧ Fr n0 L ∧ h0.size ≤ o3 ∧ Keep h0 h [] ∧ Arv Z h o3 kd3 .byte (1 : Int32) [(.int (nar .byte c1.toInt8.toInt32))] (.int (0 : Int32))
set_option maxRecDepth 65536 in
set_option maxHeartbeats 40000000 in
theorem rm4_1 (l : Launch) (Z : State) (a0 : Array Value) (hw : ∀ d ∈ tables_1, d.before a0 Z = true) (ws : List Jvm.Cond) (o1 : Addr) (kd1 : ClassId) (c1 : Int32) (h0 : Heap) (n0 : Nat) (Z0 : n0 ≤ h0.size) (F0 : Arv Z h0 o1 kd1 .char (1 : Int32) [(.int c1)] (.int (0 : Int32))) (la1 : ¬ (255 : Int32) < c1) :
    MetFree l (⟨"java/lang/StringUTF16", "compress", "([CII)[B"⟩ : MethodName) (head1 (Jvm.Cond.code (⟨"java/lang/StringUTF16", "compress", "([CII)[B"⟩ : MethodName) jdk_52_method_16_code 6 (some (.array .byte)) :: ws) ({ frames := 1, cells := 1, slots := 1, locals := 18 } : Room)) (fun a U => a = #[(.ref o1), (.int (0 : Int32)), (.int (1 : Int32))] ∧ Z.Warmed39 U.vm ∧ U.heap = h0) (fun _ _ _ _ _ => True) (fun _ U o U' => ∃ v L, o = .returned v ∧ Q4_1 Z o1 kd1 c1 h0 n0 v U'.heap L ∧ FrameEnd U o U' L ({ frames := 1, cells := 1, slots := 1, locals := 18 } : Room).cells ({ frames := 1, cells := 1, slots := 1, locals := 18 } : Room).slots) := by
  refine body_of (y := (⟨"java/lang/StringUTF16", "compress", "([CII)[B"⟩ : MethodName)) (Q := Q4_1 Z o1 kd1 c1 h0 n0) (plainFor_of_name pn_4) ?_
  intro p e s m below meth c T0 G C hnm hnamed X0 e0 K
  have N0 := Fr.nil n0
  refine Goes.to (congrArg T0.setTop (ef_4l1_0l2_1 m o1)) ?_
  have K00 := Keep.refl h0 []
  refine g_iloadN C X0 d4_0 (pc' := 1) rfl rfl ?_
  refine g_newA (aty := .byte) (n := (1 : Int32)) C X0 (cap := 1) (w_20 hw) e0 d4_1 (pc' := 3) rfl (by decide) (by decide) (by decide) (by decide) (by decide) (fun T1 h1 b1 ki1 X1 e1 g1 E1 A1 => ?_)
  have n2 : o1 ≠ b1 := Nat.ne_of_lt (Nat.lt_of_lt_of_eq F0.lt g1.symm)
  have f3 := F0.ext E1
  have gn_b1 : n0 ≤ b1 := Nat.le_trans Z0 (Nat.le_of_eq g1.symm)
  have Z1 := Nat.le_trans Z0 E1.1
  have sz_b1 : h0.size ≤ b1 := Nat.le_trans K00.1 (Nat.le_of_eq g1.symm)
  have K1 := K00.ext E1
  have f4 : Arv Z h1 b1 ki1 .byte (1 : Int32) [(.int (0 : Int32))] (.int (0 : Int32)) := A1.pad (pad_rep [] (.int (0 : Int32)) 1)
  refine g_astoreN C X1 d4_3 (pc' := 4) rfl rfl (ls' := #[.val (.ref o1), .val (.int (0 : Int32)), .val (.int (1 : Int32)), .val (.ref b1), .unset, .unset]) rfl ?_
  refine g_aloadN C X1 d4_4 (pc' := 5) rfl rfl rfl ?_
  refine g_iloadN C X1 d4_5 (pc' := 6) rfl rfl ?_
  refine g_aloadN C X1 d4_6 (pc' := 7) rfl rfl rfl ?_
  refine g_iconst C X1 d4_7 (pc' := 8) rfl (v := 0) rfl ?_
  refine g_iloadN C X1 d4_8 (pc' := 9) rfl rfl ?_
  refine g_callS C X1 (w_21 hw) (w_22 hw) (w_18 hw) (w_23 hw) (by decide) d4_9 (rm5_1 l Z a0 hw [] o1 b1 kd1 ki1 c1 h1 n0 Z1 f3 f4 gn_b1 la1 n2) (by decide) (by decide) rfl pd_0 rfl (argsL := [(.ref o1), (.int (0 : Int32)), (.ref b1), (.int (0 : Int32)), (.int (1 : Int32))]) (rest := []) rfl (W := 0) (Nat.le_of_eq rfl) e1 (by decide) (by decide) (pc' := 12) rfl (fun u5 T5 L5 X5 hQ5 => ?_)
  obtain ⟨rfl, Nq5, Kq5, q5_0⟩ := hQ5
  have N5 := Fr.app N0 Nq5
  have f6 := f3.keep Kq5 (ninS n2 nin0)
  have Z5 := Nat.le_trans Z1 Kq5.1
  have K5 := K1.trans Kq5 (allS (Or.inr sz_b1) all0)
  show Goes p.tables e below G (T5.setTop (mkF m 12 #[.val (.ref o1), .val (.int (0 : Int32)), .val (.int (1 : Int32)), .val (.ref b1), .unset, .unset] [(.int (1 : Int32))]))
  refine g_istore C X5 d4_12 (pc' := 14) rfl (w := (1 : Int32)) rfl (ls' := #[.val (.ref o1), .val (.int (0 : Int32)), .val (.int (1 : Int32)), .val (.ref b1), .val (.int (1 : Int32)), .unset]) rfl ?_
  refine g_iload C X5 d4_14 (pc' := 16) rfl rfl ?_
  refine g_iloadN C X5 d4_16 (pc' := 17) rfl rfl ?_
  refine g_icmp_eq C X5 d4_17 (pcT := 57) (pcN := 20) (by decide) (by decide) rfl (fun hc17 => ?_) (fun hc17 => absurd hc17 (by decide))
  refine g_aloadN C X5 d4_57 (pc' := 58) rfl rfl rfl ?_
  exact g_retA C X5 K rfl rfl rfl d4_58 (by decide) (by decide) rfl ⟨b1, ki1, rfl, N5, sz_b1, K5, q5_0⟩
theorem ef_6l1_1 (m : MethodId) (o1 : Addr) : entryFrame m #[(.ref o1), (.int (1 : Int32))] 2 = mkF m 0 #[.val (.ref o1), .val (.int (1 : Int32))] [] := by first | (simp [entryFrame, mkF, argsToLocals, Value.category]; done) | rfl
theorem d6_0 : decode jdk_52_method_15_code 0 = .ok (.iload_n 1, 1) := by decide +kernel
theorem d6_1 : decode jdk_52_method_15_code 1 = .ok (.aload_n 0, 1) := by decide +kernel
theorem d6_2 : decode jdk_52_method_15_code 2 = .ok (.arraylength, 1) := by decide +kernel
theorem d6_3 : decode jdk_52_method_15_code 3 = .ok (.isub, 1) := by decide +kernel
theorem d6_4 : decode jdk_52_method_15_code 4 = .ok (.bipush 31, 2) := by decide +kernel
theorem d6_6 : decode jdk_52_method_15_code 6 = .ok (.iushr, 1) := by decide +kernel
theorem d6_7 : decode jdk_52_method_15_code 7 = .ok (.i2b, 1) := by decide +kernel
theorem d6_8 : decode jdk_52_method_15_code 8 = .ok (.ireturn, 1) := by decide +kernel
def Q6_1 (Z : State) (o1 : Addr) (kd1 : ClassId) (c1 : Int32) (h0 : Heap) (n0 : Nat) (v : Option Value) (h : Heap) (L : List Loc) : Prop := v = some (.int (0 : Int32)) ∧ Fr n0 L ∧ h = h0
set_option maxRecDepth 65536 in
set_option maxHeartbeats 40000000 in
theorem rm6_1 (l : Launch) (Z : State) (a0 : Array Value) (hw : ∀ d ∈ tables_1, d.before a0 Z = true) (ws : List Jvm.Cond) (o1 : Addr) (kd1 : ClassId) (c1 : Int32) (h0 : Heap) (n0 : Nat) (Z0 : n0 ≤ h0.size) (F0 : Arv Z h0 o1 kd1 .byte (1 : Int32) [(.int c1)] (.int (0 : Int32))) :
    MetFree l (⟨"java/lang/StringUTF16", "coderFromArrayLen", "([BI)B"⟩ : MethodName) (head1 (Jvm.Cond.code (⟨"java/lang/StringUTF16", "coderFromArrayLen", "([BI)B"⟩ : MethodName) jdk_52_method_15_code 2 (some .byte) :: ws) ({ frames := 0, cells := 0, slots := 0, locals := 0 } : Room)) (fun a U => a = #[(.ref o1), (.int (1 : Int32))] ∧ Z.Warmed39 U.vm ∧ U.heap = h0) (fun _ _ _ _ _ => True) (fun _ U o U' => ∃ v L, o = .returned v ∧ Q6_1 Z o1 kd1 c1 h0 n0 v U'.heap L ∧ FrameEnd U o U' L ({ frames := 0, cells := 0, slots := 0, locals := 0 } : Room).cells ({ frames := 0, cells := 0, slots := 0, locals := 0 } : Room).slots) := by
  refine body_of (y := (⟨"java/lang/StringUTF16", "coderFromArrayLen", "([BI)B"⟩ : MethodName)) (Q := Q6_1 Z o1 kd1 c1 h0 n0) (plainFor_of_name pn_4) ?_
  intro p e s m below meth c T0 G C hnm hnamed X0 e0 K
  have N0 := Fr.nil n0
  refine Goes.to (congrArg T0.setTop (ef_6l1_1 m o1)) ?_
  refine g_iloadN C X0 d6_0 (pc' := 1) rfl rfl ?_
  refine g_aloadN C X0 d6_1 (pc' := 2) rfl rfl rfl ?_
  refine g_arraylength C X0 e0 F0 d6_2 (pc' := 3) rfl ?_
  refine g_isub C X0 d6_3 (pc' := 4) rfl ?_
  refine g_bipush C X0 d6_4 (pc' := 6) rfl (v := 31) rfl ?_
  refine g_iushr C X0 d6_6 (pc' := 7) rfl ?_
  refine g_i2b C X0 d6_7 (pc' := 8) rfl ?_
  exact g_retN C X0 K (by simp) d6_8 (by decide) (by decide) e0 ⟨(by decide), N0, rfl⟩
theorem ef_2l2_0l3_1n4 (m : MethodId) (o1 : Addr) (o2 : Addr) : entryFrame m #[(.ref o1), (.ref o2), (.int (0 : Int32)), (.int (1 : Int32)), .null] 6 = mkF m 0 #[.val (.ref o1), .val (.ref o2), .val (.int (0 : Int32)), .val (.int (1 : Int32)), .val .null, .unset] [] := by first | (simp [entryFrame, mkF, argsToLocals, Value.category]; done) | rfl
theorem d2_0 : decode jdk_42_method_149_code 0 = .ok (.aload_n 0, 1) := by decide +kernel
theorem d2_1 : decode jdk_42_method_149_code 1 = .ok (.invokespecial 1, 3) := by decide +kernel
theorem w_12 {Z : State} {a0 : Array Value} (hw : ∀ d ∈ tables_1, d.before a0 Z = true) : Jvm.Cond.before (Jvm.Cond.methodLink "java/lang/String" (1 : Nat) ({ cls := "java/lang/Object", name := "<init>", desc := "()V" } : Jvm.MethodName)) a0 Z = true := hw _ (List.mem_of_getElem? (i := 12) rfl)
theorem w_13 {Z : State} {a0 : Array Value} (hw : ∀ d ∈ tables_1, d.before a0 Z = true) : Jvm.Cond.before (Jvm.Cond.instanceMethod ({ cls := "java/lang/Object", name := "<init>", desc := "()V" } : Jvm.MethodName)) a0 Z = true := hw _ (List.mem_of_getElem? (i := 13) rfl)
theorem w_14 {Z : State} {a0 : Array Value} (hw : ∀ d ∈ tables_1, d.before a0 Z = true) : Jvm.Cond.before (Jvm.Cond.code ({ cls := "java/lang/Object", name := "<init>", desc := "()V" } : Jvm.MethodName) object_method_1_code (1 : Nat) (Option.none : Option Jvm.ClassFile.FieldType)) a0 Z = true := hw _ (List.mem_of_getElem? (i := 14) rfl)
theorem d2_4 : decode jdk_42_method_149_code 4 = .ok (.iload_n 3, 1) := by decide +kernel
theorem d2_5 : decode jdk_42_method_149_code 5 = .ok (.ifCond .ne 22, 3) := by decide +kernel
theorem d2_27 : decode jdk_42_method_149_code 27 = .ok (.getstatic 38, 3) := by decide +kernel
theorem w_15 {Z : State} {a0 : Array Value} (hw : ∀ d ∈ tables_1, d.before a0 Z = true) : Jvm.Cond.before (Jvm.Cond.fieldLink "java/lang/String" (38 : Nat) "java/lang/String" "COMPACT_STRINGS" "Z") a0 Z = true := hw _ (List.mem_of_getElem? (i := 15) rfl)
theorem d2_30 : decode jdk_42_method_149_code 30 = .ok (.ifCond .eq 28, 3) := by decide +kernel
theorem d2_33 : decode jdk_42_method_149_code 33 = .ok (.aload_n 1, 1) := by decide +kernel
theorem d2_34 : decode jdk_42_method_149_code 34 = .ok (.iload_n 2, 1) := by decide +kernel
theorem d2_35 : decode jdk_42_method_149_code 35 = .ok (.iload_n 3, 1) := by decide +kernel
theorem d2_36 : decode jdk_42_method_149_code 36 = .ok (.invokestatic 177, 3) := by decide +kernel
theorem w_19 {Z : State} {a0 : Array Value} (hw : ∀ d ∈ tables_1, d.before a0 Z = true) : Jvm.Cond.before (Jvm.Cond.code ({ cls := "java/lang/StringUTF16", name := "compress", desc := "([CII)[B" } : Jvm.MethodName) jdk_52_method_16_code (6 : Nat) (Option.some (Jvm.ClassFile.FieldType.array Jvm.ClassFile.FieldType.byte))) a0 Z = true := hw _ (List.mem_of_getElem? (i := 19) rfl)
theorem w_16 {Z : State} {a0 : Array Value} (hw : ∀ d ∈ tables_1, d.before a0 Z = true) : Jvm.Cond.before (Jvm.Cond.methodLink "java/lang/String" (177 : Nat) ({ cls := "java/lang/StringUTF16", name := "compress", desc := "([CII)[B" } : Jvm.MethodName)) a0 Z = true := hw _ (List.mem_of_getElem? (i := 16) rfl)
theorem pd_1 : parseMethodDescriptor "([CII)[B" = some ⟨[(.array .char), .int, .int], some (.array .byte)⟩ := by decide +kernel
theorem w_17 {Z : State} {a0 : Array Value} (hw : ∀ d ∈ tables_1, d.before a0 Z = true) : Jvm.Cond.before (Jvm.Cond.static ({ cls := "java/lang/StringUTF16", name := "compress", desc := "([CII)[B" } : Jvm.MethodName)) a0 Z = true := hw _ (List.mem_of_getElem? (i := 17) rfl)
theorem d2_39 : decode jdk_42_method_149_code 39 = .ok (.astore 5, 2) := by decide +kernel
theorem d2_41 : decode jdk_42_method_149_code 41 = .ok (.aload_n 0, 1) := by decide +kernel
theorem d2_42 : decode jdk_42_method_149_code 42 = .ok (.aload 5, 2) := by decide +kernel
theorem d2_44 : decode jdk_42_method_149_code 44 = .ok (.iload_n 3, 1) := by decide +kernel
theorem d2_45 : decode jdk_42_method_149_code 45 = .ok (.invokestatic 47, 3) := by decide +kernel
theorem w_26 {Z : State} {a0 : Array Value} (hw : ∀ d ∈ tables_1, d.before a0 Z = true) : Jvm.Cond.before (Jvm.Cond.code ({ cls := "java/lang/StringUTF16", name := "coderFromArrayLen", desc := "([BI)B" } : Jvm.MethodName) jdk_52_method_15_code (2 : Nat) (Option.some Jvm.ClassFile.FieldType.byte)) a0 Z = true := hw _ (List.mem_of_getElem? (i := 26) rfl)
theorem w_24 {Z : State} {a0 : Array Value} (hw : ∀ d ∈ tables_1, d.before a0 Z = true) : Jvm.Cond.before (Jvm.Cond.methodLink "java/lang/String" (47 : Nat) ({ cls := "java/lang/StringUTF16", name := "coderFromArrayLen", desc := "([BI)B" } : Jvm.MethodName)) a0 Z = true := hw _ (List.mem_of_getElem? (i := 24) rfl)
theorem pd_2 : parseMethodDescriptor "([BI)B" = some ⟨[(.array .byte), .int], some .byte⟩ := by decide +kernel
theorem w_25 {Z : State} {a0 : Array Value} (hw : ∀ d ∈ tables_1, d.before a0 Z = true) : Jvm.Cond.before (Jvm.Cond.static ({ cls := "java/lang/StringUTF16", name := "coderFromArrayLen", desc := "([BI)B" } : Jvm.MethodName)) a0 Z = true := hw _ (List.mem_of_getElem? (i := 25) rfl)
theorem d2_48 : decode jdk_42_method_149_code 48 = .ok (.putfield 15, 3) := by decide +kernel
theorem w_28 {Z : State} {a0 : Array Value} (hw : ∀ d ∈ tables_1, d.before a0 Z = true) : Jvm.Cond.before (Jvm.Cond.laysFinal "java/lang/String" "java/lang/String" "coder" "B") a0 Z = true := hw _ (List.mem_of_getElem? (i := 28) rfl)
theorem w_27 {Z : State} {a0 : Array Value} (hw : ∀ d ∈ tables_1, d.before a0 Z = true) : Jvm.Cond.before (Jvm.Cond.fieldLink "java/lang/String" (15 : Nat) "java/lang/String" "coder" "B") a0 Z = true := hw _ (List.mem_of_getElem? (i := 27) rfl)
theorem w_3 {Z : State} {a0 : Array Value} (hw : ∀ d ∈ tables_1, d.before a0 Z = true) : Jvm.Cond.before (Jvm.Cond.instantiable "java/lang/String" (4 : Nat)) a0 Z = true := hw _ (List.mem_of_getElem? (i := 3) rfl)
theorem w_30 {Z : State} {a0 : Array Value} (hw : ∀ d ∈ tables_1, d.before a0 Z = true) : Jvm.Cond.before (Jvm.Cond.laysFinal "java/lang/String" "java/lang/String" "value" "[B") a0 Z = true := hw _ (List.mem_of_getElem? (i := 30) rfl)
theorem d2_51 : decode jdk_42_method_149_code 51 = .ok (.aload_n 0, 1) := by decide +kernel
theorem d2_52 : decode jdk_42_method_149_code 52 = .ok (.aload 5, 2) := by decide +kernel
theorem d2_54 : decode jdk_42_method_149_code 54 = .ok (.putfield 9, 3) := by decide +kernel
theorem w_29 {Z : State} {a0 : Array Value} (hw : ∀ d ∈ tables_1, d.before a0 Z = true) : Jvm.Cond.before (Jvm.Cond.fieldLink "java/lang/String" (9 : Nat) "java/lang/String" "value" "[B") a0 Z = true := hw _ (List.mem_of_getElem? (i := 29) rfl)
theorem d2_57 : decode jdk_42_method_149_code 57 = .ok (.return_, 1) := by decide +kernel
def Q2_1 (Z : State) (o1 : Addr) (o2 : Addr) (kd1 : ClassId) (c1 : Int32) (cs1 : Int32) (h0 : Heap) (n0 : Nat) (v : Option Value) (h : Heap) (L : List Loc) : Prop := ∃ (o3 : Addr) (kd3 : ClassId), v = none ∧ Fr n0 L ∧ h0.size ≤ o3 ∧ Keep h0 h [o1] ∧ Exa Z h o1 "java/lang/String" ∧ Fld Z h o1 "java/lang/String" "value" "[B" (.ref o3) ∧ Fld Z h o1 "java/lang/String" "coder" "B" (.int (0 : Int32)) ∧ Arv Z h o3 kd3 .byte (1 : Int32) [(.int (nar .byte c1.toInt8.toInt32))] (.int (0 : Int32))
theorem pn_1 : plainName "java/lang/String" = true := by first | (simp [plainName, overriddenIn]; done) | decide +kernel
set_option maxRecDepth 65536 in
set_option maxHeartbeats 40000000 in
theorem rm2_1 (l : Launch) (Z : State) (a0 : Array Value) (hw : ∀ d ∈ tables_1, d.before a0 Z = true) (ws : List Jvm.Cond) (o1 : Addr) (o2 : Addr) (kd1 : ClassId) (c1 : Int32) (cs1 : Int32) (h0 : Heap) (n0 : Nat) (Z0 : n0 ≤ h0.size) (F0 : Exa Z h0 o1 "java/lang/String") (F1 : Fld Z h0 o1 "java/lang/String" "value" "[B" .null) (F2 : Fld Z h0 o1 "java/lang/String" "coder" "B" (.int (0 : Int32))) (F3 : Arv Z h0 o2 kd1 .char (1 : Int32) [(.int c1)] (.int (0 : Int32))) (F4 : Sta Z h0 "java/lang/String" "COMPACT_STRINGS" "Z" (.int cs1)) (gn_o1 : n0 ≤ o1) (la1 : ¬ (255 : Int32) < c1) (hcs : ¬ cs1 = (0 : Int32)) (ne_o1_o2 : o1 ≠ o2) :
    MetFree l (⟨"java/lang/String", "<init>", "([CIILjava/lang/Void;)V"⟩ : MethodName) (head1 (Jvm.Cond.code (⟨"java/lang/String", "<init>", "([CIILjava/lang/Void;)V"⟩ : MethodName) jdk_42_method_149_code 6 none :: ws) ({ frames := 2, cells := 1, slots := 1, locals := 35 } : Room)) (fun a U => a = #[(.ref o1), (.ref o2), (.int (0 : Int32)), (.int (1 : Int32)), .null] ∧ Z.Warmed39 U.vm ∧ U.heap = h0) (fun _ _ _ _ _ => True) (fun _ U o U' => ∃ v L, o = .returned v ∧ Q2_1 Z o1 o2 kd1 c1 cs1 h0 n0 v U'.heap L ∧ FrameEnd U o U' L ({ frames := 2, cells := 1, slots := 1, locals := 35 } : Room).cells ({ frames := 2, cells := 1, slots := 1, locals := 35 } : Room).slots) := by
  refine body_of (y := (⟨"java/lang/String", "<init>", "([CIILjava/lang/Void;)V"⟩ : MethodName)) (Q := Q2_1 Z o1 o2 kd1 c1 cs1 h0 n0) (plainFor_of_name pn_1) ?_
  intro p e s m below meth c T0 G C hnm hnamed X0 e0 K
  have N0 := Fr.nil n0
  refine Goes.to (congrArg T0.setTop (ef_2l2_0l3_1n4 m o1 o2)) ?_
  have K00 := Keep.refl h0 [o1]
  refine g_aloadN C X0 d2_0 (pc' := 1) rfl rfl rfl ?_
  refine g_initO C X0 (w_12 hw) (w_13 hw) (w_14 hw) e0 rfl d2_1 (pc' := 4) rfl (by decide) (W := 0) (Nat.le_of_eq rfl) (by decide) (fun T1 X1 e1 => ?_)
  refine g_iloadN C X1 d2_4 (pc' := 5) rfl rfl ?_
  refine g_if_ne C X1 d2_5 (pcT := 27) (pcN := 8) (by decide) (by decide) rfl (fun hc5 => ?_) (fun hc5 => absurd hc5 (by decide))
  refine g_getS C X1 (w_15 hw) Via.refl e1 F4 d2_27 (pc' := 30) rfl (fun T2 X2 e2 => ?_)
  refine g_if_eq C X2 d2_30 (pcT := 58) (pcN := 33) (by decide) (by decide) rfl (fun hc30 => absurd hc30 hcs) (fun hc30 => ?_)
  refine g_aloadN C X2 d2_33 (pc' := 34) rfl rfl rfl ?_
  refine g_iloadN C X2 d2_34 (pc' := 35) rfl rfl ?_
  refine g_iloadN C X2 d2_35 (pc' := 36) rfl rfl ?_
  refine g_callS C X2 (w_16 hw) (w_17 hw) (w_18 hw) (w_19 hw) (by decide) d2_36 (rm4_1 l Z a0 hw [] o2 kd1 c1 h0 n0 Z0 F3 la1) (by decide) (by decide) rfl pd_1 rfl (argsL := [(.ref o2), (.int (0 : Int32)), (.int (1 : Int32))]) (rest := []) rfl (W := 0) (Nat.le_of_eq rfl) e2 (by decide) (by decide) (pc' := 39) rfl (fun u3 T3 L3 X3 hQ3 => ?_)
  obtain ⟨o33, kd33, rfl, Nq3, szo33, Kq3, q3_0⟩ := hQ3
  have N3 := Fr.app N0 Nq3
  have n4 : o1 ≠ o33 := Nat.ne_of_lt (Nat.lt_of_lt_of_le F0.lt szo33)
  have n5 : o2 ≠ o33 := Nat.ne_of_lt (Nat.lt_of_lt_of_le F3.lt szo33)
  have f6 := F0.keep Kq3
  have f7 := F1.keep Kq3 nin0
  have f8 := F2.keep Kq3 nin0
  have f9 := F3.keep Kq3 nin0
  have f10 := Sta.keepN F4 Kq3 all0
  have gn_o33 : n0 ≤ o33 := Nat.le_trans Z0 szo33
  have Z3 := Nat.le_trans Z0 Kq3.1
  have sz_o33 : h0.size ≤ o33 := Nat.le_trans K00.1 szo33
  have K3 := K00.trans Kq3 all0
  show Goes p.tables e below G (T3.setTop (mkF m 39 #[.val (.ref o1), .val (.ref o2), .val (.int (0 : Int32)), .val (.int (1 : Int32)), .val .null, .unset] [(.ref o33)]))
  refine g_astore C X3 d2_39 (pc' := 41) rfl rfl (ls' := #[.val (.ref o1), .val (.ref o2), .val (.int (0 : Int32)), .val (.int (1 : Int32)), .val .null, .val (.ref o33)]) rfl ?_
  refine g_aloadN C X3 d2_41 (pc' := 42) rfl rfl rfl ?_
  refine g_aload C X3 d2_42 (pc' := 44) rfl rfl rfl ?_
  refine g_iloadN C X3 d2_44 (pc' := 45) rfl rfl ?_
  refine g_callS C X3 (w_24 hw) (w_25 hw) (w_18 hw) (w_26 hw) (by decide) d2_45 (rm6_1 l Z a0 hw [] o33 kd33 (nar .byte c1.toInt8.toInt32) T3.heap n0 Z3 q3_0) (by decide) (by decide) rfl pd_2 rfl (argsL := [(.ref o33), (.int (1 : Int32))]) (rest := [(.ref o1)]) rfl (W := 1) (Nat.le_of_eq rfl) rfl (by decide) (by decide) (pc' := 48) rfl (fun u11 T11 L11 X11 hQ11 => ?_)
  obtain ⟨rfl, Nq11, eq11⟩ := hQ11
  have N11 := Fr.app N3 Nq11
  show Goes p.tables e below G (T11.setTop (mkF m 48 #[.val (.ref o1), .val (.ref o2), .val (.int (0 : Int32)), .val (.int (1 : Int32)), .val .null, .val (.ref o33)] [(.int (0 : Int32)), (.ref o1)]))
  refine g_putFN C X11 (w_27 hw) Via.refl eq11 f8 f6 (Or.inr ⟨(w_28 hw), rfl, hnm⟩) (w_3 hw) (ty := .byte) (by decide) (v' := (.int (0 : Int32))) (by decide) (by decide) d2_48 (pc' := 51) rfl (fun T12 h12 X12 e12 W12 => ?_)
  have f13 := f6.wr W12
  have f14 := f7.other W12 (Or.inr (slot_ne (Or.inr (w_30 hw)) (Or.inr (w_28 hw)) (by decide) (t := (.array .byte)) (t' := .byte) (by decide) (by decide)))
  have f15 := f8.same W12
  have f16 := f9.other W12 (Ne.symm ne_o1_o2)
  have f17 := f10.wr W12
  have f18 := q3_0.other W12 (Ne.symm n4)
  have N12 := Fr.snoc X12 N11 gn_o1
  have Z12 := Nat.le_trans Z3 (Nat.le_of_eq W12.size.symm)
  have K12 := K3.wr W12 (Or.inl (List.mem_of_getElem? (i := 0) rfl))
  refine g_aloadN C X12 d2_51 (pc' := 52) rfl rfl rfl ?_
  refine g_aload C X12 d2_52 (pc' := 54) rfl rfl rfl ?_
  refine g_putF C X12 (w_29 hw) Via.refl e12 f14 f13 (Or.inr ⟨(w_30 hw), rfl, hnm⟩) (w_3 hw) (ty := (.array .byte)) (by decide) rfl rfl d2_54 (pc' := 57) rfl (fun T19 h19 X19 e19 W19 => ?_)
  have f20 := f13.wr W19
  have f21 := f14.same W19
  have f22 := f15.other W19 (Or.inr (slot_ne (Or.inr (w_28 hw)) (Or.inr (w_30 hw)) (by decide) (t := .byte) (t' := (.array .byte)) (by decide) (by decide)))
  have f23 := f16.other W19 (Ne.symm ne_o1_o2)
  have f24 := f17.wr W19
  have f25 := f18.other W19 (Ne.symm n4)
  have N19 := Fr.snoc X19 N12 gn_o1
  have Z19 := Nat.le_trans Z12 (Nat.le_of_eq W19.size.symm)
  have K19 := K12.wr W19 (Or.inl (List.mem_of_getElem? (i := 0) rfl))
  exact g_retV C X19 K d2_57 (by decide) (by decide) e19 ⟨o33, kd33, rfl, N19, sz_o33, K19, f20, f21, f22, f25⟩
theorem ef_1 (m : MethodId) (o1 : Addr) (o2 : Addr) : entryFrame m #[(.ref o1), (.ref o2)] 2 = mkF m 0 #[.val (.ref o1), .val (.ref o2)] [] := by first | (simp [entryFrame, mkF, argsToLocals, Value.category]; done) | rfl
theorem d1_0 : decode jdk_42_method_3_code 0 = .ok (.aload_n 0, 1) := by decide +kernel
theorem d1_1 : decode jdk_42_method_3_code 1 = .ok (.aload_n 1, 1) := by decide +kernel
theorem d1_2 : decode jdk_42_method_3_code 2 = .ok (.iconst 0, 1) := by decide +kernel
theorem d1_3 : decode jdk_42_method_3_code 3 = .ok (.aload_n 1, 1) := by decide +kernel
theorem d1_4 : decode jdk_42_method_3_code 4 = .ok (.arraylength, 1) := by decide +kernel
theorem d1_5 : decode jdk_42_method_3_code 5 = .ok (.aconst_null, 1) := by decide +kernel
theorem d1_6 : decode jdk_42_method_3_code 6 = .ok (.invokespecial 27, 3) := by decide +kernel
theorem w_11 {Z : State} {a0 : Array Value} (hw : ∀ d ∈ tables_1, d.before a0 Z = true) : Jvm.Cond.before (Jvm.Cond.code ({ cls := "java/lang/String", name := "<init>", desc := "([CIILjava/lang/Void;)V" } : Jvm.MethodName) jdk_42_method_149_code (6 : Nat) (Option.none : Option Jvm.ClassFile.FieldType)) a0 Z = true := hw _ (List.mem_of_getElem? (i := 11) rfl)
theorem w_4 {Z : State} {a0 : Array Value} (hw : ∀ d ∈ tables_1, d.before a0 Z = true) : Jvm.Cond.before (Jvm.Cond.initialized "java/lang/String") a0 Z = true := hw _ (List.mem_of_getElem? (i := 4) rfl)
theorem w_8 {Z : State} {a0 : Array Value} (hw : ∀ d ∈ tables_1, d.before a0 Z = true) : Jvm.Cond.before (Jvm.Cond.methodLink "java/lang/String" (27 : Nat) ({ cls := "java/lang/String", name := "<init>", desc := "([CIILjava/lang/Void;)V" } : Jvm.MethodName)) a0 Z = true := hw _ (List.mem_of_getElem? (i := 8) rfl)
theorem pd_3 : parseMethodDescriptor "([CIILjava/lang/Void;)V" = some ⟨[(.array .char), .int, .int, (.object "java/lang/Void")], none⟩ := by decide +kernel
theorem w_9 {Z : State} {a0 : Array Value} (hw : ∀ d ∈ tables_1, d.before a0 Z = true) : Jvm.Cond.before (Jvm.Cond.instanceMethod ({ cls := "java/lang/String", name := "<init>", desc := "([CIILjava/lang/Void;)V" } : Jvm.MethodName)) a0 Z = true := hw _ (List.mem_of_getElem? (i := 9) rfl)
theorem d1_9 : decode jdk_42_method_3_code 9 = .ok (.return_, 1) := by decide +kernel
def Q1_1 (Z : State) (o1 : Addr) (o2 : Addr) (kd1 : ClassId) (c1 : Int32) (cs1 : Int32) (h0 : Heap) (n0 : Nat) (v : Option Value) (h : Heap) (L : List Loc) : Prop := ∃ (o3 : Addr) (kd3 : ClassId), v = none ∧ Fr n0 L ∧ h0.size ≤ o3 ∧ Keep h0 h [o1] ∧ Exa Z h o1 "java/lang/String" ∧ Fld Z h o1 "java/lang/String" "value" "[B" (.ref o3) ∧ Fld Z h o1 "java/lang/String" "coder" "B" (.int (0 : Int32)) ∧ Arv Z h o3 kd3 .byte (1 : Int32) [(.int (nar .byte c1.toInt8.toInt32))] (.int (0 : Int32))
set_option maxRecDepth 65536 in
set_option maxHeartbeats 40000000 in
theorem rm1_1 (l : Launch) (Z : State) (a0 : Array Value) (hw : ∀ d ∈ tables_1, d.before a0 Z = true) (ws : List Jvm.Cond) (o1 : Addr) (o2 : Addr) (kd1 : ClassId) (c1 : Int32) (cs1 : Int32) (h0 : Heap) (n0 : Nat) (Z0 : n0 ≤ h0.size) (F0 : Exa Z h0 o1 "java/lang/String") (F1 : Fld Z h0 o1 "java/lang/String" "value" "[B" .null) (F2 : Fld Z h0 o1 "java/lang/String" "coder" "B" (.int (0 : Int32))) (F3 : Arv Z h0 o2 kd1 .char (1 : Int32) [(.int c1)] (.int (0 : Int32))) (F4 : Sta Z h0 "java/lang/String" "COMPACT_STRINGS" "Z" (.int cs1)) (gn_o1 : n0 ≤ o1) (la1 : ¬ (255 : Int32) < c1) (hcs : ¬ cs1 = (0 : Int32)) (ne_o1_o2 : o1 ≠ o2) :
    MetFree l (⟨"java/lang/String", "<init>", "([C)V"⟩ : MethodName) (head1 (Jvm.Cond.code (⟨"java/lang/String", "<init>", "([C)V"⟩ : MethodName) jdk_42_method_3_code 2 none :: ws) ({ frames := 3, cells := 1, slots := 1, locals := 52 } : Room)) (fun a U => a = #[(.ref o1), (.ref o2)] ∧ Z.Warmed39 U.vm ∧ U.heap = h0) (fun _ _ _ _ _ => True) (fun _ U o U' => ∃ v L, o = .returned v ∧ Q1_1 Z o1 o2 kd1 c1 cs1 h0 n0 v U'.heap L ∧ FrameEnd U o U' L ({ frames := 3, cells := 1, slots := 1, locals := 52 } : Room).cells ({ frames := 3, cells := 1, slots := 1, locals := 52 } : Room).slots) := by
  refine body_of (y := (⟨"java/lang/String", "<init>", "([C)V"⟩ : MethodName)) (Q := Q1_1 Z o1 o2 kd1 c1 cs1 h0 n0) (plainFor_of_name pn_1) ?_
  intro p e s m below meth c T0 G C hnm hnamed X0 e0 K
  have N0 := Fr.nil n0
  refine Goes.to (congrArg T0.setTop (ef_1 m o1 o2)) ?_
  have K00 := Keep.refl h0 [o1]
  refine g_aloadN C X0 d1_0 (pc' := 1) rfl rfl rfl ?_
  refine g_aloadN C X0 d1_1 (pc' := 2) rfl rfl rfl ?_
  refine g_iconst C X0 d1_2 (pc' := 3) rfl (v := 0) rfl ?_
  refine g_aloadN C X0 d1_3 (pc' := 4) rfl rfl rfl ?_
  refine g_arraylength C X0 e0 F3 d1_4 (pc' := 5) rfl ?_
  refine g_aconstNull C X0 d1_5 (pc' := 6) rfl ?_
  refine g_callI C X0 rfl (w_8 hw) (w_9 hw) (w_4 hw) (w_11 hw) (by decide) d1_6 (rm2_1 l Z a0 hw [] o1 o2 kd1 c1 cs1 h0 n0 Z0 F0 F1 F2 F3 F4 gn_o1 la1 hcs ne_o1_o2) (by decide) (by decide) rfl pd_3 rfl (argsL := [(.ref o2), (.int (0 : Int32)), (.int (1 : Int32)), .null]) (rest := []) rfl (W := 0) (Nat.le_of_eq rfl) e0 (by decide) (by decide) (pc' := 9) rfl (fun u1 T1 L1 X1 hQ1 => ?_)
  obtain ⟨o31, kd31, rfl, Nq1, szo31, Kq1, q1_0, q1_1, q1_2, q1_3⟩ := hQ1
  have N1 := Fr.app N0 Nq1
  have n2 : o1 ≠ o31 := Nat.ne_of_lt (Nat.lt_of_lt_of_le F0.lt szo31)
  have n3 : o2 ≠ o31 := Nat.ne_of_lt (Nat.lt_of_lt_of_le F3.lt szo31)
  have f4 := F0.keep Kq1
  have f5 := F3.keep Kq1 (ninS (Ne.symm ne_o1_o2) nin0)
  have f6 := Sta.keepN F4 Kq1 (allS (Exa.ns F0) all0)
  have gn_o31 : n0 ≤ o31 := Nat.le_trans Z0 szo31
  have Z1 := Nat.le_trans Z0 Kq1.1
  have sz_o31 : h0.size ≤ o31 := Nat.le_trans K00.1 szo31
  have K1 := K00.trans Kq1 (allS (Or.inl (List.mem_of_getElem? (i := 0) rfl)) all0)
  show Goes p.tables e below G (T1.setTop (mkF m 9 #[.val (.ref o1), .val (.ref o2)] []))
  exact g_retV C X1 K d1_9 (by decide) (by decide) rfl ⟨o31, kd31, rfl, N1, sz_o31, K1, q1_0, q1_1, q1_2, q1_3⟩
theorem ef_16 (m : MethodId) (o1 : Addr) : entryFrame m #[(.ref o1)] 1 = mkF m 0 #[.val (.ref o1)] [] := by first | (simp [entryFrame, mkF, argsToLocals, Value.category]; done) | rfl
theorem d16_0 : decode jdk_42_method_152_code 0 = .ok (.getstatic 38, 3) := by decide +kernel
theorem d16_3 : decode jdk_42_method_152_code 3 = .ok (.ifCond .eq 10, 3) := by decide +kernel
theorem d16_6 : decode jdk_42_method_152_code 6 = .ok (.aload_n 0, 1) := by decide +kernel
theorem d16_7 : decode jdk_42_method_152_code 7 = .ok (.getfield 15, 3) := by decide +kernel
theorem d16_10 : decode jdk_42_method_152_code 10 = .ok (.goto 4, 3) := by decide +kernel
theorem d16_14 : decode jdk_42_method_152_code 14 = .ok (.ireturn, 1) := by decide +kernel
def Q16 (Z : State) (o1 : Addr) (cs1 : Int32) (h0 : Heap) (n0 : Nat) (v : Option Value) (h : Heap) (L : List Loc) : Prop := v = some (.int (0 : Int32)) ∧ Fr n0 L ∧ h = h0
set_option maxRecDepth 65536 in
set_option maxHeartbeats 40000000 in
theorem rm16 (l : Launch) (Z : State) (a0 : Array Value) (hw : ∀ d ∈ tables_1, d.before a0 Z = true) (ws : List Jvm.Cond) (o1 : Addr) (cs1 : Int32) (h0 : Heap) (n0 : Nat) (Z0 : n0 ≤ h0.size) (F0 : Fld Z h0 o1 "java/lang/String" "coder" "B" (.int (0 : Int32))) (F1 : Sta Z h0 "java/lang/String" "COMPACT_STRINGS" "Z" (.int cs1)) (hcs : ¬ cs1 = (0 : Int32)) :
    MetFree l (⟨"java/lang/String", "coder", "()B"⟩ : MethodName) (head1 (Jvm.Cond.code (⟨"java/lang/String", "coder", "()B"⟩ : MethodName) jdk_42_method_152_code 1 (some .byte) :: ws) ({ frames := 0, cells := 0, slots := 0, locals := 0 } : Room)) (fun a U => a = #[(.ref o1)] ∧ Z.Warmed39 U.vm ∧ U.heap = h0) (fun _ _ _ _ _ => True) (fun _ U o U' => ∃ v L, o = .returned v ∧ Q16 Z o1 cs1 h0 n0 v U'.heap L ∧ FrameEnd U o U' L ({ frames := 0, cells := 0, slots := 0, locals := 0 } : Room).cells ({ frames := 0, cells := 0, slots := 0, locals := 0 } : Room).slots) := by
  refine body_of (y := (⟨"java/lang/String", "coder", "()B"⟩ : MethodName)) (Q := Q16 Z o1 cs1 h0 n0) (plainFor_of_name pn_1) ?_
  intro p e s m below meth c T0 G C hnm hnamed X0 e0 K
  have N0 := Fr.nil n0
  refine Goes.to (congrArg T0.setTop (ef_16 m o1)) ?_
  refine g_getS C X0 (w_15 hw) Via.refl e0 F1 d16_0 (pc' := 3) rfl (fun T1 X1 e1 => ?_)
  refine g_if_eq C X1 d16_3 (pcT := 13) (pcN := 6) (by decide) (by decide) rfl (fun hc3 => absurd hc3 hcs) (fun hc3 => ?_)
  refine g_aloadN C X1 d16_6 (pc' := 7) rfl rfl rfl ?_
  refine g_getF C X1 (w_27 hw) Via.refl e1 F0 d16_7 (pc' := 10) rfl (fun T2 X2 e2 => ?_)
  refine g_goto C X2 d16_10 (pc' := 14) (by decide) (by decide) ?_
  exact g_retN C X2 K (by simp) d16_14 (by decide) (by decide) e2 ⟨(by decide), N0, rfl⟩
theorem ef_15 (m : MethodId) (o1 : Addr) : entryFrame m #[(.ref o1)] 1 = mkF m 0 #[.val (.ref o1)] [] := by first | (simp [entryFrame, mkF, argsToLocals, Value.category]; done) | rfl
theorem d15_0 : decode jdk_42_method_54_code 0 = .ok (.aload_n 0, 1) := by decide +kernel
theorem d15_1 : decode jdk_42_method_54_code 1 = .ok (.getfield 9, 3) := by decide +kernel
theorem d15_4 : decode jdk_42_method_54_code 4 = .ok (.arraylength, 1) := by decide +kernel
theorem d15_5 : decode jdk_42_method_54_code 5 = .ok (.aload_n 0, 1) := by decide +kernel
theorem d15_6 : decode jdk_42_method_54_code 6 = .ok (.invokevirtual 335, 3) := by decide +kernel
theorem w_86 {Z : State} {a0 : Array Value} (hw : ∀ d ∈ tables_1, d.before a0 Z = true) : Jvm.Cond.before (Jvm.Cond.code ({ cls := "java/lang/String", name := "coder", desc := "()B" } : Jvm.MethodName) jdk_42_method_152_code (1 : Nat) (Option.some Jvm.ClassFile.FieldType.byte)) a0 Z = true := hw _ (List.mem_of_getElem? (i := 86) rfl)
theorem w_82 {Z : State} {a0 : Array Value} (hw : ∀ d ∈ tables_1, d.before a0 Z = true) : Jvm.Cond.before (Jvm.Cond.methodLink "java/lang/String" (335 : Nat) ({ cls := "java/lang/String", name := "coder", desc := "()B" } : Jvm.MethodName)) a0 Z = true := hw _ (List.mem_of_getElem? (i := 82) rfl)
theorem pd_4 : parseMethodDescriptor "()B" = some ⟨[], some .byte⟩ := by decide +kernel
theorem w_85 {Z : State} {a0 : Array Value} (hw : ∀ d ∈ tables_1, d.before a0 Z = true) : Jvm.Cond.before (Jvm.Cond.selects "java/lang/String" ({ cls := "java/lang/String", name := "coder", desc := "()B" } : Jvm.MethodName) ({ cls := "java/lang/String", name := "coder", desc := "()B" } : Jvm.MethodName)) a0 Z = true := hw _ (List.mem_of_getElem? (i := 85) rfl)
theorem w_83 {Z : State} {a0 : Array Value} (hw : ∀ d ∈ tables_1, d.before a0 Z = true) : Jvm.Cond.before (Jvm.Cond.declares ({ cls := "java/lang/String", name := "coder", desc := "()B" } : Jvm.MethodName)) a0 Z = true := hw _ (List.mem_of_getElem? (i := 83) rfl)
theorem w_84 {Z : State} {a0 : Array Value} (hw : ∀ d ∈ tables_1, d.before a0 Z = true) : Jvm.Cond.before (Jvm.Cond.instanceMethod ({ cls := "java/lang/String", name := "coder", desc := "()B" } : Jvm.MethodName)) a0 Z = true := hw _ (List.mem_of_getElem? (i := 84) rfl)
theorem d15_9 : decode jdk_42_method_54_code 9 = .ok (.ishr, 1) := by decide +kernel
theorem d15_10 : decode jdk_42_method_54_code 10 = .ok (.ireturn, 1) := by decide +kernel
def Q15_1 (Z : State) (o1 : Addr) (o2 : Addr) (kd1 : ClassId) (c1 : Int32) (cs1 : Int32) (h0 : Heap) (n0 : Nat) (v : Option Value) (h : Heap) (L : List Loc) : Prop := v = some (.int (1 : Int32)) ∧ Fr n0 L ∧ h = h0
set_option maxRecDepth 65536 in
set_option maxHeartbeats 40000000 in
theorem rm15_1 (l : Launch) (Z : State) (a0 : Array Value) (hw : ∀ d ∈ tables_1, d.before a0 Z = true) (ws : List Jvm.Cond) (o1 : Addr) (o2 : Addr) (kd1 : ClassId) (c1 : Int32) (cs1 : Int32) (h0 : Heap) (n0 : Nat) (Z0 : n0 ≤ h0.size) (F0 : Exa Z h0 o1 "java/lang/String") (F1 : Fld Z h0 o1 "java/lang/String" "value" "[B" (.ref o2)) (F2 : Fld Z h0 o1 "java/lang/String" "coder" "B" (.int (0 : Int32))) (F3 : Arv Z h0 o2 kd1 .byte (1 : Int32) [(.int c1)] (.int (0 : Int32))) (F4 : Sta Z h0 "java/lang/String" "COMPACT_STRINGS" "Z" (.int cs1)) (hcs : ¬ cs1 = (0 : Int32)) :
    MetFree l (⟨"java/lang/String", "length", "()I"⟩ : MethodName) (head1 (Jvm.Cond.code (⟨"java/lang/String", "length", "()I"⟩ : MethodName) jdk_42_method_54_code 1 (some .int) :: ws) ({ frames := 1, cells := 0, slots := 0, locals := 13 } : Room)) (fun a U => a = #[(.ref o1)] ∧ Z.Warmed39 U.vm ∧ U.heap = h0) (fun _ _ _ _ _ => True) (fun _ U o U' => ∃ v L, o = .returned v ∧ Q15_1 Z o1 o2 kd1 c1 cs1 h0 n0 v U'.heap L ∧ FrameEnd U o U' L ({ frames := 1, cells := 0, slots := 0, locals := 13 } : Room).cells ({ frames := 1, cells := 0, slots := 0, locals := 13 } : Room).slots) := by
  refine body_of (y := (⟨"java/lang/String", "length", "()I"⟩ : MethodName)) (Q := Q15_1 Z o1 o2 kd1 c1 cs1 h0 n0) (plainFor_of_name pn_1) ?_
  intro p e s m below meth c T0 G C hnm hnamed X0 e0 K
  have N0 := Fr.nil n0
  refine Goes.to (congrArg T0.setTop (ef_15 m o1)) ?_
  refine g_aloadN C X0 d15_0 (pc' := 1) rfl rfl rfl ?_
  refine g_getF C X0 (w_29 hw) Via.refl e0 F1 d15_1 (pc' := 4) rfl (fun T1 X1 e1 => ?_)
  refine g_arraylength C X1 e1 F3 d15_4 (pc' := 5) rfl ?_
  refine g_aloadN C X1 d15_5 (pc' := 6) rfl rfl rfl ?_
  refine g_callV C X1 (w_82 hw) (w_83 hw) (notFace_of_selects (args := #[]) (mvT C.2.1 (w_85 hw))) (w_85 hw) (w_84 hw) (w_86 hw) (w_4 hw) (by decide) F0 d15_6 (rm16 l Z a0 hw [] o1 cs1 h0 n0 Z0 F2 F4 hcs) (by decide) (by decide) rfl pd_4 rfl (argsL := []) (rest := [(.int (1 : Int32))]) rfl (W := 1) (Nat.le_of_eq rfl) e1 (by decide) (by decide) (pc' := 9) rfl (fun u2 T2 L2 X2 hQ2 => ?_)
  obtain ⟨rfl, Nq2, eq2⟩ := hQ2
  have N2 := Fr.app N0 Nq2
  show Goes p.tables e below G (T2.setTop (mkF m 9 #[.val (.ref o1)] [(.int (0 : Int32)), (.int (1 : Int32))]))
  refine g_ishr C X2 d15_9 (pc' := 10) rfl ?_
  exact g_retI C X2 K d15_10 (by decide) (by decide) eq2 ⟨(by decide), N2, rfl⟩
theorem ef_14 (m : MethodId) (o1 : Addr) : entryFrame m #[(.ref o1)] 1 = mkF m 0 #[.val (.ref o1)] [] := by first | (simp [entryFrame, mkF, argsToLocals, Value.category]; done) | rfl
theorem d14_0 : decode jdk_42_method_55_code 0 = .ok (.aload_n 0, 1) := by decide +kernel
theorem d14_1 : decode jdk_42_method_55_code 1 = .ok (.getfield 9, 3) := by decide +kernel
theorem d14_4 : decode jdk_42_method_55_code 4 = .ok (.arraylength, 1) := by decide +kernel
theorem d14_5 : decode jdk_42_method_55_code 5 = .ok (.ifCond .ne 7, 3) := by decide +kernel
theorem d14_12 : decode jdk_42_method_55_code 12 = .ok (.iconst 0, 1) := by decide +kernel
theorem d14_13 : decode jdk_42_method_55_code 13 = .ok (.ireturn, 1) := by decide +kernel
def Q14_1 (Z : State) (o1 : Addr) (o2 : Addr) (kd1 : ClassId) (c1 : Int32) (h0 : Heap) (n0 : Nat) (v : Option Value) (h : Heap) (L : List Loc) : Prop := v = some (.int (0 : Int32)) ∧ Fr n0 L ∧ h = h0
set_option maxRecDepth 65536 in
set_option maxHeartbeats 40000000 in
theorem rm14_1 (l : Launch) (Z : State) (a0 : Array Value) (hw : ∀ d ∈ tables_1, d.before a0 Z = true) (ws : List Jvm.Cond) (o1 : Addr) (o2 : Addr) (kd1 : ClassId) (c1 : Int32) (h0 : Heap) (n0 : Nat) (Z0 : n0 ≤ h0.size) (F0 : Exa Z h0 o1 "java/lang/String") (F1 : Fld Z h0 o1 "java/lang/String" "value" "[B" (.ref o2)) (F2 : Fld Z h0 o1 "java/lang/String" "coder" "B" (.int (0 : Int32))) (F3 : Arv Z h0 o2 kd1 .byte (1 : Int32) [(.int c1)] (.int (0 : Int32))) :
    MetFree l (⟨"java/lang/String", "isEmpty", "()Z"⟩ : MethodName) (head1 (Jvm.Cond.code (⟨"java/lang/String", "isEmpty", "()Z"⟩ : MethodName) jdk_42_method_55_code 1 (some .boolean) :: ws) ({ frames := 0, cells := 0, slots := 0, locals := 0 } : Room)) (fun a U => a = #[(.ref o1)] ∧ Z.Warmed39 U.vm ∧ U.heap = h0) (fun _ _ _ _ _ => True) (fun _ U o U' => ∃ v L, o = .returned v ∧ Q14_1 Z o1 o2 kd1 c1 h0 n0 v U'.heap L ∧ FrameEnd U o U' L ({ frames := 0, cells := 0, slots := 0, locals := 0 } : Room).cells ({ frames := 0, cells := 0, slots := 0, locals := 0 } : Room).slots) := by
  refine body_of (y := (⟨"java/lang/String", "isEmpty", "()Z"⟩ : MethodName)) (Q := Q14_1 Z o1 o2 kd1 c1 h0 n0) (plainFor_of_name pn_1) ?_
  intro p e s m below meth c T0 G C hnm hnamed X0 e0 K
  have N0 := Fr.nil n0
  refine Goes.to (congrArg T0.setTop (ef_14 m o1)) ?_
  refine g_aloadN C X0 d14_0 (pc' := 1) rfl rfl rfl ?_
  refine g_getF C X0 (w_29 hw) Via.refl e0 F1 d14_1 (pc' := 4) rfl (fun T1 X1 e1 => ?_)
  refine g_arraylength C X1 e1 F3 d14_4 (pc' := 5) rfl ?_
  refine g_if_ne C X1 d14_5 (pcT := 12) (pcN := 8) (by decide) (by decide) rfl (fun hc5 => ?_) (fun hc5 => absurd hc5 (by decide))
  refine g_iconst C X1 d14_12 (pc' := 13) rfl (v := 0) rfl ?_
  exact g_retN C X1 K (by simp) d14_13 (by decide) (by decide) e1 ⟨rfl, N0, rfl⟩
theorem ef_18 (m : MethodId) (o1 : Addr) : entryFrame m #[(.ref o1)] 1 = mkF m 0 #[.val (.ref o1)] [] := by first | (simp [entryFrame, mkF, argsToLocals, Value.category]; done) | rfl
theorem d18_0 : decode jdk_42_method_154_code 0 = .ok (.getstatic 38, 3) := by decide +kernel
theorem d18_3 : decode jdk_42_method_154_code 3 = .ok (.ifCond .eq 14, 3) := by decide +kernel
theorem d18_6 : decode jdk_42_method_154_code 6 = .ok (.aload_n 0, 1) := by decide +kernel
theorem d18_7 : decode jdk_42_method_154_code 7 = .ok (.getfield 15, 3) := by decide +kernel
theorem d18_10 : decode jdk_42_method_154_code 10 = .ok (.ifCond .ne 7, 3) := by decide +kernel
theorem d18_13 : decode jdk_42_method_154_code 13 = .ok (.iconst 1, 1) := by decide +kernel
theorem d18_14 : decode jdk_42_method_154_code 14 = .ok (.goto 4, 3) := by decide +kernel
theorem d18_18 : decode jdk_42_method_154_code 18 = .ok (.ireturn, 1) := by decide +kernel
def Q18 (Z : State) (o1 : Addr) (cs1 : Int32) (h0 : Heap) (n0 : Nat) (v : Option Value) (h : Heap) (L : List Loc) : Prop := v = some (.int (1 : Int32)) ∧ Fr n0 L ∧ h = h0
set_option maxRecDepth 65536 in
set_option maxHeartbeats 40000000 in
theorem rm18 (l : Launch) (Z : State) (a0 : Array Value) (hw : ∀ d ∈ tables_1, d.before a0 Z = true) (ws : List Jvm.Cond) (o1 : Addr) (cs1 : Int32) (h0 : Heap) (n0 : Nat) (Z0 : n0 ≤ h0.size) (F0 : Fld Z h0 o1 "java/lang/String" "coder" "B" (.int (0 : Int32))) (F1 : Sta Z h0 "java/lang/String" "COMPACT_STRINGS" "Z" (.int cs1)) (hcs : ¬ cs1 = (0 : Int32)) :
    MetFree l (⟨"java/lang/String", "isLatin1", "()Z"⟩ : MethodName) (head1 (Jvm.Cond.code (⟨"java/lang/String", "isLatin1", "()Z"⟩ : MethodName) jdk_42_method_154_code 1 (some .boolean) :: ws) ({ frames := 0, cells := 0, slots := 0, locals := 0 } : Room)) (fun a U => a = #[(.ref o1)] ∧ Z.Warmed39 U.vm ∧ U.heap = h0) (fun _ _ _ _ _ => True) (fun _ U o U' => ∃ v L, o = .returned v ∧ Q18 Z o1 cs1 h0 n0 v U'.heap L ∧ FrameEnd U o U' L ({ frames := 0, cells := 0, slots := 0, locals := 0 } : Room).cells ({ frames := 0, cells := 0, slots := 0, locals := 0 } : Room).slots) := by
  refine body_of (y := (⟨"java/lang/String", "isLatin1", "()Z"⟩ : MethodName)) (Q := Q18 Z o1 cs1 h0 n0) (plainFor_of_name pn_1) ?_
  intro p e s m below meth c T0 G C hnm hnamed X0 e0 K
  have N0 := Fr.nil n0
  refine Goes.to (congrArg T0.setTop (ef_18 m o1)) ?_
  refine g_getS C X0 (w_15 hw) Via.refl e0 F1 d18_0 (pc' := 3) rfl (fun T1 X1 e1 => ?_)
  refine g_if_eq C X1 d18_3 (pcT := 17) (pcN := 6) (by decide) (by decide) rfl (fun hc3 => absurd hc3 hcs) (fun hc3 => ?_)
  refine g_aloadN C X1 d18_6 (pc' := 7) rfl rfl rfl ?_
  refine g_getF C X1 (w_27 hw) Via.refl e1 F0 d18_7 (pc' := 10) rfl (fun T2 X2 e2 => ?_)
  refine g_if_ne C X2 d18_10 (pcT := 17) (pcN := 13) (by decide) (by decide) rfl (fun hc10 => absurd hc10 (by decide)) (fun hc10 => ?_)
  refine g_iconst C X2 d18_13 (pc' := 14) rfl (v := 1) rfl ?_
  refine g_goto C X2 d18_14 (pc' := 18) (by decide) (by decide) ?_
  exact g_retN C X2 K (by simp) d18_18 (by decide) (by decide) e2 ⟨rfl, N0, rfl⟩
theorem ef_21l0_0l1_1n2 (m : MethodId)  : entryFrame m #[(.int (0 : Int32)), (.int (1 : Int32)), .null] 3 = mkF m 0 #[.val (.int (0 : Int32)), .val (.int (1 : Int32)), .val .null] [] := by first | (simp [entryFrame, mkF, argsToLocals, Value.category]; done) | rfl
theorem d21_0 : decode jdk_41_method_11_code 0 = .ok (.iload_n 0, 1) := by decide +kernel
theorem d21_1 : decode jdk_41_method_11_code 1 = .ok (.ifCond .lt 8, 3) := by decide +kernel
theorem d21_4 : decode jdk_41_method_11_code 4 = .ok (.iload_n 0, 1) := by decide +kernel
theorem d21_5 : decode jdk_41_method_11_code 5 = .ok (.iload_n 1, 1) := by decide +kernel
theorem d21_6 : decode jdk_41_method_11_code 6 = .ok (.if_icmp .lt 10, 3) := by decide +kernel
theorem d21_16 : decode jdk_41_method_11_code 16 = .ok (.iload_n 0, 1) := by decide +kernel
theorem d21_17 : decode jdk_41_method_11_code 17 = .ok (.ireturn, 1) := by decide +kernel
def Q21_1_0n (Z : State)  (h0 : Heap) (n0 : Nat) (v : Option Value) (h : Heap) (L : List Loc) : Prop := v = some (.int (0 : Int32)) ∧ Fr n0 L ∧ h = h0
theorem pn_21 : plainName "jdk/internal/util/Preconditions" = true := by first | (simp [plainName, overriddenIn]; done) | decide +kernel
set_option maxRecDepth 65536 in
set_option maxHeartbeats 40000000 in
theorem rm21_1_0n (l : Launch) (Z : State) (a0 : Array Value) (hw : ∀ d ∈ tables_1, d.before a0 Z = true) (ws : List Jvm.Cond)  (h0 : Heap) (n0 : Nat) (Z0 : n0 ≤ h0.size) :
    MetFree l (⟨"jdk/internal/util/Preconditions", "checkIndex", "(IILjava/util/function/BiFunction;)I"⟩ : MethodName) (head1 (Jvm.Cond.code (⟨"jdk/internal/util/Preconditions", "checkIndex", "(IILjava/util/function/BiFunction;)I"⟩ : MethodName) jdk_41_method_11_code 3 (some .int) :: ws) ({ frames := 0, cells := 0, slots := 0, locals := 0 } : Room)) (fun a U => a = #[(.int (0 : Int32)), (.int (1 : Int32)), .null] ∧ Z.Warmed39 U.vm ∧ U.heap = h0) (fun _ _ _ _ _ => True) (fun _ U o U' => ∃ v L, o = .returned v ∧ Q21_1_0n Z  h0 n0 v U'.heap L ∧ FrameEnd U o U' L ({ frames := 0, cells := 0, slots := 0, locals := 0 } : Room).cells ({ frames := 0, cells := 0, slots := 0, locals := 0 } : Room).slots) := by
  refine body_of (y := (⟨"jdk/internal/util/Preconditions", "checkIndex", "(IILjava/util/function/BiFunction;)I"⟩ : MethodName)) (Q := Q21_1_0n Z  h0 n0) (plainFor_of_name pn_21) ?_
  intro p e s m below meth c T0 G C hnm hnamed X0 e0 K
  have N0 := Fr.nil n0
  refine Goes.to (congrArg T0.setTop (ef_21l0_0l1_1n2 m )) ?_
  refine g_iloadN C X0 d21_0 (pc' := 1) rfl rfl ?_
  refine g_if_lt C X0 d21_1 (pcT := 9) (pcN := 4) (by decide) (by decide) rfl (fun hc1 => absurd hc1 (by decide)) (fun hc1 => ?_)
  refine g_iloadN C X0 d21_4 (pc' := 5) rfl rfl ?_
  refine g_iloadN C X0 d21_5 (pc' := 6) rfl rfl ?_
  refine g_icmp_lt C X0 d21_6 (pcT := 16) (pcN := 9) (by decide) (by decide) rfl (fun hc6 => ?_) (fun hc6 => absurd hc6 (by decide))
  refine g_iloadN C X0 d21_16 (pc' := 17) rfl rfl ?_
  exact g_retI C X0 K d21_17 (by decide) (by decide) e0 ⟨rfl, N0, rfl⟩
theorem ef_21l0_0l1_1 (m : MethodId) (o1 : Addr) : entryFrame m #[(.int (0 : Int32)), (.int (1 : Int32)), (.ref o1)] 3 = mkF m 0 #[.val (.int (0 : Int32)), .val (.int (1 : Int32)), .val (.ref o1)] [] := by first | (simp [entryFrame, mkF, argsToLocals, Value.category]; done) | rfl
def Q21_1_0r (Z : State) (o1 : Addr) (h0 : Heap) (n0 : Nat) (v : Option Value) (h : Heap) (L : List Loc) : Prop := v = some (.int (0 : Int32)) ∧ Fr n0 L ∧ h = h0
set_option maxRecDepth 65536 in
set_option maxHeartbeats 40000000 in
theorem rm21_1_0r (l : Launch) (Z : State) (a0 : Array Value) (hw : ∀ d ∈ tables_1, d.before a0 Z = true) (ws : List Jvm.Cond) (o1 : Addr) (h0 : Heap) (n0 : Nat) (Z0 : n0 ≤ h0.size) :
    MetFree l (⟨"jdk/internal/util/Preconditions", "checkIndex", "(IILjava/util/function/BiFunction;)I"⟩ : MethodName) (head1 (Jvm.Cond.code (⟨"jdk/internal/util/Preconditions", "checkIndex", "(IILjava/util/function/BiFunction;)I"⟩ : MethodName) jdk_41_method_11_code 3 (some .int) :: ws) ({ frames := 0, cells := 0, slots := 0, locals := 0 } : Room)) (fun a U => a = #[(.int (0 : Int32)), (.int (1 : Int32)), (.ref o1)] ∧ Z.Warmed39 U.vm ∧ U.heap = h0) (fun _ _ _ _ _ => True) (fun _ U o U' => ∃ v L, o = .returned v ∧ Q21_1_0r Z o1 h0 n0 v U'.heap L ∧ FrameEnd U o U' L ({ frames := 0, cells := 0, slots := 0, locals := 0 } : Room).cells ({ frames := 0, cells := 0, slots := 0, locals := 0 } : Room).slots) := by
  refine body_of (y := (⟨"jdk/internal/util/Preconditions", "checkIndex", "(IILjava/util/function/BiFunction;)I"⟩ : MethodName)) (Q := Q21_1_0r Z o1 h0 n0) (plainFor_of_name pn_21) ?_
  intro p e s m below meth c T0 G C hnm hnamed X0 e0 K
  have N0 := Fr.nil n0
  refine Goes.to (congrArg T0.setTop (ef_21l0_0l1_1 m o1)) ?_
  refine g_iloadN C X0 d21_0 (pc' := 1) rfl rfl ?_
  refine g_if_lt C X0 d21_1 (pcT := 9) (pcN := 4) (by decide) (by decide) rfl (fun hc1 => absurd hc1 (by decide)) (fun hc1 => ?_)
  refine g_iloadN C X0 d21_4 (pc' := 5) rfl rfl ?_
  refine g_iloadN C X0 d21_5 (pc' := 6) rfl rfl ?_
  refine g_icmp_lt C X0 d21_6 (pcT := 16) (pcN := 9) (by decide) (by decide) rfl (fun hc6 => ?_) (fun hc6 => absurd hc6 (by decide))
  refine g_iloadN C X0 d21_16 (pc' := 17) rfl rfl ?_
  exact g_retI C X0 K d21_17 (by decide) (by decide) e0 ⟨rfl, N0, rfl⟩
theorem ef_20l0_0l1_1 (m : MethodId)  : entryFrame m #[(.int (0 : Int32)), (.int (1 : Int32))] 2 = mkF m 0 #[.val (.int (0 : Int32)), .val (.int (1 : Int32))] [] := by first | (simp [entryFrame, mkF, argsToLocals, Value.category]; done) | rfl
theorem d20_0 : decode jdk_42_method_155_code 0 = .ok (.iload_n 0, 1) := by decide +kernel
theorem d20_1 : decode jdk_42_method_155_code 1 = .ok (.iload_n 1, 1) := by decide +kernel
theorem d20_2 : decode jdk_42_method_155_code 2 = .ok (.getstatic 1053, 3) := by decide +kernel
theorem w_103 {Z : State} {a0 : Array Value} (hw : ∀ d ∈ tables_1, d.before a0 Z = true) : Jvm.Cond.before (Jvm.Cond.fieldLink "java/lang/String" (1053 : Nat) "jdk/internal/util/Preconditions" "SIOOBE_FORMATTER" "Ljava/util/function/BiFunction;") a0 Z = true := hw _ (List.mem_of_getElem? (i := 103) rfl)
theorem d20_5 : decode jdk_42_method_155_code 5 = .ok (.invokestatic 1059, 3) := by decide +kernel
theorem w_107 {Z : State} {a0 : Array Value} (hw : ∀ d ∈ tables_1, d.before a0 Z = true) : Jvm.Cond.before (Jvm.Cond.code ({ cls := "jdk/internal/util/Preconditions", name := "checkIndex", desc := "(IILjava/util/function/BiFunction;)I" } : Jvm.MethodName) jdk_41_method_11_code (3 : Nat) (Option.some Jvm.ClassFile.FieldType.int)) a0 Z = true := hw _ (List.mem_of_getElem? (i := 107) rfl)
theorem w_104 {Z : State} {a0 : Array Value} (hw : ∀ d ∈ tables_1, d.before a0 Z = true) : Jvm.Cond.before (Jvm.Cond.initialized "jdk/internal/util/Preconditions") a0 Z = true := hw _ (List.mem_of_getElem? (i := 104) rfl)
theorem w_105 {Z : State} {a0 : Array Value} (hw : ∀ d ∈ tables_1, d.before a0 Z = true) : Jvm.Cond.before (Jvm.Cond.methodLink "java/lang/String" (1059 : Nat) ({ cls := "jdk/internal/util/Preconditions", name := "checkIndex", desc := "(IILjava/util/function/BiFunction;)I" } : Jvm.MethodName)) a0 Z = true := hw _ (List.mem_of_getElem? (i := 105) rfl)
theorem pd_5 : parseMethodDescriptor "(IILjava/util/function/BiFunction;)I" = some ⟨[.int, .int, (.object "java/util/function/BiFunction")], some .int⟩ := by decide +kernel
theorem w_106 {Z : State} {a0 : Array Value} (hw : ∀ d ∈ tables_1, d.before a0 Z = true) : Jvm.Cond.before (Jvm.Cond.static ({ cls := "jdk/internal/util/Preconditions", name := "checkIndex", desc := "(IILjava/util/function/BiFunction;)I" } : Jvm.MethodName)) a0 Z = true := hw _ (List.mem_of_getElem? (i := 106) rfl)
theorem d20_8 : decode jdk_42_method_155_code 8 = .ok (.pop, 1) := by decide +kernel
theorem d20_9 : decode jdk_42_method_155_code 9 = .ok (.return_, 1) := by decide +kernel
def Q20_1_0 (Z : State) (wf1 : Value) (h0 : Heap) (n0 : Nat) (v : Option Value) (h : Heap) (L : List Loc) : Prop := v = none ∧ Fr n0 L ∧ h = h0
set_option maxRecDepth 65536 in
set_option maxHeartbeats 40000000 in
theorem rm20_1_0 (l : Launch) (Z : State) (a0 : Array Value) (hw : ∀ d ∈ tables_1, d.before a0 Z = true) (ws : List Jvm.Cond) (wf1 : Value) (h0 : Heap) (n0 : Nat) (Z0 : n0 ≤ h0.size) (F0 : Sta Z h0 "jdk/internal/util/Preconditions" "SIOOBE_FORMATTER" "Ljava/util/function/BiFunction;" wf1) (hwf : wf1.isRef = true) :
    MetFree l (⟨"java/lang/String", "checkIndex", "(II)V"⟩ : MethodName) (head1 (Jvm.Cond.code (⟨"java/lang/String", "checkIndex", "(II)V"⟩ : MethodName) jdk_42_method_155_code 2 none :: ws) ({ frames := 1, cells := 0, slots := 0, locals := 14 } : Room)) (fun a U => a = #[(.int (0 : Int32)), (.int (1 : Int32))] ∧ Z.Warmed39 U.vm ∧ U.heap = h0) (fun _ _ _ _ _ => True) (fun _ U o U' => ∃ v L, o = .returned v ∧ Q20_1_0 Z wf1 h0 n0 v U'.heap L ∧ FrameEnd U o U' L ({ frames := 1, cells := 0, slots := 0, locals := 14 } : Room).cells ({ frames := 1, cells := 0, slots := 0, locals := 14 } : Room).slots) := by
  refine body_of (y := (⟨"java/lang/String", "checkIndex", "(II)V"⟩ : MethodName)) (Q := Q20_1_0 Z wf1 h0 n0) (plainFor_of_name pn_1) ?_
  intro p e s m below meth c T0 G C hnm hnamed X0 e0 K
  have N0 := Fr.nil n0
  refine Goes.to (congrArg T0.setTop (ef_20l0_0l1_1 m )) ?_
  rcases ref_cases hwf with rfl | ⟨sa1, rfl⟩
  · refine g_iloadN C X0 d20_0 (pc' := 1) rfl rfl ?_
    refine g_iloadN C X0 d20_1 (pc' := 2) rfl rfl ?_
    refine g_getS C X0 (w_103 hw) Via.refl e0 F0 d20_2 (pc' := 5) rfl (fun T2 X2 e2 => ?_)
    refine g_callS C X2 (w_105 hw) (w_106 hw) (w_104 hw) (w_107 hw) (by decide) d20_5 (rm21_1_0n l Z a0 hw []  h0 n0 Z0 ) (by decide) (by decide) rfl pd_5 rfl (argsL := [(.int (0 : Int32)), (.int (1 : Int32)), .null]) (rest := []) rfl (W := 0) (Nat.le_of_eq rfl) e2 (by decide) (by decide) (pc' := 8) rfl (fun u3 T3 L3 X3 hQ3 => ?_)
    obtain ⟨rfl, Nq3, eq3⟩ := hQ3
    have N3 := Fr.app N0 Nq3
    show Goes p.tables e below G (T3.setTop (mkF m 8 #[.val (.int (0 : Int32)), .val (.int (1 : Int32))] [(.int (0 : Int32))]))
    refine g_pop C X3 d20_8 (pc' := 9) rfl rfl ?_
    exact g_retV C X3 K d20_9 (by decide) (by decide) eq3 ⟨rfl, N3, rfl⟩
  · refine g_iloadN C X0 d20_0 (pc' := 1) rfl rfl ?_
    refine g_iloadN C X0 d20_1 (pc' := 2) rfl rfl ?_
    refine g_getS C X0 (w_103 hw) Via.refl e0 F0 d20_2 (pc' := 5) rfl (fun T4 X4 e4 => ?_)
    refine g_callS C X4 (w_105 hw) (w_106 hw) (w_104 hw) (w_107 hw) (by decide) d20_5 (rm21_1_0r l Z a0 hw [] sa1 h0 n0 Z0 ) (by decide) (by decide) rfl pd_5 rfl (argsL := [(.int (0 : Int32)), (.int (1 : Int32)), (.ref sa1)]) (rest := []) rfl (W := 0) (Nat.le_of_eq rfl) e4 (by decide) (by decide) (pc' := 8) rfl (fun u5 T5 L5 X5 hQ5 => ?_)
    obtain ⟨rfl, Nq5, eq5⟩ := hQ5
    have N5 := Fr.app N0 Nq5
    show Goes p.tables e below G (T5.setTop (mkF m 8 #[.val (.int (0 : Int32)), .val (.int (1 : Int32))] [(.int (0 : Int32))]))
    refine g_pop C X5 d20_8 (pc' := 9) rfl rfl ?_
    exact g_retV C X5 K d20_9 (by decide) (by decide) eq5 ⟨rfl, N5, rfl⟩
theorem ef_19l1_0 (m : MethodId) (o1 : Addr) : entryFrame m #[(.ref o1), (.int (0 : Int32))] 2 = mkF m 0 #[.val (.ref o1), .val (.int (0 : Int32))] [] := by first | (simp [entryFrame, mkF, argsToLocals, Value.category]; done) | rfl
theorem d19_0 : decode jdk_43_method_2_code 0 = .ok (.iload_n 1, 1) := by decide +kernel
theorem d19_1 : decode jdk_43_method_2_code 1 = .ok (.aload_n 0, 1) := by decide +kernel
theorem d19_2 : decode jdk_43_method_2_code 2 = .ok (.arraylength, 1) := by decide +kernel
theorem d19_3 : decode jdk_43_method_2_code 3 = .ok (.invokestatic 9, 3) := by decide +kernel
theorem w_102 {Z : State} {a0 : Array Value} (hw : ∀ d ∈ tables_1, d.before a0 Z = true) : Jvm.Cond.before (Jvm.Cond.code ({ cls := "java/lang/String", name := "checkIndex", desc := "(II)V" } : Jvm.MethodName) jdk_42_method_155_code (2 : Nat) (Option.none : Option Jvm.ClassFile.FieldType)) a0 Z = true := hw _ (List.mem_of_getElem? (i := 102) rfl)
theorem w_100 {Z : State} {a0 : Array Value} (hw : ∀ d ∈ tables_1, d.before a0 Z = true) : Jvm.Cond.before (Jvm.Cond.methodLink "java/lang/StringLatin1" (9 : Nat) ({ cls := "java/lang/String", name := "checkIndex", desc := "(II)V" } : Jvm.MethodName)) a0 Z = true := hw _ (List.mem_of_getElem? (i := 100) rfl)
theorem pd_6 : parseMethodDescriptor "(II)V" = some ⟨[.int, .int], none⟩ := by decide +kernel
theorem w_101 {Z : State} {a0 : Array Value} (hw : ∀ d ∈ tables_1, d.before a0 Z = true) : Jvm.Cond.before (Jvm.Cond.static ({ cls := "java/lang/String", name := "checkIndex", desc := "(II)V" } : Jvm.MethodName)) a0 Z = true := hw _ (List.mem_of_getElem? (i := 101) rfl)
theorem d19_6 : decode jdk_43_method_2_code 6 = .ok (.aload_n 0, 1) := by decide +kernel
theorem d19_7 : decode jdk_43_method_2_code 7 = .ok (.iload_n 1, 1) := by decide +kernel
theorem d19_8 : decode jdk_43_method_2_code 8 = .ok (.baload, 1) := by decide +kernel
theorem d19_9 : decode jdk_43_method_2_code 9 = .ok (.sipush 255, 3) := by decide +kernel
theorem d19_12 : decode jdk_43_method_2_code 12 = .ok (.iand, 1) := by decide +kernel
theorem d19_13 : decode jdk_43_method_2_code 13 = .ok (.i2c, 1) := by decide +kernel
theorem d19_14 : decode jdk_43_method_2_code 14 = .ok (.ireturn, 1) := by decide +kernel
def Q19_1_0 (Z : State) (o1 : Addr) (kd1 : ClassId) (c1 : Int32) (wf1 : Value) (h0 : Heap) (n0 : Nat) (v : Option Value) (h : Heap) (L : List Loc) : Prop := v = some (.int (own_ch c1)) ∧ Fr n0 L ∧ h = h0
theorem pn_8 : plainName "java/lang/StringLatin1" = true := by first | (simp [plainName, overriddenIn]; done) | decide +kernel
set_option maxRecDepth 65536 in
set_option maxHeartbeats 40000000 in
theorem rm19_1_0 (l : Launch) (Z : State) (a0 : Array Value) (hw : ∀ d ∈ tables_1, d.before a0 Z = true) (ws : List Jvm.Cond) (o1 : Addr) (kd1 : ClassId) (c1 : Int32) (wf1 : Value) (h0 : Heap) (n0 : Nat) (Z0 : n0 ≤ h0.size) (F0 : Arv Z h0 o1 kd1 .byte (1 : Int32) [(.int c1)] (.int (0 : Int32))) (F1 : Sta Z h0 "jdk/internal/util/Preconditions" "SIOOBE_FORMATTER" "Ljava/util/function/BiFunction;" wf1) (hwf : wf1.isRef = true) :
    MetFree l (⟨"java/lang/StringLatin1", "charAt", "([BI)C"⟩ : MethodName) (head1 (Jvm.Cond.code (⟨"java/lang/StringLatin1", "charAt", "([BI)C"⟩ : MethodName) jdk_43_method_2_code 2 (some .char) :: ws) ({ frames := 2, cells := 0, slots := 0, locals := 27 } : Room)) (fun a U => a = #[(.ref o1), (.int (0 : Int32))] ∧ Z.Warmed39 U.vm ∧ U.heap = h0) (fun _ _ _ _ _ => True) (fun _ U o U' => ∃ v L, o = .returned v ∧ Q19_1_0 Z o1 kd1 c1 wf1 h0 n0 v U'.heap L ∧ FrameEnd U o U' L ({ frames := 2, cells := 0, slots := 0, locals := 27 } : Room).cells ({ frames := 2, cells := 0, slots := 0, locals := 27 } : Room).slots) := by
  refine body_of (y := (⟨"java/lang/StringLatin1", "charAt", "([BI)C"⟩ : MethodName)) (Q := Q19_1_0 Z o1 kd1 c1 wf1 h0 n0) (plainFor_of_name pn_8) ?_
  intro p e s m below meth c T0 G C hnm hnamed X0 e0 K
  have N0 := Fr.nil n0
  refine Goes.to (congrArg T0.setTop (ef_19l1_0 m o1)) ?_
  refine g_iloadN C X0 d19_0 (pc' := 1) rfl rfl ?_
  refine g_aloadN C X0 d19_1 (pc' := 2) rfl rfl rfl ?_
  refine g_arraylength C X0 e0 F0 d19_2 (pc' := 3) rfl ?_
  refine g_callS C X0 (w_100 hw) (w_101 hw) (w_4 hw) (w_102 hw) (by decide) d19_3 (rm20_1_0 l Z a0 hw [] wf1 h0 n0 Z0 F1 hwf) (by decide) (by decide) rfl pd_6 rfl (argsL := [(.int (0 : Int32)), (.int (1 : Int32))]) (rest := []) rfl (W := 0) (Nat.le_of_eq rfl) e0 (by decide) (by decide) (pc' := 6) rfl (fun u1 T1 L1 X1 hQ1 => ?_)
  obtain ⟨rfl, Nq1, eq1⟩ := hQ1
  have N1 := Fr.app N0 Nq1
  show Goes p.tables e below G (T1.setTop (mkF m 6 #[.val (.ref o1), .val (.int (0 : Int32))] []))
  refine g_aloadN C X1 d19_6 (pc' := 7) rfl rfl rfl ?_
  refine g_iloadN C X1 d19_7 (pc' := 8) rfl rfl ?_
  refine g_baload C X1 eq1 F0 (by decide) (v := (.int c1)) rfl d19_8 (pc' := 9) rfl ?_
  refine g_sipush C X1 d19_9 (pc' := 12) rfl (v := 255) rfl ?_
  refine g_iand C X1 d19_12 (pc' := 13) rfl ?_
  refine g_i2c C X1 d19_13 (pc' := 14) rfl ?_
  exact g_retN C X1 K (by simp) d19_14 (by decide) (by decide) eq1 ⟨rfl, N1, rfl⟩
theorem ef_17l1_0 (m : MethodId) (o1 : Addr) : entryFrame m #[(.ref o1), (.int (0 : Int32))] 2 = mkF m 0 #[.val (.ref o1), .val (.int (0 : Int32))] [] := by first | (simp [entryFrame, mkF, argsToLocals, Value.category]; done) | rfl
theorem d17_0 : decode jdk_42_method_56_code 0 = .ok (.aload_n 0, 1) := by decide +kernel
theorem d17_1 : decode jdk_42_method_56_code 1 = .ok (.invokevirtual 492, 3) := by decide +kernel
theorem w_96 {Z : State} {a0 : Array Value} (hw : ∀ d ∈ tables_1, d.before a0 Z = true) : Jvm.Cond.before (Jvm.Cond.code ({ cls := "java/lang/String", name := "isLatin1", desc := "()Z" } : Jvm.MethodName) jdk_42_method_154_code (1 : Nat) (Option.some Jvm.ClassFile.FieldType.boolean)) a0 Z = true := hw _ (List.mem_of_getElem? (i := 96) rfl)
theorem w_92 {Z : State} {a0 : Array Value} (hw : ∀ d ∈ tables_1, d.before a0 Z = true) : Jvm.Cond.before (Jvm.Cond.methodLink "java/lang/String" (492 : Nat) ({ cls := "java/lang/String", name := "isLatin1", desc := "()Z" } : Jvm.MethodName)) a0 Z = true := hw _ (List.mem_of_getElem? (i := 92) rfl)
theorem pd_7 : parseMethodDescriptor "()Z" = some ⟨[], some .boolean⟩ := by decide +kernel
theorem w_95 {Z : State} {a0 : Array Value} (hw : ∀ d ∈ tables_1, d.before a0 Z = true) : Jvm.Cond.before (Jvm.Cond.selects "java/lang/String" ({ cls := "java/lang/String", name := "isLatin1", desc := "()Z" } : Jvm.MethodName) ({ cls := "java/lang/String", name := "isLatin1", desc := "()Z" } : Jvm.MethodName)) a0 Z = true := hw _ (List.mem_of_getElem? (i := 95) rfl)
theorem w_93 {Z : State} {a0 : Array Value} (hw : ∀ d ∈ tables_1, d.before a0 Z = true) : Jvm.Cond.before (Jvm.Cond.declares ({ cls := "java/lang/String", name := "isLatin1", desc := "()Z" } : Jvm.MethodName)) a0 Z = true := hw _ (List.mem_of_getElem? (i := 93) rfl)
theorem w_94 {Z : State} {a0 : Array Value} (hw : ∀ d ∈ tables_1, d.before a0 Z = true) : Jvm.Cond.before (Jvm.Cond.instanceMethod ({ cls := "java/lang/String", name := "isLatin1", desc := "()Z" } : Jvm.MethodName)) a0 Z = true := hw _ (List.mem_of_getElem? (i := 94) rfl)
theorem d17_4 : decode jdk_42_method_56_code 4 = .ok (.ifCond .eq 12, 3) := by decide +kernel
theorem d17_7 : decode jdk_42_method_56_code 7 = .ok (.aload_n 0, 1) := by decide +kernel
theorem d17_8 : decode jdk_42_method_56_code 8 = .ok (.getfield 9, 3) := by decide +kernel
theorem d17_11 : decode jdk_42_method_56_code 11 = .ok (.iload_n 1, 1) := by decide +kernel
theorem d17_12 : decode jdk_42_method_56_code 12 = .ok (.invokestatic 495, 3) := by decide +kernel
theorem w_99 {Z : State} {a0 : Array Value} (hw : ∀ d ∈ tables_1, d.before a0 Z = true) : Jvm.Cond.before (Jvm.Cond.code ({ cls := "java/lang/StringLatin1", name := "charAt", desc := "([BI)C" } : Jvm.MethodName) jdk_43_method_2_code (2 : Nat) (Option.some Jvm.ClassFile.FieldType.char)) a0 Z = true := hw _ (List.mem_of_getElem? (i := 99) rfl)
theorem w_36 {Z : State} {a0 : Array Value} (hw : ∀ d ∈ tables_1, d.before a0 Z = true) : Jvm.Cond.before (Jvm.Cond.initialized "java/lang/StringLatin1") a0 Z = true := hw _ (List.mem_of_getElem? (i := 36) rfl)
theorem w_97 {Z : State} {a0 : Array Value} (hw : ∀ d ∈ tables_1, d.before a0 Z = true) : Jvm.Cond.before (Jvm.Cond.methodLink "java/lang/String" (495 : Nat) ({ cls := "java/lang/StringLatin1", name := "charAt", desc := "([BI)C" } : Jvm.MethodName)) a0 Z = true := hw _ (List.mem_of_getElem? (i := 97) rfl)
theorem pd_8 : parseMethodDescriptor "([BI)C" = some ⟨[(.array .byte), .int], some .char⟩ := by decide +kernel
theorem w_98 {Z : State} {a0 : Array Value} (hw : ∀ d ∈ tables_1, d.before a0 Z = true) : Jvm.Cond.before (Jvm.Cond.static ({ cls := "java/lang/StringLatin1", name := "charAt", desc := "([BI)C" } : Jvm.MethodName)) a0 Z = true := hw _ (List.mem_of_getElem? (i := 98) rfl)
theorem d17_15 : decode jdk_42_method_56_code 15 = .ok (.ireturn, 1) := by decide +kernel
def Q17_1_0 (Z : State) (o1 : Addr) (o2 : Addr) (kd1 : ClassId) (c1 : Int32) (cs1 : Int32) (wf1 : Value) (h0 : Heap) (n0 : Nat) (v : Option Value) (h : Heap) (L : List Loc) : Prop := v = some (.int (own_ch c1)) ∧ Fr n0 L ∧ h = h0
set_option maxRecDepth 65536 in
set_option maxHeartbeats 40000000 in
theorem rm17_1_0 (l : Launch) (Z : State) (a0 : Array Value) (hw : ∀ d ∈ tables_1, d.before a0 Z = true) (ws : List Jvm.Cond) (o1 : Addr) (o2 : Addr) (kd1 : ClassId) (c1 : Int32) (cs1 : Int32) (wf1 : Value) (h0 : Heap) (n0 : Nat) (Z0 : n0 ≤ h0.size) (F0 : Exa Z h0 o1 "java/lang/String") (F1 : Fld Z h0 o1 "java/lang/String" "value" "[B" (.ref o2)) (F2 : Fld Z h0 o1 "java/lang/String" "coder" "B" (.int (0 : Int32))) (F3 : Arv Z h0 o2 kd1 .byte (1 : Int32) [(.int c1)] (.int (0 : Int32))) (F4 : Sta Z h0 "java/lang/String" "COMPACT_STRINGS" "Z" (.int cs1)) (F5 : Sta Z h0 "jdk/internal/util/Preconditions" "SIOOBE_FORMATTER" "Ljava/util/function/BiFunction;" wf1) (hcs : ¬ cs1 = (0 : Int32)) (hwf : wf1.isRef = true) :
    MetFree l (⟨"java/lang/String", "charAt", "(I)C"⟩ : MethodName) (head1 (Jvm.Cond.code (⟨"java/lang/String", "charAt", "(I)C"⟩ : MethodName) jdk_42_method_56_code 2 (some .char) :: ws) ({ frames := 3, cells := 0, slots := 0, locals := 40 } : Room)) (fun a U => a = #[(.ref o1), (.int (0 : Int32))] ∧ Z.Warmed39 U.vm ∧ U.heap = h0) (fun _ _ _ _ _ => True) (fun _ U o U' => ∃ v L, o = .returned v ∧ Q17_1_0 Z o1 o2 kd1 c1 cs1 wf1 h0 n0 v U'.heap L ∧ FrameEnd U o U' L ({ frames := 3, cells := 0, slots := 0, locals := 40 } : Room).cells ({ frames := 3, cells := 0, slots := 0, locals := 40 } : Room).slots) := by
  refine body_of (y := (⟨"java/lang/String", "charAt", "(I)C"⟩ : MethodName)) (Q := Q17_1_0 Z o1 o2 kd1 c1 cs1 wf1 h0 n0) (plainFor_of_name pn_1) ?_
  intro p e s m below meth c T0 G C hnm hnamed X0 e0 K
  have N0 := Fr.nil n0
  refine Goes.to (congrArg T0.setTop (ef_17l1_0 m o1)) ?_
  refine g_aloadN C X0 d17_0 (pc' := 1) rfl rfl rfl ?_
  refine g_callV C X0 (w_92 hw) (w_93 hw) (notFace_of_selects (args := #[]) (mvT C.2.1 (w_95 hw))) (w_95 hw) (w_94 hw) (w_96 hw) (w_4 hw) (by decide) F0 d17_1 (rm18 l Z a0 hw [] o1 cs1 h0 n0 Z0 F2 F4 hcs) (by decide) (by decide) rfl pd_7 rfl (argsL := []) (rest := []) rfl (W := 0) (Nat.le_of_eq rfl) e0 (by decide) (by decide) (pc' := 4) rfl (fun u1 T1 L1 X1 hQ1 => ?_)
  obtain ⟨rfl, Nq1, eq1⟩ := hQ1
  have N1 := Fr.app N0 Nq1
  show Goes p.tables e below G (T1.setTop (mkF m 4 #[.val (.ref o1), .val (.int (0 : Int32))] [(.int (1 : Int32))]))
  refine g_if_eq C X1 d17_4 (pcT := 16) (pcN := 7) (by decide) (by decide) rfl (fun hc4 => absurd hc4 (by decide)) (fun hc4 => ?_)
  refine g_aloadN C X1 d17_7 (pc' := 8) rfl rfl rfl ?_
  refine g_getF C X1 (w_29 hw) Via.refl eq1 F1 d17_8 (pc' := 11) rfl (fun T2 X2 e2 => ?_)
  refine g_iloadN C X2 d17_11 (pc' := 12) rfl rfl ?_
  refine g_callS C X2 (w_97 hw) (w_98 hw) (w_36 hw) (w_99 hw) (by decide) d17_12 (rm19_1_0 l Z a0 hw [] o2 kd1 c1 wf1 h0 n0 Z0 F3 F5 hwf) (by decide) (by decide) rfl pd_8 rfl (argsL := [(.ref o2), (.int (0 : Int32))]) (rest := []) rfl (W := 0) (Nat.le_of_eq rfl) e2 (by decide) (by decide) (pc' := 15) rfl (fun u3 T3 L3 X3 hQ3 => ?_)
  obtain ⟨rfl, Nq3, eq3⟩ := hQ3
  have N3 := Fr.app N1 Nq3
  show Goes p.tables e below G (T3.setTop (mkF m 15 #[.val (.ref o1), .val (.int (0 : Int32))] [(.int (own_ch c1))]))
  exact g_retN C X3 K (by simp) d17_15 (by decide) (by decide) eq3 ⟨(by rw [own_narr]), N3, rfl⟩
theorem ef_5l1_0l3_0l4_2 (m : MethodId) (o1 : Addr) (o2 : Addr) : entryFrame m #[(.ref o1), (.int (0 : Int32)), (.ref o2), (.int (0 : Int32)), (.int (2 : Int32))] 7 = mkF m 0 #[.val (.ref o1), .val (.int (0 : Int32)), .val (.ref o2), .val (.int (0 : Int32)), .val (.int (2 : Int32)), .unset, .unset] [] := by first | (simp [entryFrame, mkF, argsToLocals, Value.category]; done) | rfl
def Q5_2 (Z : State) (o1 : Addr) (o2 : Addr) (kd1 : ClassId) (kd2 : ClassId) (c1 : Int32) (c2 : Int32) (h0 : Heap) (n0 : Nat) (v : Option Value) (h : Heap) (L : List Loc) : Prop := v = some (.int (2 : Int32)) ∧ Fr n0 L ∧ Keep h0 h [o2] ∧ Arv Z h o2 kd2 .byte (2 : Int32) [(.int (nar .byte c1.toInt8.toInt32)), (.int (nar .byte c2.toInt8.toInt32))] (.int (0 : Int32))
set_option maxRecDepth 65536 in
set_option maxHeartbeats 40000000 in
theorem rm5_2 (l : Launch) (Z : State) (a0 : Array Value) (hw : ∀ d ∈ tables_1, d.before a0 Z = true) (ws : List Jvm.Cond) (o1 : Addr) (o2 : Addr) (kd1 : ClassId) (kd2 : ClassId) (c1 : Int32) (c2 : Int32) (h0 : Heap) (n0 : Nat) (Z0 : n0 ≤ h0.size) (F0 : Arv Z h0 o1 kd1 .char (2 : Int32) [(.int c1), (.int c2)] (.int (0 : Int32))) (F1 : Arv Z h0 o2 kd2 .byte (2 : Int32) [(.int (0 : Int32)), (.int (0 : Int32))] (.int (0 : Int32))) (gn_o2 : n0 ≤ o2) (la1 : ¬ (255 : Int32) < c1) (la2 : ¬ (255 : Int32) < c2) (ne_o1_o2 : o1 ≠ o2) :
    MetFree l (⟨"java/lang/StringUTF16", "compress", "([CI[BII)I"⟩ : MethodName) (head1 (Jvm.Cond.code (⟨"java/lang/StringUTF16", "compress", "([CI[BII)I"⟩ : MethodName) jdk_52_method_21_code 7 (some .int) :: ws) ({ frames := 0, cells := 0, slots := 0, locals := 0 } : Room)) (fun a U => a = #[(.ref o1), (.int (0 : Int32)), (.ref o2), (.int (0 : Int32)), (.int (2 : Int32))] ∧ Z.Warmed39 U.vm ∧ U.heap = h0) (fun _ _ _ _ _ => True) (fun _ U o U' => ∃ v L, o = .returned v ∧ Q5_2 Z o1 o2 kd1 kd2 c1 c2 h0 n0 v U'.heap L ∧ FrameEnd U o U' L ({ frames := 0, cells := 0, slots := 0, locals := 0 } : Room).cells ({ frames := 0, cells := 0, slots := 0, locals := 0 } : Room).slots) := by
  refine body_of (y := (⟨"java/lang/StringUTF16", "compress", "([CI[BII)I"⟩ : MethodName)) (Q := Q5_2 Z o1 o2 kd1 kd2 c1 c2 h0 n0) (plainFor_of_name pn_4) ?_
  intro p e s m below meth c T0 G C hnm hnamed X0 e0 K
  have N0 := Fr.nil n0
  refine Goes.to (congrArg T0.setTop (ef_5l1_0l3_0l4_2 m o1 o2)) ?_
  have K00 := Keep.refl h0 [o2]
  refine g_iconst C X0 d5_0 (pc' := 1) rfl (v := 0) rfl ?_
  refine g_istore C X0 d5_1 (pc' := 3) rfl (w := (0 : Int32)) rfl (ls' := #[.val (.ref o1), .val (.int (0 : Int32)), .val (.ref o2), .val (.int (0 : Int32)), .val (.int (2 : Int32)), .val (.int (0 : Int32)), .unset]) rfl ?_
  refine g_iload C X0 d5_3 (pc' := 5) rfl rfl ?_
  refine g_iload C X0 d5_5 (pc' := 7) rfl rfl ?_
  refine g_icmp_ge C X0 d5_7 (pcT := 44) (pcN := 10) (by decide) (by decide) rfl (fun hc7 => absurd hc7 (by decide)) (fun hc7 => ?_)
  refine g_aloadN C X0 d5_10 (pc' := 11) rfl rfl rfl ?_
  refine g_iloadN C X0 d5_11 (pc' := 12) rfl rfl ?_
  refine g_caload C X0 e0 F0 (by decide) (v := (.int c1)) rfl d5_12 (pc' := 13) rfl ?_
  refine g_istore C X0 d5_13 (pc' := 15) rfl (w := c1) rfl (ls' := #[.val (.ref o1), .val (.int (0 : Int32)), .val (.ref o2), .val (.int (0 : Int32)), .val (.int (2 : Int32)), .val (.int (0 : Int32)), .val (.int c1)]) rfl ?_
  refine g_iload C X0 d5_15 (pc' := 17) rfl rfl ?_
  refine g_sipush C X0 d5_17 (pc' := 20) rfl (v := 255) rfl ?_
  refine g_icmp_le C X0 d5_20 (pcT := 26) (pcN := 23) (by decide) (by decide) rfl (fun hc20 => ?_) (fun hc20 => absurd hc20 la1)
  refine g_aloadN C X0 d5_26 (pc' := 27) rfl rfl rfl ?_
  refine g_iloadN C X0 d5_27 (pc' := 28) rfl rfl ?_
  refine g_iload C X0 d5_28 (pc' := 30) rfl rfl ?_
  refine g_i2b C X0 d5_30 (pc' := 31) rfl ?_
  refine g_bastore C X0 (i := 0) e0 F1 (by decide) rfl (Nat.le_of_ble_eq_true rfl) d5_31 (pc' := 32) rfl (fun T1 h1 X1 e1 W1 A1 => ?_)
  have f2 := F0.other W1 ne_o1_o2
  have f3 : Arv Z h1 o2 kd2 .byte (2 : Int32) [(.int (nar .byte c1.toInt8.toInt32)), (.int (0 : Int32))] (.int (0 : Int32)) := A1
  have N1 := Fr.snoc X1 N0 gn_o2
  have Z1 := Nat.le_trans Z0 (Nat.le_of_eq W1.size.symm)
  have K1 := K00.wr W1 (Or.inl (List.mem_of_getElem? (i := 0) rfl))
  refine g_iinc C X1 d5_32 (pc' := 35) rfl rfl (w := (1 : Int32)) rfl (ls' := #[.val (.ref o1), .val (.int (1 : Int32)), .val (.ref o2), .val (.int (0 : Int32)), .val (.int (2 : Int32)), .val (.int (0 : Int32)), .val (.int c1)]) rfl ?_
  refine g_iinc C X1 d5_35 (pc' := 38) rfl rfl (w := (1 : Int32)) rfl (ls' := #[.val (.ref o1), .val (.int (1 : Int32)), .val (.ref o2), .val (.int (1 : Int32)), .val (.int (2 : Int32)), .val (.int (0 : Int32)), .val (.int c1)]) rfl ?_
  refine g_iinc C X1 d5_38 (pc' := 41) rfl rfl (w := (1 : Int32)) rfl (ls' := #[.val (.ref o1), .val (.int (1 : Int32)), .val (.ref o2), .val (.int (1 : Int32)), .val (.int (2 : Int32)), .val (.int (1 : Int32)), .val (.int c1)]) rfl ?_
  refine g_goto C X1 d5_41 (pc' := 3) (by decide) (by decide) ?_
  refine g_iload C X1 d5_3 (pc' := 5) rfl rfl ?_
  refine g_iload C X1 d5_5 (pc' := 7) rfl rfl ?_
  refine g_icmp_ge C X1 d5_7 (pcT := 44) (pcN := 10) (by decide) (by decide) rfl (fun hc7 => absurd hc7 (by decide)) (fun hc7 => ?_)
  refine g_aloadN C X1 d5_10 (pc' := 11) rfl rfl rfl ?_
  refine g_iloadN C X1 d5_11 (pc' := 12) rfl rfl ?_
  refine g_caload C X1 e1 f2 (by decide) (v := (.int c2)) rfl d5_12 (pc' := 13) rfl ?_
  refine g_istore C X1 d5_13 (pc' := 15) rfl (w := c2) rfl (ls' := #[.val (.ref o1), .val (.int (1 : Int32)), .val (.ref o2), .val (.int (1 : Int32)), .val (.int (2 : Int32)), .val (.int (1 : Int32)), .val (.int c2)]) rfl ?_
  refine g_iload C X1 d5_15 (pc' := 17) rfl rfl ?_
  refine g_sipush C X1 d5_17 (pc' := 20) rfl (v := 255) rfl ?_
  refine g_icmp_le C X1 d5_20 (pcT := 26) (pcN := 23) (by decide) (by decide) rfl (fun hc20 => ?_) (fun hc20 => absurd hc20 la2)
  refine g_aloadN C X1 d5_26 (pc' := 27) rfl rfl rfl ?_
  refine g_iloadN C X1 d5_27 (pc' := 28) rfl rfl ?_
  refine g_iload C X1 d5_28 (pc' := 30) rfl rfl ?_
  refine g_i2b C X1 d5_30 (pc' := 31) rfl ?_
  refine g_bastore C X1 (i := 1) e1 f3 (by decide) rfl (Nat.le_of_ble_eq_true rfl) d5_31 (pc' := 32) rfl (fun T4 h4 X4 e4 W4 A4 => ?_)
  have f5 := f2.other W4 ne_o1_o2
  have f6 : Arv Z h4 o2 kd2 .byte (2 : Int32) [(.int (nar .byte c1.toInt8.toInt32)), (.int (nar .byte c2.toInt8.toInt32))] (.int (0 : Int32)) := A4
  have N4 := Fr.snoc X4 N1 gn_o2
  have Z4 := Nat.le_trans Z1 (Nat.le_of_eq W4.size.symm)
  have K4 := K1.wr W4 (Or.inl (List.mem_of_getElem? (i := 0) rfl))
  refine g_iinc C X4 d5_32 (pc' := 35) rfl rfl (w := (2 : Int32)) rfl (ls' := #[.val (.ref o1), .val (.int (2 : Int32)), .val (.ref o2), .val (.int (1 : Int32)), .val (.int (2 : Int32)), .val (.int (1 : Int32)), .val (.int c2)]) rfl ?_
  refine g_iinc C X4 d5_35 (pc' := 38) rfl rfl (w := (2 : Int32)) rfl (ls' := #[.val (.ref o1), .val (.int (2 : Int32)), .val (.ref o2), .val (.int (2 : Int32)), .val (.int (2 : Int32)), .val (.int (1 : Int32)), .val (.int c2)]) rfl ?_
  refine g_iinc C X4 d5_38 (pc' := 41) rfl rfl (w := (2 : Int32)) rfl (ls' := #[.val (.ref o1), .val (.int (2 : Int32)), .val (.ref o2), .val (.int (2 : Int32)), .val (.int (2 : Int32)), .val (.int (2 : Int32)), .val (.int c2)]) rfl ?_
  refine g_goto C X4 d5_41 (pc' := 3) (by decide) (by decide) ?_
  refine g_iload C X4 d5_3 (pc' := 5) rfl rfl ?_
  refine g_iload C X4 d5_5 (pc' := 7) rfl rfl ?_
  refine g_icmp_ge C X4 d5_7 (pcT := 44) (pcN := 10) (by decide) (by decide) rfl (fun hc7 => ?_) (fun hc7 => absurd hc7 (by decide))
  refine g_iload C X4 d5_44 (pc' := 46) rfl rfl ?_
  exact g_retI C X4 K d5_46 (by decide) (by decide) e4 ⟨rfl, N4, K4, f6⟩
theorem ef_4l1_0l2_2 (m : MethodId) (o1 : Addr) : entryFrame m #[(.ref o1), (.int (0 : Int32)), (.int (2 : Int32))] 6 = mkF m 0 #[.val (.ref o1), .val (.int (0 : Int32)), .val (.int (2 : Int32)), .unset, .unset, .unset] [] := by first | (simp [entryFrame, mkF, argsToLocals, Value.category]; done) | rfl
def Q4_2 (Z : State) (o1 : Addr) (kd1 : ClassId) (c1 : Int32) (c2 : Int32) (h0 : Heap) (n0 : Nat) (v : Option Value) (h : Heap) (L : List Loc) : Prop := ∃ (o3 : Addr) (kd3 : ClassId), v = some (.ref o3) ∧ Fr n0 L ∧ h0.size ≤ o3 ∧ Keep h0 h [] ∧ Arv Z h o3 kd3 .byte (2 : Int32) [(.int (nar .byte c1.toInt8.toInt32)), (.int (nar .byte c2.toInt8.toInt32))] (.int (0 : Int32))
set_option maxRecDepth 65536 in
set_option maxHeartbeats 40000000 in
theorem rm4_2 (l : Launch) (Z : State) (a0 : Array Value) (hw : ∀ d ∈ tables_1, d.before a0 Z = true) (ws : List Jvm.Cond) (o1 : Addr) (kd1 : ClassId) (c1 : Int32) (c2 : Int32) (h0 : Heap) (n0 : Nat) (Z0 : n0 ≤ h0.size) (F0 : Arv Z h0 o1 kd1 .char (2 : Int32) [(.int c1), (.int c2)] (.int (0 : Int32))) (la1 : ¬ (255 : Int32) < c1) (la2 : ¬ (255 : Int32) < c2) :
    MetFree l (⟨"java/lang/StringUTF16", "compress", "([CII)[B"⟩ : MethodName) (head1 (Jvm.Cond.code (⟨"java/lang/StringUTF16", "compress", "([CII)[B"⟩ : MethodName) jdk_52_method_16_code 6 (some (.array .byte)) :: ws) ({ frames := 1, cells := 1, slots := 2, locals := 18 } : Room)) (fun a U => a = #[(.ref o1), (.int (0 : Int32)), (.int (2 : Int32))] ∧ Z.Warmed39 U.vm ∧ U.heap = h0) (fun _ _ _ _ _ => True) (fun _ U o U' => ∃ v L, o = .returned v ∧ Q4_2 Z o1 kd1 c1 c2 h0 n0 v U'.heap L ∧ FrameEnd U o U' L ({ frames := 1, cells := 1, slots := 2, locals := 18 } : Room).cells ({ frames := 1, cells := 1, slots := 2, locals := 18 } : Room).slots) := by
  refine body_of (y := (⟨"java/lang/StringUTF16", "compress", "([CII)[B"⟩ : MethodName)) (Q := Q4_2 Z o1 kd1 c1 c2 h0 n0) (plainFor_of_name pn_4) ?_
  intro p e s m below meth c T0 G C hnm hnamed X0 e0 K
  have N0 := Fr.nil n0
  refine Goes.to (congrArg T0.setTop (ef_4l1_0l2_2 m o1)) ?_
  have K00 := Keep.refl h0 []
  refine g_iloadN C X0 d4_0 (pc' := 1) rfl rfl ?_
  refine g_newA (aty := .byte) (n := (2 : Int32)) C X0 (cap := 2) (w_20 hw) e0 d4_1 (pc' := 3) rfl (by decide) (by decide) (by decide) (by decide) (by decide) (fun T1 h1 b1 ki1 X1 e1 g1 E1 A1 => ?_)
  have n2 : o1 ≠ b1 := Nat.ne_of_lt (Nat.lt_of_lt_of_eq F0.lt g1.symm)
  have f3 := F0.ext E1
  have gn_b1 : n0 ≤ b1 := Nat.le_trans Z0 (Nat.le_of_eq g1.symm)
  have Z1 := Nat.le_trans Z0 E1.1
  have sz_b1 : h0.size ≤ b1 := Nat.le_trans K00.1 (Nat.le_of_eq g1.symm)
  have K1 := K00.ext E1
  have f4 : Arv Z h1 b1 ki1 .byte (2 : Int32) [(.int (0 : Int32)), (.int (0 : Int32))] (.int (0 : Int32)) := A1.pad (pad_rep [] (.int (0 : Int32)) 2)
  refine g_astoreN C X1 d4_3 (pc' := 4) rfl rfl (ls' := #[.val (.ref o1), .val (.int (0 : Int32)), .val (.int (2 : Int32)), .val (.ref b1), .unset, .unset]) rfl ?_
  refine g_aloadN C X1 d4_4 (pc' := 5) rfl rfl rfl ?_
  refine g_iloadN C X1 d4_5 (pc' := 6) rfl rfl ?_
  refine g_aloadN C X1 d4_6 (pc' := 7) rfl rfl rfl ?_
  refine g_iconst C X1 d4_7 (pc' := 8) rfl (v := 0) rfl ?_
  refine g_iloadN C X1 d4_8 (pc' := 9) rfl rfl ?_
  refine g_callS C X1 (w_21 hw) (w_22 hw) (w_18 hw) (w_23 hw) (by decide) d4_9 (rm5_2 l Z a0 hw [] o1 b1 kd1 ki1 c1 c2 h1 n0 Z1 f3 f4 gn_b1 la1 la2 n2) (by decide) (by decide) rfl pd_0 rfl (argsL := [(.ref o1), (.int (0 : Int32)), (.ref b1), (.int (0 : Int32)), (.int (2 : Int32))]) (rest := []) rfl (W := 0) (Nat.le_of_eq rfl) e1 (by decide) (by decide) (pc' := 12) rfl (fun u5 T5 L5 X5 hQ5 => ?_)
  obtain ⟨rfl, Nq5, Kq5, q5_0⟩ := hQ5
  have N5 := Fr.app N0 Nq5
  have f6 := f3.keep Kq5 (ninS n2 nin0)
  have Z5 := Nat.le_trans Z1 Kq5.1
  have K5 := K1.trans Kq5 (allS (Or.inr sz_b1) all0)
  show Goes p.tables e below G (T5.setTop (mkF m 12 #[.val (.ref o1), .val (.int (0 : Int32)), .val (.int (2 : Int32)), .val (.ref b1), .unset, .unset] [(.int (2 : Int32))]))
  refine g_istore C X5 d4_12 (pc' := 14) rfl (w := (2 : Int32)) rfl (ls' := #[.val (.ref o1), .val (.int (0 : Int32)), .val (.int (2 : Int32)), .val (.ref b1), .val (.int (2 : Int32)), .unset]) rfl ?_
  refine g_iload C X5 d4_14 (pc' := 16) rfl rfl ?_
  refine g_iloadN C X5 d4_16 (pc' := 17) rfl rfl ?_
  refine g_icmp_eq C X5 d4_17 (pcT := 57) (pcN := 20) (by decide) (by decide) rfl (fun hc17 => ?_) (fun hc17 => absurd hc17 (by decide))
  refine g_aloadN C X5 d4_57 (pc' := 58) rfl rfl rfl ?_
  exact g_retA C X5 K rfl rfl rfl d4_58 (by decide) (by decide) rfl ⟨b1, ki1, rfl, N5, sz_b1, K5, q5_0⟩
theorem ef_6l1_2 (m : MethodId) (o1 : Addr) : entryFrame m #[(.ref o1), (.int (2 : Int32))] 2 = mkF m 0 #[.val (.ref o1), .val (.int (2 : Int32))] [] := by first | (simp [entryFrame, mkF, argsToLocals, Value.category]; done) | rfl
def Q6_2 (Z : State) (o1 : Addr) (kd1 : ClassId) (c1 : Int32) (c2 : Int32) (h0 : Heap) (n0 : Nat) (v : Option Value) (h : Heap) (L : List Loc) : Prop := v = some (.int (0 : Int32)) ∧ Fr n0 L ∧ h = h0
set_option maxRecDepth 65536 in
set_option maxHeartbeats 40000000 in
theorem rm6_2 (l : Launch) (Z : State) (a0 : Array Value) (hw : ∀ d ∈ tables_1, d.before a0 Z = true) (ws : List Jvm.Cond) (o1 : Addr) (kd1 : ClassId) (c1 : Int32) (c2 : Int32) (h0 : Heap) (n0 : Nat) (Z0 : n0 ≤ h0.size) (F0 : Arv Z h0 o1 kd1 .byte (2 : Int32) [(.int c1), (.int c2)] (.int (0 : Int32))) :
    MetFree l (⟨"java/lang/StringUTF16", "coderFromArrayLen", "([BI)B"⟩ : MethodName) (head1 (Jvm.Cond.code (⟨"java/lang/StringUTF16", "coderFromArrayLen", "([BI)B"⟩ : MethodName) jdk_52_method_15_code 2 (some .byte) :: ws) ({ frames := 0, cells := 0, slots := 0, locals := 0 } : Room)) (fun a U => a = #[(.ref o1), (.int (2 : Int32))] ∧ Z.Warmed39 U.vm ∧ U.heap = h0) (fun _ _ _ _ _ => True) (fun _ U o U' => ∃ v L, o = .returned v ∧ Q6_2 Z o1 kd1 c1 c2 h0 n0 v U'.heap L ∧ FrameEnd U o U' L ({ frames := 0, cells := 0, slots := 0, locals := 0 } : Room).cells ({ frames := 0, cells := 0, slots := 0, locals := 0 } : Room).slots) := by
  refine body_of (y := (⟨"java/lang/StringUTF16", "coderFromArrayLen", "([BI)B"⟩ : MethodName)) (Q := Q6_2 Z o1 kd1 c1 c2 h0 n0) (plainFor_of_name pn_4) ?_
  intro p e s m below meth c T0 G C hnm hnamed X0 e0 K
  have N0 := Fr.nil n0
  refine Goes.to (congrArg T0.setTop (ef_6l1_2 m o1)) ?_
  refine g_iloadN C X0 d6_0 (pc' := 1) rfl rfl ?_
  refine g_aloadN C X0 d6_1 (pc' := 2) rfl rfl rfl ?_
  refine g_arraylength C X0 e0 F0 d6_2 (pc' := 3) rfl ?_
  refine g_isub C X0 d6_3 (pc' := 4) rfl ?_
  refine g_bipush C X0 d6_4 (pc' := 6) rfl (v := 31) rfl ?_
  refine g_iushr C X0 d6_6 (pc' := 7) rfl ?_
  refine g_i2b C X0 d6_7 (pc' := 8) rfl ?_
  exact g_retN C X0 K (by simp) d6_8 (by decide) (by decide) e0 ⟨(by decide), N0, rfl⟩
theorem ef_2l2_0l3_2n4 (m : MethodId) (o1 : Addr) (o2 : Addr) : entryFrame m #[(.ref o1), (.ref o2), (.int (0 : Int32)), (.int (2 : Int32)), .null] 6 = mkF m 0 #[.val (.ref o1), .val (.ref o2), .val (.int (0 : Int32)), .val (.int (2 : Int32)), .val .null, .unset] [] := by first | (simp [entryFrame, mkF, argsToLocals, Value.category]; done) | rfl
def Q2_2 (Z : State) (o1 : Addr) (o2 : Addr) (kd1 : ClassId) (c1 : Int32) (c2 : Int32) (cs1 : Int32) (h0 : Heap) (n0 : Nat) (v : Option Value) (h : Heap) (L : List Loc) : Prop := ∃ (o3 : Addr) (kd3 : ClassId), v = none ∧ Fr n0 L ∧ h0.size ≤ o3 ∧ Keep h0 h [o1] ∧ Exa Z h o1 "java/lang/String" ∧ Fld Z h o1 "java/lang/String" "value" "[B" (.ref o3) ∧ Fld Z h o1 "java/lang/String" "coder" "B" (.int (0 : Int32)) ∧ Arv Z h o3 kd3 .byte (2 : Int32) [(.int (nar .byte c1.toInt8.toInt32)), (.int (nar .byte c2.toInt8.toInt32))] (.int (0 : Int32))
set_option maxRecDepth 65536 in
set_option maxHeartbeats 40000000 in
theorem rm2_2 (l : Launch) (Z : State) (a0 : Array Value) (hw : ∀ d ∈ tables_1, d.before a0 Z = true) (ws : List Jvm.Cond) (o1 : Addr) (o2 : Addr) (kd1 : ClassId) (c1 : Int32) (c2 : Int32) (cs1 : Int32) (h0 : Heap) (n0 : Nat) (Z0 : n0 ≤ h0.size) (F0 : Exa Z h0 o1 "java/lang/String") (F1 : Fld Z h0 o1 "java/lang/String" "value" "[B" .null) (F2 : Fld Z h0 o1 "java/lang/String" "coder" "B" (.int (0 : Int32))) (F3 : Arv Z h0 o2 kd1 .char (2 : Int32) [(.int c1), (.int c2)] (.int (0 : Int32))) (F4 : Sta Z h0 "java/lang/String" "COMPACT_STRINGS" "Z" (.int cs1)) (gn_o1 : n0 ≤ o1) (la1 : ¬ (255 : Int32) < c1) (la2 : ¬ (255 : Int32) < c2) (hcs : ¬ cs1 = (0 : Int32)) (ne_o1_o2 : o1 ≠ o2) :
    MetFree l (⟨"java/lang/String", "<init>", "([CIILjava/lang/Void;)V"⟩ : MethodName) (head1 (Jvm.Cond.code (⟨"java/lang/String", "<init>", "([CIILjava/lang/Void;)V"⟩ : MethodName) jdk_42_method_149_code 6 none :: ws) ({ frames := 2, cells := 1, slots := 2, locals := 35 } : Room)) (fun a U => a = #[(.ref o1), (.ref o2), (.int (0 : Int32)), (.int (2 : Int32)), .null] ∧ Z.Warmed39 U.vm ∧ U.heap = h0) (fun _ _ _ _ _ => True) (fun _ U o U' => ∃ v L, o = .returned v ∧ Q2_2 Z o1 o2 kd1 c1 c2 cs1 h0 n0 v U'.heap L ∧ FrameEnd U o U' L ({ frames := 2, cells := 1, slots := 2, locals := 35 } : Room).cells ({ frames := 2, cells := 1, slots := 2, locals := 35 } : Room).slots) := by
  refine body_of (y := (⟨"java/lang/String", "<init>", "([CIILjava/lang/Void;)V"⟩ : MethodName)) (Q := Q2_2 Z o1 o2 kd1 c1 c2 cs1 h0 n0) (plainFor_of_name pn_1) ?_
  intro p e s m below meth c T0 G C hnm hnamed X0 e0 K
  have N0 := Fr.nil n0
  refine Goes.to (congrArg T0.setTop (ef_2l2_0l3_2n4 m o1 o2)) ?_
  have K00 := Keep.refl h0 [o1]
  refine g_aloadN C X0 d2_0 (pc' := 1) rfl rfl rfl ?_
  refine g_initO C X0 (w_12 hw) (w_13 hw) (w_14 hw) e0 rfl d2_1 (pc' := 4) rfl (by decide) (W := 0) (Nat.le_of_eq rfl) (by decide) (fun T1 X1 e1 => ?_)
  refine g_iloadN C X1 d2_4 (pc' := 5) rfl rfl ?_
  refine g_if_ne C X1 d2_5 (pcT := 27) (pcN := 8) (by decide) (by decide) rfl (fun hc5 => ?_) (fun hc5 => absurd hc5 (by decide))
  refine g_getS C X1 (w_15 hw) Via.refl e1 F4 d2_27 (pc' := 30) rfl (fun T2 X2 e2 => ?_)
  refine g_if_eq C X2 d2_30 (pcT := 58) (pcN := 33) (by decide) (by decide) rfl (fun hc30 => absurd hc30 hcs) (fun hc30 => ?_)
  refine g_aloadN C X2 d2_33 (pc' := 34) rfl rfl rfl ?_
  refine g_iloadN C X2 d2_34 (pc' := 35) rfl rfl ?_
  refine g_iloadN C X2 d2_35 (pc' := 36) rfl rfl ?_
  refine g_callS C X2 (w_16 hw) (w_17 hw) (w_18 hw) (w_19 hw) (by decide) d2_36 (rm4_2 l Z a0 hw [] o2 kd1 c1 c2 h0 n0 Z0 F3 la1 la2) (by decide) (by decide) rfl pd_1 rfl (argsL := [(.ref o2), (.int (0 : Int32)), (.int (2 : Int32))]) (rest := []) rfl (W := 0) (Nat.le_of_eq rfl) e2 (by decide) (by decide) (pc' := 39) rfl (fun u3 T3 L3 X3 hQ3 => ?_)
  obtain ⟨o33, kd33, rfl, Nq3, szo33, Kq3, q3_0⟩ := hQ3
  have N3 := Fr.app N0 Nq3
  have n4 : o1 ≠ o33 := Nat.ne_of_lt (Nat.lt_of_lt_of_le F0.lt szo33)
  have n5 : o2 ≠ o33 := Nat.ne_of_lt (Nat.lt_of_lt_of_le F3.lt szo33)
  have f6 := F0.keep Kq3
  have f7 := F1.keep Kq3 nin0
  have f8 := F2.keep Kq3 nin0
  have f9 := F3.keep Kq3 nin0
  have f10 := Sta.keepN F4 Kq3 all0
  have gn_o33 : n0 ≤ o33 := Nat.le_trans Z0 szo33
  have Z3 := Nat.le_trans Z0 Kq3.1
  have sz_o33 : h0.size ≤ o33 := Nat.le_trans K00.1 szo33
  have K3 := K00.trans Kq3 all0
  show Goes p.tables e below G (T3.setTop (mkF m 39 #[.val (.ref o1), .val (.ref o2), .val (.int (0 : Int32)), .val (.int (2 : Int32)), .val .null, .unset] [(.ref o33)]))
  refine g_astore C X3 d2_39 (pc' := 41) rfl rfl (ls' := #[.val (.ref o1), .val (.ref o2), .val (.int (0 : Int32)), .val (.int (2 : Int32)), .val .null, .val (.ref o33)]) rfl ?_
  refine g_aloadN C X3 d2_41 (pc' := 42) rfl rfl rfl ?_
  refine g_aload C X3 d2_42 (pc' := 44) rfl rfl rfl ?_
  refine g_iloadN C X3 d2_44 (pc' := 45) rfl rfl ?_
  refine g_callS C X3 (w_24 hw) (w_25 hw) (w_18 hw) (w_26 hw) (by decide) d2_45 (rm6_2 l Z a0 hw [] o33 kd33 (nar .byte c1.toInt8.toInt32) (nar .byte c2.toInt8.toInt32) T3.heap n0 Z3 q3_0) (by decide) (by decide) rfl pd_2 rfl (argsL := [(.ref o33), (.int (2 : Int32))]) (rest := [(.ref o1)]) rfl (W := 1) (Nat.le_of_eq rfl) rfl (by decide) (by decide) (pc' := 48) rfl (fun u11 T11 L11 X11 hQ11 => ?_)
  obtain ⟨rfl, Nq11, eq11⟩ := hQ11
  have N11 := Fr.app N3 Nq11
  show Goes p.tables e below G (T11.setTop (mkF m 48 #[.val (.ref o1), .val (.ref o2), .val (.int (0 : Int32)), .val (.int (2 : Int32)), .val .null, .val (.ref o33)] [(.int (0 : Int32)), (.ref o1)]))
  refine g_putFN C X11 (w_27 hw) Via.refl eq11 f8 f6 (Or.inr ⟨(w_28 hw), rfl, hnm⟩) (w_3 hw) (ty := .byte) (by decide) (v' := (.int (0 : Int32))) (by decide) (by decide) d2_48 (pc' := 51) rfl (fun T12 h12 X12 e12 W12 => ?_)
  have f13 := f6.wr W12
  have f14 := f7.other W12 (Or.inr (slot_ne (Or.inr (w_30 hw)) (Or.inr (w_28 hw)) (by decide) (t := (.array .byte)) (t' := .byte) (by decide) (by decide)))
  have f15 := f8.same W12
  have f16 := f9.other W12 (Ne.symm ne_o1_o2)
  have f17 := f10.wr W12
  have f18 := q3_0.other W12 (Ne.symm n4)
  have N12 := Fr.snoc X12 N11 gn_o1
  have Z12 := Nat.le_trans Z3 (Nat.le_of_eq W12.size.symm)
  have K12 := K3.wr W12 (Or.inl (List.mem_of_getElem? (i := 0) rfl))
  refine g_aloadN C X12 d2_51 (pc' := 52) rfl rfl rfl ?_
  refine g_aload C X12 d2_52 (pc' := 54) rfl rfl rfl ?_
  refine g_putF C X12 (w_29 hw) Via.refl e12 f14 f13 (Or.inr ⟨(w_30 hw), rfl, hnm⟩) (w_3 hw) (ty := (.array .byte)) (by decide) rfl rfl d2_54 (pc' := 57) rfl (fun T19 h19 X19 e19 W19 => ?_)
  have f20 := f13.wr W19
  have f21 := f14.same W19
  have f22 := f15.other W19 (Or.inr (slot_ne (Or.inr (w_28 hw)) (Or.inr (w_30 hw)) (by decide) (t := .byte) (t' := (.array .byte)) (by decide) (by decide)))
  have f23 := f16.other W19 (Ne.symm ne_o1_o2)
  have f24 := f17.wr W19
  have f25 := f18.other W19 (Ne.symm n4)
  have N19 := Fr.snoc X19 N12 gn_o1
  have Z19 := Nat.le_trans Z12 (Nat.le_of_eq W19.size.symm)
  have K19 := K12.wr W19 (Or.inl (List.mem_of_getElem? (i := 0) rfl))
  exact g_retV C X19 K d2_57 (by decide) (by decide) e19 ⟨o33, kd33, rfl, N19, sz_o33, K19, f20, f21, f22, f25⟩
def Q1_2 (Z : State) (o1 : Addr) (o2 : Addr) (kd1 : ClassId) (c1 : Int32) (c2 : Int32) (cs1 : Int32) (h0 : Heap) (n0 : Nat) (v : Option Value) (h : Heap) (L : List Loc) : Prop := ∃ (o3 : Addr) (kd3 : ClassId), v = none ∧ Fr n0 L ∧ h0.size ≤ o3 ∧ Keep h0 h [o1] ∧ Exa Z h o1 "java/lang/String" ∧ Fld Z h o1 "java/lang/String" "value" "[B" (.ref o3) ∧ Fld Z h o1 "java/lang/String" "coder" "B" (.int (0 : Int32)) ∧ Arv Z h o3 kd3 .byte (2 : Int32) [(.int (nar .byte c1.toInt8.toInt32)), (.int (nar .byte c2.toInt8.toInt32))] (.int (0 : Int32))
set_option maxRecDepth 65536 in
set_option maxHeartbeats 40000000 in
theorem rm1_2 (l : Launch) (Z : State) (a0 : Array Value) (hw : ∀ d ∈ tables_1, d.before a0 Z = true) (ws : List Jvm.Cond) (o1 : Addr) (o2 : Addr) (kd1 : ClassId) (c1 : Int32) (c2 : Int32) (cs1 : Int32) (h0 : Heap) (n0 : Nat) (Z0 : n0 ≤ h0.size) (F0 : Exa Z h0 o1 "java/lang/String") (F1 : Fld Z h0 o1 "java/lang/String" "value" "[B" .null) (F2 : Fld Z h0 o1 "java/lang/String" "coder" "B" (.int (0 : Int32))) (F3 : Arv Z h0 o2 kd1 .char (2 : Int32) [(.int c1), (.int c2)] (.int (0 : Int32))) (F4 : Sta Z h0 "java/lang/String" "COMPACT_STRINGS" "Z" (.int cs1)) (gn_o1 : n0 ≤ o1) (la1 : ¬ (255 : Int32) < c1) (la2 : ¬ (255 : Int32) < c2) (hcs : ¬ cs1 = (0 : Int32)) (ne_o1_o2 : o1 ≠ o2) :
    MetFree l (⟨"java/lang/String", "<init>", "([C)V"⟩ : MethodName) (head1 (Jvm.Cond.code (⟨"java/lang/String", "<init>", "([C)V"⟩ : MethodName) jdk_42_method_3_code 2 none :: ws) ({ frames := 3, cells := 1, slots := 2, locals := 52 } : Room)) (fun a U => a = #[(.ref o1), (.ref o2)] ∧ Z.Warmed39 U.vm ∧ U.heap = h0) (fun _ _ _ _ _ => True) (fun _ U o U' => ∃ v L, o = .returned v ∧ Q1_2 Z o1 o2 kd1 c1 c2 cs1 h0 n0 v U'.heap L ∧ FrameEnd U o U' L ({ frames := 3, cells := 1, slots := 2, locals := 52 } : Room).cells ({ frames := 3, cells := 1, slots := 2, locals := 52 } : Room).slots) := by
  refine body_of (y := (⟨"java/lang/String", "<init>", "([C)V"⟩ : MethodName)) (Q := Q1_2 Z o1 o2 kd1 c1 c2 cs1 h0 n0) (plainFor_of_name pn_1) ?_
  intro p e s m below meth c T0 G C hnm hnamed X0 e0 K
  have N0 := Fr.nil n0
  refine Goes.to (congrArg T0.setTop (ef_1 m o1 o2)) ?_
  have K00 := Keep.refl h0 [o1]
  refine g_aloadN C X0 d1_0 (pc' := 1) rfl rfl rfl ?_
  refine g_aloadN C X0 d1_1 (pc' := 2) rfl rfl rfl ?_
  refine g_iconst C X0 d1_2 (pc' := 3) rfl (v := 0) rfl ?_
  refine g_aloadN C X0 d1_3 (pc' := 4) rfl rfl rfl ?_
  refine g_arraylength C X0 e0 F3 d1_4 (pc' := 5) rfl ?_
  refine g_aconstNull C X0 d1_5 (pc' := 6) rfl ?_
  refine g_callI C X0 rfl (w_8 hw) (w_9 hw) (w_4 hw) (w_11 hw) (by decide) d1_6 (rm2_2 l Z a0 hw [] o1 o2 kd1 c1 c2 cs1 h0 n0 Z0 F0 F1 F2 F3 F4 gn_o1 la1 la2 hcs ne_o1_o2) (by decide) (by decide) rfl pd_3 rfl (argsL := [(.ref o2), (.int (0 : Int32)), (.int (2 : Int32)), .null]) (rest := []) rfl (W := 0) (Nat.le_of_eq rfl) e0 (by decide) (by decide) (pc' := 9) rfl (fun u1 T1 L1 X1 hQ1 => ?_)
  obtain ⟨o31, kd31, rfl, Nq1, szo31, Kq1, q1_0, q1_1, q1_2, q1_3⟩ := hQ1
  have N1 := Fr.app N0 Nq1
  have n2 : o1 ≠ o31 := Nat.ne_of_lt (Nat.lt_of_lt_of_le F0.lt szo31)
  have n3 : o2 ≠ o31 := Nat.ne_of_lt (Nat.lt_of_lt_of_le F3.lt szo31)
  have f4 := F0.keep Kq1
  have f5 := F3.keep Kq1 (ninS (Ne.symm ne_o1_o2) nin0)
  have f6 := Sta.keepN F4 Kq1 (allS (Exa.ns F0) all0)
  have gn_o31 : n0 ≤ o31 := Nat.le_trans Z0 szo31
  have Z1 := Nat.le_trans Z0 Kq1.1
  have sz_o31 : h0.size ≤ o31 := Nat.le_trans K00.1 szo31
  have K1 := K00.trans Kq1 (allS (Or.inl (List.mem_of_getElem? (i := 0) rfl)) all0)
  show Goes p.tables e below G (T1.setTop (mkF m 9 #[.val (.ref o1), .val (.ref o2)] []))
  exact g_retV C X1 K d1_9 (by decide) (by decide) rfl ⟨o31, kd31, rfl, N1, sz_o31, K1, q1_0, q1_1, q1_2, q1_3⟩
def Q15_2 (Z : State) (o1 : Addr) (o2 : Addr) (kd1 : ClassId) (c1 : Int32) (c2 : Int32) (cs1 : Int32) (h0 : Heap) (n0 : Nat) (v : Option Value) (h : Heap) (L : List Loc) : Prop := v = some (.int (2 : Int32)) ∧ Fr n0 L ∧ h = h0
set_option maxRecDepth 65536 in
set_option maxHeartbeats 40000000 in
theorem rm15_2 (l : Launch) (Z : State) (a0 : Array Value) (hw : ∀ d ∈ tables_1, d.before a0 Z = true) (ws : List Jvm.Cond) (o1 : Addr) (o2 : Addr) (kd1 : ClassId) (c1 : Int32) (c2 : Int32) (cs1 : Int32) (h0 : Heap) (n0 : Nat) (Z0 : n0 ≤ h0.size) (F0 : Exa Z h0 o1 "java/lang/String") (F1 : Fld Z h0 o1 "java/lang/String" "value" "[B" (.ref o2)) (F2 : Fld Z h0 o1 "java/lang/String" "coder" "B" (.int (0 : Int32))) (F3 : Arv Z h0 o2 kd1 .byte (2 : Int32) [(.int c1), (.int c2)] (.int (0 : Int32))) (F4 : Sta Z h0 "java/lang/String" "COMPACT_STRINGS" "Z" (.int cs1)) (hcs : ¬ cs1 = (0 : Int32)) :
    MetFree l (⟨"java/lang/String", "length", "()I"⟩ : MethodName) (head1 (Jvm.Cond.code (⟨"java/lang/String", "length", "()I"⟩ : MethodName) jdk_42_method_54_code 1 (some .int) :: ws) ({ frames := 1, cells := 0, slots := 0, locals := 13 } : Room)) (fun a U => a = #[(.ref o1)] ∧ Z.Warmed39 U.vm ∧ U.heap = h0) (fun _ _ _ _ _ => True) (fun _ U o U' => ∃ v L, o = .returned v ∧ Q15_2 Z o1 o2 kd1 c1 c2 cs1 h0 n0 v U'.heap L ∧ FrameEnd U o U' L ({ frames := 1, cells := 0, slots := 0, locals := 13 } : Room).cells ({ frames := 1, cells := 0, slots := 0, locals := 13 } : Room).slots) := by
  refine body_of (y := (⟨"java/lang/String", "length", "()I"⟩ : MethodName)) (Q := Q15_2 Z o1 o2 kd1 c1 c2 cs1 h0 n0) (plainFor_of_name pn_1) ?_
  intro p e s m below meth c T0 G C hnm hnamed X0 e0 K
  have N0 := Fr.nil n0
  refine Goes.to (congrArg T0.setTop (ef_15 m o1)) ?_
  refine g_aloadN C X0 d15_0 (pc' := 1) rfl rfl rfl ?_
  refine g_getF C X0 (w_29 hw) Via.refl e0 F1 d15_1 (pc' := 4) rfl (fun T1 X1 e1 => ?_)
  refine g_arraylength C X1 e1 F3 d15_4 (pc' := 5) rfl ?_
  refine g_aloadN C X1 d15_5 (pc' := 6) rfl rfl rfl ?_
  refine g_callV C X1 (w_82 hw) (w_83 hw) (notFace_of_selects (args := #[]) (mvT C.2.1 (w_85 hw))) (w_85 hw) (w_84 hw) (w_86 hw) (w_4 hw) (by decide) F0 d15_6 (rm16 l Z a0 hw [] o1 cs1 h0 n0 Z0 F2 F4 hcs) (by decide) (by decide) rfl pd_4 rfl (argsL := []) (rest := [(.int (2 : Int32))]) rfl (W := 1) (Nat.le_of_eq rfl) e1 (by decide) (by decide) (pc' := 9) rfl (fun u2 T2 L2 X2 hQ2 => ?_)
  obtain ⟨rfl, Nq2, eq2⟩ := hQ2
  have N2 := Fr.app N0 Nq2
  show Goes p.tables e below G (T2.setTop (mkF m 9 #[.val (.ref o1)] [(.int (0 : Int32)), (.int (2 : Int32))]))
  refine g_ishr C X2 d15_9 (pc' := 10) rfl ?_
  exact g_retI C X2 K d15_10 (by decide) (by decide) eq2 ⟨(by decide), N2, rfl⟩
def Q14_2 (Z : State) (o1 : Addr) (o2 : Addr) (kd1 : ClassId) (c1 : Int32) (c2 : Int32) (h0 : Heap) (n0 : Nat) (v : Option Value) (h : Heap) (L : List Loc) : Prop := v = some (.int (0 : Int32)) ∧ Fr n0 L ∧ h = h0
set_option maxRecDepth 65536 in
set_option maxHeartbeats 40000000 in
theorem rm14_2 (l : Launch) (Z : State) (a0 : Array Value) (hw : ∀ d ∈ tables_1, d.before a0 Z = true) (ws : List Jvm.Cond) (o1 : Addr) (o2 : Addr) (kd1 : ClassId) (c1 : Int32) (c2 : Int32) (h0 : Heap) (n0 : Nat) (Z0 : n0 ≤ h0.size) (F0 : Exa Z h0 o1 "java/lang/String") (F1 : Fld Z h0 o1 "java/lang/String" "value" "[B" (.ref o2)) (F2 : Fld Z h0 o1 "java/lang/String" "coder" "B" (.int (0 : Int32))) (F3 : Arv Z h0 o2 kd1 .byte (2 : Int32) [(.int c1), (.int c2)] (.int (0 : Int32))) :
    MetFree l (⟨"java/lang/String", "isEmpty", "()Z"⟩ : MethodName) (head1 (Jvm.Cond.code (⟨"java/lang/String", "isEmpty", "()Z"⟩ : MethodName) jdk_42_method_55_code 1 (some .boolean) :: ws) ({ frames := 0, cells := 0, slots := 0, locals := 0 } : Room)) (fun a U => a = #[(.ref o1)] ∧ Z.Warmed39 U.vm ∧ U.heap = h0) (fun _ _ _ _ _ => True) (fun _ U o U' => ∃ v L, o = .returned v ∧ Q14_2 Z o1 o2 kd1 c1 c2 h0 n0 v U'.heap L ∧ FrameEnd U o U' L ({ frames := 0, cells := 0, slots := 0, locals := 0 } : Room).cells ({ frames := 0, cells := 0, slots := 0, locals := 0 } : Room).slots) := by
  refine body_of (y := (⟨"java/lang/String", "isEmpty", "()Z"⟩ : MethodName)) (Q := Q14_2 Z o1 o2 kd1 c1 c2 h0 n0) (plainFor_of_name pn_1) ?_
  intro p e s m below meth c T0 G C hnm hnamed X0 e0 K
  have N0 := Fr.nil n0
  refine Goes.to (congrArg T0.setTop (ef_14 m o1)) ?_
  refine g_aloadN C X0 d14_0 (pc' := 1) rfl rfl rfl ?_
  refine g_getF C X0 (w_29 hw) Via.refl e0 F1 d14_1 (pc' := 4) rfl (fun T1 X1 e1 => ?_)
  refine g_arraylength C X1 e1 F3 d14_4 (pc' := 5) rfl ?_
  refine g_if_ne C X1 d14_5 (pcT := 12) (pcN := 8) (by decide) (by decide) rfl (fun hc5 => ?_) (fun hc5 => absurd hc5 (by decide))
  refine g_iconst C X1 d14_12 (pc' := 13) rfl (v := 0) rfl ?_
  exact g_retN C X1 K (by simp) d14_13 (by decide) (by decide) e1 ⟨rfl, N0, rfl⟩
theorem ef_21l0_0l1_2n2 (m : MethodId)  : entryFrame m #[(.int (0 : Int32)), (.int (2 : Int32)), .null] 3 = mkF m 0 #[.val (.int (0 : Int32)), .val (.int (2 : Int32)), .val .null] [] := by first | (simp [entryFrame, mkF, argsToLocals, Value.category]; done) | rfl
def Q21_2_0n (Z : State)  (h0 : Heap) (n0 : Nat) (v : Option Value) (h : Heap) (L : List Loc) : Prop := v = some (.int (0 : Int32)) ∧ Fr n0 L ∧ h = h0
set_option maxRecDepth 65536 in
set_option maxHeartbeats 40000000 in
theorem rm21_2_0n (l : Launch) (Z : State) (a0 : Array Value) (hw : ∀ d ∈ tables_1, d.before a0 Z = true) (ws : List Jvm.Cond)  (h0 : Heap) (n0 : Nat) (Z0 : n0 ≤ h0.size) :
    MetFree l (⟨"jdk/internal/util/Preconditions", "checkIndex", "(IILjava/util/function/BiFunction;)I"⟩ : MethodName) (head1 (Jvm.Cond.code (⟨"jdk/internal/util/Preconditions", "checkIndex", "(IILjava/util/function/BiFunction;)I"⟩ : MethodName) jdk_41_method_11_code 3 (some .int) :: ws) ({ frames := 0, cells := 0, slots := 0, locals := 0 } : Room)) (fun a U => a = #[(.int (0 : Int32)), (.int (2 : Int32)), .null] ∧ Z.Warmed39 U.vm ∧ U.heap = h0) (fun _ _ _ _ _ => True) (fun _ U o U' => ∃ v L, o = .returned v ∧ Q21_2_0n Z  h0 n0 v U'.heap L ∧ FrameEnd U o U' L ({ frames := 0, cells := 0, slots := 0, locals := 0 } : Room).cells ({ frames := 0, cells := 0, slots := 0, locals := 0 } : Room).slots) := by
  refine body_of (y := (⟨"jdk/internal/util/Preconditions", "checkIndex", "(IILjava/util/function/BiFunction;)I"⟩ : MethodName)) (Q := Q21_2_0n Z  h0 n0) (plainFor_of_name pn_21) ?_
  intro p e s m below meth c T0 G C hnm hnamed X0 e0 K
  have N0 := Fr.nil n0
  refine Goes.to (congrArg T0.setTop (ef_21l0_0l1_2n2 m )) ?_
  refine g_iloadN C X0 d21_0 (pc' := 1) rfl rfl ?_
  refine g_if_lt C X0 d21_1 (pcT := 9) (pcN := 4) (by decide) (by decide) rfl (fun hc1 => absurd hc1 (by decide)) (fun hc1 => ?_)
  refine g_iloadN C X0 d21_4 (pc' := 5) rfl rfl ?_
  refine g_iloadN C X0 d21_5 (pc' := 6) rfl rfl ?_
  refine g_icmp_lt C X0 d21_6 (pcT := 16) (pcN := 9) (by decide) (by decide) rfl (fun hc6 => ?_) (fun hc6 => absurd hc6 (by decide))
  refine g_iloadN C X0 d21_16 (pc' := 17) rfl rfl ?_
  exact g_retI C X0 K d21_17 (by decide) (by decide) e0 ⟨rfl, N0, rfl⟩
theorem ef_21l0_0l1_2 (m : MethodId) (o1 : Addr) : entryFrame m #[(.int (0 : Int32)), (.int (2 : Int32)), (.ref o1)] 3 = mkF m 0 #[.val (.int (0 : Int32)), .val (.int (2 : Int32)), .val (.ref o1)] [] := by first | (simp [entryFrame, mkF, argsToLocals, Value.category]; done) | rfl
def Q21_2_0r (Z : State) (o1 : Addr) (h0 : Heap) (n0 : Nat) (v : Option Value) (h : Heap) (L : List Loc) : Prop := v = some (.int (0 : Int32)) ∧ Fr n0 L ∧ h = h0
set_option maxRecDepth 65536 in
set_option maxHeartbeats 40000000 in
theorem rm21_2_0r (l : Launch) (Z : State) (a0 : Array Value) (hw : ∀ d ∈ tables_1, d.before a0 Z = true) (ws : List Jvm.Cond) (o1 : Addr) (h0 : Heap) (n0 : Nat) (Z0 : n0 ≤ h0.size) :
    MetFree l (⟨"jdk/internal/util/Preconditions", "checkIndex", "(IILjava/util/function/BiFunction;)I"⟩ : MethodName) (head1 (Jvm.Cond.code (⟨"jdk/internal/util/Preconditions", "checkIndex", "(IILjava/util/function/BiFunction;)I"⟩ : MethodName) jdk_41_method_11_code 3 (some .int) :: ws) ({ frames := 0, cells := 0, slots := 0, locals := 0 } : Room)) (fun a U => a = #[(.int (0 : Int32)), (.int (2 : Int32)), (.ref o1)] ∧ Z.Warmed39 U.vm ∧ U.heap = h0) (fun _ _ _ _ _ => True) (fun _ U o U' => ∃ v L, o = .returned v ∧ Q21_2_0r Z o1 h0 n0 v U'.heap L ∧ FrameEnd U o U' L ({ frames := 0, cells := 0, slots := 0, locals := 0 } : Room).cells ({ frames := 0, cells := 0, slots := 0, locals := 0 } : Room).slots) := by
  refine body_of (y := (⟨"jdk/internal/util/Preconditions", "checkIndex", "(IILjava/util/function/BiFunction;)I"⟩ : MethodName)) (Q := Q21_2_0r Z o1 h0 n0) (plainFor_of_name pn_21) ?_
  intro p e s m below meth c T0 G C hnm hnamed X0 e0 K
  have N0 := Fr.nil n0
  refine Goes.to (congrArg T0.setTop (ef_21l0_0l1_2 m o1)) ?_
  refine g_iloadN C X0 d21_0 (pc' := 1) rfl rfl ?_
  refine g_if_lt C X0 d21_1 (pcT := 9) (pcN := 4) (by decide) (by decide) rfl (fun hc1 => absurd hc1 (by decide)) (fun hc1 => ?_)
  refine g_iloadN C X0 d21_4 (pc' := 5) rfl rfl ?_
  refine g_iloadN C X0 d21_5 (pc' := 6) rfl rfl ?_
  refine g_icmp_lt C X0 d21_6 (pcT := 16) (pcN := 9) (by decide) (by decide) rfl (fun hc6 => ?_) (fun hc6 => absurd hc6 (by decide))
  refine g_iloadN C X0 d21_16 (pc' := 17) rfl rfl ?_
  exact g_retI C X0 K d21_17 (by decide) (by decide) e0 ⟨rfl, N0, rfl⟩
theorem ef_20l0_0l1_2 (m : MethodId)  : entryFrame m #[(.int (0 : Int32)), (.int (2 : Int32))] 2 = mkF m 0 #[.val (.int (0 : Int32)), .val (.int (2 : Int32))] [] := by first | (simp [entryFrame, mkF, argsToLocals, Value.category]; done) | rfl
def Q20_2_0 (Z : State) (wf1 : Value) (h0 : Heap) (n0 : Nat) (v : Option Value) (h : Heap) (L : List Loc) : Prop := v = none ∧ Fr n0 L ∧ h = h0
set_option maxRecDepth 65536 in
set_option maxHeartbeats 40000000 in
theorem rm20_2_0 (l : Launch) (Z : State) (a0 : Array Value) (hw : ∀ d ∈ tables_1, d.before a0 Z = true) (ws : List Jvm.Cond) (wf1 : Value) (h0 : Heap) (n0 : Nat) (Z0 : n0 ≤ h0.size) (F0 : Sta Z h0 "jdk/internal/util/Preconditions" "SIOOBE_FORMATTER" "Ljava/util/function/BiFunction;" wf1) (hwf : wf1.isRef = true) :
    MetFree l (⟨"java/lang/String", "checkIndex", "(II)V"⟩ : MethodName) (head1 (Jvm.Cond.code (⟨"java/lang/String", "checkIndex", "(II)V"⟩ : MethodName) jdk_42_method_155_code 2 none :: ws) ({ frames := 1, cells := 0, slots := 0, locals := 14 } : Room)) (fun a U => a = #[(.int (0 : Int32)), (.int (2 : Int32))] ∧ Z.Warmed39 U.vm ∧ U.heap = h0) (fun _ _ _ _ _ => True) (fun _ U o U' => ∃ v L, o = .returned v ∧ Q20_2_0 Z wf1 h0 n0 v U'.heap L ∧ FrameEnd U o U' L ({ frames := 1, cells := 0, slots := 0, locals := 14 } : Room).cells ({ frames := 1, cells := 0, slots := 0, locals := 14 } : Room).slots) := by
  refine body_of (y := (⟨"java/lang/String", "checkIndex", "(II)V"⟩ : MethodName)) (Q := Q20_2_0 Z wf1 h0 n0) (plainFor_of_name pn_1) ?_
  intro p e s m below meth c T0 G C hnm hnamed X0 e0 K
  have N0 := Fr.nil n0
  refine Goes.to (congrArg T0.setTop (ef_20l0_0l1_2 m )) ?_
  rcases ref_cases hwf with rfl | ⟨sa1, rfl⟩
  · refine g_iloadN C X0 d20_0 (pc' := 1) rfl rfl ?_
    refine g_iloadN C X0 d20_1 (pc' := 2) rfl rfl ?_
    refine g_getS C X0 (w_103 hw) Via.refl e0 F0 d20_2 (pc' := 5) rfl (fun T2 X2 e2 => ?_)
    refine g_callS C X2 (w_105 hw) (w_106 hw) (w_104 hw) (w_107 hw) (by decide) d20_5 (rm21_2_0n l Z a0 hw []  h0 n0 Z0 ) (by decide) (by decide) rfl pd_5 rfl (argsL := [(.int (0 : Int32)), (.int (2 : Int32)), .null]) (rest := []) rfl (W := 0) (Nat.le_of_eq rfl) e2 (by decide) (by decide) (pc' := 8) rfl (fun u3 T3 L3 X3 hQ3 => ?_)
    obtain ⟨rfl, Nq3, eq3⟩ := hQ3
    have N3 := Fr.app N0 Nq3
    show Goes p.tables e below G (T3.setTop (mkF m 8 #[.val (.int (0 : Int32)), .val (.int (2 : Int32))] [(.int (0 : Int32))]))
    refine g_pop C X3 d20_8 (pc' := 9) rfl rfl ?_
    exact g_retV C X3 K d20_9 (by decide) (by decide) eq3 ⟨rfl, N3, rfl⟩
  · refine g_iloadN C X0 d20_0 (pc' := 1) rfl rfl ?_
    refine g_iloadN C X0 d20_1 (pc' := 2) rfl rfl ?_
    refine g_getS C X0 (w_103 hw) Via.refl e0 F0 d20_2 (pc' := 5) rfl (fun T4 X4 e4 => ?_)
    refine g_callS C X4 (w_105 hw) (w_106 hw) (w_104 hw) (w_107 hw) (by decide) d20_5 (rm21_2_0r l Z a0 hw [] sa1 h0 n0 Z0 ) (by decide) (by decide) rfl pd_5 rfl (argsL := [(.int (0 : Int32)), (.int (2 : Int32)), (.ref sa1)]) (rest := []) rfl (W := 0) (Nat.le_of_eq rfl) e4 (by decide) (by decide) (pc' := 8) rfl (fun u5 T5 L5 X5 hQ5 => ?_)
    obtain ⟨rfl, Nq5, eq5⟩ := hQ5
    have N5 := Fr.app N0 Nq5
    show Goes p.tables e below G (T5.setTop (mkF m 8 #[.val (.int (0 : Int32)), .val (.int (2 : Int32))] [(.int (0 : Int32))]))
    refine g_pop C X5 d20_8 (pc' := 9) rfl rfl ?_
    exact g_retV C X5 K d20_9 (by decide) (by decide) eq5 ⟨rfl, N5, rfl⟩
def Q19_2_0 (Z : State) (o1 : Addr) (kd1 : ClassId) (c1 : Int32) (c2 : Int32) (wf1 : Value) (h0 : Heap) (n0 : Nat) (v : Option Value) (h : Heap) (L : List Loc) : Prop := v = some (.int (own_ch c1)) ∧ Fr n0 L ∧ h = h0
set_option maxRecDepth 65536 in
set_option maxHeartbeats 40000000 in
theorem rm19_2_0 (l : Launch) (Z : State) (a0 : Array Value) (hw : ∀ d ∈ tables_1, d.before a0 Z = true) (ws : List Jvm.Cond) (o1 : Addr) (kd1 : ClassId) (c1 : Int32) (c2 : Int32) (wf1 : Value) (h0 : Heap) (n0 : Nat) (Z0 : n0 ≤ h0.size) (F0 : Arv Z h0 o1 kd1 .byte (2 : Int32) [(.int c1), (.int c2)] (.int (0 : Int32))) (F1 : Sta Z h0 "jdk/internal/util/Preconditions" "SIOOBE_FORMATTER" "Ljava/util/function/BiFunction;" wf1) (hwf : wf1.isRef = true) :
    MetFree l (⟨"java/lang/StringLatin1", "charAt", "([BI)C"⟩ : MethodName) (head1 (Jvm.Cond.code (⟨"java/lang/StringLatin1", "charAt", "([BI)C"⟩ : MethodName) jdk_43_method_2_code 2 (some .char) :: ws) ({ frames := 2, cells := 0, slots := 0, locals := 27 } : Room)) (fun a U => a = #[(.ref o1), (.int (0 : Int32))] ∧ Z.Warmed39 U.vm ∧ U.heap = h0) (fun _ _ _ _ _ => True) (fun _ U o U' => ∃ v L, o = .returned v ∧ Q19_2_0 Z o1 kd1 c1 c2 wf1 h0 n0 v U'.heap L ∧ FrameEnd U o U' L ({ frames := 2, cells := 0, slots := 0, locals := 27 } : Room).cells ({ frames := 2, cells := 0, slots := 0, locals := 27 } : Room).slots) := by
  refine body_of (y := (⟨"java/lang/StringLatin1", "charAt", "([BI)C"⟩ : MethodName)) (Q := Q19_2_0 Z o1 kd1 c1 c2 wf1 h0 n0) (plainFor_of_name pn_8) ?_
  intro p e s m below meth c T0 G C hnm hnamed X0 e0 K
  have N0 := Fr.nil n0
  refine Goes.to (congrArg T0.setTop (ef_19l1_0 m o1)) ?_
  refine g_iloadN C X0 d19_0 (pc' := 1) rfl rfl ?_
  refine g_aloadN C X0 d19_1 (pc' := 2) rfl rfl rfl ?_
  refine g_arraylength C X0 e0 F0 d19_2 (pc' := 3) rfl ?_
  refine g_callS C X0 (w_100 hw) (w_101 hw) (w_4 hw) (w_102 hw) (by decide) d19_3 (rm20_2_0 l Z a0 hw [] wf1 h0 n0 Z0 F1 hwf) (by decide) (by decide) rfl pd_6 rfl (argsL := [(.int (0 : Int32)), (.int (2 : Int32))]) (rest := []) rfl (W := 0) (Nat.le_of_eq rfl) e0 (by decide) (by decide) (pc' := 6) rfl (fun u1 T1 L1 X1 hQ1 => ?_)
  obtain ⟨rfl, Nq1, eq1⟩ := hQ1
  have N1 := Fr.app N0 Nq1
  show Goes p.tables e below G (T1.setTop (mkF m 6 #[.val (.ref o1), .val (.int (0 : Int32))] []))
  refine g_aloadN C X1 d19_6 (pc' := 7) rfl rfl rfl ?_
  refine g_iloadN C X1 d19_7 (pc' := 8) rfl rfl ?_
  refine g_baload C X1 eq1 F0 (by decide) (v := (.int c1)) rfl d19_8 (pc' := 9) rfl ?_
  refine g_sipush C X1 d19_9 (pc' := 12) rfl (v := 255) rfl ?_
  refine g_iand C X1 d19_12 (pc' := 13) rfl ?_
  refine g_i2c C X1 d19_13 (pc' := 14) rfl ?_
  exact g_retN C X1 K (by simp) d19_14 (by decide) (by decide) eq1 ⟨rfl, N1, rfl⟩
def Q17_2_0 (Z : State) (o1 : Addr) (o2 : Addr) (kd1 : ClassId) (c1 : Int32) (c2 : Int32) (cs1 : Int32) (wf1 : Value) (h0 : Heap) (n0 : Nat) (v : Option Value) (h : Heap) (L : List Loc) : Prop := v = some (.int (own_ch c1)) ∧ Fr n0 L ∧ h = h0
set_option maxRecDepth 65536 in
set_option maxHeartbeats 40000000 in
theorem rm17_2_0 (l : Launch) (Z : State) (a0 : Array Value) (hw : ∀ d ∈ tables_1, d.before a0 Z = true) (ws : List Jvm.Cond) (o1 : Addr) (o2 : Addr) (kd1 : ClassId) (c1 : Int32) (c2 : Int32) (cs1 : Int32) (wf1 : Value) (h0 : Heap) (n0 : Nat) (Z0 : n0 ≤ h0.size) (F0 : Exa Z h0 o1 "java/lang/String") (F1 : Fld Z h0 o1 "java/lang/String" "value" "[B" (.ref o2)) (F2 : Fld Z h0 o1 "java/lang/String" "coder" "B" (.int (0 : Int32))) (F3 : Arv Z h0 o2 kd1 .byte (2 : Int32) [(.int c1), (.int c2)] (.int (0 : Int32))) (F4 : Sta Z h0 "java/lang/String" "COMPACT_STRINGS" "Z" (.int cs1)) (F5 : Sta Z h0 "jdk/internal/util/Preconditions" "SIOOBE_FORMATTER" "Ljava/util/function/BiFunction;" wf1) (hcs : ¬ cs1 = (0 : Int32)) (hwf : wf1.isRef = true) :
    MetFree l (⟨"java/lang/String", "charAt", "(I)C"⟩ : MethodName) (head1 (Jvm.Cond.code (⟨"java/lang/String", "charAt", "(I)C"⟩ : MethodName) jdk_42_method_56_code 2 (some .char) :: ws) ({ frames := 3, cells := 0, slots := 0, locals := 40 } : Room)) (fun a U => a = #[(.ref o1), (.int (0 : Int32))] ∧ Z.Warmed39 U.vm ∧ U.heap = h0) (fun _ _ _ _ _ => True) (fun _ U o U' => ∃ v L, o = .returned v ∧ Q17_2_0 Z o1 o2 kd1 c1 c2 cs1 wf1 h0 n0 v U'.heap L ∧ FrameEnd U o U' L ({ frames := 3, cells := 0, slots := 0, locals := 40 } : Room).cells ({ frames := 3, cells := 0, slots := 0, locals := 40 } : Room).slots) := by
  refine body_of (y := (⟨"java/lang/String", "charAt", "(I)C"⟩ : MethodName)) (Q := Q17_2_0 Z o1 o2 kd1 c1 c2 cs1 wf1 h0 n0) (plainFor_of_name pn_1) ?_
  intro p e s m below meth c T0 G C hnm hnamed X0 e0 K
  have N0 := Fr.nil n0
  refine Goes.to (congrArg T0.setTop (ef_17l1_0 m o1)) ?_
  refine g_aloadN C X0 d17_0 (pc' := 1) rfl rfl rfl ?_
  refine g_callV C X0 (w_92 hw) (w_93 hw) (notFace_of_selects (args := #[]) (mvT C.2.1 (w_95 hw))) (w_95 hw) (w_94 hw) (w_96 hw) (w_4 hw) (by decide) F0 d17_1 (rm18 l Z a0 hw [] o1 cs1 h0 n0 Z0 F2 F4 hcs) (by decide) (by decide) rfl pd_7 rfl (argsL := []) (rest := []) rfl (W := 0) (Nat.le_of_eq rfl) e0 (by decide) (by decide) (pc' := 4) rfl (fun u1 T1 L1 X1 hQ1 => ?_)
  obtain ⟨rfl, Nq1, eq1⟩ := hQ1
  have N1 := Fr.app N0 Nq1
  show Goes p.tables e below G (T1.setTop (mkF m 4 #[.val (.ref o1), .val (.int (0 : Int32))] [(.int (1 : Int32))]))
  refine g_if_eq C X1 d17_4 (pcT := 16) (pcN := 7) (by decide) (by decide) rfl (fun hc4 => absurd hc4 (by decide)) (fun hc4 => ?_)
  refine g_aloadN C X1 d17_7 (pc' := 8) rfl rfl rfl ?_
  refine g_getF C X1 (w_29 hw) Via.refl eq1 F1 d17_8 (pc' := 11) rfl (fun T2 X2 e2 => ?_)
  refine g_iloadN C X2 d17_11 (pc' := 12) rfl rfl ?_
  refine g_callS C X2 (w_97 hw) (w_98 hw) (w_36 hw) (w_99 hw) (by decide) d17_12 (rm19_2_0 l Z a0 hw [] o2 kd1 c1 c2 wf1 h0 n0 Z0 F3 F5 hwf) (by decide) (by decide) rfl pd_8 rfl (argsL := [(.ref o2), (.int (0 : Int32))]) (rest := []) rfl (W := 0) (Nat.le_of_eq rfl) e2 (by decide) (by decide) (pc' := 15) rfl (fun u3 T3 L3 X3 hQ3 => ?_)
  obtain ⟨rfl, Nq3, eq3⟩ := hQ3
  have N3 := Fr.app N1 Nq3
  show Goes p.tables e below G (T3.setTop (mkF m 15 #[.val (.ref o1), .val (.int (0 : Int32))] [(.int (own_ch c1))]))
  exact g_retN C X3 K (by simp) d17_15 (by decide) (by decide) eq3 ⟨(by rw [own_narr]), N3, rfl⟩
theorem ef_21l0_1l1_2n2 (m : MethodId)  : entryFrame m #[(.int (1 : Int32)), (.int (2 : Int32)), .null] 3 = mkF m 0 #[.val (.int (1 : Int32)), .val (.int (2 : Int32)), .val .null] [] := by first | (simp [entryFrame, mkF, argsToLocals, Value.category]; done) | rfl
def Q21_2_1n (Z : State)  (h0 : Heap) (n0 : Nat) (v : Option Value) (h : Heap) (L : List Loc) : Prop := v = some (.int (1 : Int32)) ∧ Fr n0 L ∧ h = h0
set_option maxRecDepth 65536 in
set_option maxHeartbeats 40000000 in
theorem rm21_2_1n (l : Launch) (Z : State) (a0 : Array Value) (hw : ∀ d ∈ tables_1, d.before a0 Z = true) (ws : List Jvm.Cond)  (h0 : Heap) (n0 : Nat) (Z0 : n0 ≤ h0.size) :
    MetFree l (⟨"jdk/internal/util/Preconditions", "checkIndex", "(IILjava/util/function/BiFunction;)I"⟩ : MethodName) (head1 (Jvm.Cond.code (⟨"jdk/internal/util/Preconditions", "checkIndex", "(IILjava/util/function/BiFunction;)I"⟩ : MethodName) jdk_41_method_11_code 3 (some .int) :: ws) ({ frames := 0, cells := 0, slots := 0, locals := 0 } : Room)) (fun a U => a = #[(.int (1 : Int32)), (.int (2 : Int32)), .null] ∧ Z.Warmed39 U.vm ∧ U.heap = h0) (fun _ _ _ _ _ => True) (fun _ U o U' => ∃ v L, o = .returned v ∧ Q21_2_1n Z  h0 n0 v U'.heap L ∧ FrameEnd U o U' L ({ frames := 0, cells := 0, slots := 0, locals := 0 } : Room).cells ({ frames := 0, cells := 0, slots := 0, locals := 0 } : Room).slots) := by
  refine body_of (y := (⟨"jdk/internal/util/Preconditions", "checkIndex", "(IILjava/util/function/BiFunction;)I"⟩ : MethodName)) (Q := Q21_2_1n Z  h0 n0) (plainFor_of_name pn_21) ?_
  intro p e s m below meth c T0 G C hnm hnamed X0 e0 K
  have N0 := Fr.nil n0
  refine Goes.to (congrArg T0.setTop (ef_21l0_1l1_2n2 m )) ?_
  refine g_iloadN C X0 d21_0 (pc' := 1) rfl rfl ?_
  refine g_if_lt C X0 d21_1 (pcT := 9) (pcN := 4) (by decide) (by decide) rfl (fun hc1 => absurd hc1 (by decide)) (fun hc1 => ?_)
  refine g_iloadN C X0 d21_4 (pc' := 5) rfl rfl ?_
  refine g_iloadN C X0 d21_5 (pc' := 6) rfl rfl ?_
  refine g_icmp_lt C X0 d21_6 (pcT := 16) (pcN := 9) (by decide) (by decide) rfl (fun hc6 => ?_) (fun hc6 => absurd hc6 (by decide))
  refine g_iloadN C X0 d21_16 (pc' := 17) rfl rfl ?_
  exact g_retI C X0 K d21_17 (by decide) (by decide) e0 ⟨rfl, N0, rfl⟩
theorem ef_21l0_1l1_2 (m : MethodId) (o1 : Addr) : entryFrame m #[(.int (1 : Int32)), (.int (2 : Int32)), (.ref o1)] 3 = mkF m 0 #[.val (.int (1 : Int32)), .val (.int (2 : Int32)), .val (.ref o1)] [] := by first | (simp [entryFrame, mkF, argsToLocals, Value.category]; done) | rfl
def Q21_2_1r (Z : State) (o1 : Addr) (h0 : Heap) (n0 : Nat) (v : Option Value) (h : Heap) (L : List Loc) : Prop := v = some (.int (1 : Int32)) ∧ Fr n0 L ∧ h = h0
set_option maxRecDepth 65536 in
set_option maxHeartbeats 40000000 in
theorem rm21_2_1r (l : Launch) (Z : State) (a0 : Array Value) (hw : ∀ d ∈ tables_1, d.before a0 Z = true) (ws : List Jvm.Cond) (o1 : Addr) (h0 : Heap) (n0 : Nat) (Z0 : n0 ≤ h0.size) :
    MetFree l (⟨"jdk/internal/util/Preconditions", "checkIndex", "(IILjava/util/function/BiFunction;)I"⟩ : MethodName) (head1 (Jvm.Cond.code (⟨"jdk/internal/util/Preconditions", "checkIndex", "(IILjava/util/function/BiFunction;)I"⟩ : MethodName) jdk_41_method_11_code 3 (some .int) :: ws) ({ frames := 0, cells := 0, slots := 0, locals := 0 } : Room)) (fun a U => a = #[(.int (1 : Int32)), (.int (2 : Int32)), (.ref o1)] ∧ Z.Warmed39 U.vm ∧ U.heap = h0) (fun _ _ _ _ _ => True) (fun _ U o U' => ∃ v L, o = .returned v ∧ Q21_2_1r Z o1 h0 n0 v U'.heap L ∧ FrameEnd U o U' L ({ frames := 0, cells := 0, slots := 0, locals := 0 } : Room).cells ({ frames := 0, cells := 0, slots := 0, locals := 0 } : Room).slots) := by
  refine body_of (y := (⟨"jdk/internal/util/Preconditions", "checkIndex", "(IILjava/util/function/BiFunction;)I"⟩ : MethodName)) (Q := Q21_2_1r Z o1 h0 n0) (plainFor_of_name pn_21) ?_
  intro p e s m below meth c T0 G C hnm hnamed X0 e0 K
  have N0 := Fr.nil n0
  refine Goes.to (congrArg T0.setTop (ef_21l0_1l1_2 m o1)) ?_
  refine g_iloadN C X0 d21_0 (pc' := 1) rfl rfl ?_
  refine g_if_lt C X0 d21_1 (pcT := 9) (pcN := 4) (by decide) (by decide) rfl (fun hc1 => absurd hc1 (by decide)) (fun hc1 => ?_)
  refine g_iloadN C X0 d21_4 (pc' := 5) rfl rfl ?_
  refine g_iloadN C X0 d21_5 (pc' := 6) rfl rfl ?_
  refine g_icmp_lt C X0 d21_6 (pcT := 16) (pcN := 9) (by decide) (by decide) rfl (fun hc6 => ?_) (fun hc6 => absurd hc6 (by decide))
  refine g_iloadN C X0 d21_16 (pc' := 17) rfl rfl ?_
  exact g_retI C X0 K d21_17 (by decide) (by decide) e0 ⟨rfl, N0, rfl⟩
theorem ef_20l0_1l1_2 (m : MethodId)  : entryFrame m #[(.int (1 : Int32)), (.int (2 : Int32))] 2 = mkF m 0 #[.val (.int (1 : Int32)), .val (.int (2 : Int32))] [] := by first | (simp [entryFrame, mkF, argsToLocals, Value.category]; done) | rfl
def Q20_2_1 (Z : State) (wf1 : Value) (h0 : Heap) (n0 : Nat) (v : Option Value) (h : Heap) (L : List Loc) : Prop := v = none ∧ Fr n0 L ∧ h = h0
set_option maxRecDepth 65536 in
set_option maxHeartbeats 40000000 in
theorem rm20_2_1 (l : Launch) (Z : State) (a0 : Array Value) (hw : ∀ d ∈ tables_1, d.before a0 Z = true) (ws : List Jvm.Cond) (wf1 : Value) (h0 : Heap) (n0 : Nat) (Z0 : n0 ≤ h0.size) (F0 : Sta Z h0 "jdk/internal/util/Preconditions" "SIOOBE_FORMATTER" "Ljava/util/function/BiFunction;" wf1) (hwf : wf1.isRef = true) :
    MetFree l (⟨"java/lang/String", "checkIndex", "(II)V"⟩ : MethodName) (head1 (Jvm.Cond.code (⟨"java/lang/String", "checkIndex", "(II)V"⟩ : MethodName) jdk_42_method_155_code 2 none :: ws) ({ frames := 1, cells := 0, slots := 0, locals := 14 } : Room)) (fun a U => a = #[(.int (1 : Int32)), (.int (2 : Int32))] ∧ Z.Warmed39 U.vm ∧ U.heap = h0) (fun _ _ _ _ _ => True) (fun _ U o U' => ∃ v L, o = .returned v ∧ Q20_2_1 Z wf1 h0 n0 v U'.heap L ∧ FrameEnd U o U' L ({ frames := 1, cells := 0, slots := 0, locals := 14 } : Room).cells ({ frames := 1, cells := 0, slots := 0, locals := 14 } : Room).slots) := by
  refine body_of (y := (⟨"java/lang/String", "checkIndex", "(II)V"⟩ : MethodName)) (Q := Q20_2_1 Z wf1 h0 n0) (plainFor_of_name pn_1) ?_
  intro p e s m below meth c T0 G C hnm hnamed X0 e0 K
  have N0 := Fr.nil n0
  refine Goes.to (congrArg T0.setTop (ef_20l0_1l1_2 m )) ?_
  rcases ref_cases hwf with rfl | ⟨sa1, rfl⟩
  · refine g_iloadN C X0 d20_0 (pc' := 1) rfl rfl ?_
    refine g_iloadN C X0 d20_1 (pc' := 2) rfl rfl ?_
    refine g_getS C X0 (w_103 hw) Via.refl e0 F0 d20_2 (pc' := 5) rfl (fun T2 X2 e2 => ?_)
    refine g_callS C X2 (w_105 hw) (w_106 hw) (w_104 hw) (w_107 hw) (by decide) d20_5 (rm21_2_1n l Z a0 hw []  h0 n0 Z0 ) (by decide) (by decide) rfl pd_5 rfl (argsL := [(.int (1 : Int32)), (.int (2 : Int32)), .null]) (rest := []) rfl (W := 0) (Nat.le_of_eq rfl) e2 (by decide) (by decide) (pc' := 8) rfl (fun u3 T3 L3 X3 hQ3 => ?_)
    obtain ⟨rfl, Nq3, eq3⟩ := hQ3
    have N3 := Fr.app N0 Nq3
    show Goes p.tables e below G (T3.setTop (mkF m 8 #[.val (.int (1 : Int32)), .val (.int (2 : Int32))] [(.int (1 : Int32))]))
    refine g_pop C X3 d20_8 (pc' := 9) rfl rfl ?_
    exact g_retV C X3 K d20_9 (by decide) (by decide) eq3 ⟨rfl, N3, rfl⟩
  · refine g_iloadN C X0 d20_0 (pc' := 1) rfl rfl ?_
    refine g_iloadN C X0 d20_1 (pc' := 2) rfl rfl ?_
    refine g_getS C X0 (w_103 hw) Via.refl e0 F0 d20_2 (pc' := 5) rfl (fun T4 X4 e4 => ?_)
    refine g_callS C X4 (w_105 hw) (w_106 hw) (w_104 hw) (w_107 hw) (by decide) d20_5 (rm21_2_1r l Z a0 hw [] sa1 h0 n0 Z0 ) (by decide) (by decide) rfl pd_5 rfl (argsL := [(.int (1 : Int32)), (.int (2 : Int32)), (.ref sa1)]) (rest := []) rfl (W := 0) (Nat.le_of_eq rfl) e4 (by decide) (by decide) (pc' := 8) rfl (fun u5 T5 L5 X5 hQ5 => ?_)
    obtain ⟨rfl, Nq5, eq5⟩ := hQ5
    have N5 := Fr.app N0 Nq5
    show Goes p.tables e below G (T5.setTop (mkF m 8 #[.val (.int (1 : Int32)), .val (.int (2 : Int32))] [(.int (1 : Int32))]))
    refine g_pop C X5 d20_8 (pc' := 9) rfl rfl ?_
    exact g_retV C X5 K d20_9 (by decide) (by decide) eq5 ⟨rfl, N5, rfl⟩
theorem ef_19l1_1 (m : MethodId) (o1 : Addr) : entryFrame m #[(.ref o1), (.int (1 : Int32))] 2 = mkF m 0 #[.val (.ref o1), .val (.int (1 : Int32))] [] := by first | (simp [entryFrame, mkF, argsToLocals, Value.category]; done) | rfl
def Q19_2_1 (Z : State) (o1 : Addr) (kd1 : ClassId) (c1 : Int32) (c2 : Int32) (wf1 : Value) (h0 : Heap) (n0 : Nat) (v : Option Value) (h : Heap) (L : List Loc) : Prop := v = some (.int (own_ch c2)) ∧ Fr n0 L ∧ h = h0
set_option maxRecDepth 65536 in
set_option maxHeartbeats 40000000 in
theorem rm19_2_1 (l : Launch) (Z : State) (a0 : Array Value) (hw : ∀ d ∈ tables_1, d.before a0 Z = true) (ws : List Jvm.Cond) (o1 : Addr) (kd1 : ClassId) (c1 : Int32) (c2 : Int32) (wf1 : Value) (h0 : Heap) (n0 : Nat) (Z0 : n0 ≤ h0.size) (F0 : Arv Z h0 o1 kd1 .byte (2 : Int32) [(.int c1), (.int c2)] (.int (0 : Int32))) (F1 : Sta Z h0 "jdk/internal/util/Preconditions" "SIOOBE_FORMATTER" "Ljava/util/function/BiFunction;" wf1) (hwf : wf1.isRef = true) :
    MetFree l (⟨"java/lang/StringLatin1", "charAt", "([BI)C"⟩ : MethodName) (head1 (Jvm.Cond.code (⟨"java/lang/StringLatin1", "charAt", "([BI)C"⟩ : MethodName) jdk_43_method_2_code 2 (some .char) :: ws) ({ frames := 2, cells := 0, slots := 0, locals := 27 } : Room)) (fun a U => a = #[(.ref o1), (.int (1 : Int32))] ∧ Z.Warmed39 U.vm ∧ U.heap = h0) (fun _ _ _ _ _ => True) (fun _ U o U' => ∃ v L, o = .returned v ∧ Q19_2_1 Z o1 kd1 c1 c2 wf1 h0 n0 v U'.heap L ∧ FrameEnd U o U' L ({ frames := 2, cells := 0, slots := 0, locals := 27 } : Room).cells ({ frames := 2, cells := 0, slots := 0, locals := 27 } : Room).slots) := by
  refine body_of (y := (⟨"java/lang/StringLatin1", "charAt", "([BI)C"⟩ : MethodName)) (Q := Q19_2_1 Z o1 kd1 c1 c2 wf1 h0 n0) (plainFor_of_name pn_8) ?_
  intro p e s m below meth c T0 G C hnm hnamed X0 e0 K
  have N0 := Fr.nil n0
  refine Goes.to (congrArg T0.setTop (ef_19l1_1 m o1)) ?_
  refine g_iloadN C X0 d19_0 (pc' := 1) rfl rfl ?_
  refine g_aloadN C X0 d19_1 (pc' := 2) rfl rfl rfl ?_
  refine g_arraylength C X0 e0 F0 d19_2 (pc' := 3) rfl ?_
  refine g_callS C X0 (w_100 hw) (w_101 hw) (w_4 hw) (w_102 hw) (by decide) d19_3 (rm20_2_1 l Z a0 hw [] wf1 h0 n0 Z0 F1 hwf) (by decide) (by decide) rfl pd_6 rfl (argsL := [(.int (1 : Int32)), (.int (2 : Int32))]) (rest := []) rfl (W := 0) (Nat.le_of_eq rfl) e0 (by decide) (by decide) (pc' := 6) rfl (fun u1 T1 L1 X1 hQ1 => ?_)
  obtain ⟨rfl, Nq1, eq1⟩ := hQ1
  have N1 := Fr.app N0 Nq1
  show Goes p.tables e below G (T1.setTop (mkF m 6 #[.val (.ref o1), .val (.int (1 : Int32))] []))
  refine g_aloadN C X1 d19_6 (pc' := 7) rfl rfl rfl ?_
  refine g_iloadN C X1 d19_7 (pc' := 8) rfl rfl ?_
  refine g_baload C X1 eq1 F0 (by decide) (v := (.int c2)) rfl d19_8 (pc' := 9) rfl ?_
  refine g_sipush C X1 d19_9 (pc' := 12) rfl (v := 255) rfl ?_
  refine g_iand C X1 d19_12 (pc' := 13) rfl ?_
  refine g_i2c C X1 d19_13 (pc' := 14) rfl ?_
  exact g_retN C X1 K (by simp) d19_14 (by decide) (by decide) eq1 ⟨rfl, N1, rfl⟩
theorem ef_17l1_1 (m : MethodId) (o1 : Addr) : entryFrame m #[(.ref o1), (.int (1 : Int32))] 2 = mkF m 0 #[.val (.ref o1), .val (.int (1 : Int32))] [] := by first | (simp [entryFrame, mkF, argsToLocals, Value.category]; done) | rfl
def Q17_2_1 (Z : State) (o1 : Addr) (o2 : Addr) (kd1 : ClassId) (c1 : Int32) (c2 : Int32) (cs1 : Int32) (wf1 : Value) (h0 : Heap) (n0 : Nat) (v : Option Value) (h : Heap) (L : List Loc) : Prop := v = some (.int (own_ch c2)) ∧ Fr n0 L ∧ h = h0
set_option maxRecDepth 65536 in
set_option maxHeartbeats 40000000 in
theorem rm17_2_1 (l : Launch) (Z : State) (a0 : Array Value) (hw : ∀ d ∈ tables_1, d.before a0 Z = true) (ws : List Jvm.Cond) (o1 : Addr) (o2 : Addr) (kd1 : ClassId) (c1 : Int32) (c2 : Int32) (cs1 : Int32) (wf1 : Value) (h0 : Heap) (n0 : Nat) (Z0 : n0 ≤ h0.size) (F0 : Exa Z h0 o1 "java/lang/String") (F1 : Fld Z h0 o1 "java/lang/String" "value" "[B" (.ref o2)) (F2 : Fld Z h0 o1 "java/lang/String" "coder" "B" (.int (0 : Int32))) (F3 : Arv Z h0 o2 kd1 .byte (2 : Int32) [(.int c1), (.int c2)] (.int (0 : Int32))) (F4 : Sta Z h0 "java/lang/String" "COMPACT_STRINGS" "Z" (.int cs1)) (F5 : Sta Z h0 "jdk/internal/util/Preconditions" "SIOOBE_FORMATTER" "Ljava/util/function/BiFunction;" wf1) (hcs : ¬ cs1 = (0 : Int32)) (hwf : wf1.isRef = true) :
    MetFree l (⟨"java/lang/String", "charAt", "(I)C"⟩ : MethodName) (head1 (Jvm.Cond.code (⟨"java/lang/String", "charAt", "(I)C"⟩ : MethodName) jdk_42_method_56_code 2 (some .char) :: ws) ({ frames := 3, cells := 0, slots := 0, locals := 40 } : Room)) (fun a U => a = #[(.ref o1), (.int (1 : Int32))] ∧ Z.Warmed39 U.vm ∧ U.heap = h0) (fun _ _ _ _ _ => True) (fun _ U o U' => ∃ v L, o = .returned v ∧ Q17_2_1 Z o1 o2 kd1 c1 c2 cs1 wf1 h0 n0 v U'.heap L ∧ FrameEnd U o U' L ({ frames := 3, cells := 0, slots := 0, locals := 40 } : Room).cells ({ frames := 3, cells := 0, slots := 0, locals := 40 } : Room).slots) := by
  refine body_of (y := (⟨"java/lang/String", "charAt", "(I)C"⟩ : MethodName)) (Q := Q17_2_1 Z o1 o2 kd1 c1 c2 cs1 wf1 h0 n0) (plainFor_of_name pn_1) ?_
  intro p e s m below meth c T0 G C hnm hnamed X0 e0 K
  have N0 := Fr.nil n0
  refine Goes.to (congrArg T0.setTop (ef_17l1_1 m o1)) ?_
  refine g_aloadN C X0 d17_0 (pc' := 1) rfl rfl rfl ?_
  refine g_callV C X0 (w_92 hw) (w_93 hw) (notFace_of_selects (args := #[]) (mvT C.2.1 (w_95 hw))) (w_95 hw) (w_94 hw) (w_96 hw) (w_4 hw) (by decide) F0 d17_1 (rm18 l Z a0 hw [] o1 cs1 h0 n0 Z0 F2 F4 hcs) (by decide) (by decide) rfl pd_7 rfl (argsL := []) (rest := []) rfl (W := 0) (Nat.le_of_eq rfl) e0 (by decide) (by decide) (pc' := 4) rfl (fun u1 T1 L1 X1 hQ1 => ?_)
  obtain ⟨rfl, Nq1, eq1⟩ := hQ1
  have N1 := Fr.app N0 Nq1
  show Goes p.tables e below G (T1.setTop (mkF m 4 #[.val (.ref o1), .val (.int (1 : Int32))] [(.int (1 : Int32))]))
  refine g_if_eq C X1 d17_4 (pcT := 16) (pcN := 7) (by decide) (by decide) rfl (fun hc4 => absurd hc4 (by decide)) (fun hc4 => ?_)
  refine g_aloadN C X1 d17_7 (pc' := 8) rfl rfl rfl ?_
  refine g_getF C X1 (w_29 hw) Via.refl eq1 F1 d17_8 (pc' := 11) rfl (fun T2 X2 e2 => ?_)
  refine g_iloadN C X2 d17_11 (pc' := 12) rfl rfl ?_
  refine g_callS C X2 (w_97 hw) (w_98 hw) (w_36 hw) (w_99 hw) (by decide) d17_12 (rm19_2_1 l Z a0 hw [] o2 kd1 c1 c2 wf1 h0 n0 Z0 F3 F5 hwf) (by decide) (by decide) rfl pd_8 rfl (argsL := [(.ref o2), (.int (1 : Int32))]) (rest := []) rfl (W := 0) (Nat.le_of_eq rfl) e2 (by decide) (by decide) (pc' := 15) rfl (fun u3 T3 L3 X3 hQ3 => ?_)
  obtain ⟨rfl, Nq3, eq3⟩ := hQ3
  have N3 := Fr.app N1 Nq3
  show Goes p.tables e below G (T3.setTop (mkF m 15 #[.val (.ref o1), .val (.int (1 : Int32))] [(.int (own_ch c2))]))
  exact g_retN C X3 K (by simp) d17_15 (by decide) (by decide) eq3 ⟨(by rw [own_narr]), N3, rfl⟩
theorem ef_5l1_0l3_0l4_3 (m : MethodId) (o1 : Addr) (o2 : Addr) : entryFrame m #[(.ref o1), (.int (0 : Int32)), (.ref o2), (.int (0 : Int32)), (.int (3 : Int32))] 7 = mkF m 0 #[.val (.ref o1), .val (.int (0 : Int32)), .val (.ref o2), .val (.int (0 : Int32)), .val (.int (3 : Int32)), .unset, .unset] [] := by first | (simp [entryFrame, mkF, argsToLocals, Value.category]; done) | rfl
def Q5_3 (Z : State) (o1 : Addr) (o2 : Addr) (kd1 : ClassId) (kd2 : ClassId) (c1 : Int32) (c2 : Int32) (c3 : Int32) (h0 : Heap) (n0 : Nat) (v : Option Value) (h : Heap) (L : List Loc) : Prop := v = some (.int (3 : Int32)) ∧ Fr n0 L ∧ Keep h0 h [o2] ∧ Arv Z h o2 kd2 .byte (3 : Int32) [(.int (nar .byte c1.toInt8.toInt32)), (.int (nar .byte c2.toInt8.toInt32)), (.int (nar .byte c3.toInt8.toInt32))] (.int (0 : Int32))
set_option maxRecDepth 65536 in
set_option maxHeartbeats 40000000 in
theorem rm5_3 (l : Launch) (Z : State) (a0 : Array Value) (hw : ∀ d ∈ tables_1, d.before a0 Z = true) (ws : List Jvm.Cond) (o1 : Addr) (o2 : Addr) (kd1 : ClassId) (kd2 : ClassId) (c1 : Int32) (c2 : Int32) (c3 : Int32) (h0 : Heap) (n0 : Nat) (Z0 : n0 ≤ h0.size) (F0 : Arv Z h0 o1 kd1 .char (3 : Int32) [(.int c1), (.int c2), (.int c3)] (.int (0 : Int32))) (F1 : Arv Z h0 o2 kd2 .byte (3 : Int32) [(.int (0 : Int32)), (.int (0 : Int32)), (.int (0 : Int32))] (.int (0 : Int32))) (gn_o2 : n0 ≤ o2) (la1 : ¬ (255 : Int32) < c1) (la2 : ¬ (255 : Int32) < c2) (la3 : ¬ (255 : Int32) < c3) (ne_o1_o2 : o1 ≠ o2) :
    MetFree l (⟨"java/lang/StringUTF16", "compress", "([CI[BII)I"⟩ : MethodName) (head1 (Jvm.Cond.code (⟨"java/lang/StringUTF16", "compress", "([CI[BII)I"⟩ : MethodName) jdk_52_method_21_code 7 (some .int) :: ws) ({ frames := 0, cells := 0, slots := 0, locals := 0 } : Room)) (fun a U => a = #[(.ref o1), (.int (0 : Int32)), (.ref o2), (.int (0 : Int32)), (.int (3 : Int32))] ∧ Z.Warmed39 U.vm ∧ U.heap = h0) (fun _ _ _ _ _ => True) (fun _ U o U' => ∃ v L, o = .returned v ∧ Q5_3 Z o1 o2 kd1 kd2 c1 c2 c3 h0 n0 v U'.heap L ∧ FrameEnd U o U' L ({ frames := 0, cells := 0, slots := 0, locals := 0 } : Room).cells ({ frames := 0, cells := 0, slots := 0, locals := 0 } : Room).slots) := by
  refine body_of (y := (⟨"java/lang/StringUTF16", "compress", "([CI[BII)I"⟩ : MethodName)) (Q := Q5_3 Z o1 o2 kd1 kd2 c1 c2 c3 h0 n0) (plainFor_of_name pn_4) ?_
  intro p e s m below meth c T0 G C hnm hnamed X0 e0 K
  have N0 := Fr.nil n0
  refine Goes.to (congrArg T0.setTop (ef_5l1_0l3_0l4_3 m o1 o2)) ?_
  have K00 := Keep.refl h0 [o2]
  refine g_iconst C X0 d5_0 (pc' := 1) rfl (v := 0) rfl ?_
  refine g_istore C X0 d5_1 (pc' := 3) rfl (w := (0 : Int32)) rfl (ls' := #[.val (.ref o1), .val (.int (0 : Int32)), .val (.ref o2), .val (.int (0 : Int32)), .val (.int (3 : Int32)), .val (.int (0 : Int32)), .unset]) rfl ?_
  refine g_iload C X0 d5_3 (pc' := 5) rfl rfl ?_
  refine g_iload C X0 d5_5 (pc' := 7) rfl rfl ?_
  refine g_icmp_ge C X0 d5_7 (pcT := 44) (pcN := 10) (by decide) (by decide) rfl (fun hc7 => absurd hc7 (by decide)) (fun hc7 => ?_)
  refine g_aloadN C X0 d5_10 (pc' := 11) rfl rfl rfl ?_
  refine g_iloadN C X0 d5_11 (pc' := 12) rfl rfl ?_
  refine g_caload C X0 e0 F0 (by decide) (v := (.int c1)) rfl d5_12 (pc' := 13) rfl ?_
  refine g_istore C X0 d5_13 (pc' := 15) rfl (w := c1) rfl (ls' := #[.val (.ref o1), .val (.int (0 : Int32)), .val (.ref o2), .val (.int (0 : Int32)), .val (.int (3 : Int32)), .val (.int (0 : Int32)), .val (.int c1)]) rfl ?_
  refine g_iload C X0 d5_15 (pc' := 17) rfl rfl ?_
  refine g_sipush C X0 d5_17 (pc' := 20) rfl (v := 255) rfl ?_
  refine g_icmp_le C X0 d5_20 (pcT := 26) (pcN := 23) (by decide) (by decide) rfl (fun hc20 => ?_) (fun hc20 => absurd hc20 la1)
  refine g_aloadN C X0 d5_26 (pc' := 27) rfl rfl rfl ?_
  refine g_iloadN C X0 d5_27 (pc' := 28) rfl rfl ?_
  refine g_iload C X0 d5_28 (pc' := 30) rfl rfl ?_
  refine g_i2b C X0 d5_30 (pc' := 31) rfl ?_
  refine g_bastore C X0 (i := 0) e0 F1 (by decide) rfl (Nat.le_of_ble_eq_true rfl) d5_31 (pc' := 32) rfl (fun T1 h1 X1 e1 W1 A1 => ?_)
  have f2 := F0.other W1 ne_o1_o2
  have f3 : Arv Z h1 o2 kd2 .byte (3 : Int32) [(.int (nar .byte c1.toInt8.toInt32)), (.int (0 : Int32)), (.int (0 : Int32))] (.int (0 : Int32)) := A1
  have N1 := Fr.snoc X1 N0 gn_o2
  have Z1 := Nat.le_trans Z0 (Nat.le_of_eq W1.size.symm)
  have K1 := K00.wr W1 (Or.inl (List.mem_of_getElem? (i := 0) rfl))
  refine g_iinc C X1 d5_32 (pc' := 35) rfl rfl (w := (1 : Int32)) rfl (ls' := #[.val (.ref o1), .val (.int (1 : Int32)), .val (.ref o2), .val (.int (0 : Int32)), .val (.int (3 : Int32)), .val (.int (0 : Int32)), .val (.int c1)]) rfl ?_
  refine g_iinc C X1 d5_35 (pc' := 38) rfl rfl (w := (1 : Int32)) rfl (ls' := #[.val (.ref o1), .val (.int (1 : Int32)), .val (.ref o2), .val (.int (1 : Int32)), .val (.int (3 : Int32)), .val (.int (0 : Int32)), .val (.int c1)]) rfl ?_
  refine g_iinc C X1 d5_38 (pc' := 41) rfl rfl (w := (1 : Int32)) rfl (ls' := #[.val (.ref o1), .val (.int (1 : Int32)), .val (.ref o2), .val (.int (1 : Int32)), .val (.int (3 : Int32)), .val (.int (1 : Int32)), .val (.int c1)]) rfl ?_
  refine g_goto C X1 d5_41 (pc' := 3) (by decide) (by decide) ?_
  refine g_iload C X1 d5_3 (pc' := 5) rfl rfl ?_
  refine g_iload C X1 d5_5 (pc' := 7) rfl rfl ?_
  refine g_icmp_ge C X1 d5_7 (pcT := 44) (pcN := 10) (by decide) (by decide) rfl (fun hc7 => absurd hc7 (by decide)) (fun hc7 => ?_)
  refine g_aloadN C X1 d5_10 (pc' := 11) rfl rfl rfl ?_
  refine g_iloadN C X1 d5_11 (pc' := 12) rfl rfl ?_
  refine g_caload C X1 e1 f2 (by decide) (v := (.int c2)) rfl d5_12 (pc' := 13) rfl ?_
  refine g_istore C X1 d5_13 (pc' := 15) rfl (w := c2) rfl (ls' := #[.val (.ref o1), .val (.int (1 : Int32)), .val (.ref o2), .val (.int (1 : Int32)), .val (.int (3 : Int32)), .val (.int (1 : Int32)), .val (.int c2)]) rfl ?_
  refine g_iload C X1 d5_15 (pc' := 17) rfl rfl ?_
  refine g_sipush C X1 d5_17 (pc' := 20) rfl (v := 255) rfl ?_
  refine g_icmp_le C X1 d5_20 (pcT := 26) (pcN := 23) (by decide) (by decide) rfl (fun hc20 => ?_) (fun hc20 => absurd hc20 la2)
  refine g_aloadN C X1 d5_26 (pc' := 27) rfl rfl rfl ?_
  refine g_iloadN C X1 d5_27 (pc' := 28) rfl rfl ?_
  refine g_iload C X1 d5_28 (pc' := 30) rfl rfl ?_
  refine g_i2b C X1 d5_30 (pc' := 31) rfl ?_
  refine g_bastore C X1 (i := 1) e1 f3 (by decide) rfl (Nat.le_of_ble_eq_true rfl) d5_31 (pc' := 32) rfl (fun T4 h4 X4 e4 W4 A4 => ?_)
  have f5 := f2.other W4 ne_o1_o2
  have f6 : Arv Z h4 o2 kd2 .byte (3 : Int32) [(.int (nar .byte c1.toInt8.toInt32)), (.int (nar .byte c2.toInt8.toInt32)), (.int (0 : Int32))] (.int (0 : Int32)) := A4
  have N4 := Fr.snoc X4 N1 gn_o2
  have Z4 := Nat.le_trans Z1 (Nat.le_of_eq W4.size.symm)
  have K4 := K1.wr W4 (Or.inl (List.mem_of_getElem? (i := 0) rfl))
  refine g_iinc C X4 d5_32 (pc' := 35) rfl rfl (w := (2 : Int32)) rfl (ls' := #[.val (.ref o1), .val (.int (2 : Int32)), .val (.ref o2), .val (.int (1 : Int32)), .val (.int (3 : Int32)), .val (.int (1 : Int32)), .val (.int c2)]) rfl ?_
  refine g_iinc C X4 d5_35 (pc' := 38) rfl rfl (w := (2 : Int32)) rfl (ls' := #[.val (.ref o1), .val (.int (2 : Int32)), .val (.ref o2), .val (.int (2 : Int32)), .val (.int (3 : Int32)), .val (.int (1 : Int32)), .val (.int c2)]) rfl ?_
  refine g_iinc C X4 d5_38 (pc' := 41) rfl rfl (w := (2 : Int32)) rfl (ls' := #[.val (.ref o1), .val (.int (2 : Int32)), .val (.ref o2), .val (.int (2 : Int32)), .val (.int (3 : Int32)), .val (.int (2 : Int32)), .val (.int c2)]) rfl ?_
  refine g_goto C X4 d5_41 (pc' := 3) (by decide) (by decide) ?_
  refine g_iload C X4 d5_3 (pc' := 5) rfl rfl ?_
  refine g_iload C X4 d5_5 (pc' := 7) rfl rfl ?_
  refine g_icmp_ge C X4 d5_7 (pcT := 44) (pcN := 10) (by decide) (by decide) rfl (fun hc7 => absurd hc7 (by decide)) (fun hc7 => ?_)
  refine g_aloadN C X4 d5_10 (pc' := 11) rfl rfl rfl ?_
  refine g_iloadN C X4 d5_11 (pc' := 12) rfl rfl ?_
  refine g_caload C X4 e4 f5 (by decide) (v := (.int c3)) rfl d5_12 (pc' := 13) rfl ?_
  refine g_istore C X4 d5_13 (pc' := 15) rfl (w := c3) rfl (ls' := #[.val (.ref o1), .val (.int (2 : Int32)), .val (.ref o2), .val (.int (2 : Int32)), .val (.int (3 : Int32)), .val (.int (2 : Int32)), .val (.int c3)]) rfl ?_
  refine g_iload C X4 d5_15 (pc' := 17) rfl rfl ?_
  refine g_sipush C X4 d5_17 (pc' := 20) rfl (v := 255) rfl ?_
  refine g_icmp_le C X4 d5_20 (pcT := 26) (pcN := 23) (by decide) (by decide) rfl (fun hc20 => ?_) (fun hc20 => absurd hc20 la3)
  refine g_aloadN C X4 d5_26 (pc' := 27) rfl rfl rfl ?_
  refine g_iloadN C X4 d5_27 (pc' := 28) rfl rfl ?_
  refine g_iload C X4 d5_28 (pc' := 30) rfl rfl ?_
  refine g_i2b C X4 d5_30 (pc' := 31) rfl ?_
  refine g_bastore C X4 (i := 2) e4 f6 (by decide) rfl (Nat.le_of_ble_eq_true rfl) d5_31 (pc' := 32) rfl (fun T7 h7 X7 e7 W7 A7 => ?_)
  have f8 := f5.other W7 ne_o1_o2
  have f9 : Arv Z h7 o2 kd2 .byte (3 : Int32) [(.int (nar .byte c1.toInt8.toInt32)), (.int (nar .byte c2.toInt8.toInt32)), (.int (nar .byte c3.toInt8.toInt32))] (.int (0 : Int32)) := A7
  have N7 := Fr.snoc X7 N4 gn_o2
  have Z7 := Nat.le_trans Z4 (Nat.le_of_eq W7.size.symm)
  have K7 := K4.wr W7 (Or.inl (List.mem_of_getElem? (i := 0) rfl))
  refine g_iinc C X7 d5_32 (pc' := 35) rfl rfl (w := (3 : Int32)) rfl (ls' := #[.val (.ref o1), .val (.int (3 : Int32)), .val (.ref o2), .val (.int (2 : Int32)), .val (.int (3 : Int32)), .val (.int (2 : Int32)), .val (.int c3)]) rfl ?_
  refine g_iinc C X7 d5_35 (pc' := 38) rfl rfl (w := (3 : Int32)) rfl (ls' := #[.val (.ref o1), .val (.int (3 : Int32)), .val (.ref o2), .val (.int (3 : Int32)), .val (.int (3 : Int32)), .val (.int (2 : Int32)), .val (.int c3)]) rfl ?_
  refine g_iinc C X7 d5_38 (pc' := 41) rfl rfl (w := (3 : Int32)) rfl (ls' := #[.val (.ref o1), .val (.int (3 : Int32)), .val (.ref o2), .val (.int (3 : Int32)), .val (.int (3 : Int32)), .val (.int (3 : Int32)), .val (.int c3)]) rfl ?_
  refine g_goto C X7 d5_41 (pc' := 3) (by decide) (by decide) ?_
  refine g_iload C X7 d5_3 (pc' := 5) rfl rfl ?_
  refine g_iload C X7 d5_5 (pc' := 7) rfl rfl ?_
  refine g_icmp_ge C X7 d5_7 (pcT := 44) (pcN := 10) (by decide) (by decide) rfl (fun hc7 => ?_) (fun hc7 => absurd hc7 (by decide))
  refine g_iload C X7 d5_44 (pc' := 46) rfl rfl ?_
  exact g_retI C X7 K d5_46 (by decide) (by decide) e7 ⟨rfl, N7, K7, f9⟩
theorem ef_4l1_0l2_3 (m : MethodId) (o1 : Addr) : entryFrame m #[(.ref o1), (.int (0 : Int32)), (.int (3 : Int32))] 6 = mkF m 0 #[.val (.ref o1), .val (.int (0 : Int32)), .val (.int (3 : Int32)), .unset, .unset, .unset] [] := by first | (simp [entryFrame, mkF, argsToLocals, Value.category]; done) | rfl
def Q4_3 (Z : State) (o1 : Addr) (kd1 : ClassId) (c1 : Int32) (c2 : Int32) (c3 : Int32) (h0 : Heap) (n0 : Nat) (v : Option Value) (h : Heap) (L : List Loc) : Prop := ∃ (o3 : Addr) (kd3 : ClassId), v = some (.ref o3) ∧ Fr n0 L ∧ h0.size ≤ o3 ∧ Keep h0 h [] ∧ Arv Z h o3 kd3 .byte (3 : Int32) [(.int (nar .byte c1.toInt8.toInt32)), (.int (nar .byte c2.toInt8.toInt32)), (.int (nar .byte c3.toInt8.toInt32))] (.int (0 : Int32))
set_option maxRecDepth 65536 in
set_option maxHeartbeats 40000000 in
theorem rm4_3 (l : Launch) (Z : State) (a0 : Array Value) (hw : ∀ d ∈ tables_1, d.before a0 Z = true) (ws : List Jvm.Cond) (o1 : Addr) (kd1 : ClassId) (c1 : Int32) (c2 : Int32) (c3 : Int32) (h0 : Heap) (n0 : Nat) (Z0 : n0 ≤ h0.size) (F0 : Arv Z h0 o1 kd1 .char (3 : Int32) [(.int c1), (.int c2), (.int c3)] (.int (0 : Int32))) (la1 : ¬ (255 : Int32) < c1) (la2 : ¬ (255 : Int32) < c2) (la3 : ¬ (255 : Int32) < c3) :
    MetFree l (⟨"java/lang/StringUTF16", "compress", "([CII)[B"⟩ : MethodName) (head1 (Jvm.Cond.code (⟨"java/lang/StringUTF16", "compress", "([CII)[B"⟩ : MethodName) jdk_52_method_16_code 6 (some (.array .byte)) :: ws) ({ frames := 1, cells := 1, slots := 3, locals := 18 } : Room)) (fun a U => a = #[(.ref o1), (.int (0 : Int32)), (.int (3 : Int32))] ∧ Z.Warmed39 U.vm ∧ U.heap = h0) (fun _ _ _ _ _ => True) (fun _ U o U' => ∃ v L, o = .returned v ∧ Q4_3 Z o1 kd1 c1 c2 c3 h0 n0 v U'.heap L ∧ FrameEnd U o U' L ({ frames := 1, cells := 1, slots := 3, locals := 18 } : Room).cells ({ frames := 1, cells := 1, slots := 3, locals := 18 } : Room).slots) := by
  refine body_of (y := (⟨"java/lang/StringUTF16", "compress", "([CII)[B"⟩ : MethodName)) (Q := Q4_3 Z o1 kd1 c1 c2 c3 h0 n0) (plainFor_of_name pn_4) ?_
  intro p e s m below meth c T0 G C hnm hnamed X0 e0 K
  have N0 := Fr.nil n0
  refine Goes.to (congrArg T0.setTop (ef_4l1_0l2_3 m o1)) ?_
  have K00 := Keep.refl h0 []
  refine g_iloadN C X0 d4_0 (pc' := 1) rfl rfl ?_
  refine g_newA (aty := .byte) (n := (3 : Int32)) C X0 (cap := 3) (w_20 hw) e0 d4_1 (pc' := 3) rfl (by decide) (by decide) (by decide) (by decide) (by decide) (fun T1 h1 b1 ki1 X1 e1 g1 E1 A1 => ?_)
  have n2 : o1 ≠ b1 := Nat.ne_of_lt (Nat.lt_of_lt_of_eq F0.lt g1.symm)
  have f3 := F0.ext E1
  have gn_b1 : n0 ≤ b1 := Nat.le_trans Z0 (Nat.le_of_eq g1.symm)
  have Z1 := Nat.le_trans Z0 E1.1
  have sz_b1 : h0.size ≤ b1 := Nat.le_trans K00.1 (Nat.le_of_eq g1.symm)
  have K1 := K00.ext E1
  have f4 : Arv Z h1 b1 ki1 .byte (3 : Int32) [(.int (0 : Int32)), (.int (0 : Int32)), (.int (0 : Int32))] (.int (0 : Int32)) := A1.pad (pad_rep [] (.int (0 : Int32)) 3)
  refine g_astoreN C X1 d4_3 (pc' := 4) rfl rfl (ls' := #[.val (.ref o1), .val (.int (0 : Int32)), .val (.int (3 : Int32)), .val (.ref b1), .unset, .unset]) rfl ?_
  refine g_aloadN C X1 d4_4 (pc' := 5) rfl rfl rfl ?_
  refine g_iloadN C X1 d4_5 (pc' := 6) rfl rfl ?_
  refine g_aloadN C X1 d4_6 (pc' := 7) rfl rfl rfl ?_
  refine g_iconst C X1 d4_7 (pc' := 8) rfl (v := 0) rfl ?_
  refine g_iloadN C X1 d4_8 (pc' := 9) rfl rfl ?_
  refine g_callS C X1 (w_21 hw) (w_22 hw) (w_18 hw) (w_23 hw) (by decide) d4_9 (rm5_3 l Z a0 hw [] o1 b1 kd1 ki1 c1 c2 c3 h1 n0 Z1 f3 f4 gn_b1 la1 la2 la3 n2) (by decide) (by decide) rfl pd_0 rfl (argsL := [(.ref o1), (.int (0 : Int32)), (.ref b1), (.int (0 : Int32)), (.int (3 : Int32))]) (rest := []) rfl (W := 0) (Nat.le_of_eq rfl) e1 (by decide) (by decide) (pc' := 12) rfl (fun u5 T5 L5 X5 hQ5 => ?_)
  obtain ⟨rfl, Nq5, Kq5, q5_0⟩ := hQ5
  have N5 := Fr.app N0 Nq5
  have f6 := f3.keep Kq5 (ninS n2 nin0)
  have Z5 := Nat.le_trans Z1 Kq5.1
  have K5 := K1.trans Kq5 (allS (Or.inr sz_b1) all0)
  show Goes p.tables e below G (T5.setTop (mkF m 12 #[.val (.ref o1), .val (.int (0 : Int32)), .val (.int (3 : Int32)), .val (.ref b1), .unset, .unset] [(.int (3 : Int32))]))
  refine g_istore C X5 d4_12 (pc' := 14) rfl (w := (3 : Int32)) rfl (ls' := #[.val (.ref o1), .val (.int (0 : Int32)), .val (.int (3 : Int32)), .val (.ref b1), .val (.int (3 : Int32)), .unset]) rfl ?_
  refine g_iload C X5 d4_14 (pc' := 16) rfl rfl ?_
  refine g_iloadN C X5 d4_16 (pc' := 17) rfl rfl ?_
  refine g_icmp_eq C X5 d4_17 (pcT := 57) (pcN := 20) (by decide) (by decide) rfl (fun hc17 => ?_) (fun hc17 => absurd hc17 (by decide))
  refine g_aloadN C X5 d4_57 (pc' := 58) rfl rfl rfl ?_
  exact g_retA C X5 K rfl rfl rfl d4_58 (by decide) (by decide) rfl ⟨b1, ki1, rfl, N5, sz_b1, K5, q5_0⟩
theorem ef_6l1_3 (m : MethodId) (o1 : Addr) : entryFrame m #[(.ref o1), (.int (3 : Int32))] 2 = mkF m 0 #[.val (.ref o1), .val (.int (3 : Int32))] [] := by first | (simp [entryFrame, mkF, argsToLocals, Value.category]; done) | rfl
def Q6_3 (Z : State) (o1 : Addr) (kd1 : ClassId) (c1 : Int32) (c2 : Int32) (c3 : Int32) (h0 : Heap) (n0 : Nat) (v : Option Value) (h : Heap) (L : List Loc) : Prop := v = some (.int (0 : Int32)) ∧ Fr n0 L ∧ h = h0
set_option maxRecDepth 65536 in
set_option maxHeartbeats 40000000 in
theorem rm6_3 (l : Launch) (Z : State) (a0 : Array Value) (hw : ∀ d ∈ tables_1, d.before a0 Z = true) (ws : List Jvm.Cond) (o1 : Addr) (kd1 : ClassId) (c1 : Int32) (c2 : Int32) (c3 : Int32) (h0 : Heap) (n0 : Nat) (Z0 : n0 ≤ h0.size) (F0 : Arv Z h0 o1 kd1 .byte (3 : Int32) [(.int c1), (.int c2), (.int c3)] (.int (0 : Int32))) :
    MetFree l (⟨"java/lang/StringUTF16", "coderFromArrayLen", "([BI)B"⟩ : MethodName) (head1 (Jvm.Cond.code (⟨"java/lang/StringUTF16", "coderFromArrayLen", "([BI)B"⟩ : MethodName) jdk_52_method_15_code 2 (some .byte) :: ws) ({ frames := 0, cells := 0, slots := 0, locals := 0 } : Room)) (fun a U => a = #[(.ref o1), (.int (3 : Int32))] ∧ Z.Warmed39 U.vm ∧ U.heap = h0) (fun _ _ _ _ _ => True) (fun _ U o U' => ∃ v L, o = .returned v ∧ Q6_3 Z o1 kd1 c1 c2 c3 h0 n0 v U'.heap L ∧ FrameEnd U o U' L ({ frames := 0, cells := 0, slots := 0, locals := 0 } : Room).cells ({ frames := 0, cells := 0, slots := 0, locals := 0 } : Room).slots) := by
  refine body_of (y := (⟨"java/lang/StringUTF16", "coderFromArrayLen", "([BI)B"⟩ : MethodName)) (Q := Q6_3 Z o1 kd1 c1 c2 c3 h0 n0) (plainFor_of_name pn_4) ?_
  intro p e s m below meth c T0 G C hnm hnamed X0 e0 K
  have N0 := Fr.nil n0
  refine Goes.to (congrArg T0.setTop (ef_6l1_3 m o1)) ?_
  refine g_iloadN C X0 d6_0 (pc' := 1) rfl rfl ?_
  refine g_aloadN C X0 d6_1 (pc' := 2) rfl rfl rfl ?_
  refine g_arraylength C X0 e0 F0 d6_2 (pc' := 3) rfl ?_
  refine g_isub C X0 d6_3 (pc' := 4) rfl ?_
  refine g_bipush C X0 d6_4 (pc' := 6) rfl (v := 31) rfl ?_
  refine g_iushr C X0 d6_6 (pc' := 7) rfl ?_
  refine g_i2b C X0 d6_7 (pc' := 8) rfl ?_
  exact g_retN C X0 K (by simp) d6_8 (by decide) (by decide) e0 ⟨(by decide), N0, rfl⟩
theorem ef_2l2_0l3_3n4 (m : MethodId) (o1 : Addr) (o2 : Addr) : entryFrame m #[(.ref o1), (.ref o2), (.int (0 : Int32)), (.int (3 : Int32)), .null] 6 = mkF m 0 #[.val (.ref o1), .val (.ref o2), .val (.int (0 : Int32)), .val (.int (3 : Int32)), .val .null, .unset] [] := by first | (simp [entryFrame, mkF, argsToLocals, Value.category]; done) | rfl
def Q2_3 (Z : State) (o1 : Addr) (o2 : Addr) (kd1 : ClassId) (c1 : Int32) (c2 : Int32) (c3 : Int32) (cs1 : Int32) (h0 : Heap) (n0 : Nat) (v : Option Value) (h : Heap) (L : List Loc) : Prop := ∃ (o3 : Addr) (kd3 : ClassId), v = none ∧ Fr n0 L ∧ h0.size ≤ o3 ∧ Keep h0 h [o1] ∧ Exa Z h o1 "java/lang/String" ∧ Fld Z h o1 "java/lang/String" "value" "[B" (.ref o3) ∧ Fld Z h o1 "java/lang/String" "coder" "B" (.int (0 : Int32)) ∧ Arv Z h o3 kd3 .byte (3 : Int32) [(.int (nar .byte c1.toInt8.toInt32)), (.int (nar .byte c2.toInt8.toInt32)), (.int (nar .byte c3.toInt8.toInt32))] (.int (0 : Int32))
set_option maxRecDepth 65536 in
set_option maxHeartbeats 40000000 in
theorem rm2_3 (l : Launch) (Z : State) (a0 : Array Value) (hw : ∀ d ∈ tables_1, d.before a0 Z = true) (ws : List Jvm.Cond) (o1 : Addr) (o2 : Addr) (kd1 : ClassId) (c1 : Int32) (c2 : Int32) (c3 : Int32) (cs1 : Int32) (h0 : Heap) (n0 : Nat) (Z0 : n0 ≤ h0.size) (F0 : Exa Z h0 o1 "java/lang/String") (F1 : Fld Z h0 o1 "java/lang/String" "value" "[B" .null) (F2 : Fld Z h0 o1 "java/lang/String" "coder" "B" (.int (0 : Int32))) (F3 : Arv Z h0 o2 kd1 .char (3 : Int32) [(.int c1), (.int c2), (.int c3)] (.int (0 : Int32))) (F4 : Sta Z h0 "java/lang/String" "COMPACT_STRINGS" "Z" (.int cs1)) (gn_o1 : n0 ≤ o1) (la1 : ¬ (255 : Int32) < c1) (la2 : ¬ (255 : Int32) < c2) (la3 : ¬ (255 : Int32) < c3) (hcs : ¬ cs1 = (0 : Int32)) (ne_o1_o2 : o1 ≠ o2) :
    MetFree l (⟨"java/lang/String", "<init>", "([CIILjava/lang/Void;)V"⟩ : MethodName) (head1 (Jvm.Cond.code (⟨"java/lang/String", "<init>", "([CIILjava/lang/Void;)V"⟩ : MethodName) jdk_42_method_149_code 6 none :: ws) ({ frames := 2, cells := 1, slots := 3, locals := 35 } : Room)) (fun a U => a = #[(.ref o1), (.ref o2), (.int (0 : Int32)), (.int (3 : Int32)), .null] ∧ Z.Warmed39 U.vm ∧ U.heap = h0) (fun _ _ _ _ _ => True) (fun _ U o U' => ∃ v L, o = .returned v ∧ Q2_3 Z o1 o2 kd1 c1 c2 c3 cs1 h0 n0 v U'.heap L ∧ FrameEnd U o U' L ({ frames := 2, cells := 1, slots := 3, locals := 35 } : Room).cells ({ frames := 2, cells := 1, slots := 3, locals := 35 } : Room).slots) := by
  refine body_of (y := (⟨"java/lang/String", "<init>", "([CIILjava/lang/Void;)V"⟩ : MethodName)) (Q := Q2_3 Z o1 o2 kd1 c1 c2 c3 cs1 h0 n0) (plainFor_of_name pn_1) ?_
  intro p e s m below meth c T0 G C hnm hnamed X0 e0 K
  have N0 := Fr.nil n0
  refine Goes.to (congrArg T0.setTop (ef_2l2_0l3_3n4 m o1 o2)) ?_
  have K00 := Keep.refl h0 [o1]
  refine g_aloadN C X0 d2_0 (pc' := 1) rfl rfl rfl ?_
  refine g_initO C X0 (w_12 hw) (w_13 hw) (w_14 hw) e0 rfl d2_1 (pc' := 4) rfl (by decide) (W := 0) (Nat.le_of_eq rfl) (by decide) (fun T1 X1 e1 => ?_)
  refine g_iloadN C X1 d2_4 (pc' := 5) rfl rfl ?_
  refine g_if_ne C X1 d2_5 (pcT := 27) (pcN := 8) (by decide) (by decide) rfl (fun hc5 => ?_) (fun hc5 => absurd hc5 (by decide))
  refine g_getS C X1 (w_15 hw) Via.refl e1 F4 d2_27 (pc' := 30) rfl (fun T2 X2 e2 => ?_)
  refine g_if_eq C X2 d2_30 (pcT := 58) (pcN := 33) (by decide) (by decide) rfl (fun hc30 => absurd hc30 hcs) (fun hc30 => ?_)
  refine g_aloadN C X2 d2_33 (pc' := 34) rfl rfl rfl ?_
  refine g_iloadN C X2 d2_34 (pc' := 35) rfl rfl ?_
  refine g_iloadN C X2 d2_35 (pc' := 36) rfl rfl ?_
  refine g_callS C X2 (w_16 hw) (w_17 hw) (w_18 hw) (w_19 hw) (by decide) d2_36 (rm4_3 l Z a0 hw [] o2 kd1 c1 c2 c3 h0 n0 Z0 F3 la1 la2 la3) (by decide) (by decide) rfl pd_1 rfl (argsL := [(.ref o2), (.int (0 : Int32)), (.int (3 : Int32))]) (rest := []) rfl (W := 0) (Nat.le_of_eq rfl) e2 (by decide) (by decide) (pc' := 39) rfl (fun u3 T3 L3 X3 hQ3 => ?_)
  obtain ⟨o33, kd33, rfl, Nq3, szo33, Kq3, q3_0⟩ := hQ3
  have N3 := Fr.app N0 Nq3
  have n4 : o1 ≠ o33 := Nat.ne_of_lt (Nat.lt_of_lt_of_le F0.lt szo33)
  have n5 : o2 ≠ o33 := Nat.ne_of_lt (Nat.lt_of_lt_of_le F3.lt szo33)
  have f6 := F0.keep Kq3
  have f7 := F1.keep Kq3 nin0
  have f8 := F2.keep Kq3 nin0
  have f9 := F3.keep Kq3 nin0
  have f10 := Sta.keepN F4 Kq3 all0
  have gn_o33 : n0 ≤ o33 := Nat.le_trans Z0 szo33
  have Z3 := Nat.le_trans Z0 Kq3.1
  have sz_o33 : h0.size ≤ o33 := Nat.le_trans K00.1 szo33
  have K3 := K00.trans Kq3 all0
  show Goes p.tables e below G (T3.setTop (mkF m 39 #[.val (.ref o1), .val (.ref o2), .val (.int (0 : Int32)), .val (.int (3 : Int32)), .val .null, .unset] [(.ref o33)]))
  refine g_astore C X3 d2_39 (pc' := 41) rfl rfl (ls' := #[.val (.ref o1), .val (.ref o2), .val (.int (0 : Int32)), .val (.int (3 : Int32)), .val .null, .val (.ref o33)]) rfl ?_
  refine g_aloadN C X3 d2_41 (pc' := 42) rfl rfl rfl ?_
  refine g_aload C X3 d2_42 (pc' := 44) rfl rfl rfl ?_
  refine g_iloadN C X3 d2_44 (pc' := 45) rfl rfl ?_
  refine g_callS C X3 (w_24 hw) (w_25 hw) (w_18 hw) (w_26 hw) (by decide) d2_45 (rm6_3 l Z a0 hw [] o33 kd33 (nar .byte c1.toInt8.toInt32) (nar .byte c2.toInt8.toInt32) (nar .byte c3.toInt8.toInt32) T3.heap n0 Z3 q3_0) (by decide) (by decide) rfl pd_2 rfl (argsL := [(.ref o33), (.int (3 : Int32))]) (rest := [(.ref o1)]) rfl (W := 1) (Nat.le_of_eq rfl) rfl (by decide) (by decide) (pc' := 48) rfl (fun u11 T11 L11 X11 hQ11 => ?_)
  obtain ⟨rfl, Nq11, eq11⟩ := hQ11
  have N11 := Fr.app N3 Nq11
  show Goes p.tables e below G (T11.setTop (mkF m 48 #[.val (.ref o1), .val (.ref o2), .val (.int (0 : Int32)), .val (.int (3 : Int32)), .val .null, .val (.ref o33)] [(.int (0 : Int32)), (.ref o1)]))
  refine g_putFN C X11 (w_27 hw) Via.refl eq11 f8 f6 (Or.inr ⟨(w_28 hw), rfl, hnm⟩) (w_3 hw) (ty := .byte) (by decide) (v' := (.int (0 : Int32))) (by decide) (by decide) d2_48 (pc' := 51) rfl (fun T12 h12 X12 e12 W12 => ?_)
  have f13 := f6.wr W12
  have f14 := f7.other W12 (Or.inr (slot_ne (Or.inr (w_30 hw)) (Or.inr (w_28 hw)) (by decide) (t := (.array .byte)) (t' := .byte) (by decide) (by decide)))
  have f15 := f8.same W12
  have f16 := f9.other W12 (Ne.symm ne_o1_o2)
  have f17 := f10.wr W12
  have f18 := q3_0.other W12 (Ne.symm n4)
  have N12 := Fr.snoc X12 N11 gn_o1
  have Z12 := Nat.le_trans Z3 (Nat.le_of_eq W12.size.symm)
  have K12 := K3.wr W12 (Or.inl (List.mem_of_getElem? (i := 0) rfl))
  refine g_aloadN C X12 d2_51 (pc' := 52) rfl rfl rfl ?_
  refine g_aload C X12 d2_52 (pc' := 54) rfl rfl rfl ?_
  refine g_putF C X12 (w_29 hw) Via.refl e12 f14 f13 (Or.inr ⟨(w_30 hw), rfl, hnm⟩) (w_3 hw) (ty := (.array .byte)) (by decide) rfl rfl d2_54 (pc' := 57) rfl (fun T19 h19 X19 e19 W19 => ?_)
  have f20 := f13.wr W19
  have f21 := f14.same W19
  have f22 := f15.other W19 (Or.inr (slot_ne (Or.inr (w_28 hw)) (Or.inr (w_30 hw)) (by decide) (t := .byte) (t' := (.array .byte)) (by decide) (by decide)))
  have f23 := f16.other W19 (Ne.symm ne_o1_o2)
  have f24 := f17.wr W19
  have f25 := f18.other W19 (Ne.symm n4)
  have N19 := Fr.snoc X19 N12 gn_o1
  have Z19 := Nat.le_trans Z12 (Nat.le_of_eq W19.size.symm)
  have K19 := K12.wr W19 (Or.inl (List.mem_of_getElem? (i := 0) rfl))
  exact g_retV C X19 K d2_57 (by decide) (by decide) e19 ⟨o33, kd33, rfl, N19, sz_o33, K19, f20, f21, f22, f25⟩
def Q1_3 (Z : State) (o1 : Addr) (o2 : Addr) (kd1 : ClassId) (c1 : Int32) (c2 : Int32) (c3 : Int32) (cs1 : Int32) (h0 : Heap) (n0 : Nat) (v : Option Value) (h : Heap) (L : List Loc) : Prop := ∃ (o3 : Addr) (kd3 : ClassId), v = none ∧ Fr n0 L ∧ h0.size ≤ o3 ∧ Keep h0 h [o1] ∧ Exa Z h o1 "java/lang/String" ∧ Fld Z h o1 "java/lang/String" "value" "[B" (.ref o3) ∧ Fld Z h o1 "java/lang/String" "coder" "B" (.int (0 : Int32)) ∧ Arv Z h o3 kd3 .byte (3 : Int32) [(.int (nar .byte c1.toInt8.toInt32)), (.int (nar .byte c2.toInt8.toInt32)), (.int (nar .byte c3.toInt8.toInt32))] (.int (0 : Int32))
set_option maxRecDepth 65536 in
set_option maxHeartbeats 40000000 in
theorem rm1_3 (l : Launch) (Z : State) (a0 : Array Value) (hw : ∀ d ∈ tables_1, d.before a0 Z = true) (ws : List Jvm.Cond) (o1 : Addr) (o2 : Addr) (kd1 : ClassId) (c1 : Int32) (c2 : Int32) (c3 : Int32) (cs1 : Int32) (h0 : Heap) (n0 : Nat) (Z0 : n0 ≤ h0.size) (F0 : Exa Z h0 o1 "java/lang/String") (F1 : Fld Z h0 o1 "java/lang/String" "value" "[B" .null) (F2 : Fld Z h0 o1 "java/lang/String" "coder" "B" (.int (0 : Int32))) (F3 : Arv Z h0 o2 kd1 .char (3 : Int32) [(.int c1), (.int c2), (.int c3)] (.int (0 : Int32))) (F4 : Sta Z h0 "java/lang/String" "COMPACT_STRINGS" "Z" (.int cs1)) (gn_o1 : n0 ≤ o1) (la1 : ¬ (255 : Int32) < c1) (la2 : ¬ (255 : Int32) < c2) (la3 : ¬ (255 : Int32) < c3) (hcs : ¬ cs1 = (0 : Int32)) (ne_o1_o2 : o1 ≠ o2) :
    MetFree l (⟨"java/lang/String", "<init>", "([C)V"⟩ : MethodName) (head1 (Jvm.Cond.code (⟨"java/lang/String", "<init>", "([C)V"⟩ : MethodName) jdk_42_method_3_code 2 none :: ws) ({ frames := 3, cells := 1, slots := 3, locals := 52 } : Room)) (fun a U => a = #[(.ref o1), (.ref o2)] ∧ Z.Warmed39 U.vm ∧ U.heap = h0) (fun _ _ _ _ _ => True) (fun _ U o U' => ∃ v L, o = .returned v ∧ Q1_3 Z o1 o2 kd1 c1 c2 c3 cs1 h0 n0 v U'.heap L ∧ FrameEnd U o U' L ({ frames := 3, cells := 1, slots := 3, locals := 52 } : Room).cells ({ frames := 3, cells := 1, slots := 3, locals := 52 } : Room).slots) := by
  refine body_of (y := (⟨"java/lang/String", "<init>", "([C)V"⟩ : MethodName)) (Q := Q1_3 Z o1 o2 kd1 c1 c2 c3 cs1 h0 n0) (plainFor_of_name pn_1) ?_
  intro p e s m below meth c T0 G C hnm hnamed X0 e0 K
  have N0 := Fr.nil n0
  refine Goes.to (congrArg T0.setTop (ef_1 m o1 o2)) ?_
  have K00 := Keep.refl h0 [o1]
  refine g_aloadN C X0 d1_0 (pc' := 1) rfl rfl rfl ?_
  refine g_aloadN C X0 d1_1 (pc' := 2) rfl rfl rfl ?_
  refine g_iconst C X0 d1_2 (pc' := 3) rfl (v := 0) rfl ?_
  refine g_aloadN C X0 d1_3 (pc' := 4) rfl rfl rfl ?_
  refine g_arraylength C X0 e0 F3 d1_4 (pc' := 5) rfl ?_
  refine g_aconstNull C X0 d1_5 (pc' := 6) rfl ?_
  refine g_callI C X0 rfl (w_8 hw) (w_9 hw) (w_4 hw) (w_11 hw) (by decide) d1_6 (rm2_3 l Z a0 hw [] o1 o2 kd1 c1 c2 c3 cs1 h0 n0 Z0 F0 F1 F2 F3 F4 gn_o1 la1 la2 la3 hcs ne_o1_o2) (by decide) (by decide) rfl pd_3 rfl (argsL := [(.ref o2), (.int (0 : Int32)), (.int (3 : Int32)), .null]) (rest := []) rfl (W := 0) (Nat.le_of_eq rfl) e0 (by decide) (by decide) (pc' := 9) rfl (fun u1 T1 L1 X1 hQ1 => ?_)
  obtain ⟨o31, kd31, rfl, Nq1, szo31, Kq1, q1_0, q1_1, q1_2, q1_3⟩ := hQ1
  have N1 := Fr.app N0 Nq1
  have n2 : o1 ≠ o31 := Nat.ne_of_lt (Nat.lt_of_lt_of_le F0.lt szo31)
  have n3 : o2 ≠ o31 := Nat.ne_of_lt (Nat.lt_of_lt_of_le F3.lt szo31)
  have f4 := F0.keep Kq1
  have f5 := F3.keep Kq1 (ninS (Ne.symm ne_o1_o2) nin0)
  have f6 := Sta.keepN F4 Kq1 (allS (Exa.ns F0) all0)
  have gn_o31 : n0 ≤ o31 := Nat.le_trans Z0 szo31
  have Z1 := Nat.le_trans Z0 Kq1.1
  have sz_o31 : h0.size ≤ o31 := Nat.le_trans K00.1 szo31
  have K1 := K00.trans Kq1 (allS (Or.inl (List.mem_of_getElem? (i := 0) rfl)) all0)
  show Goes p.tables e below G (T1.setTop (mkF m 9 #[.val (.ref o1), .val (.ref o2)] []))
  exact g_retV C X1 K d1_9 (by decide) (by decide) rfl ⟨o31, kd31, rfl, N1, sz_o31, K1, q1_0, q1_1, q1_2, q1_3⟩
def Q15_3 (Z : State) (o1 : Addr) (o2 : Addr) (kd1 : ClassId) (c1 : Int32) (c2 : Int32) (c3 : Int32) (cs1 : Int32) (h0 : Heap) (n0 : Nat) (v : Option Value) (h : Heap) (L : List Loc) : Prop := v = some (.int (3 : Int32)) ∧ Fr n0 L ∧ h = h0
set_option maxRecDepth 65536 in
set_option maxHeartbeats 40000000 in
theorem rm15_3 (l : Launch) (Z : State) (a0 : Array Value) (hw : ∀ d ∈ tables_1, d.before a0 Z = true) (ws : List Jvm.Cond) (o1 : Addr) (o2 : Addr) (kd1 : ClassId) (c1 : Int32) (c2 : Int32) (c3 : Int32) (cs1 : Int32) (h0 : Heap) (n0 : Nat) (Z0 : n0 ≤ h0.size) (F0 : Exa Z h0 o1 "java/lang/String") (F1 : Fld Z h0 o1 "java/lang/String" "value" "[B" (.ref o2)) (F2 : Fld Z h0 o1 "java/lang/String" "coder" "B" (.int (0 : Int32))) (F3 : Arv Z h0 o2 kd1 .byte (3 : Int32) [(.int c1), (.int c2), (.int c3)] (.int (0 : Int32))) (F4 : Sta Z h0 "java/lang/String" "COMPACT_STRINGS" "Z" (.int cs1)) (hcs : ¬ cs1 = (0 : Int32)) :
    MetFree l (⟨"java/lang/String", "length", "()I"⟩ : MethodName) (head1 (Jvm.Cond.code (⟨"java/lang/String", "length", "()I"⟩ : MethodName) jdk_42_method_54_code 1 (some .int) :: ws) ({ frames := 1, cells := 0, slots := 0, locals := 13 } : Room)) (fun a U => a = #[(.ref o1)] ∧ Z.Warmed39 U.vm ∧ U.heap = h0) (fun _ _ _ _ _ => True) (fun _ U o U' => ∃ v L, o = .returned v ∧ Q15_3 Z o1 o2 kd1 c1 c2 c3 cs1 h0 n0 v U'.heap L ∧ FrameEnd U o U' L ({ frames := 1, cells := 0, slots := 0, locals := 13 } : Room).cells ({ frames := 1, cells := 0, slots := 0, locals := 13 } : Room).slots) := by
  refine body_of (y := (⟨"java/lang/String", "length", "()I"⟩ : MethodName)) (Q := Q15_3 Z o1 o2 kd1 c1 c2 c3 cs1 h0 n0) (plainFor_of_name pn_1) ?_
  intro p e s m below meth c T0 G C hnm hnamed X0 e0 K
  have N0 := Fr.nil n0
  refine Goes.to (congrArg T0.setTop (ef_15 m o1)) ?_
  refine g_aloadN C X0 d15_0 (pc' := 1) rfl rfl rfl ?_
  refine g_getF C X0 (w_29 hw) Via.refl e0 F1 d15_1 (pc' := 4) rfl (fun T1 X1 e1 => ?_)
  refine g_arraylength C X1 e1 F3 d15_4 (pc' := 5) rfl ?_
  refine g_aloadN C X1 d15_5 (pc' := 6) rfl rfl rfl ?_
  refine g_callV C X1 (w_82 hw) (w_83 hw) (notFace_of_selects (args := #[]) (mvT C.2.1 (w_85 hw))) (w_85 hw) (w_84 hw) (w_86 hw) (w_4 hw) (by decide) F0 d15_6 (rm16 l Z a0 hw [] o1 cs1 h0 n0 Z0 F2 F4 hcs) (by decide) (by decide) rfl pd_4 rfl (argsL := []) (rest := [(.int (3 : Int32))]) rfl (W := 1) (Nat.le_of_eq rfl) e1 (by decide) (by decide) (pc' := 9) rfl (fun u2 T2 L2 X2 hQ2 => ?_)
  obtain ⟨rfl, Nq2, eq2⟩ := hQ2
  have N2 := Fr.app N0 Nq2
  show Goes p.tables e below G (T2.setTop (mkF m 9 #[.val (.ref o1)] [(.int (0 : Int32)), (.int (3 : Int32))]))
  refine g_ishr C X2 d15_9 (pc' := 10) rfl ?_
  exact g_retI C X2 K d15_10 (by decide) (by decide) eq2 ⟨(by decide), N2, rfl⟩
def Q14_3 (Z : State) (o1 : Addr) (o2 : Addr) (kd1 : ClassId) (c1 : Int32) (c2 : Int32) (c3 : Int32) (h0 : Heap) (n0 : Nat) (v : Option Value) (h : Heap) (L : List Loc) : Prop := v = some (.int (0 : Int32)) ∧ Fr n0 L ∧ h = h0
set_option maxRecDepth 65536 in
set_option maxHeartbeats 40000000 in
theorem rm14_3 (l : Launch) (Z : State) (a0 : Array Value) (hw : ∀ d ∈ tables_1, d.before a0 Z = true) (ws : List Jvm.Cond) (o1 : Addr) (o2 : Addr) (kd1 : ClassId) (c1 : Int32) (c2 : Int32) (c3 : Int32) (h0 : Heap) (n0 : Nat) (Z0 : n0 ≤ h0.size) (F0 : Exa Z h0 o1 "java/lang/String") (F1 : Fld Z h0 o1 "java/lang/String" "value" "[B" (.ref o2)) (F2 : Fld Z h0 o1 "java/lang/String" "coder" "B" (.int (0 : Int32))) (F3 : Arv Z h0 o2 kd1 .byte (3 : Int32) [(.int c1), (.int c2), (.int c3)] (.int (0 : Int32))) :
    MetFree l (⟨"java/lang/String", "isEmpty", "()Z"⟩ : MethodName) (head1 (Jvm.Cond.code (⟨"java/lang/String", "isEmpty", "()Z"⟩ : MethodName) jdk_42_method_55_code 1 (some .boolean) :: ws) ({ frames := 0, cells := 0, slots := 0, locals := 0 } : Room)) (fun a U => a = #[(.ref o1)] ∧ Z.Warmed39 U.vm ∧ U.heap = h0) (fun _ _ _ _ _ => True) (fun _ U o U' => ∃ v L, o = .returned v ∧ Q14_3 Z o1 o2 kd1 c1 c2 c3 h0 n0 v U'.heap L ∧ FrameEnd U o U' L ({ frames := 0, cells := 0, slots := 0, locals := 0 } : Room).cells ({ frames := 0, cells := 0, slots := 0, locals := 0 } : Room).slots) := by
  refine body_of (y := (⟨"java/lang/String", "isEmpty", "()Z"⟩ : MethodName)) (Q := Q14_3 Z o1 o2 kd1 c1 c2 c3 h0 n0) (plainFor_of_name pn_1) ?_
  intro p e s m below meth c T0 G C hnm hnamed X0 e0 K
  have N0 := Fr.nil n0
  refine Goes.to (congrArg T0.setTop (ef_14 m o1)) ?_
  refine g_aloadN C X0 d14_0 (pc' := 1) rfl rfl rfl ?_
  refine g_getF C X0 (w_29 hw) Via.refl e0 F1 d14_1 (pc' := 4) rfl (fun T1 X1 e1 => ?_)
  refine g_arraylength C X1 e1 F3 d14_4 (pc' := 5) rfl ?_
  refine g_if_ne C X1 d14_5 (pcT := 12) (pcN := 8) (by decide) (by decide) rfl (fun hc5 => ?_) (fun hc5 => absurd hc5 (by decide))
  refine g_iconst C X1 d14_12 (pc' := 13) rfl (v := 0) rfl ?_
  exact g_retN C X1 K (by simp) d14_13 (by decide) (by decide) e1 ⟨rfl, N0, rfl⟩
theorem ef_21l0_0l1_3n2 (m : MethodId)  : entryFrame m #[(.int (0 : Int32)), (.int (3 : Int32)), .null] 3 = mkF m 0 #[.val (.int (0 : Int32)), .val (.int (3 : Int32)), .val .null] [] := by first | (simp [entryFrame, mkF, argsToLocals, Value.category]; done) | rfl
def Q21_3_0n (Z : State)  (h0 : Heap) (n0 : Nat) (v : Option Value) (h : Heap) (L : List Loc) : Prop := v = some (.int (0 : Int32)) ∧ Fr n0 L ∧ h = h0
set_option maxRecDepth 65536 in
set_option maxHeartbeats 40000000 in
theorem rm21_3_0n (l : Launch) (Z : State) (a0 : Array Value) (hw : ∀ d ∈ tables_1, d.before a0 Z = true) (ws : List Jvm.Cond)  (h0 : Heap) (n0 : Nat) (Z0 : n0 ≤ h0.size) :
    MetFree l (⟨"jdk/internal/util/Preconditions", "checkIndex", "(IILjava/util/function/BiFunction;)I"⟩ : MethodName) (head1 (Jvm.Cond.code (⟨"jdk/internal/util/Preconditions", "checkIndex", "(IILjava/util/function/BiFunction;)I"⟩ : MethodName) jdk_41_method_11_code 3 (some .int) :: ws) ({ frames := 0, cells := 0, slots := 0, locals := 0 } : Room)) (fun a U => a = #[(.int (0 : Int32)), (.int (3 : Int32)), .null] ∧ Z.Warmed39 U.vm ∧ U.heap = h0) (fun _ _ _ _ _ => True) (fun _ U o U' => ∃ v L, o = .returned v ∧ Q21_3_0n Z  h0 n0 v U'.heap L ∧ FrameEnd U o U' L ({ frames := 0, cells := 0, slots := 0, locals := 0 } : Room).cells ({ frames := 0, cells := 0, slots := 0, locals := 0 } : Room).slots) := by
  refine body_of (y := (⟨"jdk/internal/util/Preconditions", "checkIndex", "(IILjava/util/function/BiFunction;)I"⟩ : MethodName)) (Q := Q21_3_0n Z  h0 n0) (plainFor_of_name pn_21) ?_
  intro p e s m below meth c T0 G C hnm hnamed X0 e0 K
  have N0 := Fr.nil n0
  refine Goes.to (congrArg T0.setTop (ef_21l0_0l1_3n2 m )) ?_
  refine g_iloadN C X0 d21_0 (pc' := 1) rfl rfl ?_
  refine g_if_lt C X0 d21_1 (pcT := 9) (pcN := 4) (by decide) (by decide) rfl (fun hc1 => absurd hc1 (by decide)) (fun hc1 => ?_)
  refine g_iloadN C X0 d21_4 (pc' := 5) rfl rfl ?_
  refine g_iloadN C X0 d21_5 (pc' := 6) rfl rfl ?_
  refine g_icmp_lt C X0 d21_6 (pcT := 16) (pcN := 9) (by decide) (by decide) rfl (fun hc6 => ?_) (fun hc6 => absurd hc6 (by decide))
  refine g_iloadN C X0 d21_16 (pc' := 17) rfl rfl ?_
  exact g_retI C X0 K d21_17 (by decide) (by decide) e0 ⟨rfl, N0, rfl⟩
theorem ef_21l0_0l1_3 (m : MethodId) (o1 : Addr) : entryFrame m #[(.int (0 : Int32)), (.int (3 : Int32)), (.ref o1)] 3 = mkF m 0 #[.val (.int (0 : Int32)), .val (.int (3 : Int32)), .val (.ref o1)] [] := by first | (simp [entryFrame, mkF, argsToLocals, Value.category]; done) | rfl
def Q21_3_0r (Z : State) (o1 : Addr) (h0 : Heap) (n0 : Nat) (v : Option Value) (h : Heap) (L : List Loc) : Prop := v = some (.int (0 : Int32)) ∧ Fr n0 L ∧ h = h0
set_option maxRecDepth 65536 in
set_option maxHeartbeats 40000000 in
theorem rm21_3_0r (l : Launch) (Z : State) (a0 : Array Value) (hw : ∀ d ∈ tables_1, d.before a0 Z = true) (ws : List Jvm.Cond) (o1 : Addr) (h0 : Heap) (n0 : Nat) (Z0 : n0 ≤ h0.size) :
    MetFree l (⟨"jdk/internal/util/Preconditions", "checkIndex", "(IILjava/util/function/BiFunction;)I"⟩ : MethodName) (head1 (Jvm.Cond.code (⟨"jdk/internal/util/Preconditions", "checkIndex", "(IILjava/util/function/BiFunction;)I"⟩ : MethodName) jdk_41_method_11_code 3 (some .int) :: ws) ({ frames := 0, cells := 0, slots := 0, locals := 0 } : Room)) (fun a U => a = #[(.int (0 : Int32)), (.int (3 : Int32)), (.ref o1)] ∧ Z.Warmed39 U.vm ∧ U.heap = h0) (fun _ _ _ _ _ => True) (fun _ U o U' => ∃ v L, o = .returned v ∧ Q21_3_0r Z o1 h0 n0 v U'.heap L ∧ FrameEnd U o U' L ({ frames := 0, cells := 0, slots := 0, locals := 0 } : Room).cells ({ frames := 0, cells := 0, slots := 0, locals := 0 } : Room).slots) := by
  refine body_of (y := (⟨"jdk/internal/util/Preconditions", "checkIndex", "(IILjava/util/function/BiFunction;)I"⟩ : MethodName)) (Q := Q21_3_0r Z o1 h0 n0) (plainFor_of_name pn_21) ?_
  intro p e s m below meth c T0 G C hnm hnamed X0 e0 K
  have N0 := Fr.nil n0
  refine Goes.to (congrArg T0.setTop (ef_21l0_0l1_3 m o1)) ?_
  refine g_iloadN C X0 d21_0 (pc' := 1) rfl rfl ?_
  refine g_if_lt C X0 d21_1 (pcT := 9) (pcN := 4) (by decide) (by decide) rfl (fun hc1 => absurd hc1 (by decide)) (fun hc1 => ?_)
  refine g_iloadN C X0 d21_4 (pc' := 5) rfl rfl ?_
  refine g_iloadN C X0 d21_5 (pc' := 6) rfl rfl ?_
  refine g_icmp_lt C X0 d21_6 (pcT := 16) (pcN := 9) (by decide) (by decide) rfl (fun hc6 => ?_) (fun hc6 => absurd hc6 (by decide))
  refine g_iloadN C X0 d21_16 (pc' := 17) rfl rfl ?_
  exact g_retI C X0 K d21_17 (by decide) (by decide) e0 ⟨rfl, N0, rfl⟩
theorem ef_20l0_0l1_3 (m : MethodId)  : entryFrame m #[(.int (0 : Int32)), (.int (3 : Int32))] 2 = mkF m 0 #[.val (.int (0 : Int32)), .val (.int (3 : Int32))] [] := by first | (simp [entryFrame, mkF, argsToLocals, Value.category]; done) | rfl
def Q20_3_0 (Z : State) (wf1 : Value) (h0 : Heap) (n0 : Nat) (v : Option Value) (h : Heap) (L : List Loc) : Prop := v = none ∧ Fr n0 L ∧ h = h0
set_option maxRecDepth 65536 in
set_option maxHeartbeats 40000000 in
theorem rm20_3_0 (l : Launch) (Z : State) (a0 : Array Value) (hw : ∀ d ∈ tables_1, d.before a0 Z = true) (ws : List Jvm.Cond) (wf1 : Value) (h0 : Heap) (n0 : Nat) (Z0 : n0 ≤ h0.size) (F0 : Sta Z h0 "jdk/internal/util/Preconditions" "SIOOBE_FORMATTER" "Ljava/util/function/BiFunction;" wf1) (hwf : wf1.isRef = true) :
    MetFree l (⟨"java/lang/String", "checkIndex", "(II)V"⟩ : MethodName) (head1 (Jvm.Cond.code (⟨"java/lang/String", "checkIndex", "(II)V"⟩ : MethodName) jdk_42_method_155_code 2 none :: ws) ({ frames := 1, cells := 0, slots := 0, locals := 14 } : Room)) (fun a U => a = #[(.int (0 : Int32)), (.int (3 : Int32))] ∧ Z.Warmed39 U.vm ∧ U.heap = h0) (fun _ _ _ _ _ => True) (fun _ U o U' => ∃ v L, o = .returned v ∧ Q20_3_0 Z wf1 h0 n0 v U'.heap L ∧ FrameEnd U o U' L ({ frames := 1, cells := 0, slots := 0, locals := 14 } : Room).cells ({ frames := 1, cells := 0, slots := 0, locals := 14 } : Room).slots) := by
  refine body_of (y := (⟨"java/lang/String", "checkIndex", "(II)V"⟩ : MethodName)) (Q := Q20_3_0 Z wf1 h0 n0) (plainFor_of_name pn_1) ?_
  intro p e s m below meth c T0 G C hnm hnamed X0 e0 K
  have N0 := Fr.nil n0
  refine Goes.to (congrArg T0.setTop (ef_20l0_0l1_3 m )) ?_
  rcases ref_cases hwf with rfl | ⟨sa1, rfl⟩
  · refine g_iloadN C X0 d20_0 (pc' := 1) rfl rfl ?_
    refine g_iloadN C X0 d20_1 (pc' := 2) rfl rfl ?_
    refine g_getS C X0 (w_103 hw) Via.refl e0 F0 d20_2 (pc' := 5) rfl (fun T2 X2 e2 => ?_)
    refine g_callS C X2 (w_105 hw) (w_106 hw) (w_104 hw) (w_107 hw) (by decide) d20_5 (rm21_3_0n l Z a0 hw []  h0 n0 Z0 ) (by decide) (by decide) rfl pd_5 rfl (argsL := [(.int (0 : Int32)), (.int (3 : Int32)), .null]) (rest := []) rfl (W := 0) (Nat.le_of_eq rfl) e2 (by decide) (by decide) (pc' := 8) rfl (fun u3 T3 L3 X3 hQ3 => ?_)
    obtain ⟨rfl, Nq3, eq3⟩ := hQ3
    have N3 := Fr.app N0 Nq3
    show Goes p.tables e below G (T3.setTop (mkF m 8 #[.val (.int (0 : Int32)), .val (.int (3 : Int32))] [(.int (0 : Int32))]))
    refine g_pop C X3 d20_8 (pc' := 9) rfl rfl ?_
    exact g_retV C X3 K d20_9 (by decide) (by decide) eq3 ⟨rfl, N3, rfl⟩
  · refine g_iloadN C X0 d20_0 (pc' := 1) rfl rfl ?_
    refine g_iloadN C X0 d20_1 (pc' := 2) rfl rfl ?_
    refine g_getS C X0 (w_103 hw) Via.refl e0 F0 d20_2 (pc' := 5) rfl (fun T4 X4 e4 => ?_)
    refine g_callS C X4 (w_105 hw) (w_106 hw) (w_104 hw) (w_107 hw) (by decide) d20_5 (rm21_3_0r l Z a0 hw [] sa1 h0 n0 Z0 ) (by decide) (by decide) rfl pd_5 rfl (argsL := [(.int (0 : Int32)), (.int (3 : Int32)), (.ref sa1)]) (rest := []) rfl (W := 0) (Nat.le_of_eq rfl) e4 (by decide) (by decide) (pc' := 8) rfl (fun u5 T5 L5 X5 hQ5 => ?_)
    obtain ⟨rfl, Nq5, eq5⟩ := hQ5
    have N5 := Fr.app N0 Nq5
    show Goes p.tables e below G (T5.setTop (mkF m 8 #[.val (.int (0 : Int32)), .val (.int (3 : Int32))] [(.int (0 : Int32))]))
    refine g_pop C X5 d20_8 (pc' := 9) rfl rfl ?_
    exact g_retV C X5 K d20_9 (by decide) (by decide) eq5 ⟨rfl, N5, rfl⟩
def Q19_3_0 (Z : State) (o1 : Addr) (kd1 : ClassId) (c1 : Int32) (c2 : Int32) (c3 : Int32) (wf1 : Value) (h0 : Heap) (n0 : Nat) (v : Option Value) (h : Heap) (L : List Loc) : Prop := v = some (.int (own_ch c1)) ∧ Fr n0 L ∧ h = h0
set_option maxRecDepth 65536 in
set_option maxHeartbeats 40000000 in
theorem rm19_3_0 (l : Launch) (Z : State) (a0 : Array Value) (hw : ∀ d ∈ tables_1, d.before a0 Z = true) (ws : List Jvm.Cond) (o1 : Addr) (kd1 : ClassId) (c1 : Int32) (c2 : Int32) (c3 : Int32) (wf1 : Value) (h0 : Heap) (n0 : Nat) (Z0 : n0 ≤ h0.size) (F0 : Arv Z h0 o1 kd1 .byte (3 : Int32) [(.int c1), (.int c2), (.int c3)] (.int (0 : Int32))) (F1 : Sta Z h0 "jdk/internal/util/Preconditions" "SIOOBE_FORMATTER" "Ljava/util/function/BiFunction;" wf1) (hwf : wf1.isRef = true) :
    MetFree l (⟨"java/lang/StringLatin1", "charAt", "([BI)C"⟩ : MethodName) (head1 (Jvm.Cond.code (⟨"java/lang/StringLatin1", "charAt", "([BI)C"⟩ : MethodName) jdk_43_method_2_code 2 (some .char) :: ws) ({ frames := 2, cells := 0, slots := 0, locals := 27 } : Room)) (fun a U => a = #[(.ref o1), (.int (0 : Int32))] ∧ Z.Warmed39 U.vm ∧ U.heap = h0) (fun _ _ _ _ _ => True) (fun _ U o U' => ∃ v L, o = .returned v ∧ Q19_3_0 Z o1 kd1 c1 c2 c3 wf1 h0 n0 v U'.heap L ∧ FrameEnd U o U' L ({ frames := 2, cells := 0, slots := 0, locals := 27 } : Room).cells ({ frames := 2, cells := 0, slots := 0, locals := 27 } : Room).slots) := by
  refine body_of (y := (⟨"java/lang/StringLatin1", "charAt", "([BI)C"⟩ : MethodName)) (Q := Q19_3_0 Z o1 kd1 c1 c2 c3 wf1 h0 n0) (plainFor_of_name pn_8) ?_
  intro p e s m below meth c T0 G C hnm hnamed X0 e0 K
  have N0 := Fr.nil n0
  refine Goes.to (congrArg T0.setTop (ef_19l1_0 m o1)) ?_
  refine g_iloadN C X0 d19_0 (pc' := 1) rfl rfl ?_
  refine g_aloadN C X0 d19_1 (pc' := 2) rfl rfl rfl ?_
  refine g_arraylength C X0 e0 F0 d19_2 (pc' := 3) rfl ?_
  refine g_callS C X0 (w_100 hw) (w_101 hw) (w_4 hw) (w_102 hw) (by decide) d19_3 (rm20_3_0 l Z a0 hw [] wf1 h0 n0 Z0 F1 hwf) (by decide) (by decide) rfl pd_6 rfl (argsL := [(.int (0 : Int32)), (.int (3 : Int32))]) (rest := []) rfl (W := 0) (Nat.le_of_eq rfl) e0 (by decide) (by decide) (pc' := 6) rfl (fun u1 T1 L1 X1 hQ1 => ?_)
  obtain ⟨rfl, Nq1, eq1⟩ := hQ1
  have N1 := Fr.app N0 Nq1
  show Goes p.tables e below G (T1.setTop (mkF m 6 #[.val (.ref o1), .val (.int (0 : Int32))] []))
  refine g_aloadN C X1 d19_6 (pc' := 7) rfl rfl rfl ?_
  refine g_iloadN C X1 d19_7 (pc' := 8) rfl rfl ?_
  refine g_baload C X1 eq1 F0 (by decide) (v := (.int c1)) rfl d19_8 (pc' := 9) rfl ?_
  refine g_sipush C X1 d19_9 (pc' := 12) rfl (v := 255) rfl ?_
  refine g_iand C X1 d19_12 (pc' := 13) rfl ?_
  refine g_i2c C X1 d19_13 (pc' := 14) rfl ?_
  exact g_retN C X1 K (by simp) d19_14 (by decide) (by decide) eq1 ⟨rfl, N1, rfl⟩
def Q17_3_0 (Z : State) (o1 : Addr) (o2 : Addr) (kd1 : ClassId) (c1 : Int32) (c2 : Int32) (c3 : Int32) (cs1 : Int32) (wf1 : Value) (h0 : Heap) (n0 : Nat) (v : Option Value) (h : Heap) (L : List Loc) : Prop := v = some (.int (own_ch c1)) ∧ Fr n0 L ∧ h = h0
set_option maxRecDepth 65536 in
set_option maxHeartbeats 40000000 in
theorem rm17_3_0 (l : Launch) (Z : State) (a0 : Array Value) (hw : ∀ d ∈ tables_1, d.before a0 Z = true) (ws : List Jvm.Cond) (o1 : Addr) (o2 : Addr) (kd1 : ClassId) (c1 : Int32) (c2 : Int32) (c3 : Int32) (cs1 : Int32) (wf1 : Value) (h0 : Heap) (n0 : Nat) (Z0 : n0 ≤ h0.size) (F0 : Exa Z h0 o1 "java/lang/String") (F1 : Fld Z h0 o1 "java/lang/String" "value" "[B" (.ref o2)) (F2 : Fld Z h0 o1 "java/lang/String" "coder" "B" (.int (0 : Int32))) (F3 : Arv Z h0 o2 kd1 .byte (3 : Int32) [(.int c1), (.int c2), (.int c3)] (.int (0 : Int32))) (F4 : Sta Z h0 "java/lang/String" "COMPACT_STRINGS" "Z" (.int cs1)) (F5 : Sta Z h0 "jdk/internal/util/Preconditions" "SIOOBE_FORMATTER" "Ljava/util/function/BiFunction;" wf1) (hcs : ¬ cs1 = (0 : Int32)) (hwf : wf1.isRef = true) :
    MetFree l (⟨"java/lang/String", "charAt", "(I)C"⟩ : MethodName) (head1 (Jvm.Cond.code (⟨"java/lang/String", "charAt", "(I)C"⟩ : MethodName) jdk_42_method_56_code 2 (some .char) :: ws) ({ frames := 3, cells := 0, slots := 0, locals := 40 } : Room)) (fun a U => a = #[(.ref o1), (.int (0 : Int32))] ∧ Z.Warmed39 U.vm ∧ U.heap = h0) (fun _ _ _ _ _ => True) (fun _ U o U' => ∃ v L, o = .returned v ∧ Q17_3_0 Z o1 o2 kd1 c1 c2 c3 cs1 wf1 h0 n0 v U'.heap L ∧ FrameEnd U o U' L ({ frames := 3, cells := 0, slots := 0, locals := 40 } : Room).cells ({ frames := 3, cells := 0, slots := 0, locals := 40 } : Room).slots) := by
  refine body_of (y := (⟨"java/lang/String", "charAt", "(I)C"⟩ : MethodName)) (Q := Q17_3_0 Z o1 o2 kd1 c1 c2 c3 cs1 wf1 h0 n0) (plainFor_of_name pn_1) ?_
  intro p e s m below meth c T0 G C hnm hnamed X0 e0 K
  have N0 := Fr.nil n0
  refine Goes.to (congrArg T0.setTop (ef_17l1_0 m o1)) ?_
  refine g_aloadN C X0 d17_0 (pc' := 1) rfl rfl rfl ?_
  refine g_callV C X0 (w_92 hw) (w_93 hw) (notFace_of_selects (args := #[]) (mvT C.2.1 (w_95 hw))) (w_95 hw) (w_94 hw) (w_96 hw) (w_4 hw) (by decide) F0 d17_1 (rm18 l Z a0 hw [] o1 cs1 h0 n0 Z0 F2 F4 hcs) (by decide) (by decide) rfl pd_7 rfl (argsL := []) (rest := []) rfl (W := 0) (Nat.le_of_eq rfl) e0 (by decide) (by decide) (pc' := 4) rfl (fun u1 T1 L1 X1 hQ1 => ?_)
  obtain ⟨rfl, Nq1, eq1⟩ := hQ1
  have N1 := Fr.app N0 Nq1
  show Goes p.tables e below G (T1.setTop (mkF m 4 #[.val (.ref o1), .val (.int (0 : Int32))] [(.int (1 : Int32))]))
  refine g_if_eq C X1 d17_4 (pcT := 16) (pcN := 7) (by decide) (by decide) rfl (fun hc4 => absurd hc4 (by decide)) (fun hc4 => ?_)
  refine g_aloadN C X1 d17_7 (pc' := 8) rfl rfl rfl ?_
  refine g_getF C X1 (w_29 hw) Via.refl eq1 F1 d17_8 (pc' := 11) rfl (fun T2 X2 e2 => ?_)
  refine g_iloadN C X2 d17_11 (pc' := 12) rfl rfl ?_
  refine g_callS C X2 (w_97 hw) (w_98 hw) (w_36 hw) (w_99 hw) (by decide) d17_12 (rm19_3_0 l Z a0 hw [] o2 kd1 c1 c2 c3 wf1 h0 n0 Z0 F3 F5 hwf) (by decide) (by decide) rfl pd_8 rfl (argsL := [(.ref o2), (.int (0 : Int32))]) (rest := []) rfl (W := 0) (Nat.le_of_eq rfl) e2 (by decide) (by decide) (pc' := 15) rfl (fun u3 T3 L3 X3 hQ3 => ?_)
  obtain ⟨rfl, Nq3, eq3⟩ := hQ3
  have N3 := Fr.app N1 Nq3
  show Goes p.tables e below G (T3.setTop (mkF m 15 #[.val (.ref o1), .val (.int (0 : Int32))] [(.int (own_ch c1))]))
  exact g_retN C X3 K (by simp) d17_15 (by decide) (by decide) eq3 ⟨(by rw [own_narr]), N3, rfl⟩
theorem ef_21l0_1l1_3n2 (m : MethodId)  : entryFrame m #[(.int (1 : Int32)), (.int (3 : Int32)), .null] 3 = mkF m 0 #[.val (.int (1 : Int32)), .val (.int (3 : Int32)), .val .null] [] := by first | (simp [entryFrame, mkF, argsToLocals, Value.category]; done) | rfl
def Q21_3_1n (Z : State)  (h0 : Heap) (n0 : Nat) (v : Option Value) (h : Heap) (L : List Loc) : Prop := v = some (.int (1 : Int32)) ∧ Fr n0 L ∧ h = h0
set_option maxRecDepth 65536 in
set_option maxHeartbeats 40000000 in
theorem rm21_3_1n (l : Launch) (Z : State) (a0 : Array Value) (hw : ∀ d ∈ tables_1, d.before a0 Z = true) (ws : List Jvm.Cond)  (h0 : Heap) (n0 : Nat) (Z0 : n0 ≤ h0.size) :
    MetFree l (⟨"jdk/internal/util/Preconditions", "checkIndex", "(IILjava/util/function/BiFunction;)I"⟩ : MethodName) (head1 (Jvm.Cond.code (⟨"jdk/internal/util/Preconditions", "checkIndex", "(IILjava/util/function/BiFunction;)I"⟩ : MethodName) jdk_41_method_11_code 3 (some .int) :: ws) ({ frames := 0, cells := 0, slots := 0, locals := 0 } : Room)) (fun a U => a = #[(.int (1 : Int32)), (.int (3 : Int32)), .null] ∧ Z.Warmed39 U.vm ∧ U.heap = h0) (fun _ _ _ _ _ => True) (fun _ U o U' => ∃ v L, o = .returned v ∧ Q21_3_1n Z  h0 n0 v U'.heap L ∧ FrameEnd U o U' L ({ frames := 0, cells := 0, slots := 0, locals := 0 } : Room).cells ({ frames := 0, cells := 0, slots := 0, locals := 0 } : Room).slots) := by
  refine body_of (y := (⟨"jdk/internal/util/Preconditions", "checkIndex", "(IILjava/util/function/BiFunction;)I"⟩ : MethodName)) (Q := Q21_3_1n Z  h0 n0) (plainFor_of_name pn_21) ?_
  intro p e s m below meth c T0 G C hnm hnamed X0 e0 K
  have N0 := Fr.nil n0
  refine Goes.to (congrArg T0.setTop (ef_21l0_1l1_3n2 m )) ?_
  refine g_iloadN C X0 d21_0 (pc' := 1) rfl rfl ?_
  refine g_if_lt C X0 d21_1 (pcT := 9) (pcN := 4) (by decide) (by decide) rfl (fun hc1 => absurd hc1 (by decide)) (fun hc1 => ?_)
  refine g_iloadN C X0 d21_4 (pc' := 5) rfl rfl ?_
  refine g_iloadN C X0 d21_5 (pc' := 6) rfl rfl ?_
  refine g_icmp_lt C X0 d21_6 (pcT := 16) (pcN := 9) (by decide) (by decide) rfl (fun hc6 => ?_) (fun hc6 => absurd hc6 (by decide))
  refine g_iloadN C X0 d21_16 (pc' := 17) rfl rfl ?_
  exact g_retI C X0 K d21_17 (by decide) (by decide) e0 ⟨rfl, N0, rfl⟩
theorem ef_21l0_1l1_3 (m : MethodId) (o1 : Addr) : entryFrame m #[(.int (1 : Int32)), (.int (3 : Int32)), (.ref o1)] 3 = mkF m 0 #[.val (.int (1 : Int32)), .val (.int (3 : Int32)), .val (.ref o1)] [] := by first | (simp [entryFrame, mkF, argsToLocals, Value.category]; done) | rfl
def Q21_3_1r (Z : State) (o1 : Addr) (h0 : Heap) (n0 : Nat) (v : Option Value) (h : Heap) (L : List Loc) : Prop := v = some (.int (1 : Int32)) ∧ Fr n0 L ∧ h = h0
set_option maxRecDepth 65536 in
set_option maxHeartbeats 40000000 in
theorem rm21_3_1r (l : Launch) (Z : State) (a0 : Array Value) (hw : ∀ d ∈ tables_1, d.before a0 Z = true) (ws : List Jvm.Cond) (o1 : Addr) (h0 : Heap) (n0 : Nat) (Z0 : n0 ≤ h0.size) :
    MetFree l (⟨"jdk/internal/util/Preconditions", "checkIndex", "(IILjava/util/function/BiFunction;)I"⟩ : MethodName) (head1 (Jvm.Cond.code (⟨"jdk/internal/util/Preconditions", "checkIndex", "(IILjava/util/function/BiFunction;)I"⟩ : MethodName) jdk_41_method_11_code 3 (some .int) :: ws) ({ frames := 0, cells := 0, slots := 0, locals := 0 } : Room)) (fun a U => a = #[(.int (1 : Int32)), (.int (3 : Int32)), (.ref o1)] ∧ Z.Warmed39 U.vm ∧ U.heap = h0) (fun _ _ _ _ _ => True) (fun _ U o U' => ∃ v L, o = .returned v ∧ Q21_3_1r Z o1 h0 n0 v U'.heap L ∧ FrameEnd U o U' L ({ frames := 0, cells := 0, slots := 0, locals := 0 } : Room).cells ({ frames := 0, cells := 0, slots := 0, locals := 0 } : Room).slots) := by
  refine body_of (y := (⟨"jdk/internal/util/Preconditions", "checkIndex", "(IILjava/util/function/BiFunction;)I"⟩ : MethodName)) (Q := Q21_3_1r Z o1 h0 n0) (plainFor_of_name pn_21) ?_
  intro p e s m below meth c T0 G C hnm hnamed X0 e0 K
  have N0 := Fr.nil n0
  refine Goes.to (congrArg T0.setTop (ef_21l0_1l1_3 m o1)) ?_
  refine g_iloadN C X0 d21_0 (pc' := 1) rfl rfl ?_
  refine g_if_lt C X0 d21_1 (pcT := 9) (pcN := 4) (by decide) (by decide) rfl (fun hc1 => absurd hc1 (by decide)) (fun hc1 => ?_)
  refine g_iloadN C X0 d21_4 (pc' := 5) rfl rfl ?_
  refine g_iloadN C X0 d21_5 (pc' := 6) rfl rfl ?_
  refine g_icmp_lt C X0 d21_6 (pcT := 16) (pcN := 9) (by decide) (by decide) rfl (fun hc6 => ?_) (fun hc6 => absurd hc6 (by decide))
  refine g_iloadN C X0 d21_16 (pc' := 17) rfl rfl ?_
  exact g_retI C X0 K d21_17 (by decide) (by decide) e0 ⟨rfl, N0, rfl⟩
theorem ef_20l0_1l1_3 (m : MethodId)  : entryFrame m #[(.int (1 : Int32)), (.int (3 : Int32))] 2 = mkF m 0 #[.val (.int (1 : Int32)), .val (.int (3 : Int32))] [] := by first | (simp [entryFrame, mkF, argsToLocals, Value.category]; done) | rfl
def Q20_3_1 (Z : State) (wf1 : Value) (h0 : Heap) (n0 : Nat) (v : Option Value) (h : Heap) (L : List Loc) : Prop := v = none ∧ Fr n0 L ∧ h = h0
set_option maxRecDepth 65536 in
set_option maxHeartbeats 40000000 in
theorem rm20_3_1 (l : Launch) (Z : State) (a0 : Array Value) (hw : ∀ d ∈ tables_1, d.before a0 Z = true) (ws : List Jvm.Cond) (wf1 : Value) (h0 : Heap) (n0 : Nat) (Z0 : n0 ≤ h0.size) (F0 : Sta Z h0 "jdk/internal/util/Preconditions" "SIOOBE_FORMATTER" "Ljava/util/function/BiFunction;" wf1) (hwf : wf1.isRef = true) :
    MetFree l (⟨"java/lang/String", "checkIndex", "(II)V"⟩ : MethodName) (head1 (Jvm.Cond.code (⟨"java/lang/String", "checkIndex", "(II)V"⟩ : MethodName) jdk_42_method_155_code 2 none :: ws) ({ frames := 1, cells := 0, slots := 0, locals := 14 } : Room)) (fun a U => a = #[(.int (1 : Int32)), (.int (3 : Int32))] ∧ Z.Warmed39 U.vm ∧ U.heap = h0) (fun _ _ _ _ _ => True) (fun _ U o U' => ∃ v L, o = .returned v ∧ Q20_3_1 Z wf1 h0 n0 v U'.heap L ∧ FrameEnd U o U' L ({ frames := 1, cells := 0, slots := 0, locals := 14 } : Room).cells ({ frames := 1, cells := 0, slots := 0, locals := 14 } : Room).slots) := by
  refine body_of (y := (⟨"java/lang/String", "checkIndex", "(II)V"⟩ : MethodName)) (Q := Q20_3_1 Z wf1 h0 n0) (plainFor_of_name pn_1) ?_
  intro p e s m below meth c T0 G C hnm hnamed X0 e0 K
  have N0 := Fr.nil n0
  refine Goes.to (congrArg T0.setTop (ef_20l0_1l1_3 m )) ?_
  rcases ref_cases hwf with rfl | ⟨sa1, rfl⟩
  · refine g_iloadN C X0 d20_0 (pc' := 1) rfl rfl ?_
    refine g_iloadN C X0 d20_1 (pc' := 2) rfl rfl ?_
    refine g_getS C X0 (w_103 hw) Via.refl e0 F0 d20_2 (pc' := 5) rfl (fun T2 X2 e2 => ?_)
    refine g_callS C X2 (w_105 hw) (w_106 hw) (w_104 hw) (w_107 hw) (by decide) d20_5 (rm21_3_1n l Z a0 hw []  h0 n0 Z0 ) (by decide) (by decide) rfl pd_5 rfl (argsL := [(.int (1 : Int32)), (.int (3 : Int32)), .null]) (rest := []) rfl (W := 0) (Nat.le_of_eq rfl) e2 (by decide) (by decide) (pc' := 8) rfl (fun u3 T3 L3 X3 hQ3 => ?_)
    obtain ⟨rfl, Nq3, eq3⟩ := hQ3
    have N3 := Fr.app N0 Nq3
    show Goes p.tables e below G (T3.setTop (mkF m 8 #[.val (.int (1 : Int32)), .val (.int (3 : Int32))] [(.int (1 : Int32))]))
    refine g_pop C X3 d20_8 (pc' := 9) rfl rfl ?_
    exact g_retV C X3 K d20_9 (by decide) (by decide) eq3 ⟨rfl, N3, rfl⟩
  · refine g_iloadN C X0 d20_0 (pc' := 1) rfl rfl ?_
    refine g_iloadN C X0 d20_1 (pc' := 2) rfl rfl ?_
    refine g_getS C X0 (w_103 hw) Via.refl e0 F0 d20_2 (pc' := 5) rfl (fun T4 X4 e4 => ?_)
    refine g_callS C X4 (w_105 hw) (w_106 hw) (w_104 hw) (w_107 hw) (by decide) d20_5 (rm21_3_1r l Z a0 hw [] sa1 h0 n0 Z0 ) (by decide) (by decide) rfl pd_5 rfl (argsL := [(.int (1 : Int32)), (.int (3 : Int32)), (.ref sa1)]) (rest := []) rfl (W := 0) (Nat.le_of_eq rfl) e4 (by decide) (by decide) (pc' := 8) rfl (fun u5 T5 L5 X5 hQ5 => ?_)
    obtain ⟨rfl, Nq5, eq5⟩ := hQ5
    have N5 := Fr.app N0 Nq5
    show Goes p.tables e below G (T5.setTop (mkF m 8 #[.val (.int (1 : Int32)), .val (.int (3 : Int32))] [(.int (1 : Int32))]))
    refine g_pop C X5 d20_8 (pc' := 9) rfl rfl ?_
    exact g_retV C X5 K d20_9 (by decide) (by decide) eq5 ⟨rfl, N5, rfl⟩
def Q19_3_1 (Z : State) (o1 : Addr) (kd1 : ClassId) (c1 : Int32) (c2 : Int32) (c3 : Int32) (wf1 : Value) (h0 : Heap) (n0 : Nat) (v : Option Value) (h : Heap) (L : List Loc) : Prop := v = some (.int (own_ch c2)) ∧ Fr n0 L ∧ h = h0
set_option maxRecDepth 65536 in
set_option maxHeartbeats 40000000 in
theorem rm19_3_1 (l : Launch) (Z : State) (a0 : Array Value) (hw : ∀ d ∈ tables_1, d.before a0 Z = true) (ws : List Jvm.Cond) (o1 : Addr) (kd1 : ClassId) (c1 : Int32) (c2 : Int32) (c3 : Int32) (wf1 : Value) (h0 : Heap) (n0 : Nat) (Z0 : n0 ≤ h0.size) (F0 : Arv Z h0 o1 kd1 .byte (3 : Int32) [(.int c1), (.int c2), (.int c3)] (.int (0 : Int32))) (F1 : Sta Z h0 "jdk/internal/util/Preconditions" "SIOOBE_FORMATTER" "Ljava/util/function/BiFunction;" wf1) (hwf : wf1.isRef = true) :
    MetFree l (⟨"java/lang/StringLatin1", "charAt", "([BI)C"⟩ : MethodName) (head1 (Jvm.Cond.code (⟨"java/lang/StringLatin1", "charAt", "([BI)C"⟩ : MethodName) jdk_43_method_2_code 2 (some .char) :: ws) ({ frames := 2, cells := 0, slots := 0, locals := 27 } : Room)) (fun a U => a = #[(.ref o1), (.int (1 : Int32))] ∧ Z.Warmed39 U.vm ∧ U.heap = h0) (fun _ _ _ _ _ => True) (fun _ U o U' => ∃ v L, o = .returned v ∧ Q19_3_1 Z o1 kd1 c1 c2 c3 wf1 h0 n0 v U'.heap L ∧ FrameEnd U o U' L ({ frames := 2, cells := 0, slots := 0, locals := 27 } : Room).cells ({ frames := 2, cells := 0, slots := 0, locals := 27 } : Room).slots) := by
  refine body_of (y := (⟨"java/lang/StringLatin1", "charAt", "([BI)C"⟩ : MethodName)) (Q := Q19_3_1 Z o1 kd1 c1 c2 c3 wf1 h0 n0) (plainFor_of_name pn_8) ?_
  intro p e s m below meth c T0 G C hnm hnamed X0 e0 K
  have N0 := Fr.nil n0
  refine Goes.to (congrArg T0.setTop (ef_19l1_1 m o1)) ?_
  refine g_iloadN C X0 d19_0 (pc' := 1) rfl rfl ?_
  refine g_aloadN C X0 d19_1 (pc' := 2) rfl rfl rfl ?_
  refine g_arraylength C X0 e0 F0 d19_2 (pc' := 3) rfl ?_
  refine g_callS C X0 (w_100 hw) (w_101 hw) (w_4 hw) (w_102 hw) (by decide) d19_3 (rm20_3_1 l Z a0 hw [] wf1 h0 n0 Z0 F1 hwf) (by decide) (by decide) rfl pd_6 rfl (argsL := [(.int (1 : Int32)), (.int (3 : Int32))]) (rest := []) rfl (W := 0) (Nat.le_of_eq rfl) e0 (by decide) (by decide) (pc' := 6) rfl (fun u1 T1 L1 X1 hQ1 => ?_)
  obtain ⟨rfl, Nq1, eq1⟩ := hQ1
  have N1 := Fr.app N0 Nq1
  show Goes p.tables e below G (T1.setTop (mkF m 6 #[.val (.ref o1), .val (.int (1 : Int32))] []))
  refine g_aloadN C X1 d19_6 (pc' := 7) rfl rfl rfl ?_
  refine g_iloadN C X1 d19_7 (pc' := 8) rfl rfl ?_
  refine g_baload C X1 eq1 F0 (by decide) (v := (.int c2)) rfl d19_8 (pc' := 9) rfl ?_
  refine g_sipush C X1 d19_9 (pc' := 12) rfl (v := 255) rfl ?_
  refine g_iand C X1 d19_12 (pc' := 13) rfl ?_
  refine g_i2c C X1 d19_13 (pc' := 14) rfl ?_
  exact g_retN C X1 K (by simp) d19_14 (by decide) (by decide) eq1 ⟨rfl, N1, rfl⟩
def Q17_3_1 (Z : State) (o1 : Addr) (o2 : Addr) (kd1 : ClassId) (c1 : Int32) (c2 : Int32) (c3 : Int32) (cs1 : Int32) (wf1 : Value) (h0 : Heap) (n0 : Nat) (v : Option Value) (h : Heap) (L : List Loc) : Prop := v = some (.int (own_ch c2)) ∧ Fr n0 L ∧ h = h0
set_option maxRecDepth 65536 in
set_option maxHeartbeats 40000000 in
theorem rm17_3_1 (l : Launch) (Z : State) (a0 : Array Value) (hw : ∀ d ∈ tables_1, d.before a0 Z = true) (ws : List Jvm.Cond) (o1 : Addr) (o2 : Addr) (kd1 : ClassId) (c1 : Int32) (c2 : Int32) (c3 : Int32) (cs1 : Int32) (wf1 : Value) (h0 : Heap) (n0 : Nat) (Z0 : n0 ≤ h0.size) (F0 : Exa Z h0 o1 "java/lang/String") (F1 : Fld Z h0 o1 "java/lang/String" "value" "[B" (.ref o2)) (F2 : Fld Z h0 o1 "java/lang/String" "coder" "B" (.int (0 : Int32))) (F3 : Arv Z h0 o2 kd1 .byte (3 : Int32) [(.int c1), (.int c2), (.int c3)] (.int (0 : Int32))) (F4 : Sta Z h0 "java/lang/String" "COMPACT_STRINGS" "Z" (.int cs1)) (F5 : Sta Z h0 "jdk/internal/util/Preconditions" "SIOOBE_FORMATTER" "Ljava/util/function/BiFunction;" wf1) (hcs : ¬ cs1 = (0 : Int32)) (hwf : wf1.isRef = true) :
    MetFree l (⟨"java/lang/String", "charAt", "(I)C"⟩ : MethodName) (head1 (Jvm.Cond.code (⟨"java/lang/String", "charAt", "(I)C"⟩ : MethodName) jdk_42_method_56_code 2 (some .char) :: ws) ({ frames := 3, cells := 0, slots := 0, locals := 40 } : Room)) (fun a U => a = #[(.ref o1), (.int (1 : Int32))] ∧ Z.Warmed39 U.vm ∧ U.heap = h0) (fun _ _ _ _ _ => True) (fun _ U o U' => ∃ v L, o = .returned v ∧ Q17_3_1 Z o1 o2 kd1 c1 c2 c3 cs1 wf1 h0 n0 v U'.heap L ∧ FrameEnd U o U' L ({ frames := 3, cells := 0, slots := 0, locals := 40 } : Room).cells ({ frames := 3, cells := 0, slots := 0, locals := 40 } : Room).slots) := by
  refine body_of (y := (⟨"java/lang/String", "charAt", "(I)C"⟩ : MethodName)) (Q := Q17_3_1 Z o1 o2 kd1 c1 c2 c3 cs1 wf1 h0 n0) (plainFor_of_name pn_1) ?_
  intro p e s m below meth c T0 G C hnm hnamed X0 e0 K
  have N0 := Fr.nil n0
  refine Goes.to (congrArg T0.setTop (ef_17l1_1 m o1)) ?_
  refine g_aloadN C X0 d17_0 (pc' := 1) rfl rfl rfl ?_
  refine g_callV C X0 (w_92 hw) (w_93 hw) (notFace_of_selects (args := #[]) (mvT C.2.1 (w_95 hw))) (w_95 hw) (w_94 hw) (w_96 hw) (w_4 hw) (by decide) F0 d17_1 (rm18 l Z a0 hw [] o1 cs1 h0 n0 Z0 F2 F4 hcs) (by decide) (by decide) rfl pd_7 rfl (argsL := []) (rest := []) rfl (W := 0) (Nat.le_of_eq rfl) e0 (by decide) (by decide) (pc' := 4) rfl (fun u1 T1 L1 X1 hQ1 => ?_)
  obtain ⟨rfl, Nq1, eq1⟩ := hQ1
  have N1 := Fr.app N0 Nq1
  show Goes p.tables e below G (T1.setTop (mkF m 4 #[.val (.ref o1), .val (.int (1 : Int32))] [(.int (1 : Int32))]))
  refine g_if_eq C X1 d17_4 (pcT := 16) (pcN := 7) (by decide) (by decide) rfl (fun hc4 => absurd hc4 (by decide)) (fun hc4 => ?_)
  refine g_aloadN C X1 d17_7 (pc' := 8) rfl rfl rfl ?_
  refine g_getF C X1 (w_29 hw) Via.refl eq1 F1 d17_8 (pc' := 11) rfl (fun T2 X2 e2 => ?_)
  refine g_iloadN C X2 d17_11 (pc' := 12) rfl rfl ?_
  refine g_callS C X2 (w_97 hw) (w_98 hw) (w_36 hw) (w_99 hw) (by decide) d17_12 (rm19_3_1 l Z a0 hw [] o2 kd1 c1 c2 c3 wf1 h0 n0 Z0 F3 F5 hwf) (by decide) (by decide) rfl pd_8 rfl (argsL := [(.ref o2), (.int (1 : Int32))]) (rest := []) rfl (W := 0) (Nat.le_of_eq rfl) e2 (by decide) (by decide) (pc' := 15) rfl (fun u3 T3 L3 X3 hQ3 => ?_)
  obtain ⟨rfl, Nq3, eq3⟩ := hQ3
  have N3 := Fr.app N1 Nq3
  show Goes p.tables e below G (T3.setTop (mkF m 15 #[.val (.ref o1), .val (.int (1 : Int32))] [(.int (own_ch c2))]))
  exact g_retN C X3 K (by simp) d17_15 (by decide) (by decide) eq3 ⟨(by rw [own_narr]), N3, rfl⟩
theorem ef_21l0_2l1_3n2 (m : MethodId)  : entryFrame m #[(.int (2 : Int32)), (.int (3 : Int32)), .null] 3 = mkF m 0 #[.val (.int (2 : Int32)), .val (.int (3 : Int32)), .val .null] [] := by first | (simp [entryFrame, mkF, argsToLocals, Value.category]; done) | rfl
def Q21_3_2n (Z : State)  (h0 : Heap) (n0 : Nat) (v : Option Value) (h : Heap) (L : List Loc) : Prop := v = some (.int (2 : Int32)) ∧ Fr n0 L ∧ h = h0
set_option maxRecDepth 65536 in
set_option maxHeartbeats 40000000 in
theorem rm21_3_2n (l : Launch) (Z : State) (a0 : Array Value) (hw : ∀ d ∈ tables_1, d.before a0 Z = true) (ws : List Jvm.Cond)  (h0 : Heap) (n0 : Nat) (Z0 : n0 ≤ h0.size) :
    MetFree l (⟨"jdk/internal/util/Preconditions", "checkIndex", "(IILjava/util/function/BiFunction;)I"⟩ : MethodName) (head1 (Jvm.Cond.code (⟨"jdk/internal/util/Preconditions", "checkIndex", "(IILjava/util/function/BiFunction;)I"⟩ : MethodName) jdk_41_method_11_code 3 (some .int) :: ws) ({ frames := 0, cells := 0, slots := 0, locals := 0 } : Room)) (fun a U => a = #[(.int (2 : Int32)), (.int (3 : Int32)), .null] ∧ Z.Warmed39 U.vm ∧ U.heap = h0) (fun _ _ _ _ _ => True) (fun _ U o U' => ∃ v L, o = .returned v ∧ Q21_3_2n Z  h0 n0 v U'.heap L ∧ FrameEnd U o U' L ({ frames := 0, cells := 0, slots := 0, locals := 0 } : Room).cells ({ frames := 0, cells := 0, slots := 0, locals := 0 } : Room).slots) := by
  refine body_of (y := (⟨"jdk/internal/util/Preconditions", "checkIndex", "(IILjava/util/function/BiFunction;)I"⟩ : MethodName)) (Q := Q21_3_2n Z  h0 n0) (plainFor_of_name pn_21) ?_
  intro p e s m below meth c T0 G C hnm hnamed X0 e0 K
  have N0 := Fr.nil n0
  refine Goes.to (congrArg T0.setTop (ef_21l0_2l1_3n2 m )) ?_
  refine g_iloadN C X0 d21_0 (pc' := 1) rfl rfl ?_
  refine g_if_lt C X0 d21_1 (pcT := 9) (pcN := 4) (by decide) (by decide) rfl (fun hc1 => absurd hc1 (by decide)) (fun hc1 => ?_)
  refine g_iloadN C X0 d21_4 (pc' := 5) rfl rfl ?_
  refine g_iloadN C X0 d21_5 (pc' := 6) rfl rfl ?_
  refine g_icmp_lt C X0 d21_6 (pcT := 16) (pcN := 9) (by decide) (by decide) rfl (fun hc6 => ?_) (fun hc6 => absurd hc6 (by decide))
  refine g_iloadN C X0 d21_16 (pc' := 17) rfl rfl ?_
  exact g_retI C X0 K d21_17 (by decide) (by decide) e0 ⟨rfl, N0, rfl⟩
theorem ef_21l0_2l1_3 (m : MethodId) (o1 : Addr) : entryFrame m #[(.int (2 : Int32)), (.int (3 : Int32)), (.ref o1)] 3 = mkF m 0 #[.val (.int (2 : Int32)), .val (.int (3 : Int32)), .val (.ref o1)] [] := by first | (simp [entryFrame, mkF, argsToLocals, Value.category]; done) | rfl
def Q21_3_2r (Z : State) (o1 : Addr) (h0 : Heap) (n0 : Nat) (v : Option Value) (h : Heap) (L : List Loc) : Prop := v = some (.int (2 : Int32)) ∧ Fr n0 L ∧ h = h0
set_option maxRecDepth 65536 in
set_option maxHeartbeats 40000000 in
theorem rm21_3_2r (l : Launch) (Z : State) (a0 : Array Value) (hw : ∀ d ∈ tables_1, d.before a0 Z = true) (ws : List Jvm.Cond) (o1 : Addr) (h0 : Heap) (n0 : Nat) (Z0 : n0 ≤ h0.size) :
    MetFree l (⟨"jdk/internal/util/Preconditions", "checkIndex", "(IILjava/util/function/BiFunction;)I"⟩ : MethodName) (head1 (Jvm.Cond.code (⟨"jdk/internal/util/Preconditions", "checkIndex", "(IILjava/util/function/BiFunction;)I"⟩ : MethodName) jdk_41_method_11_code 3 (some .int) :: ws) ({ frames := 0, cells := 0, slots := 0, locals := 0 } : Room)) (fun a U => a = #[(.int (2 : Int32)), (.int (3 : Int32)), (.ref o1)] ∧ Z.Warmed39 U.vm ∧ U.heap = h0) (fun _ _ _ _ _ => True) (fun _ U o U' => ∃ v L, o = .returned v ∧ Q21_3_2r Z o1 h0 n0 v U'.heap L ∧ FrameEnd U o U' L ({ frames := 0, cells := 0, slots := 0, locals := 0 } : Room).cells ({ frames := 0, cells := 0, slots := 0, locals := 0 } : Room).slots) := by
  refine body_of (y := (⟨"jdk/internal/util/Preconditions", "checkIndex", "(IILjava/util/function/BiFunction;)I"⟩ : MethodName)) (Q := Q21_3_2r Z o1 h0 n0) (plainFor_of_name pn_21) ?_
  intro p e s m below meth c T0 G C hnm hnamed X0 e0 K
  have N0 := Fr.nil n0
  refine Goes.to (congrArg T0.setTop (ef_21l0_2l1_3 m o1)) ?_
  refine g_iloadN C X0 d21_0 (pc' := 1) rfl rfl ?_
  refine g_if_lt C X0 d21_1 (pcT := 9) (pcN := 4) (by decide) (by decide) rfl (fun hc1 => absurd hc1 (by decide)) (fun hc1 => ?_)
  refine g_iloadN C X0 d21_4 (pc' := 5) rfl rfl ?_
  refine g_iloadN C X0 d21_5 (pc' := 6) rfl rfl ?_
  refine g_icmp_lt C X0 d21_6 (pcT := 16) (pcN := 9) (by decide) (by decide) rfl (fun hc6 => ?_) (fun hc6 => absurd hc6 (by decide))
  refine g_iloadN C X0 d21_16 (pc' := 17) rfl rfl ?_
  exact g_retI C X0 K d21_17 (by decide) (by decide) e0 ⟨rfl, N0, rfl⟩
theorem ef_20l0_2l1_3 (m : MethodId)  : entryFrame m #[(.int (2 : Int32)), (.int (3 : Int32))] 2 = mkF m 0 #[.val (.int (2 : Int32)), .val (.int (3 : Int32))] [] := by first | (simp [entryFrame, mkF, argsToLocals, Value.category]; done) | rfl
def Q20_3_2 (Z : State) (wf1 : Value) (h0 : Heap) (n0 : Nat) (v : Option Value) (h : Heap) (L : List Loc) : Prop := v = none ∧ Fr n0 L ∧ h = h0
set_option maxRecDepth 65536 in
set_option maxHeartbeats 40000000 in
theorem rm20_3_2 (l : Launch) (Z : State) (a0 : Array Value) (hw : ∀ d ∈ tables_1, d.before a0 Z = true) (ws : List Jvm.Cond) (wf1 : Value) (h0 : Heap) (n0 : Nat) (Z0 : n0 ≤ h0.size) (F0 : Sta Z h0 "jdk/internal/util/Preconditions" "SIOOBE_FORMATTER" "Ljava/util/function/BiFunction;" wf1) (hwf : wf1.isRef = true) :
    MetFree l (⟨"java/lang/String", "checkIndex", "(II)V"⟩ : MethodName) (head1 (Jvm.Cond.code (⟨"java/lang/String", "checkIndex", "(II)V"⟩ : MethodName) jdk_42_method_155_code 2 none :: ws) ({ frames := 1, cells := 0, slots := 0, locals := 14 } : Room)) (fun a U => a = #[(.int (2 : Int32)), (.int (3 : Int32))] ∧ Z.Warmed39 U.vm ∧ U.heap = h0) (fun _ _ _ _ _ => True) (fun _ U o U' => ∃ v L, o = .returned v ∧ Q20_3_2 Z wf1 h0 n0 v U'.heap L ∧ FrameEnd U o U' L ({ frames := 1, cells := 0, slots := 0, locals := 14 } : Room).cells ({ frames := 1, cells := 0, slots := 0, locals := 14 } : Room).slots) := by
  refine body_of (y := (⟨"java/lang/String", "checkIndex", "(II)V"⟩ : MethodName)) (Q := Q20_3_2 Z wf1 h0 n0) (plainFor_of_name pn_1) ?_
  intro p e s m below meth c T0 G C hnm hnamed X0 e0 K
  have N0 := Fr.nil n0
  refine Goes.to (congrArg T0.setTop (ef_20l0_2l1_3 m )) ?_
  rcases ref_cases hwf with rfl | ⟨sa1, rfl⟩
  · refine g_iloadN C X0 d20_0 (pc' := 1) rfl rfl ?_
    refine g_iloadN C X0 d20_1 (pc' := 2) rfl rfl ?_
    refine g_getS C X0 (w_103 hw) Via.refl e0 F0 d20_2 (pc' := 5) rfl (fun T2 X2 e2 => ?_)
    refine g_callS C X2 (w_105 hw) (w_106 hw) (w_104 hw) (w_107 hw) (by decide) d20_5 (rm21_3_2n l Z a0 hw []  h0 n0 Z0 ) (by decide) (by decide) rfl pd_5 rfl (argsL := [(.int (2 : Int32)), (.int (3 : Int32)), .null]) (rest := []) rfl (W := 0) (Nat.le_of_eq rfl) e2 (by decide) (by decide) (pc' := 8) rfl (fun u3 T3 L3 X3 hQ3 => ?_)
    obtain ⟨rfl, Nq3, eq3⟩ := hQ3
    have N3 := Fr.app N0 Nq3
    show Goes p.tables e below G (T3.setTop (mkF m 8 #[.val (.int (2 : Int32)), .val (.int (3 : Int32))] [(.int (2 : Int32))]))
    refine g_pop C X3 d20_8 (pc' := 9) rfl rfl ?_
    exact g_retV C X3 K d20_9 (by decide) (by decide) eq3 ⟨rfl, N3, rfl⟩
  · refine g_iloadN C X0 d20_0 (pc' := 1) rfl rfl ?_
    refine g_iloadN C X0 d20_1 (pc' := 2) rfl rfl ?_
    refine g_getS C X0 (w_103 hw) Via.refl e0 F0 d20_2 (pc' := 5) rfl (fun T4 X4 e4 => ?_)
    refine g_callS C X4 (w_105 hw) (w_106 hw) (w_104 hw) (w_107 hw) (by decide) d20_5 (rm21_3_2r l Z a0 hw [] sa1 h0 n0 Z0 ) (by decide) (by decide) rfl pd_5 rfl (argsL := [(.int (2 : Int32)), (.int (3 : Int32)), (.ref sa1)]) (rest := []) rfl (W := 0) (Nat.le_of_eq rfl) e4 (by decide) (by decide) (pc' := 8) rfl (fun u5 T5 L5 X5 hQ5 => ?_)
    obtain ⟨rfl, Nq5, eq5⟩ := hQ5
    have N5 := Fr.app N0 Nq5
    show Goes p.tables e below G (T5.setTop (mkF m 8 #[.val (.int (2 : Int32)), .val (.int (3 : Int32))] [(.int (2 : Int32))]))
    refine g_pop C X5 d20_8 (pc' := 9) rfl rfl ?_
    exact g_retV C X5 K d20_9 (by decide) (by decide) eq5 ⟨rfl, N5, rfl⟩
theorem ef_19l1_2 (m : MethodId) (o1 : Addr) : entryFrame m #[(.ref o1), (.int (2 : Int32))] 2 = mkF m 0 #[.val (.ref o1), .val (.int (2 : Int32))] [] := by first | (simp [entryFrame, mkF, argsToLocals, Value.category]; done) | rfl
def Q19_3_2 (Z : State) (o1 : Addr) (kd1 : ClassId) (c1 : Int32) (c2 : Int32) (c3 : Int32) (wf1 : Value) (h0 : Heap) (n0 : Nat) (v : Option Value) (h : Heap) (L : List Loc) : Prop := v = some (.int (own_ch c3)) ∧ Fr n0 L ∧ h = h0
set_option maxRecDepth 65536 in
set_option maxHeartbeats 40000000 in
theorem rm19_3_2 (l : Launch) (Z : State) (a0 : Array Value) (hw : ∀ d ∈ tables_1, d.before a0 Z = true) (ws : List Jvm.Cond) (o1 : Addr) (kd1 : ClassId) (c1 : Int32) (c2 : Int32) (c3 : Int32) (wf1 : Value) (h0 : Heap) (n0 : Nat) (Z0 : n0 ≤ h0.size) (F0 : Arv Z h0 o1 kd1 .byte (3 : Int32) [(.int c1), (.int c2), (.int c3)] (.int (0 : Int32))) (F1 : Sta Z h0 "jdk/internal/util/Preconditions" "SIOOBE_FORMATTER" "Ljava/util/function/BiFunction;" wf1) (hwf : wf1.isRef = true) :
    MetFree l (⟨"java/lang/StringLatin1", "charAt", "([BI)C"⟩ : MethodName) (head1 (Jvm.Cond.code (⟨"java/lang/StringLatin1", "charAt", "([BI)C"⟩ : MethodName) jdk_43_method_2_code 2 (some .char) :: ws) ({ frames := 2, cells := 0, slots := 0, locals := 27 } : Room)) (fun a U => a = #[(.ref o1), (.int (2 : Int32))] ∧ Z.Warmed39 U.vm ∧ U.heap = h0) (fun _ _ _ _ _ => True) (fun _ U o U' => ∃ v L, o = .returned v ∧ Q19_3_2 Z o1 kd1 c1 c2 c3 wf1 h0 n0 v U'.heap L ∧ FrameEnd U o U' L ({ frames := 2, cells := 0, slots := 0, locals := 27 } : Room).cells ({ frames := 2, cells := 0, slots := 0, locals := 27 } : Room).slots) := by
  refine body_of (y := (⟨"java/lang/StringLatin1", "charAt", "([BI)C"⟩ : MethodName)) (Q := Q19_3_2 Z o1 kd1 c1 c2 c3 wf1 h0 n0) (plainFor_of_name pn_8) ?_
  intro p e s m below meth c T0 G C hnm hnamed X0 e0 K
  have N0 := Fr.nil n0
  refine Goes.to (congrArg T0.setTop (ef_19l1_2 m o1)) ?_
  refine g_iloadN C X0 d19_0 (pc' := 1) rfl rfl ?_
  refine g_aloadN C X0 d19_1 (pc' := 2) rfl rfl rfl ?_
  refine g_arraylength C X0 e0 F0 d19_2 (pc' := 3) rfl ?_
  refine g_callS C X0 (w_100 hw) (w_101 hw) (w_4 hw) (w_102 hw) (by decide) d19_3 (rm20_3_2 l Z a0 hw [] wf1 h0 n0 Z0 F1 hwf) (by decide) (by decide) rfl pd_6 rfl (argsL := [(.int (2 : Int32)), (.int (3 : Int32))]) (rest := []) rfl (W := 0) (Nat.le_of_eq rfl) e0 (by decide) (by decide) (pc' := 6) rfl (fun u1 T1 L1 X1 hQ1 => ?_)
  obtain ⟨rfl, Nq1, eq1⟩ := hQ1
  have N1 := Fr.app N0 Nq1
  show Goes p.tables e below G (T1.setTop (mkF m 6 #[.val (.ref o1), .val (.int (2 : Int32))] []))
  refine g_aloadN C X1 d19_6 (pc' := 7) rfl rfl rfl ?_
  refine g_iloadN C X1 d19_7 (pc' := 8) rfl rfl ?_
  refine g_baload C X1 eq1 F0 (by decide) (v := (.int c3)) rfl d19_8 (pc' := 9) rfl ?_
  refine g_sipush C X1 d19_9 (pc' := 12) rfl (v := 255) rfl ?_
  refine g_iand C X1 d19_12 (pc' := 13) rfl ?_
  refine g_i2c C X1 d19_13 (pc' := 14) rfl ?_
  exact g_retN C X1 K (by simp) d19_14 (by decide) (by decide) eq1 ⟨rfl, N1, rfl⟩
theorem ef_17l1_2 (m : MethodId) (o1 : Addr) : entryFrame m #[(.ref o1), (.int (2 : Int32))] 2 = mkF m 0 #[.val (.ref o1), .val (.int (2 : Int32))] [] := by first | (simp [entryFrame, mkF, argsToLocals, Value.category]; done) | rfl
def Q17_3_2 (Z : State) (o1 : Addr) (o2 : Addr) (kd1 : ClassId) (c1 : Int32) (c2 : Int32) (c3 : Int32) (cs1 : Int32) (wf1 : Value) (h0 : Heap) (n0 : Nat) (v : Option Value) (h : Heap) (L : List Loc) : Prop := v = some (.int (own_ch c3)) ∧ Fr n0 L ∧ h = h0
set_option maxRecDepth 65536 in
set_option maxHeartbeats 40000000 in
theorem rm17_3_2 (l : Launch) (Z : State) (a0 : Array Value) (hw : ∀ d ∈ tables_1, d.before a0 Z = true) (ws : List Jvm.Cond) (o1 : Addr) (o2 : Addr) (kd1 : ClassId) (c1 : Int32) (c2 : Int32) (c3 : Int32) (cs1 : Int32) (wf1 : Value) (h0 : Heap) (n0 : Nat) (Z0 : n0 ≤ h0.size) (F0 : Exa Z h0 o1 "java/lang/String") (F1 : Fld Z h0 o1 "java/lang/String" "value" "[B" (.ref o2)) (F2 : Fld Z h0 o1 "java/lang/String" "coder" "B" (.int (0 : Int32))) (F3 : Arv Z h0 o2 kd1 .byte (3 : Int32) [(.int c1), (.int c2), (.int c3)] (.int (0 : Int32))) (F4 : Sta Z h0 "java/lang/String" "COMPACT_STRINGS" "Z" (.int cs1)) (F5 : Sta Z h0 "jdk/internal/util/Preconditions" "SIOOBE_FORMATTER" "Ljava/util/function/BiFunction;" wf1) (hcs : ¬ cs1 = (0 : Int32)) (hwf : wf1.isRef = true) :
    MetFree l (⟨"java/lang/String", "charAt", "(I)C"⟩ : MethodName) (head1 (Jvm.Cond.code (⟨"java/lang/String", "charAt", "(I)C"⟩ : MethodName) jdk_42_method_56_code 2 (some .char) :: ws) ({ frames := 3, cells := 0, slots := 0, locals := 40 } : Room)) (fun a U => a = #[(.ref o1), (.int (2 : Int32))] ∧ Z.Warmed39 U.vm ∧ U.heap = h0) (fun _ _ _ _ _ => True) (fun _ U o U' => ∃ v L, o = .returned v ∧ Q17_3_2 Z o1 o2 kd1 c1 c2 c3 cs1 wf1 h0 n0 v U'.heap L ∧ FrameEnd U o U' L ({ frames := 3, cells := 0, slots := 0, locals := 40 } : Room).cells ({ frames := 3, cells := 0, slots := 0, locals := 40 } : Room).slots) := by
  refine body_of (y := (⟨"java/lang/String", "charAt", "(I)C"⟩ : MethodName)) (Q := Q17_3_2 Z o1 o2 kd1 c1 c2 c3 cs1 wf1 h0 n0) (plainFor_of_name pn_1) ?_
  intro p e s m below meth c T0 G C hnm hnamed X0 e0 K
  have N0 := Fr.nil n0
  refine Goes.to (congrArg T0.setTop (ef_17l1_2 m o1)) ?_
  refine g_aloadN C X0 d17_0 (pc' := 1) rfl rfl rfl ?_
  refine g_callV C X0 (w_92 hw) (w_93 hw) (notFace_of_selects (args := #[]) (mvT C.2.1 (w_95 hw))) (w_95 hw) (w_94 hw) (w_96 hw) (w_4 hw) (by decide) F0 d17_1 (rm18 l Z a0 hw [] o1 cs1 h0 n0 Z0 F2 F4 hcs) (by decide) (by decide) rfl pd_7 rfl (argsL := []) (rest := []) rfl (W := 0) (Nat.le_of_eq rfl) e0 (by decide) (by decide) (pc' := 4) rfl (fun u1 T1 L1 X1 hQ1 => ?_)
  obtain ⟨rfl, Nq1, eq1⟩ := hQ1
  have N1 := Fr.app N0 Nq1
  show Goes p.tables e below G (T1.setTop (mkF m 4 #[.val (.ref o1), .val (.int (2 : Int32))] [(.int (1 : Int32))]))
  refine g_if_eq C X1 d17_4 (pcT := 16) (pcN := 7) (by decide) (by decide) rfl (fun hc4 => absurd hc4 (by decide)) (fun hc4 => ?_)
  refine g_aloadN C X1 d17_7 (pc' := 8) rfl rfl rfl ?_
  refine g_getF C X1 (w_29 hw) Via.refl eq1 F1 d17_8 (pc' := 11) rfl (fun T2 X2 e2 => ?_)
  refine g_iloadN C X2 d17_11 (pc' := 12) rfl rfl ?_
  refine g_callS C X2 (w_97 hw) (w_98 hw) (w_36 hw) (w_99 hw) (by decide) d17_12 (rm19_3_2 l Z a0 hw [] o2 kd1 c1 c2 c3 wf1 h0 n0 Z0 F3 F5 hwf) (by decide) (by decide) rfl pd_8 rfl (argsL := [(.ref o2), (.int (2 : Int32))]) (rest := []) rfl (W := 0) (Nat.le_of_eq rfl) e2 (by decide) (by decide) (pc' := 15) rfl (fun u3 T3 L3 X3 hQ3 => ?_)
  obtain ⟨rfl, Nq3, eq3⟩ := hQ3
  have N3 := Fr.app N1 Nq3
  show Goes p.tables e below G (T3.setTop (mkF m 15 #[.val (.ref o1), .val (.int (2 : Int32))] [(.int (own_ch c3))]))
  exact g_retN C X3 K (by simp) d17_15 (by decide) (by decide) eq3 ⟨(by rw [own_narr]), N3, rfl⟩
theorem ef_8 (m : MethodId) (x0 : Int32) : entryFrame m #[(.int x0)] 1 = mkF m 0 #[.val (.int x0)] [] := by first | (simp [entryFrame, mkF, argsToLocals, Value.category]; done) | rfl
theorem d8_0 : decode jdk_43_method_3_code 0 = .ok (.iload_n 0, 1) := by decide +kernel
theorem d8_1 : decode jdk_43_method_3_code 1 = .ok (.sipush 255, 3) := by decide +kernel
theorem d8_4 : decode jdk_43_method_3_code 4 = .ok (.if_icmp .gt 7, 3) := by decide +kernel
theorem d8_11 : decode jdk_43_method_3_code 11 = .ok (.iconst 0, 1) := by decide +kernel
theorem d8_12 : decode jdk_43_method_3_code 12 = .ok (.ireturn, 1) := by decide +kernel
theorem d8_7 : decode jdk_43_method_3_code 7 = .ok (.iconst 1, 1) := by decide +kernel
theorem d8_8 : decode jdk_43_method_3_code 8 = .ok (.goto 4, 3) := by decide +kernel
def fCan (x0 : Int32) : Int32 := if (255 : Int32) < x0 then (0 : Int32) else (1 : Int32)
def Q8 (Z : State) (x0 : Int32) (h0 : Heap) (n0 : Nat) (v : Option Value) (h : Heap) (L : List Loc) : Prop := v = some (.int (fCan x0)) ∧ Fr n0 L ∧ h = h0
set_option maxRecDepth 65536 in
set_option maxHeartbeats 40000000 in
theorem rm8 (l : Launch) (Z : State) (a0 : Array Value) (hw : ∀ d ∈ tables_1, d.before a0 Z = true) (ws : List Jvm.Cond) (x0 : Int32) (h0 : Heap) (n0 : Nat) (Z0 : n0 ≤ h0.size) :
    MetFree l (⟨"java/lang/StringLatin1", "canEncode", "(C)Z"⟩ : MethodName) (head1 (Jvm.Cond.code (⟨"java/lang/StringLatin1", "canEncode", "(C)Z"⟩ : MethodName) jdk_43_method_3_code 1 (some .boolean) :: ws) ({ frames := 0, cells := 0, slots := 0, locals := 0 } : Room)) (fun a U => a = #[(.int x0)] ∧ Z.Warmed39 U.vm ∧ U.heap = h0) (fun _ _ _ _ _ => True) (fun _ U o U' => ∃ v L, o = .returned v ∧ Q8 Z x0 h0 n0 v U'.heap L ∧ FrameEnd U o U' L ({ frames := 0, cells := 0, slots := 0, locals := 0 } : Room).cells ({ frames := 0, cells := 0, slots := 0, locals := 0 } : Room).slots) := by
  refine body_of (y := (⟨"java/lang/StringLatin1", "canEncode", "(C)Z"⟩ : MethodName)) (Q := Q8 Z x0 h0 n0) (plainFor_of_name pn_8) ?_
  intro p e s m below meth c T0 G C hnm hnamed X0 e0 K
  have N0 := Fr.nil n0
  refine Goes.to (congrArg T0.setTop (ef_8 m x0)) ?_
  refine g_iloadN C X0 d8_0 (pc' := 1) rfl rfl ?_
  refine g_sipush C X0 d8_1 (pc' := 4) rfl (v := 255) rfl ?_
  refine g_icmp_gt C X0 d8_4 (pcT := 11) (pcN := 7) (by decide) (by decide) rfl (fun hc4 => ?_) (fun hc4 => ?_)
  · refine g_iconst C X0 d8_11 (pc' := 12) rfl (v := 0) rfl ?_
    exact g_retN C X0 K (by simp) d8_12 (by decide) (by decide) e0 ⟨by (unfold fCan; rw [if_pos hc4]) <;> rfl, N0, rfl⟩
  · refine g_iconst C X0 d8_7 (pc' := 8) rfl (v := 1) rfl ?_
    refine g_goto C X0 d8_8 (pc' := 12) (by decide) (by decide) ?_
    exact g_retN C X0 K (by simp) d8_12 (by decide) (by decide) e0 ⟨by (unfold fCan; rw [if_neg hc4]) <;> rfl, N0, rfl⟩
theorem own_can {c : Int32} (h : ¬ (255 : Int32) < c) : fCan c = 1 := by unfold fCan; rw [if_neg h]
theorem ef_9 (m : MethodId) (c1 : Int32) : entryFrame m #[(.int c1)] 1 = mkF m 0 #[.val (.int c1)] [] := by first | (simp [entryFrame, mkF, argsToLocals, Value.category]; done) | rfl
theorem d9_0 : decode jdk_43_method_46_code 0 = .ok (.iconst 1, 1) := by decide +kernel
theorem d9_1 : decode jdk_43_method_46_code 1 = .ok (.newarray .byte, 2) := by decide +kernel
theorem d9_3 : decode jdk_43_method_46_code 3 = .ok (.dup, 1) := by decide +kernel
theorem d9_4 : decode jdk_43_method_46_code 4 = .ok (.iconst 0, 1) := by decide +kernel
theorem d9_5 : decode jdk_43_method_46_code 5 = .ok (.iload_n 0, 1) := by decide +kernel
theorem d9_6 : decode jdk_43_method_46_code 6 = .ok (.i2b, 1) := by decide +kernel
theorem d9_7 : decode jdk_43_method_46_code 7 = .ok (.bastore, 1) := by decide +kernel
theorem d9_8 : decode jdk_43_method_46_code 8 = .ok (.areturn, 1) := by decide +kernel
def Q9 (Z : State) (c1 : Int32) (h0 : Heap) (n0 : Nat) (v : Option Value) (h : Heap) (L : List Loc) : Prop := ∃ (o3 : Addr) (kd3 : ClassId), v = some (.ref o3) ∧ Fr n0 L ∧ h0.size ≤ o3 ∧ Keep h0 h [] ∧ Arv Z h o3 kd3 .byte (1 : Int32) [(.int (nar .byte c1.toInt8.toInt32))] (.int (0 : Int32))
set_option maxRecDepth 65536 in
set_option maxHeartbeats 40000000 in
theorem rm9 (l : Launch) (Z : State) (a0 : Array Value) (hw : ∀ d ∈ tables_1, d.before a0 Z = true) (ws : List Jvm.Cond) (c1 : Int32) (h0 : Heap) (n0 : Nat) (Z0 : n0 ≤ h0.size) :
    MetFree l (⟨"java/lang/StringLatin1", "toBytes", "(C)[B"⟩ : MethodName) (head1 (Jvm.Cond.code (⟨"java/lang/StringLatin1", "toBytes", "(C)[B"⟩ : MethodName) jdk_43_method_46_code 1 (some (.array .byte)) :: ws) ({ frames := 0, cells := 1, slots := 1, locals := 0 } : Room)) (fun a U => a = #[(.int c1)] ∧ Z.Warmed39 U.vm ∧ U.heap = h0) (fun _ _ _ _ _ => True) (fun _ U o U' => ∃ v L, o = .returned v ∧ Q9 Z c1 h0 n0 v U'.heap L ∧ FrameEnd U o U' L ({ frames := 0, cells := 1, slots := 1, locals := 0 } : Room).cells ({ frames := 0, cells := 1, slots := 1, locals := 0 } : Room).slots) := by
  refine body_of (y := (⟨"java/lang/StringLatin1", "toBytes", "(C)[B"⟩ : MethodName)) (Q := Q9 Z c1 h0 n0) (plainFor_of_name pn_8) ?_
  intro p e s m below meth c T0 G C hnm hnamed X0 e0 K
  have N0 := Fr.nil n0
  refine Goes.to (congrArg T0.setTop (ef_9 m c1)) ?_
  have K00 := Keep.refl h0 []
  refine g_iconst C X0 d9_0 (pc' := 1) rfl (v := 1) rfl ?_
  refine g_newA (aty := .byte) (n := (1 : Int32)) C X0 (cap := 1) (w_20 hw) e0 d9_1 (pc' := 3) rfl (by decide) (by decide) (by decide) (by decide) (by decide) (fun T1 h1 b1 ki1 X1 e1 g1 E1 A1 => ?_)
  have gn_b1 : n0 ≤ b1 := Nat.le_trans Z0 (Nat.le_of_eq g1.symm)
  have Z1 := Nat.le_trans Z0 E1.1
  have sz_b1 : h0.size ≤ b1 := Nat.le_trans K00.1 (Nat.le_of_eq g1.symm)
  have K1 := K00.ext E1
  have f2 : Arv Z h1 b1 ki1 .byte (1 : Int32) [(.int (0 : Int32))] (.int (0 : Int32)) := A1.pad (pad_rep [] (.int (0 : Int32)) 1)
  refine g_dup C X1 d9_3 (pc' := 4) rfl rfl ?_
  refine g_iconst C X1 d9_4 (pc' := 5) rfl (v := 0) rfl ?_
  refine g_iloadN C X1 d9_5 (pc' := 6) rfl rfl ?_
  refine g_i2b C X1 d9_6 (pc' := 7) rfl ?_
  refine g_bastore C X1 (i := 0) e1 f2 (by decide) rfl (Nat.le_of_ble_eq_true rfl) d9_7 (pc' := 8) rfl (fun T3 h3 X3 e3 W3 A3 => ?_)
  have f4 : Arv Z h3 b1 ki1 .byte (1 : Int32) [(.int (nar .byte c1.toInt8.toInt32))] (.int (0 : Int32)) := A3
  have N3 := Fr.snoc X3 N0 gn_b1
  have Z3 := Nat.le_trans Z1 (Nat.le_of_eq W3.size.symm)
  have K3 := K1.wr W3 (Or.inr sz_b1)
  exact g_retA C X3 K rfl rfl rfl d9_8 (by decide) (by decide) e3 ⟨b1, ki1, rfl, N3, sz_b1, K3, f4⟩
theorem ef_10l2_0 (m : MethodId) (o1 : Addr) (o2 : Addr) : entryFrame m #[(.ref o1), (.ref o2), (.int (0 : Int32))] 3 = mkF m 0 #[.val (.ref o1), .val (.ref o2), .val (.int (0 : Int32))] [] := by first | (simp [entryFrame, mkF, argsToLocals, Value.category]; done) | rfl
theorem d10_0 : decode jdk_42_method_151_code 0 = .ok (.aload_n 0, 1) := by decide +kernel
theorem d10_1 : decode jdk_42_method_151_code 1 = .ok (.invokespecial 1, 3) := by decide +kernel
theorem d10_4 : decode jdk_42_method_151_code 4 = .ok (.aload_n 0, 1) := by decide +kernel
theorem d10_5 : decode jdk_42_method_151_code 5 = .ok (.aload_n 1, 1) := by decide +kernel
theorem d10_6 : decode jdk_42_method_151_code 6 = .ok (.putfield 9, 3) := by decide +kernel
theorem d10_9 : decode jdk_42_method_151_code 9 = .ok (.aload_n 0, 1) := by decide +kernel
theorem d10_10 : decode jdk_42_method_151_code 10 = .ok (.iload_n 2, 1) := by decide +kernel
theorem d10_11 : decode jdk_42_method_151_code 11 = .ok (.putfield 15, 3) := by decide +kernel
theorem d10_14 : decode jdk_42_method_151_code 14 = .ok (.return_, 1) := by decide +kernel
def Q10 (Z : State) (o1 : Addr) (o2 : Addr) (h0 : Heap) (n0 : Nat) (v : Option Value) (h : Heap) (L : List Loc) : Prop := v = none ∧ Fr n0 L ∧ Keep h0 h [o1] ∧ Exa Z h o1 "java/lang/String" ∧ Fld Z h o1 "java/lang/String" "value" "[B" (.ref o2) ∧ Fld Z h o1 "java/lang/String" "coder" "B" (.int (0 : Int32))
set_option maxRecDepth 65536 in
set_option maxHeartbeats 40000000 in
theorem rm10 (l : Launch) (Z : State) (a0 : Array Value) (hw : ∀ d ∈ tables_1, d.before a0 Z = true) (ws : List Jvm.Cond) (o1 : Addr) (o2 : Addr) (h0 : Heap) (n0 : Nat) (Z0 : n0 ≤ h0.size) (F0 : Exa Z h0 o1 "java/lang/String") (F1 : Fld Z h0 o1 "java/lang/String" "value" "[B" .null) (F2 : Fld Z h0 o1 "java/lang/String" "coder" "B" (.int (0 : Int32))) (gn_o1 : n0 ≤ o1) :
    MetFree l (⟨"java/lang/String", "<init>", "([BB)V"⟩ : MethodName) (head1 (Jvm.Cond.code (⟨"java/lang/String", "<init>", "([BB)V"⟩ : MethodName) jdk_42_method_151_code 3 none :: ws) ({ frames := 1, cells := 0, slots := 0, locals := 12 } : Room)) (fun a U => a = #[(.ref o1), (.ref o2), (.int (0 : Int32))] ∧ Z.Warmed39 U.vm ∧ U.heap = h0) (fun _ _ _ _ _ => True) (fun _ U o U' => ∃ v L, o = .returned v ∧ Q10 Z o1 o2 h0 n0 v U'.heap L ∧ FrameEnd U o U' L ({ frames := 1, cells := 0, slots := 0, locals := 12 } : Room).cells ({ frames := 1, cells := 0, slots := 0, locals := 12 } : Room).slots) := by
  refine body_of (y := (⟨"java/lang/String", "<init>", "([BB)V"⟩ : MethodName)) (Q := Q10 Z o1 o2 h0 n0) (plainFor_of_name pn_1) ?_
  intro p e s m below meth c T0 G C hnm hnamed X0 e0 K
  have N0 := Fr.nil n0
  refine Goes.to (congrArg T0.setTop (ef_10l2_0 m o1 o2)) ?_
  have K00 := Keep.refl h0 [o1]
  refine g_aloadN C X0 d10_0 (pc' := 1) rfl rfl rfl ?_
  refine g_initO C X0 (w_12 hw) (w_13 hw) (w_14 hw) e0 rfl d10_1 (pc' := 4) rfl (by decide) (W := 0) (Nat.le_of_eq rfl) (by decide) (fun T1 X1 e1 => ?_)
  refine g_aloadN C X1 d10_4 (pc' := 5) rfl rfl rfl ?_
  refine g_aloadN C X1 d10_5 (pc' := 6) rfl rfl rfl ?_
  refine g_putF C X1 (w_29 hw) Via.refl e1 F1 F0 (Or.inr ⟨(w_30 hw), rfl, hnm⟩) (w_3 hw) (ty := (.array .byte)) (by decide) rfl rfl d10_6 (pc' := 9) rfl (fun T2 h2 X2 e2 W2 => ?_)
  have f3 := F0.wr W2
  have f4 := F1.same W2
  have f5 := F2.other W2 (Or.inr (slot_ne (Or.inr (w_28 hw)) (Or.inr (w_30 hw)) (by decide) (t := .byte) (t' := (.array .byte)) (by decide) (by decide)))
  have N2 := Fr.snoc X2 N0 gn_o1
  have Z2 := Nat.le_trans Z0 (Nat.le_of_eq W2.size.symm)
  have K2 := K00.wr W2 (Or.inl (List.mem_of_getElem? (i := 0) rfl))
  refine g_aloadN C X2 d10_9 (pc' := 10) rfl rfl rfl ?_
  refine g_iloadN C X2 d10_10 (pc' := 11) rfl rfl ?_
  refine g_putFN C X2 (w_27 hw) Via.refl e2 f5 f3 (Or.inr ⟨(w_28 hw), rfl, hnm⟩) (w_3 hw) (ty := .byte) (by decide) (v' := (.int (0 : Int32))) (by decide) (by decide) d10_11 (pc' := 14) rfl (fun T6 h6 X6 e6 W6 => ?_)
  have f7 := f3.wr W6
  have f8 := f4.other W6 (Or.inr (slot_ne (Or.inr (w_30 hw)) (Or.inr (w_28 hw)) (by decide) (t := (.array .byte)) (t' := .byte) (by decide) (by decide)))
  have f9 := f5.same W6
  have N6 := Fr.snoc X6 N2 gn_o1
  have Z6 := Nat.le_trans Z2 (Nat.le_of_eq W6.size.symm)
  have K6 := K2.wr W6 (Or.inl (List.mem_of_getElem? (i := 0) rfl))
  exact g_retV C X6 K d10_14 (by decide) (by decide) e6 ⟨rfl, N6, K6, f7, f8, f9⟩
theorem ef_7 (m : MethodId) (c1 : Int32) : entryFrame m #[(.int c1)] 1 = mkF m 0 #[.val (.int c1)] [] := by first | (simp [entryFrame, mkF, argsToLocals, Value.category]; done) | rfl
theorem d7_0 : decode jdk_42_method_139_code 0 = .ok (.getstatic 38, 3) := by decide +kernel
theorem d7_3 : decode jdk_42_method_139_code 3 = .ok (.ifCond .eq 23, 3) := by decide +kernel
theorem d7_6 : decode jdk_42_method_139_code 6 = .ok (.iload_n 0, 1) := by decide +kernel
theorem d7_7 : decode jdk_42_method_139_code 7 = .ok (.invokestatic 1015, 3) := by decide +kernel
theorem w_37 {Z : State} {a0 : Array Value} (hw : ∀ d ∈ tables_1, d.before a0 Z = true) : Jvm.Cond.before (Jvm.Cond.code ({ cls := "java/lang/StringLatin1", name := "canEncode", desc := "(C)Z" } : Jvm.MethodName) jdk_43_method_3_code (1 : Nat) (Option.some Jvm.ClassFile.FieldType.boolean)) a0 Z = true := hw _ (List.mem_of_getElem? (i := 37) rfl)
theorem w_34 {Z : State} {a0 : Array Value} (hw : ∀ d ∈ tables_1, d.before a0 Z = true) : Jvm.Cond.before (Jvm.Cond.methodLink "java/lang/String" (1015 : Nat) ({ cls := "java/lang/StringLatin1", name := "canEncode", desc := "(C)Z" } : Jvm.MethodName)) a0 Z = true := hw _ (List.mem_of_getElem? (i := 34) rfl)
theorem pd_9 : parseMethodDescriptor "(C)Z" = some ⟨[.char], some .boolean⟩ := by decide +kernel
theorem w_35 {Z : State} {a0 : Array Value} (hw : ∀ d ∈ tables_1, d.before a0 Z = true) : Jvm.Cond.before (Jvm.Cond.static ({ cls := "java/lang/StringLatin1", name := "canEncode", desc := "(C)Z" } : Jvm.MethodName)) a0 Z = true := hw _ (List.mem_of_getElem? (i := 35) rfl)
theorem d7_10 : decode jdk_42_method_139_code 10 = .ok (.ifCond .eq 16, 3) := by decide +kernel
theorem d7_13 : decode jdk_42_method_139_code 13 = .ok (.new 10, 3) := by decide +kernel
theorem w_38 {Z : State} {a0 : Array Value} (hw : ∀ d ∈ tables_1, d.before a0 Z = true) : Jvm.Cond.before (Jvm.Cond.classLink "java/lang/String" (10 : Nat) "java/lang/String") a0 Z = true := hw _ (List.mem_of_getElem? (i := 38) rfl)
theorem d7_16 : decode jdk_42_method_139_code 16 = .ok (.dup, 1) := by decide +kernel
theorem d7_17 : decode jdk_42_method_139_code 17 = .ok (.iload_n 0, 1) := by decide +kernel
theorem d7_18 : decode jdk_42_method_139_code 18 = .ok (.invokestatic 1018, 3) := by decide +kernel
theorem w_41 {Z : State} {a0 : Array Value} (hw : ∀ d ∈ tables_1, d.before a0 Z = true) : Jvm.Cond.before (Jvm.Cond.code ({ cls := "java/lang/StringLatin1", name := "toBytes", desc := "(C)[B" } : Jvm.MethodName) jdk_43_method_46_code (1 : Nat) (Option.some (Jvm.ClassFile.FieldType.array Jvm.ClassFile.FieldType.byte))) a0 Z = true := hw _ (List.mem_of_getElem? (i := 41) rfl)
theorem w_39 {Z : State} {a0 : Array Value} (hw : ∀ d ∈ tables_1, d.before a0 Z = true) : Jvm.Cond.before (Jvm.Cond.methodLink "java/lang/String" (1018 : Nat) ({ cls := "java/lang/StringLatin1", name := "toBytes", desc := "(C)[B" } : Jvm.MethodName)) a0 Z = true := hw _ (List.mem_of_getElem? (i := 39) rfl)
theorem pd_10 : parseMethodDescriptor "(C)[B" = some ⟨[.char], some (.array .byte)⟩ := by decide +kernel
theorem w_40 {Z : State} {a0 : Array Value} (hw : ∀ d ∈ tables_1, d.before a0 Z = true) : Jvm.Cond.before (Jvm.Cond.static ({ cls := "java/lang/StringLatin1", name := "toBytes", desc := "(C)[B" } : Jvm.MethodName)) a0 Z = true := hw _ (List.mem_of_getElem? (i := 40) rfl)
theorem d7_21 : decode jdk_42_method_139_code 21 = .ok (.iconst 0, 1) := by decide +kernel
theorem d7_22 : decode jdk_42_method_139_code 22 = .ok (.invokespecial 209, 3) := by decide +kernel
theorem w_44 {Z : State} {a0 : Array Value} (hw : ∀ d ∈ tables_1, d.before a0 Z = true) : Jvm.Cond.before (Jvm.Cond.code ({ cls := "java/lang/String", name := "<init>", desc := "([BB)V" } : Jvm.MethodName) jdk_42_method_151_code (3 : Nat) (Option.none : Option Jvm.ClassFile.FieldType)) a0 Z = true := hw _ (List.mem_of_getElem? (i := 44) rfl)
theorem w_42 {Z : State} {a0 : Array Value} (hw : ∀ d ∈ tables_1, d.before a0 Z = true) : Jvm.Cond.before (Jvm.Cond.methodLink "java/lang/String" (209 : Nat) ({ cls := "java/lang/String", name := "<init>", desc := "([BB)V" } : Jvm.MethodName)) a0 Z = true := hw _ (List.mem_of_getElem? (i := 42) rfl)
theorem pd_11 : parseMethodDescriptor "([BB)V" = some ⟨[(.array .byte), .byte], none⟩ := by decide +kernel
theorem w_43 {Z : State} {a0 : Array Value} (hw : ∀ d ∈ tables_1, d.before a0 Z = true) : Jvm.Cond.before (Jvm.Cond.instanceMethod ({ cls := "java/lang/String", name := "<init>", desc := "([BB)V" } : Jvm.MethodName)) a0 Z = true := hw _ (List.mem_of_getElem? (i := 43) rfl)
theorem d7_25 : decode jdk_42_method_139_code 25 = .ok (.areturn, 1) := by decide +kernel
def Q7 (Z : State) (c1 : Int32) (cs1 : Int32) (h0 : Heap) (n0 : Nat) (v : Option Value) (h : Heap) (L : List Loc) : Prop := ∃ (o3 : Addr), v = some (.ref o3) ∧ Fr n0 L ∧ h0.size ≤ o3 ∧ Keep h0 h []
set_option maxRecDepth 65536 in
set_option maxHeartbeats 40000000 in
theorem rm7 (l : Launch) (Z : State) (a0 : Array Value) (hw : ∀ d ∈ tables_1, d.before a0 Z = true) (ws : List Jvm.Cond) (c1 : Int32) (cs1 : Int32) (h0 : Heap) (n0 : Nat) (Z0 : n0 ≤ h0.size) (F0 : Sta Z h0 "java/lang/String" "COMPACT_STRINGS" "Z" (.int cs1)) (la1 : ¬ (255 : Int32) < c1) (hcs : ¬ cs1 = (0 : Int32)) :
    MetFree l (⟨"java/lang/String", "valueOf", "(C)Ljava/lang/String;"⟩ : MethodName) (head1 (Jvm.Cond.code (⟨"java/lang/String", "valueOf", "(C)Ljava/lang/String;"⟩ : MethodName) jdk_42_method_139_code 1 (some (.object "java/lang/String")) :: ws) ({ frames := 2, cells := 2, slots := 5, locals := 27 } : Room)) (fun a U => a = #[(.int c1)] ∧ Z.Warmed39 U.vm ∧ U.heap = h0) (fun _ _ _ _ _ => True) (fun _ U o U' => ∃ v L, o = .returned v ∧ Q7 Z c1 cs1 h0 n0 v U'.heap L ∧ FrameEnd U o U' L ({ frames := 2, cells := 2, slots := 5, locals := 27 } : Room).cells ({ frames := 2, cells := 2, slots := 5, locals := 27 } : Room).slots) := by
  refine body_of (y := (⟨"java/lang/String", "valueOf", "(C)Ljava/lang/String;"⟩ : MethodName)) (Q := Q7 Z c1 cs1 h0 n0) (plainFor_of_name pn_1) ?_
  intro p e s m below meth c T0 G C hnm hnamed X0 e0 K
  have N0 := Fr.nil n0
  refine Goes.to (congrArg T0.setTop (ef_7 m c1)) ?_
  have K00 := Keep.refl h0 []
  refine g_getS C X0 (w_15 hw) Via.refl e0 F0 d7_0 (pc' := 3) rfl (fun T1 X1 e1 => ?_)
  refine g_if_eq C X1 d7_3 (pcT := 26) (pcN := 6) (by decide) (by decide) rfl (fun hc3 => absurd hc3 hcs) (fun hc3 => ?_)
  refine g_iloadN C X1 d7_6 (pc' := 7) rfl rfl ?_
  refine g_callS C X1 (w_34 hw) (w_35 hw) (w_36 hw) (w_37 hw) (by decide) d7_7 (rm8 l Z a0 hw [] c1 h0 n0 Z0) (by decide) (by decide) rfl pd_9 rfl (argsL := [(.int c1)]) (rest := []) rfl (W := 0) (Nat.le_of_eq rfl) e1 (by decide) (by decide) (pc' := 10) rfl (fun u2 T2 L2 X2 hQ2 => ?_)
  obtain ⟨rfl, Nq2, eq2⟩ := hQ2
  have N2 := Fr.app N0 Nq2
  obtain ⟨r2, hr2⟩ : ∃ z : Int32, fCan c1 = z := ⟨_, rfl⟩
  rw [hr2]
  show Goes p.tables e below G (T2.setTop (mkF m 10 #[.val (.int c1)] [(.int r2)]))
  refine g_if_eq C X2 d7_10 (pcT := 26) (pcN := 13) (by decide) (by decide) rfl (fun hc10 => absurd (hr2.symm.trans (own_can la1)) (by rw [hc10]; decide)) (fun hc10 => ?_)
  refine g_new C X2 (w_38 hw) (w_3 hw) (w_4 hw) eq2 d7_13 (pc' := 16) rfl (by decide) (by decide) (fun T3 h3 b3 X3 e3 g3 E3 A3 D3 => ?_)
  have f4 := F0.ext E3
  have gn_b3 : n0 ≤ b3 := Nat.le_trans Z0 (Nat.le_of_eq g3.symm)
  have Z3 := Nat.le_trans Z0 E3.1
  have sz_b3 : h0.size ≤ b3 := Nat.le_trans K00.1 (Nat.le_of_eq g3.symm)
  have K3 := K00.ext E3
  have f5 : Fld Z h3 b3 "java/lang/String" "coder" "B" (.int (0 : Int32)) := D3 (Or.inr (w_28 hw)) (ty := .byte) (by decide)
  have f6 : Fld Z h3 b3 "java/lang/String" "value" "[B" .null := D3 (Or.inr (w_30 hw)) (ty := (.array .byte)) (by decide)
  refine g_dup C X3 d7_16 (pc' := 17) rfl rfl ?_
  refine g_iloadN C X3 d7_17 (pc' := 18) rfl rfl ?_
  refine g_callS C X3 (w_39 hw) (w_40 hw) (w_36 hw) (w_41 hw) (by decide) d7_18 (rm9 l Z a0 hw [] c1 h3 n0 Z3 ) (by decide) (by decide) rfl pd_10 rfl (argsL := [(.int c1)]) (rest := [(.ref b3), (.ref b3)]) rfl (W := 2) (Nat.le_of_eq rfl) e3 (by decide) (by decide) (pc' := 21) rfl (fun u7 T7 L7 X7 hQ7 => ?_)
  obtain ⟨o37, kd37, rfl, Nq7, szo37, Kq7, q7_0⟩ := hQ7
  have N7 := Fr.app N2 Nq7
  have n8 : b3 ≠ o37 := Nat.ne_of_lt (Nat.lt_of_lt_of_le A3.lt szo37)
  have f9 := Sta.keepN f4 Kq7 all0
  have f10 := A3.keep Kq7
  have f11 := f5.keep Kq7 nin0
  have f12 := f6.keep Kq7 nin0
  have gn_o37 : n0 ≤ o37 := Nat.le_trans Z3 szo37
  have Z7 := Nat.le_trans Z3 Kq7.1
  have sz_o37 : h0.size ≤ o37 := Nat.le_trans K3.1 szo37
  have K7 := K3.trans Kq7 all0
  show Goes p.tables e below G (T7.setTop (mkF m 21 #[.val (.int c1)] [(.ref o37), (.ref b3), (.ref b3)]))
  refine g_iconst C X7 d7_21 (pc' := 22) rfl (v := 0) rfl ?_
  refine g_callI C X7 rfl (w_42 hw) (w_43 hw) (w_4 hw) (w_44 hw) (by decide) d7_22 (rm10 l Z a0 hw [] b3 o37 T7.heap n0 Z7 f10 f12 f11 gn_b3) (by decide) (by decide) rfl pd_11 rfl (argsL := [(.ref o37), (.int (0 : Int32))]) (rest := [(.ref b3)]) rfl (W := 1) (Nat.le_of_eq rfl) rfl (by decide) (by decide) (pc' := 25) rfl (fun u13 T13 L13 X13 hQ13 => ?_)
  obtain ⟨rfl, Nq13, Kq13, q13_0, q13_1, q13_2⟩ := hQ13
  have N13 := Fr.app N7 Nq13
  have f14 := Sta.keepN f9 Kq13 (allS (Exa.ns f10) all0)
  have f15 := f10.keep Kq13
  have f16 := q7_0.keep Kq13 (ninS (Ne.symm n8) nin0)
  have Z13 := Nat.le_trans Z7 Kq13.1
  have K13 := K7.trans Kq13 (allS (Or.inr sz_b3) all0)
  show Goes p.tables e below G (T13.setTop (mkF m 25 #[.val (.int c1)] [(.ref b3)]))
  exact g_retA C X13 K rfl rfl rfl d7_25 (by decide) (by decide) rfl ⟨b3, rfl, N13, sz_b3, K13⟩
theorem ef_22 (m : MethodId) (o1 : Addr) (o2 : Addr) : entryFrame m #[(.ref o1), (.ref o2)] 3 = mkF m 0 #[.val (.ref o1), .val (.ref o2), .unset] [] := by first | (simp [entryFrame, mkF, argsToLocals, Value.category]; done) | rfl
theorem d22_0 : decode jdk_42_method_66_code 0 = .ok (.aload_n 0, 1) := by decide +kernel
theorem d22_1 : decode jdk_42_method_66_code 1 = .ok (.aload_n 1, 1) := by decide +kernel
theorem d22_2 : decode jdk_42_method_66_code 2 = .ok (.if_acmp .ne 5, 3) := by decide +kernel
theorem d22_5 : decode jdk_42_method_66_code 5 = .ok (.iconst 1, 1) := by decide +kernel
theorem d22_6 : decode jdk_42_method_66_code 6 = .ok (.ireturn, 1) := by decide +kernel
def Q22 (Z : State) (o1 : Addr) (o2 : Addr) (h0 : Heap) (n0 : Nat) (v : Option Value) (h : Heap) (L : List Loc) : Prop := v = some (.int (1 : Int32)) ∧ Fr n0 L ∧ h = h0
set_option maxRecDepth 65536 in
set_option maxHeartbeats 40000000 in
theorem rm22 (l : Launch) (Z : State) (a0 : Array Value) (hw : ∀ d ∈ tables_1, d.before a0 Z = true) (ws : List Jvm.Cond) (o1 : Addr) (o2 : Addr) (h0 : Heap) (n0 : Nat) (Z0 : n0 ≤ h0.size) (hs : o1 = o2) :
    MetFree l (⟨"java/lang/String", "equals", "(Ljava/lang/Object;)Z"⟩ : MethodName) (head1 (Jvm.Cond.code (⟨"java/lang/String", "equals", "(Ljava/lang/Object;)Z"⟩ : MethodName) jdk_42_method_66_code 3 (some .boolean) :: ws) ({ frames := 0, cells := 0, slots := 0, locals := 0 } : Room)) (fun a U => a = #[(.ref o1), (.ref o2)] ∧ Z.Warmed39 U.vm ∧ U.heap = h0) (fun _ _ _ _ _ => True) (fun _ U o U' => ∃ v L, o = .returned v ∧ Q22 Z o1 o2 h0 n0 v U'.heap L ∧ FrameEnd U o U' L ({ frames := 0, cells := 0, slots := 0, locals := 0 } : Room).cells ({ frames := 0, cells := 0, slots := 0, locals := 0 } : Room).slots) := by
  refine body_of (y := (⟨"java/lang/String", "equals", "(Ljava/lang/Object;)Z"⟩ : MethodName)) (Q := Q22 Z o1 o2 h0 n0) (plainFor_of_name pn_1) ?_
  intro p e s m below meth c T0 G C hnm hnamed X0 e0 K
  have N0 := Fr.nil n0
  refine Goes.to (congrArg T0.setTop (ef_22 m o1 o2)) ?_
  refine g_aloadN C X0 d22_0 (pc' := 1) rfl rfl rfl ?_
  refine g_aloadN C X0 d22_1 (pc' := 2) rfl rfl rfl ?_
  refine g_acmp_ne C X0 rfl rfl d22_2 (pcT := 7) (pcN := 5) (by decide) (by decide) rfl (fun hc2 => absurd (congrArg Value.ref hs) hc2) (fun hc2 => ?_)
  refine g_iconst C X0 d22_5 (pc' := 6) rfl (v := 1) rfl ?_
  exact g_retN C X0 K (by simp) d22_6 (by decide) (by decide) e0 ⟨rfl, N0, rfl⟩
theorem ef_12 (m : MethodId) (o1 : Addr) : entryFrame m #[(.ref o1)] 1 = mkF m 0 #[.val (.ref o1)] [] := by first | (simp [entryFrame, mkF, argsToLocals, Value.category]; done) | rfl
theorem d12_0 : decode jdk_30_method_1_code 0 = .ok (.aload_n 0, 1) := by decide +kernel
theorem d12_1 : decode jdk_30_method_1_code 1 = .ok (.invokespecial 1, 3) := by decide +kernel
theorem w_56 {Z : State} {a0 : Array Value} (hw : ∀ d ∈ tables_1, d.before a0 Z = true) : Jvm.Cond.before (Jvm.Cond.methodLink "java/lang/Record" (1 : Nat) ({ cls := "java/lang/Object", name := "<init>", desc := "()V" } : Jvm.MethodName)) a0 Z = true := hw _ (List.mem_of_getElem? (i := 56) rfl)
theorem d12_4 : decode jdk_30_method_1_code 4 = .ok (.return_, 1) := by decide +kernel
def Q12 (Z : State) (o1 : Addr) (h0 : Heap) (n0 : Nat) (v : Option Value) (h : Heap) (L : List Loc) : Prop := v = none ∧ Fr n0 L ∧ h = h0
theorem pn_12 : plainName "java/lang/Record" = true := by first | (simp [plainName, overriddenIn]; done) | decide +kernel
set_option maxRecDepth 65536 in
set_option maxHeartbeats 40000000 in
theorem rm12 (l : Launch) (Z : State) (a0 : Array Value) (hw : ∀ d ∈ tables_1, d.before a0 Z = true) (ws : List Jvm.Cond) (o1 : Addr) (h0 : Heap) (n0 : Nat) (Z0 : n0 ≤ h0.size) :
    MetFree l (⟨"java/lang/Record", "<init>", "()V"⟩ : MethodName) (head1 (Jvm.Cond.code (⟨"java/lang/Record", "<init>", "()V"⟩ : MethodName) jdk_30_method_1_code 1 none :: ws) ({ frames := 1, cells := 0, slots := 0, locals := 12 } : Room)) (fun a U => a = #[(.ref o1)] ∧ Z.Warmed39 U.vm ∧ U.heap = h0) (fun _ _ _ _ _ => True) (fun _ U o U' => ∃ v L, o = .returned v ∧ Q12 Z o1 h0 n0 v U'.heap L ∧ FrameEnd U o U' L ({ frames := 1, cells := 0, slots := 0, locals := 12 } : Room).cells ({ frames := 1, cells := 0, slots := 0, locals := 12 } : Room).slots) := by
  refine body_of (y := (⟨"java/lang/Record", "<init>", "()V"⟩ : MethodName)) (Q := Q12 Z o1 h0 n0) (plainFor_of_name pn_12) ?_
  intro p e s m below meth c T0 G C hnm hnamed X0 e0 K
  have N0 := Fr.nil n0
  refine Goes.to (congrArg T0.setTop (ef_12 m o1)) ?_
  refine g_aloadN C X0 d12_0 (pc' := 1) rfl rfl rfl ?_
  refine g_initO C X0 (w_56 hw) (w_13 hw) (w_14 hw) e0 rfl d12_1 (pc' := 4) rfl (by decide) (W := 0) (Nat.le_of_eq rfl) (by decide) (fun T1 X1 e1 => ?_)
  exact g_retV C X1 K d12_4 (by decide) (by decide) e1 ⟨rfl, N0, rfl⟩
theorem ef_11 (m : MethodId) (o1 : Addr) (o2 : Addr) (o3 : Addr) (o4 : Addr) (o5 : Addr) (i1 : Int32) : entryFrame m #[(.ref o1), (.ref o2), (.ref o3), (.ref o4), (.ref o5), (.int i1)] 6 = mkF m 0 #[.val (.ref o1), .val (.ref o2), .val (.ref o3), .val (.ref o4), .val (.ref o5), .val (.int i1)] [] := by first | (simp [entryFrame, mkF, argsToLocals, Value.category]; done) | rfl
theorem d11_0 : decode prog_8_method_1_code 0 = .ok (.aload_n 0, 1) := by decide +kernel
theorem d11_1 : decode prog_8_method_1_code 1 = .ok (.invokespecial 3, 3) := by decide +kernel
theorem w_55 {Z : State} {a0 : Array Value} (hw : ∀ d ∈ tables_1, d.before a0 Z = true) : Jvm.Cond.before (Jvm.Cond.code ({ cls := "java/lang/Record", name := "<init>", desc := "()V" } : Jvm.MethodName) jdk_30_method_1_code (1 : Nat) (Option.none : Option Jvm.ClassFile.FieldType)) a0 Z = true := hw _ (List.mem_of_getElem? (i := 55) rfl)
theorem w_54 {Z : State} {a0 : Array Value} (hw : ∀ d ∈ tables_1, d.before a0 Z = true) : Jvm.Cond.before (Jvm.Cond.initialized "java/lang/Record") a0 Z = true := hw _ (List.mem_of_getElem? (i := 54) rfl)
theorem w_51 {Z : State} {a0 : Array Value} (hw : ∀ d ∈ tables_1, d.before a0 Z = true) : Jvm.Cond.before (Jvm.Cond.methodLink "com/example/hanko/hanko/access/GitConfig$Entry" (3 : Nat) ({ cls := "java/lang/Record", name := "<init>", desc := "()V" } : Jvm.MethodName)) a0 Z = true := hw _ (List.mem_of_getElem? (i := 51) rfl)
theorem pd_12 : parseMethodDescriptor "()V" = some ⟨[], none⟩ := by decide +kernel
theorem w_52 {Z : State} {a0 : Array Value} (hw : ∀ d ∈ tables_1, d.before a0 Z = true) : Jvm.Cond.before (Jvm.Cond.instanceMethod ({ cls := "java/lang/Record", name := "<init>", desc := "()V" } : Jvm.MethodName)) a0 Z = true := hw _ (List.mem_of_getElem? (i := 52) rfl)
theorem d11_4 : decode prog_8_method_1_code 4 = .ok (.aload_n 0, 1) := by decide +kernel
theorem d11_5 : decode prog_8_method_1_code 5 = .ok (.aload_n 1, 1) := by decide +kernel
theorem d11_6 : decode prog_8_method_1_code 6 = .ok (.putfield 9, 3) := by decide +kernel
theorem w_58 {Z : State} {a0 : Array Value} (hw : ∀ d ∈ tables_1, d.before a0 Z = true) : Jvm.Cond.before (Jvm.Cond.laysFinal "com/example/hanko/hanko/access/GitConfig$Entry" "com/example/hanko/hanko/access/GitConfig$Entry" "section" "Ljava/lang/String;") a0 Z = true := hw _ (List.mem_of_getElem? (i := 58) rfl)
theorem w_57 {Z : State} {a0 : Array Value} (hw : ∀ d ∈ tables_1, d.before a0 Z = true) : Jvm.Cond.before (Jvm.Cond.fieldLink "com/example/hanko/hanko/access/GitConfig$Entry" (9 : Nat) "com/example/hanko/hanko/access/GitConfig$Entry" "section" "Ljava/lang/String;") a0 Z = true := hw _ (List.mem_of_getElem? (i := 57) rfl)
theorem w_46 {Z : State} {a0 : Array Value} (hw : ∀ d ∈ tables_1, d.before a0 Z = true) : Jvm.Cond.before (Jvm.Cond.instantiable "com/example/hanko/hanko/access/GitConfig$Entry" (5 : Nat)) a0 Z = true := hw _ (List.mem_of_getElem? (i := 46) rfl)
theorem w_60 {Z : State} {a0 : Array Value} (hw : ∀ d ∈ tables_1, d.before a0 Z = true) : Jvm.Cond.before (Jvm.Cond.laysFinal "com/example/hanko/hanko/access/GitConfig$Entry" "com/example/hanko/hanko/access/GitConfig$Entry" "subsection" "Ljava/lang/String;") a0 Z = true := hw _ (List.mem_of_getElem? (i := 60) rfl)
theorem w_62 {Z : State} {a0 : Array Value} (hw : ∀ d ∈ tables_1, d.before a0 Z = true) : Jvm.Cond.before (Jvm.Cond.laysFinal "com/example/hanko/hanko/access/GitConfig$Entry" "com/example/hanko/hanko/access/GitConfig$Entry" "key" "Ljava/lang/String;") a0 Z = true := hw _ (List.mem_of_getElem? (i := 62) rfl)
theorem w_64 {Z : State} {a0 : Array Value} (hw : ∀ d ∈ tables_1, d.before a0 Z = true) : Jvm.Cond.before (Jvm.Cond.laysFinal "com/example/hanko/hanko/access/GitConfig$Entry" "com/example/hanko/hanko/access/GitConfig$Entry" "value" "Ljava/lang/String;") a0 Z = true := hw _ (List.mem_of_getElem? (i := 64) rfl)
theorem w_66 {Z : State} {a0 : Array Value} (hw : ∀ d ∈ tables_1, d.before a0 Z = true) : Jvm.Cond.before (Jvm.Cond.laysFinal "com/example/hanko/hanko/access/GitConfig$Entry" "com/example/hanko/hanko/access/GitConfig$Entry" "line" "I") a0 Z = true := hw _ (List.mem_of_getElem? (i := 66) rfl)
theorem d11_9 : decode prog_8_method_1_code 9 = .ok (.aload_n 0, 1) := by decide +kernel
theorem d11_10 : decode prog_8_method_1_code 10 = .ok (.aload_n 2, 1) := by decide +kernel
theorem d11_11 : decode prog_8_method_1_code 11 = .ok (.putfield 15, 3) := by decide +kernel
theorem w_59 {Z : State} {a0 : Array Value} (hw : ∀ d ∈ tables_1, d.before a0 Z = true) : Jvm.Cond.before (Jvm.Cond.fieldLink "com/example/hanko/hanko/access/GitConfig$Entry" (15 : Nat) "com/example/hanko/hanko/access/GitConfig$Entry" "subsection" "Ljava/lang/String;") a0 Z = true := hw _ (List.mem_of_getElem? (i := 59) rfl)
theorem d11_14 : decode prog_8_method_1_code 14 = .ok (.aload_n 0, 1) := by decide +kernel
theorem d11_15 : decode prog_8_method_1_code 15 = .ok (.aload_n 3, 1) := by decide +kernel
theorem d11_16 : decode prog_8_method_1_code 16 = .ok (.putfield 18, 3) := by decide +kernel
theorem w_61 {Z : State} {a0 : Array Value} (hw : ∀ d ∈ tables_1, d.before a0 Z = true) : Jvm.Cond.before (Jvm.Cond.fieldLink "com/example/hanko/hanko/access/GitConfig$Entry" (18 : Nat) "com/example/hanko/hanko/access/GitConfig$Entry" "key" "Ljava/lang/String;") a0 Z = true := hw _ (List.mem_of_getElem? (i := 61) rfl)
theorem d11_19 : decode prog_8_method_1_code 19 = .ok (.aload_n 0, 1) := by decide +kernel
theorem d11_20 : decode prog_8_method_1_code 20 = .ok (.aload 4, 2) := by decide +kernel
theorem d11_22 : decode prog_8_method_1_code 22 = .ok (.putfield 21, 3) := by decide +kernel
theorem w_63 {Z : State} {a0 : Array Value} (hw : ∀ d ∈ tables_1, d.before a0 Z = true) : Jvm.Cond.before (Jvm.Cond.fieldLink "com/example/hanko/hanko/access/GitConfig$Entry" (21 : Nat) "com/example/hanko/hanko/access/GitConfig$Entry" "value" "Ljava/lang/String;") a0 Z = true := hw _ (List.mem_of_getElem? (i := 63) rfl)
theorem d11_25 : decode prog_8_method_1_code 25 = .ok (.aload_n 0, 1) := by decide +kernel
theorem d11_26 : decode prog_8_method_1_code 26 = .ok (.iload 5, 2) := by decide +kernel
theorem d11_28 : decode prog_8_method_1_code 28 = .ok (.putfield 24, 3) := by decide +kernel
theorem w_65 {Z : State} {a0 : Array Value} (hw : ∀ d ∈ tables_1, d.before a0 Z = true) : Jvm.Cond.before (Jvm.Cond.fieldLink "com/example/hanko/hanko/access/GitConfig$Entry" (24 : Nat) "com/example/hanko/hanko/access/GitConfig$Entry" "line" "I") a0 Z = true := hw _ (List.mem_of_getElem? (i := 65) rfl)
theorem d11_31 : decode prog_8_method_1_code 31 = .ok (.return_, 1) := by decide +kernel
def Q11_s (Z : State) (o1 : Addr) (o2 : Addr) (o3 : Addr) (o4 : Addr) (o5 : Addr) (i1 : Int32) (h0 : Heap) (n0 : Nat) (v : Option Value) (h : Heap) (L : List Loc) : Prop := v = none ∧ Fr n0 L ∧ Keep h0 h [o1] ∧ Exa Z h o1 "com/example/hanko/hanko/access/GitConfig$Entry" ∧ Fld Z h o1 "com/example/hanko/hanko/access/GitConfig$Entry" "value" "Ljava/lang/String;" (.ref o5)
theorem pn_11 : plainName "com/example/hanko/hanko/access/GitConfig$Entry" = true := by first | (simp [plainName, overriddenIn]; done) | decide +kernel
set_option maxRecDepth 65536 in
set_option maxHeartbeats 40000000 in
theorem rm11_s (l : Launch) (Z : State) (a0 : Array Value) (hw : ∀ d ∈ tables_1, d.before a0 Z = true) (ws : List Jvm.Cond) (o1 : Addr) (o2 : Addr) (o3 : Addr) (o4 : Addr) (o5 : Addr) (i1 : Int32) (h0 : Heap) (n0 : Nat) (Z0 : n0 ≤ h0.size) (F0 : Exa Z h0 o1 "com/example/hanko/hanko/access/GitConfig$Entry") (F1 : Fld Z h0 o1 "com/example/hanko/hanko/access/GitConfig$Entry" "section" "Ljava/lang/String;" .null) (F2 : Fld Z h0 o1 "com/example/hanko/hanko/access/GitConfig$Entry" "subsection" "Ljava/lang/String;" .null) (F3 : Fld Z h0 o1 "com/example/hanko/hanko/access/GitConfig$Entry" "key" "Ljava/lang/String;" .null) (F4 : Fld Z h0 o1 "com/example/hanko/hanko/access/GitConfig$Entry" "value" "Ljava/lang/String;" .null) (F5 : Fld Z h0 o1 "com/example/hanko/hanko/access/GitConfig$Entry" "line" "I" (.int (0 : Int32))) (gn_o1 : n0 ≤ o1) :
    MetFree l (⟨"com/example/hanko/hanko/access/GitConfig$Entry", "<init>", "(Ljava/lang/String;Ljava/lang/String;Ljava/lang/String;Ljava/lang/String;I)V"⟩ : MethodName) (head1 (Jvm.Cond.code (⟨"com/example/hanko/hanko/access/GitConfig$Entry", "<init>", "(Ljava/lang/String;Ljava/lang/String;Ljava/lang/String;Ljava/lang/String;I)V"⟩ : MethodName) prog_8_method_1_code 6 none :: ws) ({ frames := 2, cells := 0, slots := 0, locals := 24 } : Room)) (fun a U => a = #[(.ref o1), (.ref o2), (.ref o3), (.ref o4), (.ref o5), (.int i1)] ∧ Z.Warmed39 U.vm ∧ U.heap = h0) (fun _ _ _ _ _ => True) (fun _ U o U' => ∃ v L, o = .returned v ∧ Q11_s Z o1 o2 o3 o4 o5 i1 h0 n0 v U'.heap L ∧ FrameEnd U o U' L ({ frames := 2, cells := 0, slots := 0, locals := 24 } : Room).cells ({ frames := 2, cells := 0, slots := 0, locals := 24 } : Room).slots) := by
  refine body_of (y := (⟨"com/example/hanko/hanko/access/GitConfig$Entry", "<init>", "(Ljava/lang/String;Ljava/lang/String;Ljava/lang/String;Ljava/lang/String;I)V"⟩ : MethodName)) (Q := Q11_s Z o1 o2 o3 o4 o5 i1 h0 n0) (plainFor_of_name pn_11) ?_
  intro p e s m below meth c T0 G C hnm hnamed X0 e0 K
  have N0 := Fr.nil n0
  refine Goes.to (congrArg T0.setTop (ef_11 m o1 o2 o3 o4 o5 i1)) ?_
  have K00 := Keep.refl h0 [o1]
  refine g_aloadN C X0 d11_0 (pc' := 1) rfl rfl rfl ?_
  refine g_callI C X0 rfl (w_51 hw) (w_52 hw) (w_54 hw) (w_55 hw) (by decide) d11_1 (rm12 l Z a0 hw [] o1 h0 n0 Z0 ) (by decide) (by decide) rfl pd_12 rfl (argsL := []) (rest := []) rfl (W := 0) (Nat.le_of_eq rfl) e0 (by decide) (by decide) (pc' := 4) rfl (fun u1 T1 L1 X1 hQ1 => ?_)
  obtain ⟨rfl, Nq1, eq1⟩ := hQ1
  have N1 := Fr.app N0 Nq1
  show Goes p.tables e below G (T1.setTop (mkF m 4 #[.val (.ref o1), .val (.ref o2), .val (.ref o3), .val (.ref o4), .val (.ref o5), .val (.int i1)] []))
  refine g_aloadN C X1 d11_4 (pc' := 5) rfl rfl rfl ?_
  refine g_aloadN C X1 d11_5 (pc' := 6) rfl rfl rfl ?_
  refine g_putF C X1 (w_57 hw) Via.refl eq1 F1 F0 (Or.inr ⟨(w_58 hw), rfl, hnm⟩) (w_46 hw) (ty := (.object "java/lang/String")) (by decide) rfl rfl d11_6 (pc' := 9) rfl (fun T2 h2 X2 e2 W2 => ?_)
  have f3 := F0.wr W2
  have f4 := F1.same W2
  have f5 := F2.other W2 (Or.inr (slot_ne (Or.inr (w_60 hw)) (Or.inr (w_58 hw)) (by decide) (t := (.object "java/lang/String")) (t' := (.object "java/lang/String")) (by decide) (by decide)))
  have f6 := F3.other W2 (Or.inr (slot_ne (Or.inr (w_62 hw)) (Or.inr (w_58 hw)) (by decide) (t := (.object "java/lang/String")) (t' := (.object "java/lang/String")) (by decide) (by decide)))
  have f7 := F4.other W2 (Or.inr (slot_ne (Or.inr (w_64 hw)) (Or.inr (w_58 hw)) (by decide) (t := (.object "java/lang/String")) (t' := (.object "java/lang/String")) (by decide) (by decide)))
  have f8 := F5.other W2 (Or.inr (slot_ne (Or.inr (w_66 hw)) (Or.inr (w_58 hw)) (by decide) (t := .int) (t' := (.object "java/lang/String")) (by decide) (by decide)))
  have N2 := Fr.snoc X2 N1 gn_o1
  have Z2 := Nat.le_trans Z0 (Nat.le_of_eq W2.size.symm)
  have K2 := K00.wr W2 (Or.inl (List.mem_of_getElem? (i := 0) rfl))
  refine g_aloadN C X2 d11_9 (pc' := 10) rfl rfl rfl ?_
  refine g_aloadN C X2 d11_10 (pc' := 11) rfl rfl rfl ?_
  refine g_putF C X2 (w_59 hw) Via.refl e2 f5 f3 (Or.inr ⟨(w_60 hw), rfl, hnm⟩) (w_46 hw) (ty := (.object "java/lang/String")) (by decide) rfl rfl d11_11 (pc' := 14) rfl (fun T9 h9 X9 e9 W9 => ?_)
  have f10 := f3.wr W9
  have f11 := f4.other W9 (Or.inr (slot_ne (Or.inr (w_58 hw)) (Or.inr (w_60 hw)) (by decide) (t := (.object "java/lang/String")) (t' := (.object "java/lang/String")) (by decide) (by decide)))
  have f12 := f5.same W9
  have f13 := f6.other W9 (Or.inr (slot_ne (Or.inr (w_62 hw)) (Or.inr (w_60 hw)) (by decide) (t := (.object "java/lang/String")) (t' := (.object "java/lang/String")) (by decide) (by decide)))
  have f14 := f7.other W9 (Or.inr (slot_ne (Or.inr (w_64 hw)) (Or.inr (w_60 hw)) (by decide) (t := (.object "java/lang/String")) (t' := (.object "java/lang/String")) (by decide) (by decide)))
  have f15 := f8.other W9 (Or.inr (slot_ne (Or.inr (w_66 hw)) (Or.inr (w_60 hw)) (by decide) (t := .int) (t' := (.object "java/lang/String")) (by decide) (by decide)))
  have N9 := Fr.snoc X9 N2 gn_o1
  have Z9 := Nat.le_trans Z2 (Nat.le_of_eq W9.size.symm)
  have K9 := K2.wr W9 (Or.inl (List.mem_of_getElem? (i := 0) rfl))
  refine g_aloadN C X9 d11_14 (pc' := 15) rfl rfl rfl ?_
  refine g_aloadN C X9 d11_15 (pc' := 16) rfl rfl rfl ?_
  refine g_putF C X9 (w_61 hw) Via.refl e9 f13 f10 (Or.inr ⟨(w_62 hw), rfl, hnm⟩) (w_46 hw) (ty := (.object "java/lang/String")) (by decide) rfl rfl d11_16 (pc' := 19) rfl (fun T16 h16 X16 e16 W16 => ?_)
  have f17 := f10.wr W16
  have f18 := f11.other W16 (Or.inr (slot_ne (Or.inr (w_58 hw)) (Or.inr (w_62 hw)) (by decide) (t := (.object "java/lang/String")) (t' := (.object "java/lang/String")) (by decide) (by decide)))
  have f19 := f12.other W16 (Or.inr (slot_ne (Or.inr (w_60 hw)) (Or.inr (w_62 hw)) (by decide) (t := (.object "java/lang/String")) (t' := (.object "java/lang/String")) (by decide) (by decide)))
  have f20 := f13.same W16
  have f21 := f14.other W16 (Or.inr (slot_ne (Or.inr (w_64 hw)) (Or.inr (w_62 hw)) (by decide) (t := (.object "java/lang/String")) (t' := (.object "java/lang/String")) (by decide) (by decide)))
  have f22 := f15.other W16 (Or.inr (slot_ne (Or.inr (w_66 hw)) (Or.inr (w_62 hw)) (by decide) (t := .int) (t' := (.object "java/lang/String")) (by decide) (by decide)))
  have N16 := Fr.snoc X16 N9 gn_o1
  have Z16 := Nat.le_trans Z9 (Nat.le_of_eq W16.size.symm)
  have K16 := K9.wr W16 (Or.inl (List.mem_of_getElem? (i := 0) rfl))
  refine g_aloadN C X16 d11_19 (pc' := 20) rfl rfl rfl ?_
  refine g_aload C X16 d11_20 (pc' := 22) rfl rfl rfl ?_
  refine g_putF C X16 (w_63 hw) Via.refl e16 f21 f17 (Or.inr ⟨(w_64 hw), rfl, hnm⟩) (w_46 hw) (ty := (.object "java/lang/String")) (by decide) rfl rfl d11_22 (pc' := 25) rfl (fun T23 h23 X23 e23 W23 => ?_)
  have f24 := f17.wr W23
  have f25 := f18.other W23 (Or.inr (slot_ne (Or.inr (w_58 hw)) (Or.inr (w_64 hw)) (by decide) (t := (.object "java/lang/String")) (t' := (.object "java/lang/String")) (by decide) (by decide)))
  have f26 := f19.other W23 (Or.inr (slot_ne (Or.inr (w_60 hw)) (Or.inr (w_64 hw)) (by decide) (t := (.object "java/lang/String")) (t' := (.object "java/lang/String")) (by decide) (by decide)))
  have f27 := f20.other W23 (Or.inr (slot_ne (Or.inr (w_62 hw)) (Or.inr (w_64 hw)) (by decide) (t := (.object "java/lang/String")) (t' := (.object "java/lang/String")) (by decide) (by decide)))
  have f28 := f21.same W23
  have f29 := f22.other W23 (Or.inr (slot_ne (Or.inr (w_66 hw)) (Or.inr (w_64 hw)) (by decide) (t := .int) (t' := (.object "java/lang/String")) (by decide) (by decide)))
  have N23 := Fr.snoc X23 N16 gn_o1
  have Z23 := Nat.le_trans Z16 (Nat.le_of_eq W23.size.symm)
  have K23 := K16.wr W23 (Or.inl (List.mem_of_getElem? (i := 0) rfl))
  refine g_aloadN C X23 d11_25 (pc' := 26) rfl rfl rfl ?_
  refine g_iload C X23 d11_26 (pc' := 28) rfl rfl ?_
  refine g_putF C X23 (w_65 hw) Via.refl e23 f29 f24 (Or.inr ⟨(w_66 hw), rfl, hnm⟩) (w_46 hw) (ty := .int) (by decide) rfl rfl d11_28 (pc' := 31) rfl (fun T30 h30 X30 e30 W30 => ?_)
  have f31 := f24.wr W30
  have f32 := f25.other W30 (Or.inr (slot_ne (Or.inr (w_58 hw)) (Or.inr (w_66 hw)) (by decide) (t := (.object "java/lang/String")) (t' := .int) (by decide) (by decide)))
  have f33 := f26.other W30 (Or.inr (slot_ne (Or.inr (w_60 hw)) (Or.inr (w_66 hw)) (by decide) (t := (.object "java/lang/String")) (t' := .int) (by decide) (by decide)))
  have f34 := f27.other W30 (Or.inr (slot_ne (Or.inr (w_62 hw)) (Or.inr (w_66 hw)) (by decide) (t := (.object "java/lang/String")) (t' := .int) (by decide) (by decide)))
  have f35 := f28.other W30 (Or.inr (slot_ne (Or.inr (w_64 hw)) (Or.inr (w_66 hw)) (by decide) (t := (.object "java/lang/String")) (t' := .int) (by decide) (by decide)))
  have f36 := f29.same W30
  have N30 := Fr.snoc X30 N23 gn_o1
  have Z30 := Nat.le_trans Z23 (Nat.le_of_eq W30.size.symm)
  have K30 := K23.wr W30 (Or.inl (List.mem_of_getElem? (i := 0) rfl))
  exact g_retV C X30 K d11_31 (by decide) (by decide) e30 ⟨rfl, N30, K30, f31, f35⟩
theorem ef_11n2 (m : MethodId) (o1 : Addr) (o2 : Addr) (o4 : Addr) (o5 : Addr) (i1 : Int32) : entryFrame m #[(.ref o1), (.ref o2), .null, (.ref o4), (.ref o5), (.int i1)] 6 = mkF m 0 #[.val (.ref o1), .val (.ref o2), .val .null, .val (.ref o4), .val (.ref o5), .val (.int i1)] [] := by first | (simp [entryFrame, mkF, argsToLocals, Value.category]; done) | rfl
def Q11_n (Z : State) (o1 : Addr) (o2 : Addr) (o4 : Addr) (o5 : Addr) (i1 : Int32) (h0 : Heap) (n0 : Nat) (v : Option Value) (h : Heap) (L : List Loc) : Prop := v = none ∧ Fr n0 L ∧ Keep h0 h [o1] ∧ Exa Z h o1 "com/example/hanko/hanko/access/GitConfig$Entry" ∧ Fld Z h o1 "com/example/hanko/hanko/access/GitConfig$Entry" "value" "Ljava/lang/String;" (.ref o5)
set_option maxRecDepth 65536 in
set_option maxHeartbeats 40000000 in
theorem rm11_n (l : Launch) (Z : State) (a0 : Array Value) (hw : ∀ d ∈ tables_1, d.before a0 Z = true) (ws : List Jvm.Cond) (o1 : Addr) (o2 : Addr) (o4 : Addr) (o5 : Addr) (i1 : Int32) (h0 : Heap) (n0 : Nat) (Z0 : n0 ≤ h0.size) (F0 : Exa Z h0 o1 "com/example/hanko/hanko/access/GitConfig$Entry") (F1 : Fld Z h0 o1 "com/example/hanko/hanko/access/GitConfig$Entry" "section" "Ljava/lang/String;" .null) (F2 : Fld Z h0 o1 "com/example/hanko/hanko/access/GitConfig$Entry" "subsection" "Ljava/lang/String;" .null) (F3 : Fld Z h0 o1 "com/example/hanko/hanko/access/GitConfig$Entry" "key" "Ljava/lang/String;" .null) (F4 : Fld Z h0 o1 "com/example/hanko/hanko/access/GitConfig$Entry" "value" "Ljava/lang/String;" .null) (F5 : Fld Z h0 o1 "com/example/hanko/hanko/access/GitConfig$Entry" "line" "I" (.int (0 : Int32))) (gn_o1 : n0 ≤ o1) :
    MetFree l (⟨"com/example/hanko/hanko/access/GitConfig$Entry", "<init>", "(Ljava/lang/String;Ljava/lang/String;Ljava/lang/String;Ljava/lang/String;I)V"⟩ : MethodName) (head1 (Jvm.Cond.code (⟨"com/example/hanko/hanko/access/GitConfig$Entry", "<init>", "(Ljava/lang/String;Ljava/lang/String;Ljava/lang/String;Ljava/lang/String;I)V"⟩ : MethodName) prog_8_method_1_code 6 none :: ws) ({ frames := 2, cells := 0, slots := 0, locals := 24 } : Room)) (fun a U => a = #[(.ref o1), (.ref o2), .null, (.ref o4), (.ref o5), (.int i1)] ∧ Z.Warmed39 U.vm ∧ U.heap = h0) (fun _ _ _ _ _ => True) (fun _ U o U' => ∃ v L, o = .returned v ∧ Q11_n Z o1 o2 o4 o5 i1 h0 n0 v U'.heap L ∧ FrameEnd U o U' L ({ frames := 2, cells := 0, slots := 0, locals := 24 } : Room).cells ({ frames := 2, cells := 0, slots := 0, locals := 24 } : Room).slots) := by
  refine body_of (y := (⟨"com/example/hanko/hanko/access/GitConfig$Entry", "<init>", "(Ljava/lang/String;Ljava/lang/String;Ljava/lang/String;Ljava/lang/String;I)V"⟩ : MethodName)) (Q := Q11_n Z o1 o2 o4 o5 i1 h0 n0) (plainFor_of_name pn_11) ?_
  intro p e s m below meth c T0 G C hnm hnamed X0 e0 K
  have N0 := Fr.nil n0
  refine Goes.to (congrArg T0.setTop (ef_11n2 m o1 o2 o4 o5 i1)) ?_
  have K00 := Keep.refl h0 [o1]
  refine g_aloadN C X0 d11_0 (pc' := 1) rfl rfl rfl ?_
  refine g_callI C X0 rfl (w_51 hw) (w_52 hw) (w_54 hw) (w_55 hw) (by decide) d11_1 (rm12 l Z a0 hw [] o1 h0 n0 Z0 ) (by decide) (by decide) rfl pd_12 rfl (argsL := []) (rest := []) rfl (W := 0) (Nat.le_of_eq rfl) e0 (by decide) (by decide) (pc' := 4) rfl (fun u1 T1 L1 X1 hQ1 => ?_)
  obtain ⟨rfl, Nq1, eq1⟩ := hQ1
  have N1 := Fr.app N0 Nq1
  show Goes p.tables e below G (T1.setTop (mkF m 4 #[.val (.ref o1), .val (.ref o2), .val .null, .val (.ref o4), .val (.ref o5), .val (.int i1)] []))
  refine g_aloadN C X1 d11_4 (pc' := 5) rfl rfl rfl ?_
  refine g_aloadN C X1 d11_5 (pc' := 6) rfl rfl rfl ?_
  refine g_putF C X1 (w_57 hw) Via.refl eq1 F1 F0 (Or.inr ⟨(w_58 hw), rfl, hnm⟩) (w_46 hw) (ty := (.object "java/lang/String")) (by decide) rfl rfl d11_6 (pc' := 9) rfl (fun T2 h2 X2 e2 W2 => ?_)
  have f3 := F0.wr W2
  have f4 := F1.same W2
  have f5 := F2.other W2 (Or.inr (slot_ne (Or.inr (w_60 hw)) (Or.inr (w_58 hw)) (by decide) (t := (.object "java/lang/String")) (t' := (.object "java/lang/String")) (by decide) (by decide)))
  have f6 := F3.other W2 (Or.inr (slot_ne (Or.inr (w_62 hw)) (Or.inr (w_58 hw)) (by decide) (t := (.object "java/lang/String")) (t' := (.object "java/lang/String")) (by decide) (by decide)))
  have f7 := F4.other W2 (Or.inr (slot_ne (Or.inr (w_64 hw)) (Or.inr (w_58 hw)) (by decide) (t := (.object "java/lang/String")) (t' := (.object "java/lang/String")) (by decide) (by decide)))
  have f8 := F5.other W2 (Or.inr (slot_ne (Or.inr (w_66 hw)) (Or.inr (w_58 hw)) (by decide) (t := .int) (t' := (.object "java/lang/String")) (by decide) (by decide)))
  have N2 := Fr.snoc X2 N1 gn_o1
  have Z2 := Nat.le_trans Z0 (Nat.le_of_eq W2.size.symm)
  have K2 := K00.wr W2 (Or.inl (List.mem_of_getElem? (i := 0) rfl))
  refine g_aloadN C X2 d11_9 (pc' := 10) rfl rfl rfl ?_
  refine g_aloadN C X2 d11_10 (pc' := 11) rfl rfl rfl ?_
  refine g_putF C X2 (w_59 hw) Via.refl e2 f5 f3 (Or.inr ⟨(w_60 hw), rfl, hnm⟩) (w_46 hw) (ty := (.object "java/lang/String")) (by decide) rfl rfl d11_11 (pc' := 14) rfl (fun T9 h9 X9 e9 W9 => ?_)
  have f10 := f3.wr W9
  have f11 := f4.other W9 (Or.inr (slot_ne (Or.inr (w_58 hw)) (Or.inr (w_60 hw)) (by decide) (t := (.object "java/lang/String")) (t' := (.object "java/lang/String")) (by decide) (by decide)))
  have f12 := f5.same W9
  have f13 := f6.other W9 (Or.inr (slot_ne (Or.inr (w_62 hw)) (Or.inr (w_60 hw)) (by decide) (t := (.object "java/lang/String")) (t' := (.object "java/lang/String")) (by decide) (by decide)))
  have f14 := f7.other W9 (Or.inr (slot_ne (Or.inr (w_64 hw)) (Or.inr (w_60 hw)) (by decide) (t := (.object "java/lang/String")) (t' := (.object "java/lang/String")) (by decide) (by decide)))
  have f15 := f8.other W9 (Or.inr (slot_ne (Or.inr (w_66 hw)) (Or.inr (w_60 hw)) (by decide) (t := .int) (t' := (.object "java/lang/String")) (by decide) (by decide)))
  have N9 := Fr.snoc X9 N2 gn_o1
  have Z9 := Nat.le_trans Z2 (Nat.le_of_eq W9.size.symm)
  have K9 := K2.wr W9 (Or.inl (List.mem_of_getElem? (i := 0) rfl))
  refine g_aloadN C X9 d11_14 (pc' := 15) rfl rfl rfl ?_
  refine g_aloadN C X9 d11_15 (pc' := 16) rfl rfl rfl ?_
  refine g_putF C X9 (w_61 hw) Via.refl e9 f13 f10 (Or.inr ⟨(w_62 hw), rfl, hnm⟩) (w_46 hw) (ty := (.object "java/lang/String")) (by decide) rfl rfl d11_16 (pc' := 19) rfl (fun T16 h16 X16 e16 W16 => ?_)
  have f17 := f10.wr W16
  have f18 := f11.other W16 (Or.inr (slot_ne (Or.inr (w_58 hw)) (Or.inr (w_62 hw)) (by decide) (t := (.object "java/lang/String")) (t' := (.object "java/lang/String")) (by decide) (by decide)))
  have f19 := f12.other W16 (Or.inr (slot_ne (Or.inr (w_60 hw)) (Or.inr (w_62 hw)) (by decide) (t := (.object "java/lang/String")) (t' := (.object "java/lang/String")) (by decide) (by decide)))
  have f20 := f13.same W16
  have f21 := f14.other W16 (Or.inr (slot_ne (Or.inr (w_64 hw)) (Or.inr (w_62 hw)) (by decide) (t := (.object "java/lang/String")) (t' := (.object "java/lang/String")) (by decide) (by decide)))
  have f22 := f15.other W16 (Or.inr (slot_ne (Or.inr (w_66 hw)) (Or.inr (w_62 hw)) (by decide) (t := .int) (t' := (.object "java/lang/String")) (by decide) (by decide)))
  have N16 := Fr.snoc X16 N9 gn_o1
  have Z16 := Nat.le_trans Z9 (Nat.le_of_eq W16.size.symm)
  have K16 := K9.wr W16 (Or.inl (List.mem_of_getElem? (i := 0) rfl))
  refine g_aloadN C X16 d11_19 (pc' := 20) rfl rfl rfl ?_
  refine g_aload C X16 d11_20 (pc' := 22) rfl rfl rfl ?_
  refine g_putF C X16 (w_63 hw) Via.refl e16 f21 f17 (Or.inr ⟨(w_64 hw), rfl, hnm⟩) (w_46 hw) (ty := (.object "java/lang/String")) (by decide) rfl rfl d11_22 (pc' := 25) rfl (fun T23 h23 X23 e23 W23 => ?_)
  have f24 := f17.wr W23
  have f25 := f18.other W23 (Or.inr (slot_ne (Or.inr (w_58 hw)) (Or.inr (w_64 hw)) (by decide) (t := (.object "java/lang/String")) (t' := (.object "java/lang/String")) (by decide) (by decide)))
  have f26 := f19.other W23 (Or.inr (slot_ne (Or.inr (w_60 hw)) (Or.inr (w_64 hw)) (by decide) (t := (.object "java/lang/String")) (t' := (.object "java/lang/String")) (by decide) (by decide)))
  have f27 := f20.other W23 (Or.inr (slot_ne (Or.inr (w_62 hw)) (Or.inr (w_64 hw)) (by decide) (t := (.object "java/lang/String")) (t' := (.object "java/lang/String")) (by decide) (by decide)))
  have f28 := f21.same W23
  have f29 := f22.other W23 (Or.inr (slot_ne (Or.inr (w_66 hw)) (Or.inr (w_64 hw)) (by decide) (t := .int) (t' := (.object "java/lang/String")) (by decide) (by decide)))
  have N23 := Fr.snoc X23 N16 gn_o1
  have Z23 := Nat.le_trans Z16 (Nat.le_of_eq W23.size.symm)
  have K23 := K16.wr W23 (Or.inl (List.mem_of_getElem? (i := 0) rfl))
  refine g_aloadN C X23 d11_25 (pc' := 26) rfl rfl rfl ?_
  refine g_iload C X23 d11_26 (pc' := 28) rfl rfl ?_
  refine g_putF C X23 (w_65 hw) Via.refl e23 f29 f24 (Or.inr ⟨(w_66 hw), rfl, hnm⟩) (w_46 hw) (ty := .int) (by decide) rfl rfl d11_28 (pc' := 31) rfl (fun T30 h30 X30 e30 W30 => ?_)
  have f31 := f24.wr W30
  have f32 := f25.other W30 (Or.inr (slot_ne (Or.inr (w_58 hw)) (Or.inr (w_66 hw)) (by decide) (t := (.object "java/lang/String")) (t' := .int) (by decide) (by decide)))
  have f33 := f26.other W30 (Or.inr (slot_ne (Or.inr (w_60 hw)) (Or.inr (w_66 hw)) (by decide) (t := (.object "java/lang/String")) (t' := .int) (by decide) (by decide)))
  have f34 := f27.other W30 (Or.inr (slot_ne (Or.inr (w_62 hw)) (Or.inr (w_66 hw)) (by decide) (t := (.object "java/lang/String")) (t' := .int) (by decide) (by decide)))
  have f35 := f28.other W30 (Or.inr (slot_ne (Or.inr (w_64 hw)) (Or.inr (w_66 hw)) (by decide) (t := (.object "java/lang/String")) (t' := .int) (by decide) (by decide)))
  have f36 := f29.same W30
  have N30 := Fr.snoc X30 N23 gn_o1
  have Z30 := Nat.le_trans Z23 (Nat.le_of_eq W30.size.symm)
  have K30 := K23.wr W30 (Or.inl (List.mem_of_getElem? (i := 0) rfl))
  exact g_retV C X30 K d11_31 (by decide) (by decide) e30 ⟨rfl, N30, K30, f31, f35⟩
theorem ef_13 (m : MethodId) (o1 : Addr) : entryFrame m #[(.ref o1)] 1 = mkF m 0 #[.val (.ref o1)] [] := by first | (simp [entryFrame, mkF, argsToLocals, Value.category]; done) | rfl
theorem d13_0 : decode prog_8_method_2_code 0 = .ok (.aload_n 0, 1) := by decide +kernel
theorem d13_1 : decode prog_8_method_2_code 1 = .ok (.getfield 21, 3) := by decide +kernel
theorem d13_4 : decode prog_8_method_2_code 4 = .ok (.ifnull 13, 3) := by decide +kernel
theorem d13_7 : decode prog_8_method_2_code 7 = .ok (.aload_n 0, 1) := by decide +kernel
theorem d13_8 : decode prog_8_method_2_code 8 = .ok (.getfield 21, 3) := by decide +kernel
theorem d13_11 : decode prog_8_method_2_code 11 = .ok (.invokevirtual 28, 3) := by decide +kernel
theorem w_76 {Z : State} {a0 : Array Value} (hw : ∀ d ∈ tables_1, d.before a0 Z = true) : Jvm.Cond.before (Jvm.Cond.code ({ cls := "java/lang/String", name := "isEmpty", desc := "()Z" } : Jvm.MethodName) jdk_42_method_55_code (1 : Nat) (Option.some Jvm.ClassFile.FieldType.boolean)) a0 Z = true := hw _ (List.mem_of_getElem? (i := 76) rfl)
theorem w_72 {Z : State} {a0 : Array Value} (hw : ∀ d ∈ tables_1, d.before a0 Z = true) : Jvm.Cond.before (Jvm.Cond.methodLink "com/example/hanko/hanko/access/GitConfig$Entry" (28 : Nat) ({ cls := "java/lang/String", name := "isEmpty", desc := "()Z" } : Jvm.MethodName)) a0 Z = true := hw _ (List.mem_of_getElem? (i := 72) rfl)
theorem w_75 {Z : State} {a0 : Array Value} (hw : ∀ d ∈ tables_1, d.before a0 Z = true) : Jvm.Cond.before (Jvm.Cond.selects "java/lang/String" ({ cls := "java/lang/String", name := "isEmpty", desc := "()Z" } : Jvm.MethodName) ({ cls := "java/lang/String", name := "isEmpty", desc := "()Z" } : Jvm.MethodName)) a0 Z = true := hw _ (List.mem_of_getElem? (i := 75) rfl)
theorem w_73 {Z : State} {a0 : Array Value} (hw : ∀ d ∈ tables_1, d.before a0 Z = true) : Jvm.Cond.before (Jvm.Cond.declares ({ cls := "java/lang/String", name := "isEmpty", desc := "()Z" } : Jvm.MethodName)) a0 Z = true := hw _ (List.mem_of_getElem? (i := 73) rfl)
theorem w_74 {Z : State} {a0 : Array Value} (hw : ∀ d ∈ tables_1, d.before a0 Z = true) : Jvm.Cond.before (Jvm.Cond.instanceMethod ({ cls := "java/lang/String", name := "isEmpty", desc := "()Z" } : Jvm.MethodName)) a0 Z = true := hw _ (List.mem_of_getElem? (i := 74) rfl)
theorem d13_14 : decode prog_8_method_2_code 14 = .ok (.ifCond .eq 17, 3) := by decide +kernel
theorem d13_31 : decode prog_8_method_2_code 31 = .ok (.aload_n 0, 1) := by decide +kernel
theorem d13_32 : decode prog_8_method_2_code 32 = .ok (.getfield 21, 3) := by decide +kernel
theorem d13_35 : decode prog_8_method_2_code 35 = .ok (.areturn, 1) := by decide +kernel
def Q13_1 (Z : State) (o1 : Addr) (o2 : Addr) (o3 : Addr) (kd1 : ClassId) (c1 : Int32) (h0 : Heap) (n0 : Nat) (v : Option Value) (h : Heap) (L : List Loc) : Prop := v = some (.ref o2) ∧ Fr n0 L ∧ h = h0
set_option maxRecDepth 65536 in
set_option maxHeartbeats 40000000 in
theorem rm13_1 (l : Launch) (Z : State) (a0 : Array Value) (hw : ∀ d ∈ tables_1, d.before a0 Z = true) (ws : List Jvm.Cond) (o1 : Addr) (o2 : Addr) (o3 : Addr) (kd1 : ClassId) (c1 : Int32) (h0 : Heap) (n0 : Nat) (Z0 : n0 ≤ h0.size) (F0 : Exa Z h0 o1 "com/example/hanko/hanko/access/GitConfig$Entry") (F1 : Fld Z h0 o1 "com/example/hanko/hanko/access/GitConfig$Entry" "value" "Ljava/lang/String;" (.ref o2)) (F2 : Exa Z h0 o2 "java/lang/String") (F3 : Fld Z h0 o2 "java/lang/String" "value" "[B" (.ref o3)) (F4 : Fld Z h0 o2 "java/lang/String" "coder" "B" (.int (0 : Int32))) (F5 : Arv Z h0 o3 kd1 .byte (1 : Int32) [(.int c1)] (.int (0 : Int32))) :
    MetFree l (⟨"com/example/hanko/hanko/access/GitConfig$Entry", "required", "()Ljava/lang/String;"⟩ : MethodName) (head1 (Jvm.Cond.code (⟨"com/example/hanko/hanko/access/GitConfig$Entry", "required", "()Ljava/lang/String;"⟩ : MethodName) prog_8_method_2_code 1 (some (.object "java/lang/String")) :: ws) ({ frames := 1, cells := 0, slots := 0, locals := 12 } : Room)) (fun a U => a = #[(.ref o1)] ∧ Z.Warmed39 U.vm ∧ U.heap = h0) (fun _ _ _ _ _ => True) (fun _ U o U' => ∃ v L, o = .returned v ∧ Q13_1 Z o1 o2 o3 kd1 c1 h0 n0 v U'.heap L ∧ FrameEnd U o U' L ({ frames := 1, cells := 0, slots := 0, locals := 12 } : Room).cells ({ frames := 1, cells := 0, slots := 0, locals := 12 } : Room).slots) := by
  refine body_of (y := (⟨"com/example/hanko/hanko/access/GitConfig$Entry", "required", "()Ljava/lang/String;"⟩ : MethodName)) (Q := Q13_1 Z o1 o2 o3 kd1 c1 h0 n0) (plainFor_of_name pn_11) ?_
  intro p e s m below meth c T0 G C hnm hnamed X0 e0 K
  have N0 := Fr.nil n0
  refine Goes.to (congrArg T0.setTop (ef_13 m o1)) ?_
  refine g_aloadN C X0 d13_0 (pc' := 1) rfl rfl rfl ?_
  refine g_getF C X0 (w_63 hw) Via.refl e0 F1 d13_1 (pc' := 4) rfl (fun T1 X1 e1 => ?_)
  refine g_ifnullN C X1 d13_4 (pc' := 7) rfl ?_
  refine g_aloadN C X1 d13_7 (pc' := 8) rfl rfl rfl ?_
  refine g_getF C X1 (w_63 hw) Via.refl e1 F1 d13_8 (pc' := 11) rfl (fun T2 X2 e2 => ?_)
  refine g_callV C X2 (w_72 hw) (w_73 hw) (notFace_of_selects (args := #[]) (mvT C.2.1 (w_75 hw))) (w_75 hw) (w_74 hw) (w_76 hw) (w_4 hw) (by decide) F2 d13_11 (rm14_1 l Z a0 hw [] o2 o3 kd1 c1 h0 n0 Z0 F2 F3 F4 F5) (by decide) (by decide) rfl pd_7 rfl (argsL := []) (rest := []) rfl (W := 0) (Nat.le_of_eq rfl) e2 (by decide) (by decide) (pc' := 14) rfl (fun u3 T3 L3 X3 hQ3 => ?_)
  obtain ⟨rfl, Nq3, eq3⟩ := hQ3
  have N3 := Fr.app N0 Nq3
  show Goes p.tables e below G (T3.setTop (mkF m 14 #[.val (.ref o1)] [(.int (0 : Int32))]))
  refine g_if_eq C X3 d13_14 (pcT := 31) (pcN := 17) (by decide) (by decide) rfl (fun hc14 => ?_) (fun hc14 => absurd hc14 (by decide))
  refine g_aloadN C X3 d13_31 (pc' := 32) rfl rfl rfl ?_
  refine g_getF C X3 (w_63 hw) Via.refl eq3 F1 d13_32 (pc' := 35) rfl (fun T4 X4 e4 => ?_)
  exact g_retA C X4 K rfl rfl rfl d13_35 (by decide) (by decide) e4 ⟨rfl, N3, rfl⟩
def Q13_2 (Z : State) (o1 : Addr) (o2 : Addr) (o3 : Addr) (kd1 : ClassId) (c1 : Int32) (c2 : Int32) (h0 : Heap) (n0 : Nat) (v : Option Value) (h : Heap) (L : List Loc) : Prop := v = some (.ref o2) ∧ Fr n0 L ∧ h = h0
set_option maxRecDepth 65536 in
set_option maxHeartbeats 40000000 in
theorem rm13_2 (l : Launch) (Z : State) (a0 : Array Value) (hw : ∀ d ∈ tables_1, d.before a0 Z = true) (ws : List Jvm.Cond) (o1 : Addr) (o2 : Addr) (o3 : Addr) (kd1 : ClassId) (c1 : Int32) (c2 : Int32) (h0 : Heap) (n0 : Nat) (Z0 : n0 ≤ h0.size) (F0 : Exa Z h0 o1 "com/example/hanko/hanko/access/GitConfig$Entry") (F1 : Fld Z h0 o1 "com/example/hanko/hanko/access/GitConfig$Entry" "value" "Ljava/lang/String;" (.ref o2)) (F2 : Exa Z h0 o2 "java/lang/String") (F3 : Fld Z h0 o2 "java/lang/String" "value" "[B" (.ref o3)) (F4 : Fld Z h0 o2 "java/lang/String" "coder" "B" (.int (0 : Int32))) (F5 : Arv Z h0 o3 kd1 .byte (2 : Int32) [(.int c1), (.int c2)] (.int (0 : Int32))) :
    MetFree l (⟨"com/example/hanko/hanko/access/GitConfig$Entry", "required", "()Ljava/lang/String;"⟩ : MethodName) (head1 (Jvm.Cond.code (⟨"com/example/hanko/hanko/access/GitConfig$Entry", "required", "()Ljava/lang/String;"⟩ : MethodName) prog_8_method_2_code 1 (some (.object "java/lang/String")) :: ws) ({ frames := 1, cells := 0, slots := 0, locals := 12 } : Room)) (fun a U => a = #[(.ref o1)] ∧ Z.Warmed39 U.vm ∧ U.heap = h0) (fun _ _ _ _ _ => True) (fun _ U o U' => ∃ v L, o = .returned v ∧ Q13_2 Z o1 o2 o3 kd1 c1 c2 h0 n0 v U'.heap L ∧ FrameEnd U o U' L ({ frames := 1, cells := 0, slots := 0, locals := 12 } : Room).cells ({ frames := 1, cells := 0, slots := 0, locals := 12 } : Room).slots) := by
  refine body_of (y := (⟨"com/example/hanko/hanko/access/GitConfig$Entry", "required", "()Ljava/lang/String;"⟩ : MethodName)) (Q := Q13_2 Z o1 o2 o3 kd1 c1 c2 h0 n0) (plainFor_of_name pn_11) ?_
  intro p e s m below meth c T0 G C hnm hnamed X0 e0 K
  have N0 := Fr.nil n0
  refine Goes.to (congrArg T0.setTop (ef_13 m o1)) ?_
  refine g_aloadN C X0 d13_0 (pc' := 1) rfl rfl rfl ?_
  refine g_getF C X0 (w_63 hw) Via.refl e0 F1 d13_1 (pc' := 4) rfl (fun T1 X1 e1 => ?_)
  refine g_ifnullN C X1 d13_4 (pc' := 7) rfl ?_
  refine g_aloadN C X1 d13_7 (pc' := 8) rfl rfl rfl ?_
  refine g_getF C X1 (w_63 hw) Via.refl e1 F1 d13_8 (pc' := 11) rfl (fun T2 X2 e2 => ?_)
  refine g_callV C X2 (w_72 hw) (w_73 hw) (notFace_of_selects (args := #[]) (mvT C.2.1 (w_75 hw))) (w_75 hw) (w_74 hw) (w_76 hw) (w_4 hw) (by decide) F2 d13_11 (rm14_2 l Z a0 hw [] o2 o3 kd1 c1 c2 h0 n0 Z0 F2 F3 F4 F5) (by decide) (by decide) rfl pd_7 rfl (argsL := []) (rest := []) rfl (W := 0) (Nat.le_of_eq rfl) e2 (by decide) (by decide) (pc' := 14) rfl (fun u3 T3 L3 X3 hQ3 => ?_)
  obtain ⟨rfl, Nq3, eq3⟩ := hQ3
  have N3 := Fr.app N0 Nq3
  show Goes p.tables e below G (T3.setTop (mkF m 14 #[.val (.ref o1)] [(.int (0 : Int32))]))
  refine g_if_eq C X3 d13_14 (pcT := 31) (pcN := 17) (by decide) (by decide) rfl (fun hc14 => ?_) (fun hc14 => absurd hc14 (by decide))
  refine g_aloadN C X3 d13_31 (pc' := 32) rfl rfl rfl ?_
  refine g_getF C X3 (w_63 hw) Via.refl eq3 F1 d13_32 (pc' := 35) rfl (fun T4 X4 e4 => ?_)
  exact g_retA C X4 K rfl rfl rfl d13_35 (by decide) (by decide) e4 ⟨rfl, N3, rfl⟩
def Q13_3 (Z : State) (o1 : Addr) (o2 : Addr) (o3 : Addr) (kd1 : ClassId) (c1 : Int32) (c2 : Int32) (c3 : Int32) (h0 : Heap) (n0 : Nat) (v : Option Value) (h : Heap) (L : List Loc) : Prop := v = some (.ref o2) ∧ Fr n0 L ∧ h = h0
set_option maxRecDepth 65536 in
set_option maxHeartbeats 40000000 in
theorem rm13_3 (l : Launch) (Z : State) (a0 : Array Value) (hw : ∀ d ∈ tables_1, d.before a0 Z = true) (ws : List Jvm.Cond) (o1 : Addr) (o2 : Addr) (o3 : Addr) (kd1 : ClassId) (c1 : Int32) (c2 : Int32) (c3 : Int32) (h0 : Heap) (n0 : Nat) (Z0 : n0 ≤ h0.size) (F0 : Exa Z h0 o1 "com/example/hanko/hanko/access/GitConfig$Entry") (F1 : Fld Z h0 o1 "com/example/hanko/hanko/access/GitConfig$Entry" "value" "Ljava/lang/String;" (.ref o2)) (F2 : Exa Z h0 o2 "java/lang/String") (F3 : Fld Z h0 o2 "java/lang/String" "value" "[B" (.ref o3)) (F4 : Fld Z h0 o2 "java/lang/String" "coder" "B" (.int (0 : Int32))) (F5 : Arv Z h0 o3 kd1 .byte (3 : Int32) [(.int c1), (.int c2), (.int c3)] (.int (0 : Int32))) :
    MetFree l (⟨"com/example/hanko/hanko/access/GitConfig$Entry", "required", "()Ljava/lang/String;"⟩ : MethodName) (head1 (Jvm.Cond.code (⟨"com/example/hanko/hanko/access/GitConfig$Entry", "required", "()Ljava/lang/String;"⟩ : MethodName) prog_8_method_2_code 1 (some (.object "java/lang/String")) :: ws) ({ frames := 1, cells := 0, slots := 0, locals := 12 } : Room)) (fun a U => a = #[(.ref o1)] ∧ Z.Warmed39 U.vm ∧ U.heap = h0) (fun _ _ _ _ _ => True) (fun _ U o U' => ∃ v L, o = .returned v ∧ Q13_3 Z o1 o2 o3 kd1 c1 c2 c3 h0 n0 v U'.heap L ∧ FrameEnd U o U' L ({ frames := 1, cells := 0, slots := 0, locals := 12 } : Room).cells ({ frames := 1, cells := 0, slots := 0, locals := 12 } : Room).slots) := by
  refine body_of (y := (⟨"com/example/hanko/hanko/access/GitConfig$Entry", "required", "()Ljava/lang/String;"⟩ : MethodName)) (Q := Q13_3 Z o1 o2 o3 kd1 c1 c2 c3 h0 n0) (plainFor_of_name pn_11) ?_
  intro p e s m below meth c T0 G C hnm hnamed X0 e0 K
  have N0 := Fr.nil n0
  refine Goes.to (congrArg T0.setTop (ef_13 m o1)) ?_
  refine g_aloadN C X0 d13_0 (pc' := 1) rfl rfl rfl ?_
  refine g_getF C X0 (w_63 hw) Via.refl e0 F1 d13_1 (pc' := 4) rfl (fun T1 X1 e1 => ?_)
  refine g_ifnullN C X1 d13_4 (pc' := 7) rfl ?_
  refine g_aloadN C X1 d13_7 (pc' := 8) rfl rfl rfl ?_
  refine g_getF C X1 (w_63 hw) Via.refl e1 F1 d13_8 (pc' := 11) rfl (fun T2 X2 e2 => ?_)
  refine g_callV C X2 (w_72 hw) (w_73 hw) (notFace_of_selects (args := #[]) (mvT C.2.1 (w_75 hw))) (w_75 hw) (w_74 hw) (w_76 hw) (w_4 hw) (by decide) F2 d13_11 (rm14_3 l Z a0 hw [] o2 o3 kd1 c1 c2 c3 h0 n0 Z0 F2 F3 F4 F5) (by decide) (by decide) rfl pd_7 rfl (argsL := []) (rest := []) rfl (W := 0) (Nat.le_of_eq rfl) e2 (by decide) (by decide) (pc' := 14) rfl (fun u3 T3 L3 X3 hQ3 => ?_)
  obtain ⟨rfl, Nq3, eq3⟩ := hQ3
  have N3 := Fr.app N0 Nq3
  show Goes p.tables e below G (T3.setTop (mkF m 14 #[.val (.ref o1)] [(.int (0 : Int32))]))
  refine g_if_eq C X3 d13_14 (pcT := 31) (pcN := 17) (by decide) (by decide) rfl (fun hc14 => ?_) (fun hc14 => absurd hc14 (by decide))
  refine g_aloadN C X3 d13_31 (pc' := 32) rfl rfl rfl ?_
  refine g_getF C X3 (w_63 hw) Via.refl eq3 F1 d13_32 (pc' := 35) rfl (fun T4 X4 e4 => ?_)
  exact g_retA C X4 K rfl rfl rfl d13_35 (by decide) (by decide) e4 ⟨rfl, N3, rfl⟩
theorem own_n {x v : Int32} (h : 1 + (x &&& 2147483647) % 3 = v) : v = 1 ∨ v = 2 ∨ v = 3 := by
  have e0 : (x &&& 2147483647 : Int32).toInt = x.toInt % 2 ^ 31 := Jvm.Kit.i32_mask x 2147483647 (k := 31) (by decide) (by decide)
  have e1 : ((x &&& 2147483647) % 3 : Int32).toInt = (x &&& 2147483647 : Int32).toInt % (3 : Int32).toInt := Jvm.Kit.i32_rem_nonneg (by omega)
  have e3 : (3 : Int32).toInt = 3 := by decide
  rw [e3] at e1
  have d1 : (1 : Int32).toInt = 1 := by decide
  have d2 : (2 : Int32).toInt = 2 := by decide
  have e4 : (1 + (x &&& 2147483647) % 3 : Int32).toInt = (1 : Int32).toInt + ((x &&& 2147483647) % 3 : Int32).toInt := Jvm.Kit.i32_add (by omega) (by omega)
  rw [h] at e4
  simp only [← Int32.toInt_inj]; omega
theorem own_chk {x v : Int32} (h : (x &&& 255).toUInt32.toUInt16.toUInt32.toInt32 = v) : own_lat v := h ▸ own_c255 x
theorem own_le {c : Int32} (h : own_lat c) : ¬ (255 : Int32) < nar .char c := by rw [own_narc h]; exact h.2
theorem own_back {c : Int32} (h : own_lat c) : own_ch (nar .byte (nar .char c).toInt8.toInt32) = c := by rw [own_narc h]; exact own_ch_of h
theorem ef_0 (m : MethodId) (p0 : Int32) (p1 : Int32) (p2 : Int32) (p3 : Int32) (p4 : Int32) (p5 : Int32) : entryFrame m #[(.int p0), (.int p1), (.int p2), (.int p3), (.int p4), (.int p5)] maxLocals = mkF m 0 #[.val (.int p0), .val (.int p1), .val (.int p2), .val (.int p3), .val (.int p4), .val (.int p5), .unset, .unset, .unset, .unset, .unset, .unset, .unset, .unset, .unset, .unset, .unset, .unset, .unset] [] := by first | (simp [entryFrame, mkF, argsToLocals, Value.category, maxLocals]; done) | rfl
theorem w_0 {Z : State} {a0 : Array Value} (hw : ∀ d ∈ tables_1, d.before a0 Z = true) : Jvm.Cond.before (Jvm.Cond.constant "com/example/hanko/hanko/access/EntryRequiredPinLaw" (7 : Nat) (2147483647 : Int32)) a0 Z = true := hw _ (List.mem_of_getElem? (i := 0) rfl)
theorem w_1 {Z : State} {a0 : Array Value} (hw : ∀ d ∈ tables_1, d.before a0 Z = true) : Jvm.Cond.before (Jvm.Cond.arrayClass Jvm.ClassFile.FieldType.char) a0 Z = true := hw _ (List.mem_of_getElem? (i := 1) rfl)
theorem w_2 {Z : State} {a0 : Array Value} (hw : ∀ d ∈ tables_1, d.before a0 Z = true) : Jvm.Cond.before (Jvm.Cond.classLink "com/example/hanko/hanko/access/EntryRequiredPinLaw" (8 : Nat) "java/lang/String") a0 Z = true := hw _ (List.mem_of_getElem? (i := 2) rfl)
theorem w_7 {Z : State} {a0 : Array Value} (hw : ∀ d ∈ tables_1, d.before a0 Z = true) : Jvm.Cond.before (Jvm.Cond.code ({ cls := "java/lang/String", name := "<init>", desc := "([C)V" } : Jvm.MethodName) jdk_42_method_3_code (2 : Nat) (Option.none : Option Jvm.ClassFile.FieldType)) a0 Z = true := hw _ (List.mem_of_getElem? (i := 7) rfl)
theorem w_5 {Z : State} {a0 : Array Value} (hw : ∀ d ∈ tables_1, d.before a0 Z = true) : Jvm.Cond.before (Jvm.Cond.methodLink "com/example/hanko/hanko/access/EntryRequiredPinLaw" (10 : Nat) ({ cls := "java/lang/String", name := "<init>", desc := "([C)V" } : Jvm.MethodName)) a0 Z = true := hw _ (List.mem_of_getElem? (i := 5) rfl)
theorem pd_13 : parseMethodDescriptor "([C)V" = some ⟨[(.array .char)], none⟩ := by decide +kernel
theorem w_6 {Z : State} {a0 : Array Value} (hw : ∀ d ∈ tables_1, d.before a0 Z = true) : Jvm.Cond.before (Jvm.Cond.instanceMethod ({ cls := "java/lang/String", name := "<init>", desc := "([C)V" } : Jvm.MethodName)) a0 Z = true := hw _ (List.mem_of_getElem? (i := 6) rfl)
theorem w_33 {Z : State} {a0 : Array Value} (hw : ∀ d ∈ tables_1, d.before a0 Z = true) : Jvm.Cond.before (Jvm.Cond.code ({ cls := "java/lang/String", name := "valueOf", desc := "(C)Ljava/lang/String;" } : Jvm.MethodName) jdk_42_method_139_code (1 : Nat) (Option.some (Jvm.ClassFile.FieldType.object "java/lang/String"))) a0 Z = true := hw _ (List.mem_of_getElem? (i := 33) rfl)
theorem w_31 {Z : State} {a0 : Array Value} (hw : ∀ d ∈ tables_1, d.before a0 Z = true) : Jvm.Cond.before (Jvm.Cond.methodLink "com/example/hanko/hanko/access/EntryRequiredPinLaw" (13 : Nat) ({ cls := "java/lang/String", name := "valueOf", desc := "(C)Ljava/lang/String;" } : Jvm.MethodName)) a0 Z = true := hw _ (List.mem_of_getElem? (i := 31) rfl)
theorem pd_14 : parseMethodDescriptor "(C)Ljava/lang/String;" = some ⟨[.char], some (.object "java/lang/String")⟩ := by decide +kernel
theorem w_32 {Z : State} {a0 : Array Value} (hw : ∀ d ∈ tables_1, d.before a0 Z = true) : Jvm.Cond.before (Jvm.Cond.static ({ cls := "java/lang/String", name := "valueOf", desc := "(C)Ljava/lang/String;" } : Jvm.MethodName)) a0 Z = true := hw _ (List.mem_of_getElem? (i := 32) rfl)
theorem w_45 {Z : State} {a0 : Array Value} (hw : ∀ d ∈ tables_1, d.before a0 Z = true) : Jvm.Cond.before (Jvm.Cond.classLink "com/example/hanko/hanko/access/EntryRequiredPinLaw" (17 : Nat) "com/example/hanko/hanko/access/GitConfig$Entry") a0 Z = true := hw _ (List.mem_of_getElem? (i := 45) rfl)
theorem w_47 {Z : State} {a0 : Array Value} (hw : ∀ d ∈ tables_1, d.before a0 Z = true) : Jvm.Cond.before (Jvm.Cond.initialized "com/example/hanko/hanko/access/GitConfig$Entry") a0 Z = true := hw _ (List.mem_of_getElem? (i := 47) rfl)
theorem w_50 {Z : State} {a0 : Array Value} (hw : ∀ d ∈ tables_1, d.before a0 Z = true) : Jvm.Cond.before (Jvm.Cond.code ({ cls := "com/example/hanko/hanko/access/GitConfig$Entry", name := "<init>", desc := "(Ljava/lang/String;Ljava/lang/String;Ljava/lang/String;Ljava/lang/String;I)V" } : Jvm.MethodName) prog_8_method_1_code (6 : Nat) (Option.none : Option Jvm.ClassFile.FieldType)) a0 Z = true := hw _ (List.mem_of_getElem? (i := 50) rfl)
theorem w_48 {Z : State} {a0 : Array Value} (hw : ∀ d ∈ tables_1, d.before a0 Z = true) : Jvm.Cond.before (Jvm.Cond.methodLink "com/example/hanko/hanko/access/EntryRequiredPinLaw" (19 : Nat) ({ cls := "com/example/hanko/hanko/access/GitConfig$Entry", name := "<init>", desc := "(Ljava/lang/String;Ljava/lang/String;Ljava/lang/String;Ljava/lang/String;I)V" } : Jvm.MethodName)) a0 Z = true := hw _ (List.mem_of_getElem? (i := 48) rfl)
theorem pd_15 : parseMethodDescriptor "(Ljava/lang/String;Ljava/lang/String;Ljava/lang/String;Ljava/lang/String;I)V" = some ⟨[(.object "java/lang/String"), (.object "java/lang/String"), (.object "java/lang/String"), (.object "java/lang/String"), .int], none⟩ := by decide +kernel
theorem w_49 {Z : State} {a0 : Array Value} (hw : ∀ d ∈ tables_1, d.before a0 Z = true) : Jvm.Cond.before (Jvm.Cond.instanceMethod ({ cls := "com/example/hanko/hanko/access/GitConfig$Entry", name := "<init>", desc := "(Ljava/lang/String;Ljava/lang/String;Ljava/lang/String;Ljava/lang/String;I)V" } : Jvm.MethodName)) a0 Z = true := hw _ (List.mem_of_getElem? (i := 49) rfl)
theorem w_71 {Z : State} {a0 : Array Value} (hw : ∀ d ∈ tables_1, d.before a0 Z = true) : Jvm.Cond.before (Jvm.Cond.code ({ cls := "com/example/hanko/hanko/access/GitConfig$Entry", name := "required", desc := "()Ljava/lang/String;" } : Jvm.MethodName) prog_8_method_2_code (1 : Nat) (Option.some (Jvm.ClassFile.FieldType.object "java/lang/String"))) a0 Z = true := hw _ (List.mem_of_getElem? (i := 71) rfl)
theorem w_67 {Z : State} {a0 : Array Value} (hw : ∀ d ∈ tables_1, d.before a0 Z = true) : Jvm.Cond.before (Jvm.Cond.methodLink "com/example/hanko/hanko/access/EntryRequiredPinLaw" (22 : Nat) ({ cls := "com/example/hanko/hanko/access/GitConfig$Entry", name := "required", desc := "()Ljava/lang/String;" } : Jvm.MethodName)) a0 Z = true := hw _ (List.mem_of_getElem? (i := 67) rfl)
theorem pd_16 : parseMethodDescriptor "()Ljava/lang/String;" = some ⟨[], some (.object "java/lang/String")⟩ := by decide +kernel
theorem w_70 {Z : State} {a0 : Array Value} (hw : ∀ d ∈ tables_1, d.before a0 Z = true) : Jvm.Cond.before (Jvm.Cond.selects "com/example/hanko/hanko/access/GitConfig$Entry" ({ cls := "com/example/hanko/hanko/access/GitConfig$Entry", name := "required", desc := "()Ljava/lang/String;" } : Jvm.MethodName) ({ cls := "com/example/hanko/hanko/access/GitConfig$Entry", name := "required", desc := "()Ljava/lang/String;" } : Jvm.MethodName)) a0 Z = true := hw _ (List.mem_of_getElem? (i := 70) rfl)
theorem w_68 {Z : State} {a0 : Array Value} (hw : ∀ d ∈ tables_1, d.before a0 Z = true) : Jvm.Cond.before (Jvm.Cond.declares ({ cls := "com/example/hanko/hanko/access/GitConfig$Entry", name := "required", desc := "()Ljava/lang/String;" } : Jvm.MethodName)) a0 Z = true := hw _ (List.mem_of_getElem? (i := 68) rfl)
theorem w_69 {Z : State} {a0 : Array Value} (hw : ∀ d ∈ tables_1, d.before a0 Z = true) : Jvm.Cond.before (Jvm.Cond.instanceMethod ({ cls := "com/example/hanko/hanko/access/GitConfig$Entry", name := "required", desc := "()Ljava/lang/String;" } : Jvm.MethodName)) a0 Z = true := hw _ (List.mem_of_getElem? (i := 69) rfl)
theorem w_81 {Z : State} {a0 : Array Value} (hw : ∀ d ∈ tables_1, d.before a0 Z = true) : Jvm.Cond.before (Jvm.Cond.code ({ cls := "java/lang/String", name := "length", desc := "()I" } : Jvm.MethodName) jdk_42_method_54_code (1 : Nat) (Option.some Jvm.ClassFile.FieldType.int)) a0 Z = true := hw _ (List.mem_of_getElem? (i := 81) rfl)
theorem w_77 {Z : State} {a0 : Array Value} (hw : ∀ d ∈ tables_1, d.before a0 Z = true) : Jvm.Cond.before (Jvm.Cond.methodLink "com/example/hanko/hanko/access/EntryRequiredPinLaw" (26 : Nat) ({ cls := "java/lang/String", name := "length", desc := "()I" } : Jvm.MethodName)) a0 Z = true := hw _ (List.mem_of_getElem? (i := 77) rfl)
theorem pd_17 : parseMethodDescriptor "()I" = some ⟨[], some .int⟩ := by decide +kernel
theorem w_80 {Z : State} {a0 : Array Value} (hw : ∀ d ∈ tables_1, d.before a0 Z = true) : Jvm.Cond.before (Jvm.Cond.selects "java/lang/String" ({ cls := "java/lang/String", name := "length", desc := "()I" } : Jvm.MethodName) ({ cls := "java/lang/String", name := "length", desc := "()I" } : Jvm.MethodName)) a0 Z = true := hw _ (List.mem_of_getElem? (i := 80) rfl)
theorem w_78 {Z : State} {a0 : Array Value} (hw : ∀ d ∈ tables_1, d.before a0 Z = true) : Jvm.Cond.before (Jvm.Cond.declares ({ cls := "java/lang/String", name := "length", desc := "()I" } : Jvm.MethodName)) a0 Z = true := hw _ (List.mem_of_getElem? (i := 78) rfl)
theorem w_79 {Z : State} {a0 : Array Value} (hw : ∀ d ∈ tables_1, d.before a0 Z = true) : Jvm.Cond.before (Jvm.Cond.instanceMethod ({ cls := "java/lang/String", name := "length", desc := "()I" } : Jvm.MethodName)) a0 Z = true := hw _ (List.mem_of_getElem? (i := 79) rfl)
theorem w_91 {Z : State} {a0 : Array Value} (hw : ∀ d ∈ tables_1, d.before a0 Z = true) : Jvm.Cond.before (Jvm.Cond.code ({ cls := "java/lang/String", name := "charAt", desc := "(I)C" } : Jvm.MethodName) jdk_42_method_56_code (2 : Nat) (Option.some Jvm.ClassFile.FieldType.char)) a0 Z = true := hw _ (List.mem_of_getElem? (i := 91) rfl)
theorem w_87 {Z : State} {a0 : Array Value} (hw : ∀ d ∈ tables_1, d.before a0 Z = true) : Jvm.Cond.before (Jvm.Cond.methodLink "com/example/hanko/hanko/access/EntryRequiredPinLaw" (30 : Nat) ({ cls := "java/lang/String", name := "charAt", desc := "(I)C" } : Jvm.MethodName)) a0 Z = true := hw _ (List.mem_of_getElem? (i := 87) rfl)
theorem pd_18 : parseMethodDescriptor "(I)C" = some ⟨[.int], some .char⟩ := by decide +kernel
theorem w_90 {Z : State} {a0 : Array Value} (hw : ∀ d ∈ tables_1, d.before a0 Z = true) : Jvm.Cond.before (Jvm.Cond.selects "java/lang/String" ({ cls := "java/lang/String", name := "charAt", desc := "(I)C" } : Jvm.MethodName) ({ cls := "java/lang/String", name := "charAt", desc := "(I)C" } : Jvm.MethodName)) a0 Z = true := hw _ (List.mem_of_getElem? (i := 90) rfl)
theorem w_88 {Z : State} {a0 : Array Value} (hw : ∀ d ∈ tables_1, d.before a0 Z = true) : Jvm.Cond.before (Jvm.Cond.declares ({ cls := "java/lang/String", name := "charAt", desc := "(I)C" } : Jvm.MethodName)) a0 Z = true := hw _ (List.mem_of_getElem? (i := 88) rfl)
theorem w_89 {Z : State} {a0 : Array Value} (hw : ∀ d ∈ tables_1, d.before a0 Z = true) : Jvm.Cond.before (Jvm.Cond.instanceMethod ({ cls := "java/lang/String", name := "charAt", desc := "(I)C" } : Jvm.MethodName)) a0 Z = true := hw _ (List.mem_of_getElem? (i := 89) rfl)
theorem w_112 {Z : State} {a0 : Array Value} (hw : ∀ d ∈ tables_1, d.before a0 Z = true) : Jvm.Cond.before (Jvm.Cond.code ({ cls := "java/lang/String", name := "equals", desc := "(Ljava/lang/Object;)Z" } : Jvm.MethodName) jdk_42_method_66_code (3 : Nat) (Option.some Jvm.ClassFile.FieldType.boolean)) a0 Z = true := hw _ (List.mem_of_getElem? (i := 112) rfl)
theorem w_108 {Z : State} {a0 : Array Value} (hw : ∀ d ∈ tables_1, d.before a0 Z = true) : Jvm.Cond.before (Jvm.Cond.methodLink "com/example/hanko/hanko/access/EntryRequiredPinLaw" (34 : Nat) ({ cls := "java/lang/String", name := "equals", desc := "(Ljava/lang/Object;)Z" } : Jvm.MethodName)) a0 Z = true := hw _ (List.mem_of_getElem? (i := 108) rfl)
theorem pd_19 : parseMethodDescriptor "(Ljava/lang/Object;)Z" = some ⟨[(.object "java/lang/Object")], some .boolean⟩ := by decide +kernel
theorem w_111 {Z : State} {a0 : Array Value} (hw : ∀ d ∈ tables_1, d.before a0 Z = true) : Jvm.Cond.before (Jvm.Cond.selects "java/lang/String" ({ cls := "java/lang/String", name := "equals", desc := "(Ljava/lang/Object;)Z" } : Jvm.MethodName) ({ cls := "java/lang/String", name := "equals", desc := "(Ljava/lang/Object;)Z" } : Jvm.MethodName)) a0 Z = true := hw _ (List.mem_of_getElem? (i := 111) rfl)
theorem w_109 {Z : State} {a0 : Array Value} (hw : ∀ d ∈ tables_1, d.before a0 Z = true) : Jvm.Cond.before (Jvm.Cond.declares ({ cls := "java/lang/String", name := "equals", desc := "(Ljava/lang/Object;)Z" } : Jvm.MethodName)) a0 Z = true := hw _ (List.mem_of_getElem? (i := 109) rfl)
theorem w_110 {Z : State} {a0 : Array Value} (hw : ∀ d ∈ tables_1, d.before a0 Z = true) : Jvm.Cond.before (Jvm.Cond.instanceMethod ({ cls := "java/lang/String", name := "equals", desc := "(Ljava/lang/Object;)Z" } : Jvm.MethodName)) a0 Z = true := hw _ (List.mem_of_getElem? (i := 110) rfl)
def Q0 (Z : State) (p0 : Int32) (p1 : Int32) (p2 : Int32) (p3 : Int32) (p4 : Int32) (p5 : Int32) (cs1 : Int32) (wf1 : Value) (h0 : Heap) (n0 : Nat) (v : Option Value) (h : Heap) (L : List Loc) : Prop := v = some (.int 1) ∧ Fr n0 L
theorem pn_0 : plainName "com/example/hanko/hanko/access/EntryRequiredPinLaw" = true := by first | (simp [plainName, overriddenIn]; done) | decide +kernel
set_option maxRecDepth 65536 in
set_option maxHeartbeats 40000000 in
theorem rm0 (l : Launch) (Z : State) (a0 : Array Value) (hw : ∀ d ∈ tables_1, d.before a0 Z = true) (ws : List Jvm.Cond) (p0 : Int32) (p1 : Int32) (p2 : Int32) (p3 : Int32) (p4 : Int32) (p5 : Int32) (cs1 : Int32) (wf1 : Value) (h0 : Heap) (n0 : Nat) (Z0 : n0 ≤ h0.size) (F0 : Sta Z h0 "java/lang/String" "COMPACT_STRINGS" "Z" (.int cs1)) (F1 : Sta Z h0 "jdk/internal/util/Preconditions" "SIOOBE_FORMATTER" "Ljava/util/function/BiFunction;" wf1) (hcs : ¬ cs1 = (0 : Int32)) (hwf : wf1.isRef = true) :
    MetFree l x (head1 (Jvm.Cond.code x code maxLocals ret :: ws) room_1) (fun a U => a = #[(.int p0), (.int p1), (.int p2), (.int p3), (.int p4), (.int p5)] ∧ Z.Warmed39 U.vm ∧ U.heap = h0) (fun _ _ _ _ _ => True) (fun _ U o U' => ∃ v L, o = .returned v ∧ Q0 Z p0 p1 p2 p3 p4 p5 cs1 wf1 h0 n0 v U'.heap L ∧ FrameEnd U o U' L room_1.cells room_1.slots) := by
  refine body_of (y := x) (Q := Q0 Z p0 p1 p2 p3 p4 p5 cs1 wf1 h0 n0) (plainFor_of_name pn_0) ?_
  intro p e s m below meth c T0 G C hnm hnamed X0 e0 K
  have N0 := Fr.nil n0
  refine Goes.to (congrArg T0.setTop (ef_0 m p0 p1 p2 p3 p4 p5)) ?_
  refine g_iconst C X0 at_0 (pc' := 1) rfl (v := 1) rfl ?_
  refine g_iloadN C X0 at_1 (pc' := 2) rfl rfl ?_
  refine g_ldc C X0 (w_0 hw) at_2 (pc' := 4) rfl ?_
  refine g_iand C X0 at_4 (pc' := 5) rfl ?_
  refine g_iconst C X0 at_5 (pc' := 6) rfl (v := 3) rfl ?_
  refine g_irem C X0 at_6 (pc' := 7) rfl (by decide) ?_
  refine g_iadd C X0 at_7 (pc' := 8) rfl ?_
  obtain ⟨v1, hv1⟩ : ∃ z : Int32, ((1 : Int32) + ((p3 &&& (2147483647 : Int32)) % (3 : Int32))) = z := ⟨_, rfl⟩
  refine g_istore C X0 at_8 (pc' := 10) rfl (w := v1) hv1 (ls' := #[.val (.int p0), .val (.int p1), .val (.int p2), .val (.int p3), .val (.int p4), .val (.int p5), .val (.int v1), .unset, .unset, .unset, .unset, .unset, .unset, .unset, .unset, .unset, .unset, .unset, .unset]) rfl ?_
  rcases own_n hv1 with hsp | hsp | hsp
  · subst hsp
    refine g_iloadN C X0 at_10 (pc' := 11) rfl rfl ?_
    refine g_sipush C X0 at_11 (pc' := 14) rfl (v := 255) rfl ?_
    refine g_iand C X0 at_14 (pc' := 15) rfl ?_
    refine g_i2c C X0 at_15 (pc' := 16) rfl ?_
    obtain ⟨v2, hv2⟩ : ∃ z : Int32, (p0 &&& (255 : Int32)).toUInt32.toUInt16.toUInt32.toInt32 = z := ⟨_, rfl⟩
    refine g_istore C X0 at_16 (pc' := 18) rfl (w := v2) hv2 (ls' := #[.val (.int p0), .val (.int p1), .val (.int p2), .val (.int p3), .val (.int p4), .val (.int p5), .val (.int (1 : Int32)), .val (.int v2), .unset, .unset, .unset, .unset, .unset, .unset, .unset, .unset, .unset, .unset, .unset]) rfl ?_
    refine g_iloadN C X0 at_18 (pc' := 19) rfl rfl ?_
    refine g_sipush C X0 at_19 (pc' := 22) rfl (v := 255) rfl ?_
    refine g_iand C X0 at_22 (pc' := 23) rfl ?_
    refine g_i2c C X0 at_23 (pc' := 24) rfl ?_
    obtain ⟨v3, hv3⟩ : ∃ z : Int32, (p1 &&& (255 : Int32)).toUInt32.toUInt16.toUInt32.toInt32 = z := ⟨_, rfl⟩
    refine g_istore C X0 at_24 (pc' := 26) rfl (w := v3) hv3 (ls' := #[.val (.int p0), .val (.int p1), .val (.int p2), .val (.int p3), .val (.int p4), .val (.int p5), .val (.int (1 : Int32)), .val (.int v2), .val (.int v3), .unset, .unset, .unset, .unset, .unset, .unset, .unset, .unset, .unset, .unset]) rfl ?_
    refine g_iloadN C X0 at_26 (pc' := 27) rfl rfl ?_
    refine g_sipush C X0 at_27 (pc' := 30) rfl (v := 255) rfl ?_
    refine g_iand C X0 at_30 (pc' := 31) rfl ?_
    refine g_i2c C X0 at_31 (pc' := 32) rfl ?_
    obtain ⟨v4, hv4⟩ : ∃ z : Int32, (p2 &&& (255 : Int32)).toUInt32.toUInt16.toUInt32.toInt32 = z := ⟨_, rfl⟩
    refine g_istore C X0 at_32 (pc' := 34) rfl (w := v4) hv4 (ls' := #[.val (.int p0), .val (.int p1), .val (.int p2), .val (.int p3), .val (.int p4), .val (.int p5), .val (.int (1 : Int32)), .val (.int v2), .val (.int v3), .val (.int v4), .unset, .unset, .unset, .unset, .unset, .unset, .unset, .unset, .unset]) rfl ?_
    refine g_iconst C X0 at_34 (pc' := 35) rfl (v := 1) rfl ?_
    refine g_newA (aty := .char) (n := (1 : Int32)) C X0 (cap := 1) (w_1 hw) e0 at_35 (pc' := 37) rfl (by decide) (by decide) (by decide) (by decide) (by decide) (fun T5 h5 b5 ki5 X5 e5 g5 E5 A5 => ?_)
    have f6 := F0.ext E5
    have f7 := F1.ext E5
    have gn_b5 : n0 ≤ b5 := Nat.le_trans Z0 (Nat.le_of_eq g5.symm)
    have Z5 := Nat.le_trans Z0 E5.1
    have f8 : Arv Z h5 b5 ki5 .char (1 : Int32) [(.int (0 : Int32))] (.int (0 : Int32)) := A5.pad (pad_rep [] (.int (0 : Int32)) 1)
    refine g_astore C X5 at_37 (pc' := 39) rfl rfl (ls' := #[.val (.int p0), .val (.int p1), .val (.int p2), .val (.int p3), .val (.int p4), .val (.int p5), .val (.int (1 : Int32)), .val (.int v2), .val (.int v3), .val (.int v4), .val (.ref b5), .unset, .unset, .unset, .unset, .unset, .unset, .unset, .unset]) rfl ?_
    refine g_aload C X5 at_39 (pc' := 41) rfl rfl rfl ?_
    refine g_iconst C X5 at_41 (pc' := 42) rfl (v := 0) rfl ?_
    refine g_iload C X5 at_42 (pc' := 44) rfl rfl ?_
    refine g_castore C X5 (i := 0) e5 f8 (by decide) rfl (Nat.le_of_ble_eq_true rfl) at_44 (pc' := 45) rfl (fun T9 h9 X9 e9 W9 A9 => ?_)
    have f10 := f6.wr W9
    have f11 := f7.wr W9
    have f12 : Arv Z h9 b5 ki5 .char (1 : Int32) [(.int (nar .char v2))] (.int (0 : Int32)) := A9
    have N9 := Fr.snoc X9 N0 gn_b5
    have Z9 := Nat.le_trans Z5 (Nat.le_of_eq W9.size.symm)
    refine g_iconst C X9 at_45 (pc' := 46) rfl (v := 2) rfl ?_
    refine g_newA (aty := .char) (n := (2 : Int32)) C X9 (cap := 2) (w_1 hw) e9 at_46 (pc' := 48) rfl (by decide) (by decide) (by decide) (by decide) (by decide) (fun T13 h13 b13 ki13 X13 e13 g13 E13 A13 => ?_)
    have n14 : b5 ≠ b13 := Nat.ne_of_lt (Nat.lt_of_lt_of_eq f12.lt g13.symm)
    have f15 := f10.ext E13
    have f16 := f11.ext E13
    have f17 := f12.ext E13
    have gn_b13 : n0 ≤ b13 := Nat.le_trans Z9 (Nat.le_of_eq g13.symm)
    have Z13 := Nat.le_trans Z9 E13.1
    have f18 : Arv Z h13 b13 ki13 .char (2 : Int32) [(.int (0 : Int32)), (.int (0 : Int32))] (.int (0 : Int32)) := A13.pad (pad_rep [] (.int (0 : Int32)) 2)
    refine g_astore C X13 at_48 (pc' := 50) rfl rfl (ls' := #[.val (.int p0), .val (.int p1), .val (.int p2), .val (.int p3), .val (.int p4), .val (.int p5), .val (.int (1 : Int32)), .val (.int v2), .val (.int v3), .val (.int v4), .val (.ref b5), .val (.ref b13), .unset, .unset, .unset, .unset, .unset, .unset, .unset]) rfl ?_
    refine g_aload C X13 at_50 (pc' := 52) rfl rfl rfl ?_
    refine g_iconst C X13 at_52 (pc' := 53) rfl (v := 0) rfl ?_
    refine g_iload C X13 at_53 (pc' := 55) rfl rfl ?_
    refine g_castore C X13 (i := 0) e13 f18 (by decide) rfl (Nat.le_of_ble_eq_true rfl) at_55 (pc' := 56) rfl (fun T19 h19 X19 e19 W19 A19 => ?_)
    have f20 := f15.wr W19
    have f21 := f16.wr W19
    have f22 := f17.other W19 n14
    have f23 : Arv Z h19 b13 ki13 .char (2 : Int32) [(.int (nar .char v2)), (.int (0 : Int32))] (.int (0 : Int32)) := A19
    have N19 := Fr.snoc X19 N9 gn_b13
    have Z19 := Nat.le_trans Z13 (Nat.le_of_eq W19.size.symm)
    refine g_aload C X19 at_56 (pc' := 58) rfl rfl rfl ?_
    refine g_iconst C X19 at_58 (pc' := 59) rfl (v := 1) rfl ?_
    refine g_iload C X19 at_59 (pc' := 61) rfl rfl ?_
    refine g_castore C X19 (i := 1) e19 f23 (by decide) rfl (Nat.le_of_ble_eq_true rfl) at_61 (pc' := 62) rfl (fun T24 h24 X24 e24 W24 A24 => ?_)
    have f25 := f20.wr W24
    have f26 := f21.wr W24
    have f27 := f22.other W24 n14
    have f28 : Arv Z h24 b13 ki13 .char (2 : Int32) [(.int (nar .char v2)), (.int (nar .char v3))] (.int (0 : Int32)) := A24
    have N24 := Fr.snoc X24 N19 gn_b13
    have Z24 := Nat.le_trans Z19 (Nat.le_of_eq W24.size.symm)
    refine g_iconst C X24 at_62 (pc' := 63) rfl (v := 3) rfl ?_
    refine g_newA (aty := .char) (n := (3 : Int32)) C X24 (cap := 3) (w_1 hw) e24 at_63 (pc' := 65) rfl (by decide) (by decide) (by decide) (by decide) (by decide) (fun T29 h29 b29 ki29 X29 e29 g29 E29 A29 => ?_)
    have n30 : b13 ≠ b29 := Nat.ne_of_lt (Nat.lt_of_lt_of_eq f28.lt g29.symm)
    have n31 : b5 ≠ b29 := Nat.ne_of_lt (Nat.lt_of_lt_of_eq f27.lt g29.symm)
    have f32 := f25.ext E29
    have f33 := f26.ext E29
    have f34 := f27.ext E29
    have f35 := f28.ext E29
    have gn_b29 : n0 ≤ b29 := Nat.le_trans Z24 (Nat.le_of_eq g29.symm)
    have Z29 := Nat.le_trans Z24 E29.1
    have f36 : Arv Z h29 b29 ki29 .char (3 : Int32) [(.int (0 : Int32)), (.int (0 : Int32)), (.int (0 : Int32))] (.int (0 : Int32)) := A29.pad (pad_rep [] (.int (0 : Int32)) 3)
    refine g_astore C X29 at_65 (pc' := 67) rfl rfl (ls' := #[.val (.int p0), .val (.int p1), .val (.int p2), .val (.int p3), .val (.int p4), .val (.int p5), .val (.int (1 : Int32)), .val (.int v2), .val (.int v3), .val (.int v4), .val (.ref b5), .val (.ref b13), .val (.ref b29), .unset, .unset, .unset, .unset, .unset, .unset]) rfl ?_
    refine g_aload C X29 at_67 (pc' := 69) rfl rfl rfl ?_
    refine g_iconst C X29 at_69 (pc' := 70) rfl (v := 0) rfl ?_
    refine g_iload C X29 at_70 (pc' := 72) rfl rfl ?_
    refine g_castore C X29 (i := 0) e29 f36 (by decide) rfl (Nat.le_of_ble_eq_true rfl) at_72 (pc' := 73) rfl (fun T37 h37 X37 e37 W37 A37 => ?_)
    have f38 := f32.wr W37
    have f39 := f33.wr W37
    have f40 := f34.other W37 n31
    have f41 := f35.other W37 n30
    have f42 : Arv Z h37 b29 ki29 .char (3 : Int32) [(.int (nar .char v2)), (.int (0 : Int32)), (.int (0 : Int32))] (.int (0 : Int32)) := A37
    have N37 := Fr.snoc X37 N24 gn_b29
    have Z37 := Nat.le_trans Z29 (Nat.le_of_eq W37.size.symm)
    refine g_aload C X37 at_73 (pc' := 75) rfl rfl rfl ?_
    refine g_iconst C X37 at_75 (pc' := 76) rfl (v := 1) rfl ?_
    refine g_iload C X37 at_76 (pc' := 78) rfl rfl ?_
    refine g_castore C X37 (i := 1) e37 f42 (by decide) rfl (Nat.le_of_ble_eq_true rfl) at_78 (pc' := 79) rfl (fun T43 h43 X43 e43 W43 A43 => ?_)
    have f44 := f38.wr W43
    have f45 := f39.wr W43
    have f46 := f40.other W43 n31
    have f47 := f41.other W43 n30
    have f48 : Arv Z h43 b29 ki29 .char (3 : Int32) [(.int (nar .char v2)), (.int (nar .char v3)), (.int (0 : Int32))] (.int (0 : Int32)) := A43
    have N43 := Fr.snoc X43 N37 gn_b29
    have Z43 := Nat.le_trans Z37 (Nat.le_of_eq W43.size.symm)
    refine g_aload C X43 at_79 (pc' := 81) rfl rfl rfl ?_
    refine g_iconst C X43 at_81 (pc' := 82) rfl (v := 2) rfl ?_
    refine g_iload C X43 at_82 (pc' := 84) rfl rfl ?_
    refine g_castore C X43 (i := 2) e43 f48 (by decide) rfl (Nat.le_of_ble_eq_true rfl) at_84 (pc' := 85) rfl (fun T49 h49 X49 e49 W49 A49 => ?_)
    have f50 := f44.wr W49
    have f51 := f45.wr W49
    have f52 := f46.other W49 n31
    have f53 := f47.other W49 n30
    have f54 : Arv Z h49 b29 ki29 .char (3 : Int32) [(.int (nar .char v2)), (.int (nar .char v3)), (.int (nar .char v4))] (.int (0 : Int32)) := A49
    have N49 := Fr.snoc X49 N43 gn_b29
    have Z49 := Nat.le_trans Z43 (Nat.le_of_eq W49.size.symm)
    refine g_iload C X49 at_85 (pc' := 87) rfl rfl ?_
    refine g_iconst C X49 at_87 (pc' := 88) rfl (v := 1) rfl ?_
    refine g_icmp_ne C X49 at_88 (pcT := 105) (pcN := 91) (by decide) (by decide) rfl (fun hc88 => absurd hc88 (by decide)) (fun hc88 => ?_)
    refine g_new C X49 (w_2 hw) (w_3 hw) (w_4 hw) e49 at_91 (pc' := 94) rfl (by decide) (by decide) (fun T55 h55 b55 X55 e55 g55 E55 A55 D55 => ?_)
    have n56 : b13 ≠ b55 := Nat.ne_of_lt (Nat.lt_of_lt_of_eq f53.lt g55.symm)
    have n57 : b29 ≠ b55 := Nat.ne_of_lt (Nat.lt_of_lt_of_eq f54.lt g55.symm)
    have n58 : b5 ≠ b55 := Nat.ne_of_lt (Nat.lt_of_lt_of_eq f52.lt g55.symm)
    have f59 := f50.ext E55
    have f60 := f51.ext E55
    have f61 := f52.ext E55
    have f62 := f53.ext E55
    have f63 := f54.ext E55
    have gn_b55 : n0 ≤ b55 := Nat.le_trans Z49 (Nat.le_of_eq g55.symm)
    have Z55 := Nat.le_trans Z49 E55.1
    have f64 : Fld Z h55 b55 "java/lang/String" "coder" "B" (.int (0 : Int32)) := D55 (Or.inr (w_28 hw)) (ty := .byte) (by decide)
    have f65 : Fld Z h55 b55 "java/lang/String" "value" "[B" .null := D55 (Or.inr (w_30 hw)) (ty := (.array .byte)) (by decide)
    refine g_dup C X55 at_94 (pc' := 95) rfl rfl ?_
    refine g_aload C X55 at_95 (pc' := 97) rfl rfl rfl ?_
    refine g_callI C X55 rfl (w_5 hw) (w_6 hw) (w_4 hw) (w_7 hw) (by decide) at_97 (rm1_1 l Z a0 hw [] b55 b5 ki5 (nar .char v2) cs1 h55 n0 Z55 A55 f65 f64 f61 f59 gn_b55 (own_le (own_chk hv2)) hcs (Ne.symm n58)) (by decide) (by decide) rfl pd_13 rfl (argsL := [(.ref b5)]) (rest := [(.ref b55)]) rfl (W := 1) (Nat.le_of_eq rfl) e55 (by decide) (by decide) (pc' := 100) rfl (fun u66 T66 L66 X66 hQ66 => ?_)
    obtain ⟨o366, kd366, rfl, Nq66, szo366, Kq66, q66_0, q66_1, q66_2, q66_3⟩ := hQ66
    have N66 := Fr.app N49 Nq66
    have n67 : b13 ≠ o366 := Nat.ne_of_lt (Nat.lt_of_lt_of_le f62.lt szo366)
    have n68 : b29 ≠ o366 := Nat.ne_of_lt (Nat.lt_of_lt_of_le f63.lt szo366)
    have n69 : b5 ≠ o366 := Nat.ne_of_lt (Nat.lt_of_lt_of_le f61.lt szo366)
    have n70 : b55 ≠ o366 := Nat.ne_of_lt (Nat.lt_of_lt_of_le A55.lt szo366)
    have f71 := Sta.keepN f59 Kq66 (allS (Exa.ns A55) all0)
    have f72 := Sta.keepN f60 Kq66 (allS (Exa.ns A55) all0)
    have f73 := f61.keep Kq66 (ninS n58 nin0)
    have f74 := f62.keep Kq66 (ninS n56 nin0)
    have f75 := f63.keep Kq66 (ninS n57 nin0)
    have f76 := A55.keep Kq66
    have gn_o366 : n0 ≤ o366 := Nat.le_trans Z55 szo366
    have Z66 := Nat.le_trans Z55 Kq66.1
    show Goes p.tables e below G (T66.setTop (mkF m 100 #[.val (.int p0), .val (.int p1), .val (.int p2), .val (.int p3), .val (.int p4), .val (.int p5), .val (.int (1 : Int32)), .val (.int v2), .val (.int v3), .val (.int v4), .val (.ref b5), .val (.ref b13), .val (.ref b29), .unset, .unset, .unset, .unset, .unset, .unset] [(.ref b55)]))
    refine g_astore C X66 at_100 (pc' := 102) rfl rfl (ls' := #[.val (.int p0), .val (.int p1), .val (.int p2), .val (.int p3), .val (.int p4), .val (.int p5), .val (.int (1 : Int32)), .val (.int v2), .val (.int v3), .val (.int v4), .val (.ref b5), .val (.ref b13), .val (.ref b29), .val (.ref b55), .unset, .unset, .unset, .unset, .unset]) rfl ?_
    refine g_goto C X66 at_102 (pc' := 136) (by decide) (by decide) ?_
    refine g_iload C X66 at_136 (pc' := 138) rfl rfl ?_
    refine g_sipush C X66 at_138 (pc' := 141) rfl (v := 255) rfl ?_
    refine g_iand C X66 at_141 (pc' := 142) rfl ?_
    refine g_i2c C X66 at_142 (pc' := 143) rfl ?_
    refine g_callS C X66 (w_31 hw) (w_32 hw) (w_4 hw) (w_33 hw) (by decide) at_143 (rm7 l Z a0 hw [] (p5 &&& (255 : Int32)).toUInt32.toUInt16.toUInt32.toInt32 cs1 T66.heap n0 Z66 f71 (own_c255 _).2 hcs) (by decide) (by decide) rfl pd_14 rfl (argsL := [(.int (p5 &&& (255 : Int32)).toUInt32.toUInt16.toUInt32.toInt32)]) (rest := []) rfl (W := 0) (Nat.le_of_eq rfl) rfl (by decide) (by decide) (pc' := 146) rfl (fun u77 T77 L77 X77 hQ77 => ?_)
    obtain ⟨o377, rfl, Nq77, szo377, Kq77⟩ := hQ77
    have N77 := Fr.app N66 Nq77
    have n78 : b55 ≠ o377 := Nat.ne_of_lt (Nat.lt_of_lt_of_le q66_0.lt szo377)
    have n79 : o366 ≠ o377 := Nat.ne_of_lt (Nat.lt_of_lt_of_le q66_3.lt szo377)
    have f80 := Sta.keepN f71 Kq77 all0
    have f81 := Sta.keepN f72 Kq77 all0
    have f82 := q66_0.keep Kq77
    have f83 := q66_1.keep Kq77 nin0
    have f84 := q66_2.keep Kq77 nin0
    have f85 := q66_3.keep Kq77 nin0
    have gn_o377 : n0 ≤ o377 := Nat.le_trans Z66 szo377
    have Z77 := Nat.le_trans Z66 Kq77.1
    show Goes p.tables e below G (T77.setTop (mkF m 146 #[.val (.int p0), .val (.int p1), .val (.int p2), .val (.int p3), .val (.int p4), .val (.int p5), .val (.int (1 : Int32)), .val (.int v2), .val (.int v3), .val (.int v4), .val (.ref b5), .val (.ref b13), .val (.ref b29), .val (.ref b55), .unset, .unset, .unset, .unset, .unset] [(.ref o377)]))
    refine g_astore C X77 at_146 (pc' := 148) rfl rfl (ls' := #[.val (.int p0), .val (.int p1), .val (.int p2), .val (.int p3), .val (.int p4), .val (.int p5), .val (.int (1 : Int32)), .val (.int v2), .val (.int v3), .val (.int v4), .val (.ref b5), .val (.ref b13), .val (.ref b29), .val (.ref b55), .val (.ref o377), .unset, .unset, .unset, .unset]) rfl ?_
    refine g_iload C X77 at_148 (pc' := 150) rfl rfl ?_
    refine g_bipush C X77 at_150 (pc' := 152) rfl (v := 8) rfl ?_
    refine g_ishr C X77 at_152 (pc' := 153) rfl ?_
    refine g_iconst C X77 at_153 (pc' := 154) rfl (v := 1) rfl ?_
    refine g_iand C X77 at_154 (pc' := 155) rfl ?_
    refine g_if_eq C X77 at_155 (pcT := 162) (pcN := 158) (by decide) (by decide) rfl (fun hc155 => ?_) (fun hc155 => ?_)
    · refine g_iload C X77 at_162 (pc' := 164) rfl rfl ?_
      refine g_bipush C X77 at_164 (pc' := 166) rfl (v := 9) rfl ?_
      refine g_ishr C X77 at_166 (pc' := 167) rfl ?_
      refine g_sipush C X77 at_167 (pc' := 170) rfl (v := 255) rfl ?_
      refine g_iand C X77 at_170 (pc' := 171) rfl ?_
      refine g_i2c C X77 at_171 (pc' := 172) rfl ?_
      refine g_callS C X77 (w_31 hw) (w_32 hw) (w_4 hw) (w_33 hw) (by decide) at_172 (rm7 l Z a0 hw [] ((p5 >>> ((9 : Int32) &&& 31)) &&& (255 : Int32)).toUInt32.toUInt16.toUInt32.toInt32 cs1 T77.heap n0 Z77 f80 (own_c255 _).2 hcs) (by decide) (by decide) rfl pd_14 rfl (argsL := [(.int ((p5 >>> ((9 : Int32) &&& 31)) &&& (255 : Int32)).toUInt32.toUInt16.toUInt32.toInt32)]) (rest := []) rfl (W := 0) (Nat.le_of_eq rfl) rfl (by decide) (by decide) (pc' := 175) rfl (fun u86 T86 L86 X86 hQ86 => ?_)
      obtain ⟨o386, rfl, Nq86, szo386, Kq86⟩ := hQ86
      have N86 := Fr.app N77 Nq86
      have n87 : b55 ≠ o386 := Nat.ne_of_lt (Nat.lt_of_lt_of_le f82.lt szo386)
      have n88 : o366 ≠ o386 := Nat.ne_of_lt (Nat.lt_of_lt_of_le f85.lt szo386)
      have f89 := Sta.keepN f80 Kq86 all0
      have f90 := Sta.keepN f81 Kq86 all0
      have f91 := f82.keep Kq86
      have f92 := f83.keep Kq86 nin0
      have f93 := f84.keep Kq86 nin0
      have f94 := f85.keep Kq86 nin0
      have gn_o386 : n0 ≤ o386 := Nat.le_trans Z77 szo386
      have Z86 := Nat.le_trans Z77 Kq86.1
      show Goes p.tables e below G (T86.setTop (mkF m 175 #[.val (.int p0), .val (.int p1), .val (.int p2), .val (.int p3), .val (.int p4), .val (.int p5), .val (.int (1 : Int32)), .val (.int v2), .val (.int v3), .val (.int v4), .val (.ref b5), .val (.ref b13), .val (.ref b29), .val (.ref b55), .val (.ref o377), .unset, .unset, .unset, .unset] [(.ref o386)]))
      refine g_astore C X86 at_175 (pc' := 177) rfl rfl (ls' := #[.val (.int p0), .val (.int p1), .val (.int p2), .val (.int p3), .val (.int p4), .val (.int p5), .val (.int (1 : Int32)), .val (.int v2), .val (.int v3), .val (.int v4), .val (.ref b5), .val (.ref b13), .val (.ref b29), .val (.ref b55), .val (.ref o377), .val (.ref o386), .unset, .unset, .unset]) rfl ?_
      refine g_iload C X86 at_177 (pc' := 179) rfl rfl ?_
      refine g_bipush C X86 at_179 (pc' := 181) rfl (v := 17) rfl ?_
      refine g_ishr C X86 at_181 (pc' := 182) rfl ?_
      refine g_sipush C X86 at_182 (pc' := 185) rfl (v := 255) rfl ?_
      refine g_iand C X86 at_185 (pc' := 186) rfl ?_
      refine g_i2c C X86 at_186 (pc' := 187) rfl ?_
      refine g_callS C X86 (w_31 hw) (w_32 hw) (w_4 hw) (w_33 hw) (by decide) at_187 (rm7 l Z a0 hw [] ((p5 >>> ((17 : Int32) &&& 31)) &&& (255 : Int32)).toUInt32.toUInt16.toUInt32.toInt32 cs1 T86.heap n0 Z86 f89 (own_c255 _).2 hcs) (by decide) (by decide) rfl pd_14 rfl (argsL := [(.int ((p5 >>> ((17 : Int32) &&& 31)) &&& (255 : Int32)).toUInt32.toUInt16.toUInt32.toInt32)]) (rest := []) rfl (W := 0) (Nat.le_of_eq rfl) rfl (by decide) (by decide) (pc' := 190) rfl (fun u95 T95 L95 X95 hQ95 => ?_)
      obtain ⟨o395, rfl, Nq95, szo395, Kq95⟩ := hQ95
      have N95 := Fr.app N86 Nq95
      have n96 : b55 ≠ o395 := Nat.ne_of_lt (Nat.lt_of_lt_of_le f91.lt szo395)
      have n97 : o366 ≠ o395 := Nat.ne_of_lt (Nat.lt_of_lt_of_le f94.lt szo395)
      have f98 := Sta.keepN f89 Kq95 all0
      have f99 := Sta.keepN f90 Kq95 all0
      have f100 := f91.keep Kq95
      have f101 := f92.keep Kq95 nin0
      have f102 := f93.keep Kq95 nin0
      have f103 := f94.keep Kq95 nin0
      have gn_o395 : n0 ≤ o395 := Nat.le_trans Z86 szo395
      have Z95 := Nat.le_trans Z86 Kq95.1
      show Goes p.tables e below G (T95.setTop (mkF m 190 #[.val (.int p0), .val (.int p1), .val (.int p2), .val (.int p3), .val (.int p4), .val (.int p5), .val (.int (1 : Int32)), .val (.int v2), .val (.int v3), .val (.int v4), .val (.ref b5), .val (.ref b13), .val (.ref b29), .val (.ref b55), .val (.ref o377), .val (.ref o386), .unset, .unset, .unset] [(.ref o395)]))
      refine g_astore C X95 at_190 (pc' := 192) rfl rfl (ls' := #[.val (.int p0), .val (.int p1), .val (.int p2), .val (.int p3), .val (.int p4), .val (.int p5), .val (.int (1 : Int32)), .val (.int v2), .val (.int v3), .val (.int v4), .val (.ref b5), .val (.ref b13), .val (.ref b29), .val (.ref b55), .val (.ref o377), .val (.ref o386), .val (.ref o395), .unset, .unset]) rfl ?_
      refine g_new C X95 (w_45 hw) (w_46 hw) (w_47 hw) rfl at_192 (pc' := 195) rfl (by decide) (by decide) (fun T104 h104 b104 X104 e104 g104 E104 A104 D104 => ?_)
      have n105 : b55 ≠ b104 := Nat.ne_of_lt (Nat.lt_of_lt_of_eq f100.lt g104.symm)
      have n106 : o366 ≠ b104 := Nat.ne_of_lt (Nat.lt_of_lt_of_eq f103.lt g104.symm)
      have f107 := f98.ext E104
      have f108 := f99.ext E104
      have f109 := f100.ext E104
      have f110 := f101.ext E104
      have f111 := f102.ext E104
      have f112 := f103.ext E104
      have gn_b104 : n0 ≤ b104 := Nat.le_trans Z95 (Nat.le_of_eq g104.symm)
      have Z104 := Nat.le_trans Z95 E104.1
      have f113 : Fld Z h104 b104 "com/example/hanko/hanko/access/GitConfig$Entry" "section" "Ljava/lang/String;" .null := D104 (Or.inr (w_58 hw)) (ty := (.object "java/lang/String")) (by decide)
      have f114 : Fld Z h104 b104 "com/example/hanko/hanko/access/GitConfig$Entry" "subsection" "Ljava/lang/String;" .null := D104 (Or.inr (w_60 hw)) (ty := (.object "java/lang/String")) (by decide)
      have f115 : Fld Z h104 b104 "com/example/hanko/hanko/access/GitConfig$Entry" "key" "Ljava/lang/String;" .null := D104 (Or.inr (w_62 hw)) (ty := (.object "java/lang/String")) (by decide)
      have f116 : Fld Z h104 b104 "com/example/hanko/hanko/access/GitConfig$Entry" "value" "Ljava/lang/String;" .null := D104 (Or.inr (w_64 hw)) (ty := (.object "java/lang/String")) (by decide)
      have f117 : Fld Z h104 b104 "com/example/hanko/hanko/access/GitConfig$Entry" "line" "I" (.int (0 : Int32)) := D104 (Or.inr (w_66 hw)) (ty := .int) (by decide)
      refine g_dup C X104 at_195 (pc' := 196) rfl rfl ?_
      refine g_aload C X104 at_196 (pc' := 198) rfl rfl rfl ?_
      refine g_aload C X104 at_198 (pc' := 200) rfl rfl rfl ?_
      refine g_aload C X104 at_200 (pc' := 202) rfl rfl rfl ?_
      refine g_aload C X104 at_202 (pc' := 204) rfl rfl rfl ?_
      refine g_iload C X104 at_204 (pc' := 206) rfl rfl ?_
      refine g_callI C X104 rfl (w_48 hw) (w_49 hw) (w_47 hw) (w_50 hw) (by decide) at_206 (rm11_s l Z a0 hw [] b104 o377 o386 o395 b55 p4 h104 n0 Z104 A104 f113 f114 f115 f116 f117 gn_b104) (by decide) (by decide) rfl pd_15 rfl (argsL := [(.ref o377), (.ref o386), (.ref o395), (.ref b55), (.int p4)]) (rest := [(.ref b104)]) rfl (W := 1) (Nat.le_of_eq rfl) e104 (by decide) (by decide) (pc' := 209) rfl (fun u118 T118 L118 X118 hQ118 => ?_)
      obtain ⟨rfl, Nq118, Kq118, q118_0, q118_1⟩ := hQ118
      have N118 := Fr.app N95 Nq118
      have f119 := Sta.keepN f107 Kq118 (allS (Exa.ns A104) all0)
      have f120 := Sta.keepN f108 Kq118 (allS (Exa.ns A104) all0)
      have f121 := f109.keep Kq118
      have f122 := f110.keep Kq118 (ninS n105 nin0)
      have f123 := f111.keep Kq118 (ninS n105 nin0)
      have f124 := f112.keep Kq118 (ninS n106 nin0)
      have f125 := A104.keep Kq118
      have Z118 := Nat.le_trans Z104 Kq118.1
      show Goes p.tables e below G (T118.setTop (mkF m 209 #[.val (.int p0), .val (.int p1), .val (.int p2), .val (.int p3), .val (.int p4), .val (.int p5), .val (.int (1 : Int32)), .val (.int v2), .val (.int v3), .val (.int v4), .val (.ref b5), .val (.ref b13), .val (.ref b29), .val (.ref b55), .val (.ref o377), .val (.ref o386), .val (.ref o395), .unset, .unset] [(.ref b104)]))
      refine g_astore C X118 at_209 (pc' := 211) rfl rfl (ls' := #[.val (.int p0), .val (.int p1), .val (.int p2), .val (.int p3), .val (.int p4), .val (.int p5), .val (.int (1 : Int32)), .val (.int v2), .val (.int v3), .val (.int v4), .val (.ref b5), .val (.ref b13), .val (.ref b29), .val (.ref b55), .val (.ref o377), .val (.ref o386), .val (.ref o395), .val (.ref b104), .unset]) rfl ?_
      refine g_aload C X118 at_211 (pc' := 213) rfl rfl rfl ?_
      refine g_callV C X118 (w_67 hw) (w_68 hw) (notFace_of_selects (args := #[]) (mvT C.2.1 (w_70 hw))) (w_70 hw) (w_69 hw) (w_71 hw) (w_47 hw) (by decide) q118_0 at_213 (rm13_1 l Z a0 hw [] b104 b55 o366 kd366 (nar .byte (nar .char v2).toInt8.toInt32) T118.heap n0 Z118 q118_0 q118_1 f121 f122 f123 f124) (by decide) (by decide) rfl pd_16 rfl (argsL := []) (rest := []) rfl (W := 0) (Nat.le_of_eq rfl) rfl (by decide) (by decide) (pc' := 216) rfl (fun u126 T126 L126 X126 hQ126 => ?_)
      obtain ⟨rfl, Nq126, eq126⟩ := hQ126
      have N126 := Fr.app N118 Nq126
      show Goes p.tables e below G (T126.setTop (mkF m 216 #[.val (.int p0), .val (.int p1), .val (.int p2), .val (.int p3), .val (.int p4), .val (.int p5), .val (.int (1 : Int32)), .val (.int v2), .val (.int v3), .val (.int v4), .val (.ref b5), .val (.ref b13), .val (.ref b29), .val (.ref b55), .val (.ref o377), .val (.ref o386), .val (.ref o395), .val (.ref b104), .unset] [(.ref b55)]))
      refine g_astore C X126 at_216 (pc' := 218) rfl rfl (ls' := #[.val (.int p0), .val (.int p1), .val (.int p2), .val (.int p3), .val (.int p4), .val (.int p5), .val (.int (1 : Int32)), .val (.int v2), .val (.int v3), .val (.int v4), .val (.ref b5), .val (.ref b13), .val (.ref b29), .val (.ref b55), .val (.ref o377), .val (.ref o386), .val (.ref o395), .val (.ref b104), .val (.ref b55)]) rfl ?_
      refine g_aload C X126 at_218 (pc' := 220) rfl rfl rfl ?_
      refine g_ifnonnullY C X126 at_220 (pc' := 225) (by decide) (by decide) ?_
      refine g_aload C X126 at_225 (pc' := 227) rfl rfl rfl ?_
      refine g_callV C X126 (w_77 hw) (w_78 hw) (notFace_of_selects (args := #[]) (mvT C.2.1 (w_80 hw))) (w_80 hw) (w_79 hw) (w_81 hw) (w_4 hw) (by decide) f121 at_227 (rm15_1 l Z a0 hw [] b55 o366 kd366 (nar .byte (nar .char v2).toInt8.toInt32) cs1 T118.heap n0 Z118 f121 f122 f123 f124 f119 hcs) (by decide) (by decide) rfl pd_17 rfl (argsL := []) (rest := []) rfl (W := 0) (Nat.le_of_eq rfl) eq126 (by decide) (by decide) (pc' := 230) rfl (fun u127 T127 L127 X127 hQ127 => ?_)
      obtain ⟨rfl, Nq127, eq127⟩ := hQ127
      have N127 := Fr.app N126 Nq127
      show Goes p.tables e below G (T127.setTop (mkF m 230 #[.val (.int p0), .val (.int p1), .val (.int p2), .val (.int p3), .val (.int p4), .val (.int p5), .val (.int (1 : Int32)), .val (.int v2), .val (.int v3), .val (.int v4), .val (.ref b5), .val (.ref b13), .val (.ref b29), .val (.ref b55), .val (.ref o377), .val (.ref o386), .val (.ref o395), .val (.ref b104), .val (.ref b55)] [(.int (1 : Int32))]))
      refine g_iload C X127 at_230 (pc' := 232) rfl rfl ?_
      refine g_icmp_eq C X127 at_232 (pcT := 237) (pcN := 235) (by decide) (by decide) rfl (fun hc232 => ?_) (fun hc232 => absurd hc232 (by decide))
      refine g_aload C X127 at_237 (pc' := 239) rfl rfl rfl ?_
      refine g_iconst C X127 at_239 (pc' := 240) rfl (v := 0) rfl ?_
      refine g_callV C X127 (w_87 hw) (w_88 hw) (notFace_of_selects (args := #[]) (mvT C.2.1 (w_90 hw))) (w_90 hw) (w_89 hw) (w_91 hw) (w_4 hw) (by decide) f121 at_240 (rm17_1_0 l Z a0 hw [] b55 o366 kd366 (nar .byte (nar .char v2).toInt8.toInt32) cs1 wf1 T118.heap n0 Z118 f121 f122 f123 f124 f119 f120 hcs hwf) (by decide) (by decide) rfl pd_18 rfl (argsL := [(.int (0 : Int32))]) (rest := []) rfl (W := 0) (Nat.le_of_eq rfl) eq127 (by decide) (by decide) (pc' := 243) rfl (fun u128 T128 L128 X128 hQ128 => ?_)
      obtain ⟨rfl, Nq128, eq128⟩ := hQ128
      have N128 := Fr.app N127 Nq128
      obtain ⟨r128, hr128⟩ : ∃ z : Int32, (own_ch (nar .byte (nar .char v2).toInt8.toInt32)) = z := ⟨_, rfl⟩
      rw [hr128]
      show Goes p.tables e below G (T128.setTop (mkF m 243 #[.val (.int p0), .val (.int p1), .val (.int p2), .val (.int p3), .val (.int p4), .val (.int p5), .val (.int (1 : Int32)), .val (.int v2), .val (.int v3), .val (.int v4), .val (.ref b5), .val (.ref b13), .val (.ref b29), .val (.ref b55), .val (.ref o377), .val (.ref o386), .val (.ref o395), .val (.ref b104), .val (.ref b55)] [(.int r128)]))
      refine g_iload C X128 at_243 (pc' := 245) rfl rfl ?_
      refine g_icmp_eq C X128 at_245 (pcT := 250) (pcN := 248) (by decide) (by decide) rfl (fun hc245 => ?_) (fun hc245 => absurd (hr128.symm.trans (own_back (own_chk hv2))) hc245)
      refine g_iload C X128 at_250 (pc' := 252) rfl rfl ?_
      refine g_iconst C X128 at_252 (pc' := 253) rfl (v := 2) rfl ?_
      refine g_icmp_lt C X128 at_253 (pcT := 269) (pcN := 256) (by decide) (by decide) rfl (fun hc253 => ?_) (fun hc253 => absurd hc253 (by decide))
      refine g_iload C X128 at_269 (pc' := 271) rfl rfl ?_
      refine g_iconst C X128 at_271 (pc' := 272) rfl (v := 3) rfl ?_
      refine g_icmp_ne C X128 at_272 (pcT := 288) (pcN := 275) (by decide) (by decide) rfl (fun hc272 => ?_) (fun hc272 => absurd hc272 (by decide))
      refine g_aload C X128 at_288 (pc' := 290) rfl rfl rfl ?_
      refine g_aload C X128 at_290 (pc' := 292) rfl rfl rfl ?_
      refine g_callV C X128 (w_108 hw) (w_109 hw) (notFace_of_selects (args := #[]) (mvT C.2.1 (w_111 hw))) (w_111 hw) (w_110 hw) (w_112 hw) (w_4 hw) (by decide) f121 at_292 (rm22 l Z a0 hw [] b55 b55 T118.heap n0 Z118 rfl) (by decide) (by decide) rfl pd_19 rfl (argsL := [(.ref b55)]) (rest := []) rfl (W := 0) (Nat.le_of_eq rfl) eq128 (by decide) (by decide) (pc' := 295) rfl (fun u129 T129 L129 X129 hQ129 => ?_)
      obtain ⟨rfl, Nq129, eq129⟩ := hQ129
      have N129 := Fr.app N128 Nq129
      show Goes p.tables e below G (T129.setTop (mkF m 295 #[.val (.int p0), .val (.int p1), .val (.int p2), .val (.int p3), .val (.int p4), .val (.int p5), .val (.int (1 : Int32)), .val (.int v2), .val (.int v3), .val (.int v4), .val (.ref b5), .val (.ref b13), .val (.ref b29), .val (.ref b55), .val (.ref o377), .val (.ref o386), .val (.ref o395), .val (.ref b104), .val (.ref b55)] [(.int (1 : Int32))]))
      exact g_retN C X129 K (by simp) at_295 (by decide) (by decide) eq129 ⟨rfl, N129⟩
    · refine g_aconstNull C X77 at_158 (pc' := 159) rfl ?_
      refine g_goto C X77 at_159 (pc' := 175) (by decide) (by decide) ?_
      refine g_astore C X77 at_175 (pc' := 177) rfl rfl (ls' := #[.val (.int p0), .val (.int p1), .val (.int p2), .val (.int p3), .val (.int p4), .val (.int p5), .val (.int (1 : Int32)), .val (.int v2), .val (.int v3), .val (.int v4), .val (.ref b5), .val (.ref b13), .val (.ref b29), .val (.ref b55), .val (.ref o377), .val .null, .unset, .unset, .unset]) rfl ?_
      refine g_iload C X77 at_177 (pc' := 179) rfl rfl ?_
      refine g_bipush C X77 at_179 (pc' := 181) rfl (v := 17) rfl ?_
      refine g_ishr C X77 at_181 (pc' := 182) rfl ?_
      refine g_sipush C X77 at_182 (pc' := 185) rfl (v := 255) rfl ?_
      refine g_iand C X77 at_185 (pc' := 186) rfl ?_
      refine g_i2c C X77 at_186 (pc' := 187) rfl ?_
      refine g_callS C X77 (w_31 hw) (w_32 hw) (w_4 hw) (w_33 hw) (by decide) at_187 (rm7 l Z a0 hw [] ((p5 >>> ((17 : Int32) &&& 31)) &&& (255 : Int32)).toUInt32.toUInt16.toUInt32.toInt32 cs1 T77.heap n0 Z77 f80 (own_c255 _).2 hcs) (by decide) (by decide) rfl pd_14 rfl (argsL := [(.int ((p5 >>> ((17 : Int32) &&& 31)) &&& (255 : Int32)).toUInt32.toUInt16.toUInt32.toInt32)]) (rest := []) rfl (W := 0) (Nat.le_of_eq rfl) rfl (by decide) (by decide) (pc' := 190) rfl (fun u130 T130 L130 X130 hQ130 => ?_)
      obtain ⟨o3130, rfl, Nq130, szo3130, Kq130⟩ := hQ130
      have N130 := Fr.app N77 Nq130
      have n131 : b55 ≠ o3130 := Nat.ne_of_lt (Nat.lt_of_lt_of_le f82.lt szo3130)
      have n132 : o366 ≠ o3130 := Nat.ne_of_lt (Nat.lt_of_lt_of_le f85.lt szo3130)
      have f133 := Sta.keepN f80 Kq130 all0
      have f134 := Sta.keepN f81 Kq130 all0
      have f135 := f82.keep Kq130
      have f136 := f83.keep Kq130 nin0
      have f137 := f84.keep Kq130 nin0
      have f138 := f85.keep Kq130 nin0
      have gn_o3130 : n0 ≤ o3130 := Nat.le_trans Z77 szo3130
      have Z130 := Nat.le_trans Z77 Kq130.1
      show Goes p.tables e below G (T130.setTop (mkF m 190 #[.val (.int p0), .val (.int p1), .val (.int p2), .val (.int p3), .val (.int p4), .val (.int p5), .val (.int (1 : Int32)), .val (.int v2), .val (.int v3), .val (.int v4), .val (.ref b5), .val (.ref b13), .val (.ref b29), .val (.ref b55), .val (.ref o377), .val .null, .unset, .unset, .unset] [(.ref o3130)]))
      refine g_astore C X130 at_190 (pc' := 192) rfl rfl (ls' := #[.val (.int p0), .val (.int p1), .val (.int p2), .val (.int p3), .val (.int p4), .val (.int p5), .val (.int (1 : Int32)), .val (.int v2), .val (.int v3), .val (.int v4), .val (.ref b5), .val (.ref b13), .val (.ref b29), .val (.ref b55), .val (.ref o377), .val .null, .val (.ref o3130), .unset, .unset]) rfl ?_
      refine g_new C X130 (w_45 hw) (w_46 hw) (w_47 hw) rfl at_192 (pc' := 195) rfl (by decide) (by decide) (fun T139 h139 b139 X139 e139 g139 E139 A139 D139 => ?_)
      have n140 : b55 ≠ b139 := Nat.ne_of_lt (Nat.lt_of_lt_of_eq f135.lt g139.symm)
      have n141 : o366 ≠ b139 := Nat.ne_of_lt (Nat.lt_of_lt_of_eq f138.lt g139.symm)
      have f142 := f133.ext E139
      have f143 := f134.ext E139
      have f144 := f135.ext E139
      have f145 := f136.ext E139
      have f146 := f137.ext E139
      have f147 := f138.ext E139
      have gn_b139 : n0 ≤ b139 := Nat.le_trans Z130 (Nat.le_of_eq g139.symm)
      have Z139 := Nat.le_trans Z130 E139.1
      have f148 : Fld Z h139 b139 "com/example/hanko/hanko/access/GitConfig$Entry" "section" "Ljava/lang/String;" .null := D139 (Or.inr (w_58 hw)) (ty := (.object "java/lang/String")) (by decide)
      have f149 : Fld Z h139 b139 "com/example/hanko/hanko/access/GitConfig$Entry" "subsection" "Ljava/lang/String;" .null := D139 (Or.inr (w_60 hw)) (ty := (.object "java/lang/String")) (by decide)
      have f150 : Fld Z h139 b139 "com/example/hanko/hanko/access/GitConfig$Entry" "key" "Ljava/lang/String;" .null := D139 (Or.inr (w_62 hw)) (ty := (.object "java/lang/String")) (by decide)
      have f151 : Fld Z h139 b139 "com/example/hanko/hanko/access/GitConfig$Entry" "value" "Ljava/lang/String;" .null := D139 (Or.inr (w_64 hw)) (ty := (.object "java/lang/String")) (by decide)
      have f152 : Fld Z h139 b139 "com/example/hanko/hanko/access/GitConfig$Entry" "line" "I" (.int (0 : Int32)) := D139 (Or.inr (w_66 hw)) (ty := .int) (by decide)
      refine g_dup C X139 at_195 (pc' := 196) rfl rfl ?_
      refine g_aload C X139 at_196 (pc' := 198) rfl rfl rfl ?_
      refine g_aload C X139 at_198 (pc' := 200) rfl rfl rfl ?_
      refine g_aload C X139 at_200 (pc' := 202) rfl rfl rfl ?_
      refine g_aload C X139 at_202 (pc' := 204) rfl rfl rfl ?_
      refine g_iload C X139 at_204 (pc' := 206) rfl rfl ?_
      refine g_callI C X139 rfl (w_48 hw) (w_49 hw) (w_47 hw) (w_50 hw) (by decide) at_206 (rm11_n l Z a0 hw [] b139 o377 o3130 b55 p4 h139 n0 Z139 A139 f148 f149 f150 f151 f152 gn_b139) (by decide) (by decide) rfl pd_15 rfl (argsL := [(.ref o377), .null, (.ref o3130), (.ref b55), (.int p4)]) (rest := [(.ref b139)]) rfl (W := 1) (Nat.le_of_eq rfl) e139 (by decide) (by decide) (pc' := 209) rfl (fun u153 T153 L153 X153 hQ153 => ?_)
      obtain ⟨rfl, Nq153, Kq153, q153_0, q153_1⟩ := hQ153
      have N153 := Fr.app N130 Nq153
      have f154 := Sta.keepN f142 Kq153 (allS (Exa.ns A139) all0)
      have f155 := Sta.keepN f143 Kq153 (allS (Exa.ns A139) all0)
      have f156 := f144.keep Kq153
      have f157 := f145.keep Kq153 (ninS n140 nin0)
      have f158 := f146.keep Kq153 (ninS n140 nin0)
      have f159 := f147.keep Kq153 (ninS n141 nin0)
      have f160 := A139.keep Kq153
      have Z153 := Nat.le_trans Z139 Kq153.1
      show Goes p.tables e below G (T153.setTop (mkF m 209 #[.val (.int p0), .val (.int p1), .val (.int p2), .val (.int p3), .val (.int p4), .val (.int p5), .val (.int (1 : Int32)), .val (.int v2), .val (.int v3), .val (.int v4), .val (.ref b5), .val (.ref b13), .val (.ref b29), .val (.ref b55), .val (.ref o377), .val .null, .val (.ref o3130), .unset, .unset] [(.ref b139)]))
      refine g_astore C X153 at_209 (pc' := 211) rfl rfl (ls' := #[.val (.int p0), .val (.int p1), .val (.int p2), .val (.int p3), .val (.int p4), .val (.int p5), .val (.int (1 : Int32)), .val (.int v2), .val (.int v3), .val (.int v4), .val (.ref b5), .val (.ref b13), .val (.ref b29), .val (.ref b55), .val (.ref o377), .val .null, .val (.ref o3130), .val (.ref b139), .unset]) rfl ?_
      refine g_aload C X153 at_211 (pc' := 213) rfl rfl rfl ?_
      refine g_callV C X153 (w_67 hw) (w_68 hw) (notFace_of_selects (args := #[]) (mvT C.2.1 (w_70 hw))) (w_70 hw) (w_69 hw) (w_71 hw) (w_47 hw) (by decide) q153_0 at_213 (rm13_1 l Z a0 hw [] b139 b55 o366 kd366 (nar .byte (nar .char v2).toInt8.toInt32) T153.heap n0 Z153 q153_0 q153_1 f156 f157 f158 f159) (by decide) (by decide) rfl pd_16 rfl (argsL := []) (rest := []) rfl (W := 0) (Nat.le_of_eq rfl) rfl (by decide) (by decide) (pc' := 216) rfl (fun u161 T161 L161 X161 hQ161 => ?_)
      obtain ⟨rfl, Nq161, eq161⟩ := hQ161
      have N161 := Fr.app N153 Nq161
      show Goes p.tables e below G (T161.setTop (mkF m 216 #[.val (.int p0), .val (.int p1), .val (.int p2), .val (.int p3), .val (.int p4), .val (.int p5), .val (.int (1 : Int32)), .val (.int v2), .val (.int v3), .val (.int v4), .val (.ref b5), .val (.ref b13), .val (.ref b29), .val (.ref b55), .val (.ref o377), .val .null, .val (.ref o3130), .val (.ref b139), .unset] [(.ref b55)]))
      refine g_astore C X161 at_216 (pc' := 218) rfl rfl (ls' := #[.val (.int p0), .val (.int p1), .val (.int p2), .val (.int p3), .val (.int p4), .val (.int p5), .val (.int (1 : Int32)), .val (.int v2), .val (.int v3), .val (.int v4), .val (.ref b5), .val (.ref b13), .val (.ref b29), .val (.ref b55), .val (.ref o377), .val .null, .val (.ref o3130), .val (.ref b139), .val (.ref b55)]) rfl ?_
      refine g_aload C X161 at_218 (pc' := 220) rfl rfl rfl ?_
      refine g_ifnonnullY C X161 at_220 (pc' := 225) (by decide) (by decide) ?_
      refine g_aload C X161 at_225 (pc' := 227) rfl rfl rfl ?_
      refine g_callV C X161 (w_77 hw) (w_78 hw) (notFace_of_selects (args := #[]) (mvT C.2.1 (w_80 hw))) (w_80 hw) (w_79 hw) (w_81 hw) (w_4 hw) (by decide) f156 at_227 (rm15_1 l Z a0 hw [] b55 o366 kd366 (nar .byte (nar .char v2).toInt8.toInt32) cs1 T153.heap n0 Z153 f156 f157 f158 f159 f154 hcs) (by decide) (by decide) rfl pd_17 rfl (argsL := []) (rest := []) rfl (W := 0) (Nat.le_of_eq rfl) eq161 (by decide) (by decide) (pc' := 230) rfl (fun u162 T162 L162 X162 hQ162 => ?_)
      obtain ⟨rfl, Nq162, eq162⟩ := hQ162
      have N162 := Fr.app N161 Nq162
      show Goes p.tables e below G (T162.setTop (mkF m 230 #[.val (.int p0), .val (.int p1), .val (.int p2), .val (.int p3), .val (.int p4), .val (.int p5), .val (.int (1 : Int32)), .val (.int v2), .val (.int v3), .val (.int v4), .val (.ref b5), .val (.ref b13), .val (.ref b29), .val (.ref b55), .val (.ref o377), .val .null, .val (.ref o3130), .val (.ref b139), .val (.ref b55)] [(.int (1 : Int32))]))
      refine g_iload C X162 at_230 (pc' := 232) rfl rfl ?_
      refine g_icmp_eq C X162 at_232 (pcT := 237) (pcN := 235) (by decide) (by decide) rfl (fun hc232 => ?_) (fun hc232 => absurd hc232 (by decide))
      refine g_aload C X162 at_237 (pc' := 239) rfl rfl rfl ?_
      refine g_iconst C X162 at_239 (pc' := 240) rfl (v := 0) rfl ?_
      refine g_callV C X162 (w_87 hw) (w_88 hw) (notFace_of_selects (args := #[]) (mvT C.2.1 (w_90 hw))) (w_90 hw) (w_89 hw) (w_91 hw) (w_4 hw) (by decide) f156 at_240 (rm17_1_0 l Z a0 hw [] b55 o366 kd366 (nar .byte (nar .char v2).toInt8.toInt32) cs1 wf1 T153.heap n0 Z153 f156 f157 f158 f159 f154 f155 hcs hwf) (by decide) (by decide) rfl pd_18 rfl (argsL := [(.int (0 : Int32))]) (rest := []) rfl (W := 0) (Nat.le_of_eq rfl) eq162 (by decide) (by decide) (pc' := 243) rfl (fun u163 T163 L163 X163 hQ163 => ?_)
      obtain ⟨rfl, Nq163, eq163⟩ := hQ163
      have N163 := Fr.app N162 Nq163
      obtain ⟨r163, hr163⟩ : ∃ z : Int32, (own_ch (nar .byte (nar .char v2).toInt8.toInt32)) = z := ⟨_, rfl⟩
      rw [hr163]
      show Goes p.tables e below G (T163.setTop (mkF m 243 #[.val (.int p0), .val (.int p1), .val (.int p2), .val (.int p3), .val (.int p4), .val (.int p5), .val (.int (1 : Int32)), .val (.int v2), .val (.int v3), .val (.int v4), .val (.ref b5), .val (.ref b13), .val (.ref b29), .val (.ref b55), .val (.ref o377), .val .null, .val (.ref o3130), .val (.ref b139), .val (.ref b55)] [(.int r163)]))
      refine g_iload C X163 at_243 (pc' := 245) rfl rfl ?_
      refine g_icmp_eq C X163 at_245 (pcT := 250) (pcN := 248) (by decide) (by decide) rfl (fun hc245 => ?_) (fun hc245 => absurd (hr163.symm.trans (own_back (own_chk hv2))) hc245)
      refine g_iload C X163 at_250 (pc' := 252) rfl rfl ?_
      refine g_iconst C X163 at_252 (pc' := 253) rfl (v := 2) rfl ?_
      refine g_icmp_lt C X163 at_253 (pcT := 269) (pcN := 256) (by decide) (by decide) rfl (fun hc253 => ?_) (fun hc253 => absurd hc253 (by decide))
      refine g_iload C X163 at_269 (pc' := 271) rfl rfl ?_
      refine g_iconst C X163 at_271 (pc' := 272) rfl (v := 3) rfl ?_
      refine g_icmp_ne C X163 at_272 (pcT := 288) (pcN := 275) (by decide) (by decide) rfl (fun hc272 => ?_) (fun hc272 => absurd hc272 (by decide))
      refine g_aload C X163 at_288 (pc' := 290) rfl rfl rfl ?_
      refine g_aload C X163 at_290 (pc' := 292) rfl rfl rfl ?_
      refine g_callV C X163 (w_108 hw) (w_109 hw) (notFace_of_selects (args := #[]) (mvT C.2.1 (w_111 hw))) (w_111 hw) (w_110 hw) (w_112 hw) (w_4 hw) (by decide) f156 at_292 (rm22 l Z a0 hw [] b55 b55 T153.heap n0 Z153 rfl) (by decide) (by decide) rfl pd_19 rfl (argsL := [(.ref b55)]) (rest := []) rfl (W := 0) (Nat.le_of_eq rfl) eq163 (by decide) (by decide) (pc' := 295) rfl (fun u164 T164 L164 X164 hQ164 => ?_)
      obtain ⟨rfl, Nq164, eq164⟩ := hQ164
      have N164 := Fr.app N163 Nq164
      show Goes p.tables e below G (T164.setTop (mkF m 295 #[.val (.int p0), .val (.int p1), .val (.int p2), .val (.int p3), .val (.int p4), .val (.int p5), .val (.int (1 : Int32)), .val (.int v2), .val (.int v3), .val (.int v4), .val (.ref b5), .val (.ref b13), .val (.ref b29), .val (.ref b55), .val (.ref o377), .val .null, .val (.ref o3130), .val (.ref b139), .val (.ref b55)] [(.int (1 : Int32))]))
      exact g_retN C X164 K (by simp) at_295 (by decide) (by decide) eq164 ⟨rfl, N164⟩
  · subst hsp
    refine g_iloadN C X0 at_10 (pc' := 11) rfl rfl ?_
    refine g_sipush C X0 at_11 (pc' := 14) rfl (v := 255) rfl ?_
    refine g_iand C X0 at_14 (pc' := 15) rfl ?_
    refine g_i2c C X0 at_15 (pc' := 16) rfl ?_
    obtain ⟨v165, hv165⟩ : ∃ z : Int32, (p0 &&& (255 : Int32)).toUInt32.toUInt16.toUInt32.toInt32 = z := ⟨_, rfl⟩
    refine g_istore C X0 at_16 (pc' := 18) rfl (w := v165) hv165 (ls' := #[.val (.int p0), .val (.int p1), .val (.int p2), .val (.int p3), .val (.int p4), .val (.int p5), .val (.int (2 : Int32)), .val (.int v165), .unset, .unset, .unset, .unset, .unset, .unset, .unset, .unset, .unset, .unset, .unset]) rfl ?_
    refine g_iloadN C X0 at_18 (pc' := 19) rfl rfl ?_
    refine g_sipush C X0 at_19 (pc' := 22) rfl (v := 255) rfl ?_
    refine g_iand C X0 at_22 (pc' := 23) rfl ?_
    refine g_i2c C X0 at_23 (pc' := 24) rfl ?_
    obtain ⟨v166, hv166⟩ : ∃ z : Int32, (p1 &&& (255 : Int32)).toUInt32.toUInt16.toUInt32.toInt32 = z := ⟨_, rfl⟩
    refine g_istore C X0 at_24 (pc' := 26) rfl (w := v166) hv166 (ls' := #[.val (.int p0), .val (.int p1), .val (.int p2), .val (.int p3), .val (.int p4), .val (.int p5), .val (.int (2 : Int32)), .val (.int v165), .val (.int v166), .unset, .unset, .unset, .unset, .unset, .unset, .unset, .unset, .unset, .unset]) rfl ?_
    refine g_iloadN C X0 at_26 (pc' := 27) rfl rfl ?_
    refine g_sipush C X0 at_27 (pc' := 30) rfl (v := 255) rfl ?_
    refine g_iand C X0 at_30 (pc' := 31) rfl ?_
    refine g_i2c C X0 at_31 (pc' := 32) rfl ?_
    obtain ⟨v167, hv167⟩ : ∃ z : Int32, (p2 &&& (255 : Int32)).toUInt32.toUInt16.toUInt32.toInt32 = z := ⟨_, rfl⟩
    refine g_istore C X0 at_32 (pc' := 34) rfl (w := v167) hv167 (ls' := #[.val (.int p0), .val (.int p1), .val (.int p2), .val (.int p3), .val (.int p4), .val (.int p5), .val (.int (2 : Int32)), .val (.int v165), .val (.int v166), .val (.int v167), .unset, .unset, .unset, .unset, .unset, .unset, .unset, .unset, .unset]) rfl ?_
    refine g_iconst C X0 at_34 (pc' := 35) rfl (v := 1) rfl ?_
    refine g_newA (aty := .char) (n := (1 : Int32)) C X0 (cap := 1) (w_1 hw) e0 at_35 (pc' := 37) rfl (by decide) (by decide) (by decide) (by decide) (by decide) (fun T168 h168 b168 ki168 X168 e168 g168 E168 A168 => ?_)
    have f169 := F0.ext E168
    have f170 := F1.ext E168
    have gn_b168 : n0 ≤ b168 := Nat.le_trans Z0 (Nat.le_of_eq g168.symm)
    have Z168 := Nat.le_trans Z0 E168.1
    have f171 : Arv Z h168 b168 ki168 .char (1 : Int32) [(.int (0 : Int32))] (.int (0 : Int32)) := A168.pad (pad_rep [] (.int (0 : Int32)) 1)
    refine g_astore C X168 at_37 (pc' := 39) rfl rfl (ls' := #[.val (.int p0), .val (.int p1), .val (.int p2), .val (.int p3), .val (.int p4), .val (.int p5), .val (.int (2 : Int32)), .val (.int v165), .val (.int v166), .val (.int v167), .val (.ref b168), .unset, .unset, .unset, .unset, .unset, .unset, .unset, .unset]) rfl ?_
    refine g_aload C X168 at_39 (pc' := 41) rfl rfl rfl ?_
    refine g_iconst C X168 at_41 (pc' := 42) rfl (v := 0) rfl ?_
    refine g_iload C X168 at_42 (pc' := 44) rfl rfl ?_
    refine g_castore C X168 (i := 0) e168 f171 (by decide) rfl (Nat.le_of_ble_eq_true rfl) at_44 (pc' := 45) rfl (fun T172 h172 X172 e172 W172 A172 => ?_)
    have f173 := f169.wr W172
    have f174 := f170.wr W172
    have f175 : Arv Z h172 b168 ki168 .char (1 : Int32) [(.int (nar .char v165))] (.int (0 : Int32)) := A172
    have N172 := Fr.snoc X172 N0 gn_b168
    have Z172 := Nat.le_trans Z168 (Nat.le_of_eq W172.size.symm)
    refine g_iconst C X172 at_45 (pc' := 46) rfl (v := 2) rfl ?_
    refine g_newA (aty := .char) (n := (2 : Int32)) C X172 (cap := 2) (w_1 hw) e172 at_46 (pc' := 48) rfl (by decide) (by decide) (by decide) (by decide) (by decide) (fun T176 h176 b176 ki176 X176 e176 g176 E176 A176 => ?_)
    have n177 : b168 ≠ b176 := Nat.ne_of_lt (Nat.lt_of_lt_of_eq f175.lt g176.symm)
    have f178 := f173.ext E176
    have f179 := f174.ext E176
    have f180 := f175.ext E176
    have gn_b176 : n0 ≤ b176 := Nat.le_trans Z172 (Nat.le_of_eq g176.symm)
    have Z176 := Nat.le_trans Z172 E176.1
    have f181 : Arv Z h176 b176 ki176 .char (2 : Int32) [(.int (0 : Int32)), (.int (0 : Int32))] (.int (0 : Int32)) := A176.pad (pad_rep [] (.int (0 : Int32)) 2)
    refine g_astore C X176 at_48 (pc' := 50) rfl rfl (ls' := #[.val (.int p0), .val (.int p1), .val (.int p2), .val (.int p3), .val (.int p4), .val (.int p5), .val (.int (2 : Int32)), .val (.int v165), .val (.int v166), .val (.int v167), .val (.ref b168), .val (.ref b176), .unset, .unset, .unset, .unset, .unset, .unset, .unset]) rfl ?_
    refine g_aload C X176 at_50 (pc' := 52) rfl rfl rfl ?_
    refine g_iconst C X176 at_52 (pc' := 53) rfl (v := 0) rfl ?_
    refine g_iload C X176 at_53 (pc' := 55) rfl rfl ?_
    refine g_castore C X176 (i := 0) e176 f181 (by decide) rfl (Nat.le_of_ble_eq_true rfl) at_55 (pc' := 56) rfl (fun T182 h182 X182 e182 W182 A182 => ?_)
    have f183 := f178.wr W182
    have f184 := f179.wr W182
    have f185 := f180.other W182 n177
    have f186 : Arv Z h182 b176 ki176 .char (2 : Int32) [(.int (nar .char v165)), (.int (0 : Int32))] (.int (0 : Int32)) := A182
    have N182 := Fr.snoc X182 N172 gn_b176
    have Z182 := Nat.le_trans Z176 (Nat.le_of_eq W182.size.symm)
    refine g_aload C X182 at_56 (pc' := 58) rfl rfl rfl ?_
    refine g_iconst C X182 at_58 (pc' := 59) rfl (v := 1) rfl ?_
    refine g_iload C X182 at_59 (pc' := 61) rfl rfl ?_
    refine g_castore C X182 (i := 1) e182 f186 (by decide) rfl (Nat.le_of_ble_eq_true rfl) at_61 (pc' := 62) rfl (fun T187 h187 X187 e187 W187 A187 => ?_)
    have f188 := f183.wr W187
    have f189 := f184.wr W187
    have f190 := f185.other W187 n177
    have f191 : Arv Z h187 b176 ki176 .char (2 : Int32) [(.int (nar .char v165)), (.int (nar .char v166))] (.int (0 : Int32)) := A187
    have N187 := Fr.snoc X187 N182 gn_b176
    have Z187 := Nat.le_trans Z182 (Nat.le_of_eq W187.size.symm)
    refine g_iconst C X187 at_62 (pc' := 63) rfl (v := 3) rfl ?_
    refine g_newA (aty := .char) (n := (3 : Int32)) C X187 (cap := 3) (w_1 hw) e187 at_63 (pc' := 65) rfl (by decide) (by decide) (by decide) (by decide) (by decide) (fun T192 h192 b192 ki192 X192 e192 g192 E192 A192 => ?_)
    have n193 : b168 ≠ b192 := Nat.ne_of_lt (Nat.lt_of_lt_of_eq f190.lt g192.symm)
    have n194 : b176 ≠ b192 := Nat.ne_of_lt (Nat.lt_of_lt_of_eq f191.lt g192.symm)
    have f195 := f188.ext E192
    have f196 := f189.ext E192
    have f197 := f190.ext E192
    have f198 := f191.ext E192
    have gn_b192 : n0 ≤ b192 := Nat.le_trans Z187 (Nat.le_of_eq g192.symm)
    have Z192 := Nat.le_trans Z187 E192.1
    have f199 : Arv Z h192 b192 ki192 .char (3 : Int32) [(.int (0 : Int32)), (.int (0 : Int32)), (.int (0 : Int32))] (.int (0 : Int32)) := A192.pad (pad_rep [] (.int (0 : Int32)) 3)
    refine g_astore C X192 at_65 (pc' := 67) rfl rfl (ls' := #[.val (.int p0), .val (.int p1), .val (.int p2), .val (.int p3), .val (.int p4), .val (.int p5), .val (.int (2 : Int32)), .val (.int v165), .val (.int v166), .val (.int v167), .val (.ref b168), .val (.ref b176), .val (.ref b192), .unset, .unset, .unset, .unset, .unset, .unset]) rfl ?_
    refine g_aload C X192 at_67 (pc' := 69) rfl rfl rfl ?_
    refine g_iconst C X192 at_69 (pc' := 70) rfl (v := 0) rfl ?_
    refine g_iload C X192 at_70 (pc' := 72) rfl rfl ?_
    refine g_castore C X192 (i := 0) e192 f199 (by decide) rfl (Nat.le_of_ble_eq_true rfl) at_72 (pc' := 73) rfl (fun T200 h200 X200 e200 W200 A200 => ?_)
    have f201 := f195.wr W200
    have f202 := f196.wr W200
    have f203 := f197.other W200 n193
    have f204 := f198.other W200 n194
    have f205 : Arv Z h200 b192 ki192 .char (3 : Int32) [(.int (nar .char v165)), (.int (0 : Int32)), (.int (0 : Int32))] (.int (0 : Int32)) := A200
    have N200 := Fr.snoc X200 N187 gn_b192
    have Z200 := Nat.le_trans Z192 (Nat.le_of_eq W200.size.symm)
    refine g_aload C X200 at_73 (pc' := 75) rfl rfl rfl ?_
    refine g_iconst C X200 at_75 (pc' := 76) rfl (v := 1) rfl ?_
    refine g_iload C X200 at_76 (pc' := 78) rfl rfl ?_
    refine g_castore C X200 (i := 1) e200 f205 (by decide) rfl (Nat.le_of_ble_eq_true rfl) at_78 (pc' := 79) rfl (fun T206 h206 X206 e206 W206 A206 => ?_)
    have f207 := f201.wr W206
    have f208 := f202.wr W206
    have f209 := f203.other W206 n193
    have f210 := f204.other W206 n194
    have f211 : Arv Z h206 b192 ki192 .char (3 : Int32) [(.int (nar .char v165)), (.int (nar .char v166)), (.int (0 : Int32))] (.int (0 : Int32)) := A206
    have N206 := Fr.snoc X206 N200 gn_b192
    have Z206 := Nat.le_trans Z200 (Nat.le_of_eq W206.size.symm)
    refine g_aload C X206 at_79 (pc' := 81) rfl rfl rfl ?_
    refine g_iconst C X206 at_81 (pc' := 82) rfl (v := 2) rfl ?_
    refine g_iload C X206 at_82 (pc' := 84) rfl rfl ?_
    refine g_castore C X206 (i := 2) e206 f211 (by decide) rfl (Nat.le_of_ble_eq_true rfl) at_84 (pc' := 85) rfl (fun T212 h212 X212 e212 W212 A212 => ?_)
    have f213 := f207.wr W212
    have f214 := f208.wr W212
    have f215 := f209.other W212 n193
    have f216 := f210.other W212 n194
    have f217 : Arv Z h212 b192 ki192 .char (3 : Int32) [(.int (nar .char v165)), (.int (nar .char v166)), (.int (nar .char v167))] (.int (0 : Int32)) := A212
    have N212 := Fr.snoc X212 N206 gn_b192
    have Z212 := Nat.le_trans Z206 (Nat.le_of_eq W212.size.symm)
    refine g_iload C X212 at_85 (pc' := 87) rfl rfl ?_
    refine g_iconst C X212 at_87 (pc' := 88) rfl (v := 1) rfl ?_
    refine g_icmp_ne C X212 at_88 (pcT := 105) (pcN := 91) (by decide) (by decide) rfl (fun hc88 => ?_) (fun hc88 => absurd hc88 (by decide))
    refine g_iload C X212 at_105 (pc' := 107) rfl rfl ?_
    refine g_iconst C X212 at_107 (pc' := 108) rfl (v := 2) rfl ?_
    refine g_icmp_ne C X212 at_108 (pcT := 125) (pcN := 111) (by decide) (by decide) rfl (fun hc108 => absurd hc108 (by decide)) (fun hc108 => ?_)
    refine g_new C X212 (w_2 hw) (w_3 hw) (w_4 hw) e212 at_111 (pc' := 114) rfl (by decide) (by decide) (fun T218 h218 b218 X218 e218 g218 E218 A218 D218 => ?_)
    have n219 : b168 ≠ b218 := Nat.ne_of_lt (Nat.lt_of_lt_of_eq f215.lt g218.symm)
    have n220 : b176 ≠ b218 := Nat.ne_of_lt (Nat.lt_of_lt_of_eq f216.lt g218.symm)
    have n221 : b192 ≠ b218 := Nat.ne_of_lt (Nat.lt_of_lt_of_eq f217.lt g218.symm)
    have f222 := f213.ext E218
    have f223 := f214.ext E218
    have f224 := f215.ext E218
    have f225 := f216.ext E218
    have f226 := f217.ext E218
    have gn_b218 : n0 ≤ b218 := Nat.le_trans Z212 (Nat.le_of_eq g218.symm)
    have Z218 := Nat.le_trans Z212 E218.1
    have f227 : Fld Z h218 b218 "java/lang/String" "coder" "B" (.int (0 : Int32)) := D218 (Or.inr (w_28 hw)) (ty := .byte) (by decide)
    have f228 : Fld Z h218 b218 "java/lang/String" "value" "[B" .null := D218 (Or.inr (w_30 hw)) (ty := (.array .byte)) (by decide)
    refine g_dup C X218 at_114 (pc' := 115) rfl rfl ?_
    refine g_aload C X218 at_115 (pc' := 117) rfl rfl rfl ?_
    refine g_callI C X218 rfl (w_5 hw) (w_6 hw) (w_4 hw) (w_7 hw) (by decide) at_117 (rm1_2 l Z a0 hw [] b218 b176 ki176 (nar .char v165) (nar .char v166) cs1 h218 n0 Z218 A218 f228 f227 f225 f222 gn_b218 (own_le (own_chk hv165)) (own_le (own_chk hv166)) hcs (Ne.symm n220)) (by decide) (by decide) rfl pd_13 rfl (argsL := [(.ref b176)]) (rest := [(.ref b218)]) rfl (W := 1) (Nat.le_of_eq rfl) e218 (by decide) (by decide) (pc' := 120) rfl (fun u229 T229 L229 X229 hQ229 => ?_)
    obtain ⟨o3229, kd3229, rfl, Nq229, szo3229, Kq229, q229_0, q229_1, q229_2, q229_3⟩ := hQ229
    have N229 := Fr.app N212 Nq229
    have n230 : b168 ≠ o3229 := Nat.ne_of_lt (Nat.lt_of_lt_of_le f224.lt szo3229)
    have n231 : b176 ≠ o3229 := Nat.ne_of_lt (Nat.lt_of_lt_of_le f225.lt szo3229)
    have n232 : b192 ≠ o3229 := Nat.ne_of_lt (Nat.lt_of_lt_of_le f226.lt szo3229)
    have n233 : b218 ≠ o3229 := Nat.ne_of_lt (Nat.lt_of_lt_of_le A218.lt szo3229)
    have f234 := Sta.keepN f222 Kq229 (allS (Exa.ns A218) all0)
    have f235 := Sta.keepN f223 Kq229 (allS (Exa.ns A218) all0)
    have f236 := f224.keep Kq229 (ninS n219 nin0)
    have f237 := f225.keep Kq229 (ninS n220 nin0)
    have f238 := f226.keep Kq229 (ninS n221 nin0)
    have f239 := A218.keep Kq229
    have gn_o3229 : n0 ≤ o3229 := Nat.le_trans Z218 szo3229
    have Z229 := Nat.le_trans Z218 Kq229.1
    show Goes p.tables e below G (T229.setTop (mkF m 120 #[.val (.int p0), .val (.int p1), .val (.int p2), .val (.int p3), .val (.int p4), .val (.int p5), .val (.int (2 : Int32)), .val (.int v165), .val (.int v166), .val (.int v167), .val (.ref b168), .val (.ref b176), .val (.ref b192), .unset, .unset, .unset, .unset, .unset, .unset] [(.ref b218)]))
    refine g_astore C X229 at_120 (pc' := 122) rfl rfl (ls' := #[.val (.int p0), .val (.int p1), .val (.int p2), .val (.int p3), .val (.int p4), .val (.int p5), .val (.int (2 : Int32)), .val (.int v165), .val (.int v166), .val (.int v167), .val (.ref b168), .val (.ref b176), .val (.ref b192), .val (.ref b218), .unset, .unset, .unset, .unset, .unset]) rfl ?_
    refine g_goto C X229 at_122 (pc' := 136) (by decide) (by decide) ?_
    refine g_iload C X229 at_136 (pc' := 138) rfl rfl ?_
    refine g_sipush C X229 at_138 (pc' := 141) rfl (v := 255) rfl ?_
    refine g_iand C X229 at_141 (pc' := 142) rfl ?_
    refine g_i2c C X229 at_142 (pc' := 143) rfl ?_
    refine g_callS C X229 (w_31 hw) (w_32 hw) (w_4 hw) (w_33 hw) (by decide) at_143 (rm7 l Z a0 hw [] (p5 &&& (255 : Int32)).toUInt32.toUInt16.toUInt32.toInt32 cs1 T229.heap n0 Z229 f234 (own_c255 _).2 hcs) (by decide) (by decide) rfl pd_14 rfl (argsL := [(.int (p5 &&& (255 : Int32)).toUInt32.toUInt16.toUInt32.toInt32)]) (rest := []) rfl (W := 0) (Nat.le_of_eq rfl) rfl (by decide) (by decide) (pc' := 146) rfl (fun u240 T240 L240 X240 hQ240 => ?_)
    obtain ⟨o3240, rfl, Nq240, szo3240, Kq240⟩ := hQ240
    have N240 := Fr.app N229 Nq240
    have n241 : b218 ≠ o3240 := Nat.ne_of_lt (Nat.lt_of_lt_of_le q229_0.lt szo3240)
    have n242 : o3229 ≠ o3240 := Nat.ne_of_lt (Nat.lt_of_lt_of_le q229_3.lt szo3240)
    have f243 := Sta.keepN f234 Kq240 all0
    have f244 := Sta.keepN f235 Kq240 all0
    have f245 := q229_0.keep Kq240
    have f246 := q229_1.keep Kq240 nin0
    have f247 := q229_2.keep Kq240 nin0
    have f248 := q229_3.keep Kq240 nin0
    have gn_o3240 : n0 ≤ o3240 := Nat.le_trans Z229 szo3240
    have Z240 := Nat.le_trans Z229 Kq240.1
    show Goes p.tables e below G (T240.setTop (mkF m 146 #[.val (.int p0), .val (.int p1), .val (.int p2), .val (.int p3), .val (.int p4), .val (.int p5), .val (.int (2 : Int32)), .val (.int v165), .val (.int v166), .val (.int v167), .val (.ref b168), .val (.ref b176), .val (.ref b192), .val (.ref b218), .unset, .unset, .unset, .unset, .unset] [(.ref o3240)]))
    refine g_astore C X240 at_146 (pc' := 148) rfl rfl (ls' := #[.val (.int p0), .val (.int p1), .val (.int p2), .val (.int p3), .val (.int p4), .val (.int p5), .val (.int (2 : Int32)), .val (.int v165), .val (.int v166), .val (.int v167), .val (.ref b168), .val (.ref b176), .val (.ref b192), .val (.ref b218), .val (.ref o3240), .unset, .unset, .unset, .unset]) rfl ?_
    refine g_iload C X240 at_148 (pc' := 150) rfl rfl ?_
    refine g_bipush C X240 at_150 (pc' := 152) rfl (v := 8) rfl ?_
    refine g_ishr C X240 at_152 (pc' := 153) rfl ?_
    refine g_iconst C X240 at_153 (pc' := 154) rfl (v := 1) rfl ?_
    refine g_iand C X240 at_154 (pc' := 155) rfl ?_
    refine g_if_eq C X240 at_155 (pcT := 162) (pcN := 158) (by decide) (by decide) rfl (fun hc155 => ?_) (fun hc155 => ?_)
    · refine g_iload C X240 at_162 (pc' := 164) rfl rfl ?_
      refine g_bipush C X240 at_164 (pc' := 166) rfl (v := 9) rfl ?_
      refine g_ishr C X240 at_166 (pc' := 167) rfl ?_
      refine g_sipush C X240 at_167 (pc' := 170) rfl (v := 255) rfl ?_
      refine g_iand C X240 at_170 (pc' := 171) rfl ?_
      refine g_i2c C X240 at_171 (pc' := 172) rfl ?_
      refine g_callS C X240 (w_31 hw) (w_32 hw) (w_4 hw) (w_33 hw) (by decide) at_172 (rm7 l Z a0 hw [] ((p5 >>> ((9 : Int32) &&& 31)) &&& (255 : Int32)).toUInt32.toUInt16.toUInt32.toInt32 cs1 T240.heap n0 Z240 f243 (own_c255 _).2 hcs) (by decide) (by decide) rfl pd_14 rfl (argsL := [(.int ((p5 >>> ((9 : Int32) &&& 31)) &&& (255 : Int32)).toUInt32.toUInt16.toUInt32.toInt32)]) (rest := []) rfl (W := 0) (Nat.le_of_eq rfl) rfl (by decide) (by decide) (pc' := 175) rfl (fun u249 T249 L249 X249 hQ249 => ?_)
      obtain ⟨o3249, rfl, Nq249, szo3249, Kq249⟩ := hQ249
      have N249 := Fr.app N240 Nq249
      have n250 : b218 ≠ o3249 := Nat.ne_of_lt (Nat.lt_of_lt_of_le f245.lt szo3249)
      have n251 : o3229 ≠ o3249 := Nat.ne_of_lt (Nat.lt_of_lt_of_le f248.lt szo3249)
      have f252 := Sta.keepN f243 Kq249 all0
      have f253 := Sta.keepN f244 Kq249 all0
      have f254 := f245.keep Kq249
      have f255 := f246.keep Kq249 nin0
      have f256 := f247.keep Kq249 nin0
      have f257 := f248.keep Kq249 nin0
      have gn_o3249 : n0 ≤ o3249 := Nat.le_trans Z240 szo3249
      have Z249 := Nat.le_trans Z240 Kq249.1
      show Goes p.tables e below G (T249.setTop (mkF m 175 #[.val (.int p0), .val (.int p1), .val (.int p2), .val (.int p3), .val (.int p4), .val (.int p5), .val (.int (2 : Int32)), .val (.int v165), .val (.int v166), .val (.int v167), .val (.ref b168), .val (.ref b176), .val (.ref b192), .val (.ref b218), .val (.ref o3240), .unset, .unset, .unset, .unset] [(.ref o3249)]))
      refine g_astore C X249 at_175 (pc' := 177) rfl rfl (ls' := #[.val (.int p0), .val (.int p1), .val (.int p2), .val (.int p3), .val (.int p4), .val (.int p5), .val (.int (2 : Int32)), .val (.int v165), .val (.int v166), .val (.int v167), .val (.ref b168), .val (.ref b176), .val (.ref b192), .val (.ref b218), .val (.ref o3240), .val (.ref o3249), .unset, .unset, .unset]) rfl ?_
      refine g_iload C X249 at_177 (pc' := 179) rfl rfl ?_
      refine g_bipush C X249 at_179 (pc' := 181) rfl (v := 17) rfl ?_
      refine g_ishr C X249 at_181 (pc' := 182) rfl ?_
      refine g_sipush C X249 at_182 (pc' := 185) rfl (v := 255) rfl ?_
      refine g_iand C X249 at_185 (pc' := 186) rfl ?_
      refine g_i2c C X249 at_186 (pc' := 187) rfl ?_
      refine g_callS C X249 (w_31 hw) (w_32 hw) (w_4 hw) (w_33 hw) (by decide) at_187 (rm7 l Z a0 hw [] ((p5 >>> ((17 : Int32) &&& 31)) &&& (255 : Int32)).toUInt32.toUInt16.toUInt32.toInt32 cs1 T249.heap n0 Z249 f252 (own_c255 _).2 hcs) (by decide) (by decide) rfl pd_14 rfl (argsL := [(.int ((p5 >>> ((17 : Int32) &&& 31)) &&& (255 : Int32)).toUInt32.toUInt16.toUInt32.toInt32)]) (rest := []) rfl (W := 0) (Nat.le_of_eq rfl) rfl (by decide) (by decide) (pc' := 190) rfl (fun u258 T258 L258 X258 hQ258 => ?_)
      obtain ⟨o3258, rfl, Nq258, szo3258, Kq258⟩ := hQ258
      have N258 := Fr.app N249 Nq258
      have n259 : b218 ≠ o3258 := Nat.ne_of_lt (Nat.lt_of_lt_of_le f254.lt szo3258)
      have n260 : o3229 ≠ o3258 := Nat.ne_of_lt (Nat.lt_of_lt_of_le f257.lt szo3258)
      have f261 := Sta.keepN f252 Kq258 all0
      have f262 := Sta.keepN f253 Kq258 all0
      have f263 := f254.keep Kq258
      have f264 := f255.keep Kq258 nin0
      have f265 := f256.keep Kq258 nin0
      have f266 := f257.keep Kq258 nin0
      have gn_o3258 : n0 ≤ o3258 := Nat.le_trans Z249 szo3258
      have Z258 := Nat.le_trans Z249 Kq258.1
      show Goes p.tables e below G (T258.setTop (mkF m 190 #[.val (.int p0), .val (.int p1), .val (.int p2), .val (.int p3), .val (.int p4), .val (.int p5), .val (.int (2 : Int32)), .val (.int v165), .val (.int v166), .val (.int v167), .val (.ref b168), .val (.ref b176), .val (.ref b192), .val (.ref b218), .val (.ref o3240), .val (.ref o3249), .unset, .unset, .unset] [(.ref o3258)]))
      refine g_astore C X258 at_190 (pc' := 192) rfl rfl (ls' := #[.val (.int p0), .val (.int p1), .val (.int p2), .val (.int p3), .val (.int p4), .val (.int p5), .val (.int (2 : Int32)), .val (.int v165), .val (.int v166), .val (.int v167), .val (.ref b168), .val (.ref b176), .val (.ref b192), .val (.ref b218), .val (.ref o3240), .val (.ref o3249), .val (.ref o3258), .unset, .unset]) rfl ?_
      refine g_new C X258 (w_45 hw) (w_46 hw) (w_47 hw) rfl at_192 (pc' := 195) rfl (by decide) (by decide) (fun T267 h267 b267 X267 e267 g267 E267 A267 D267 => ?_)
      have n268 : b218 ≠ b267 := Nat.ne_of_lt (Nat.lt_of_lt_of_eq f263.lt g267.symm)
      have n269 : o3229 ≠ b267 := Nat.ne_of_lt (Nat.lt_of_lt_of_eq f266.lt g267.symm)
      have f270 := f261.ext E267
      have f271 := f262.ext E267
      have f272 := f263.ext E267
      have f273 := f264.ext E267
      have f274 := f265.ext E267
      have f275 := f266.ext E267
      have gn_b267 : n0 ≤ b267 := Nat.le_trans Z258 (Nat.le_of_eq g267.symm)
      have Z267 := Nat.le_trans Z258 E267.1
      have f276 : Fld Z h267 b267 "com/example/hanko/hanko/access/GitConfig$Entry" "section" "Ljava/lang/String;" .null := D267 (Or.inr (w_58 hw)) (ty := (.object "java/lang/String")) (by decide)
      have f277 : Fld Z h267 b267 "com/example/hanko/hanko/access/GitConfig$Entry" "subsection" "Ljava/lang/String;" .null := D267 (Or.inr (w_60 hw)) (ty := (.object "java/lang/String")) (by decide)
      have f278 : Fld Z h267 b267 "com/example/hanko/hanko/access/GitConfig$Entry" "key" "Ljava/lang/String;" .null := D267 (Or.inr (w_62 hw)) (ty := (.object "java/lang/String")) (by decide)
      have f279 : Fld Z h267 b267 "com/example/hanko/hanko/access/GitConfig$Entry" "value" "Ljava/lang/String;" .null := D267 (Or.inr (w_64 hw)) (ty := (.object "java/lang/String")) (by decide)
      have f280 : Fld Z h267 b267 "com/example/hanko/hanko/access/GitConfig$Entry" "line" "I" (.int (0 : Int32)) := D267 (Or.inr (w_66 hw)) (ty := .int) (by decide)
      refine g_dup C X267 at_195 (pc' := 196) rfl rfl ?_
      refine g_aload C X267 at_196 (pc' := 198) rfl rfl rfl ?_
      refine g_aload C X267 at_198 (pc' := 200) rfl rfl rfl ?_
      refine g_aload C X267 at_200 (pc' := 202) rfl rfl rfl ?_
      refine g_aload C X267 at_202 (pc' := 204) rfl rfl rfl ?_
      refine g_iload C X267 at_204 (pc' := 206) rfl rfl ?_
      refine g_callI C X267 rfl (w_48 hw) (w_49 hw) (w_47 hw) (w_50 hw) (by decide) at_206 (rm11_s l Z a0 hw [] b267 o3240 o3249 o3258 b218 p4 h267 n0 Z267 A267 f276 f277 f278 f279 f280 gn_b267) (by decide) (by decide) rfl pd_15 rfl (argsL := [(.ref o3240), (.ref o3249), (.ref o3258), (.ref b218), (.int p4)]) (rest := [(.ref b267)]) rfl (W := 1) (Nat.le_of_eq rfl) e267 (by decide) (by decide) (pc' := 209) rfl (fun u281 T281 L281 X281 hQ281 => ?_)
      obtain ⟨rfl, Nq281, Kq281, q281_0, q281_1⟩ := hQ281
      have N281 := Fr.app N258 Nq281
      have f282 := Sta.keepN f270 Kq281 (allS (Exa.ns A267) all0)
      have f283 := Sta.keepN f271 Kq281 (allS (Exa.ns A267) all0)
      have f284 := f272.keep Kq281
      have f285 := f273.keep Kq281 (ninS n268 nin0)
      have f286 := f274.keep Kq281 (ninS n268 nin0)
      have f287 := f275.keep Kq281 (ninS n269 nin0)
      have f288 := A267.keep Kq281
      have Z281 := Nat.le_trans Z267 Kq281.1
      show Goes p.tables e below G (T281.setTop (mkF m 209 #[.val (.int p0), .val (.int p1), .val (.int p2), .val (.int p3), .val (.int p4), .val (.int p5), .val (.int (2 : Int32)), .val (.int v165), .val (.int v166), .val (.int v167), .val (.ref b168), .val (.ref b176), .val (.ref b192), .val (.ref b218), .val (.ref o3240), .val (.ref o3249), .val (.ref o3258), .unset, .unset] [(.ref b267)]))
      refine g_astore C X281 at_209 (pc' := 211) rfl rfl (ls' := #[.val (.int p0), .val (.int p1), .val (.int p2), .val (.int p3), .val (.int p4), .val (.int p5), .val (.int (2 : Int32)), .val (.int v165), .val (.int v166), .val (.int v167), .val (.ref b168), .val (.ref b176), .val (.ref b192), .val (.ref b218), .val (.ref o3240), .val (.ref o3249), .val (.ref o3258), .val (.ref b267), .unset]) rfl ?_
      refine g_aload C X281 at_211 (pc' := 213) rfl rfl rfl ?_
      refine g_callV C X281 (w_67 hw) (w_68 hw) (notFace_of_selects (args := #[]) (mvT C.2.1 (w_70 hw))) (w_70 hw) (w_69 hw) (w_71 hw) (w_47 hw) (by decide) q281_0 at_213 (rm13_2 l Z a0 hw [] b267 b218 o3229 kd3229 (nar .byte (nar .char v165).toInt8.toInt32) (nar .byte (nar .char v166).toInt8.toInt32) T281.heap n0 Z281 q281_0 q281_1 f284 f285 f286 f287) (by decide) (by decide) rfl pd_16 rfl (argsL := []) (rest := []) rfl (W := 0) (Nat.le_of_eq rfl) rfl (by decide) (by decide) (pc' := 216) rfl (fun u289 T289 L289 X289 hQ289 => ?_)
      obtain ⟨rfl, Nq289, eq289⟩ := hQ289
      have N289 := Fr.app N281 Nq289
      show Goes p.tables e below G (T289.setTop (mkF m 216 #[.val (.int p0), .val (.int p1), .val (.int p2), .val (.int p3), .val (.int p4), .val (.int p5), .val (.int (2 : Int32)), .val (.int v165), .val (.int v166), .val (.int v167), .val (.ref b168), .val (.ref b176), .val (.ref b192), .val (.ref b218), .val (.ref o3240), .val (.ref o3249), .val (.ref o3258), .val (.ref b267), .unset] [(.ref b218)]))
      refine g_astore C X289 at_216 (pc' := 218) rfl rfl (ls' := #[.val (.int p0), .val (.int p1), .val (.int p2), .val (.int p3), .val (.int p4), .val (.int p5), .val (.int (2 : Int32)), .val (.int v165), .val (.int v166), .val (.int v167), .val (.ref b168), .val (.ref b176), .val (.ref b192), .val (.ref b218), .val (.ref o3240), .val (.ref o3249), .val (.ref o3258), .val (.ref b267), .val (.ref b218)]) rfl ?_
      refine g_aload C X289 at_218 (pc' := 220) rfl rfl rfl ?_
      refine g_ifnonnullY C X289 at_220 (pc' := 225) (by decide) (by decide) ?_
      refine g_aload C X289 at_225 (pc' := 227) rfl rfl rfl ?_
      refine g_callV C X289 (w_77 hw) (w_78 hw) (notFace_of_selects (args := #[]) (mvT C.2.1 (w_80 hw))) (w_80 hw) (w_79 hw) (w_81 hw) (w_4 hw) (by decide) f284 at_227 (rm15_2 l Z a0 hw [] b218 o3229 kd3229 (nar .byte (nar .char v165).toInt8.toInt32) (nar .byte (nar .char v166).toInt8.toInt32) cs1 T281.heap n0 Z281 f284 f285 f286 f287 f282 hcs) (by decide) (by decide) rfl pd_17 rfl (argsL := []) (rest := []) rfl (W := 0) (Nat.le_of_eq rfl) eq289 (by decide) (by decide) (pc' := 230) rfl (fun u290 T290 L290 X290 hQ290 => ?_)
      obtain ⟨rfl, Nq290, eq290⟩ := hQ290
      have N290 := Fr.app N289 Nq290
      show Goes p.tables e below G (T290.setTop (mkF m 230 #[.val (.int p0), .val (.int p1), .val (.int p2), .val (.int p3), .val (.int p4), .val (.int p5), .val (.int (2 : Int32)), .val (.int v165), .val (.int v166), .val (.int v167), .val (.ref b168), .val (.ref b176), .val (.ref b192), .val (.ref b218), .val (.ref o3240), .val (.ref o3249), .val (.ref o3258), .val (.ref b267), .val (.ref b218)] [(.int (2 : Int32))]))
      refine g_iload C X290 at_230 (pc' := 232) rfl rfl ?_
      refine g_icmp_eq C X290 at_232 (pcT := 237) (pcN := 235) (by decide) (by decide) rfl (fun hc232 => ?_) (fun hc232 => absurd hc232 (by decide))
      refine g_aload C X290 at_237 (pc' := 239) rfl rfl rfl ?_
      refine g_iconst C X290 at_239 (pc' := 240) rfl (v := 0) rfl ?_
      refine g_callV C X290 (w_87 hw) (w_88 hw) (notFace_of_selects (args := #[]) (mvT C.2.1 (w_90 hw))) (w_90 hw) (w_89 hw) (w_91 hw) (w_4 hw) (by decide) f284 at_240 (rm17_2_0 l Z a0 hw [] b218 o3229 kd3229 (nar .byte (nar .char v165).toInt8.toInt32) (nar .byte (nar .char v166).toInt8.toInt32) cs1 wf1 T281.heap n0 Z281 f284 f285 f286 f287 f282 f283 hcs hwf) (by decide) (by decide) rfl pd_18 rfl (argsL := [(.int (0 : Int32))]) (rest := []) rfl (W := 0) (Nat.le_of_eq rfl) eq290 (by decide) (by decide) (pc' := 243) rfl (fun u291 T291 L291 X291 hQ291 => ?_)
      obtain ⟨rfl, Nq291, eq291⟩ := hQ291
      have N291 := Fr.app N290 Nq291
      obtain ⟨r291, hr291⟩ : ∃ z : Int32, (own_ch (nar .byte (nar .char v165).toInt8.toInt32)) = z := ⟨_, rfl⟩
      rw [hr291]
      show Goes p.tables e below G (T291.setTop (mkF m 243 #[.val (.int p0), .val (.int p1), .val (.int p2), .val (.int p3), .val (.int p4), .val (.int p5), .val (.int (2 : Int32)), .val (.int v165), .val (.int v166), .val (.int v167), .val (.ref b168), .val (.ref b176), .val (.ref b192), .val (.ref b218), .val (.ref o3240), .val (.ref o3249), .val (.ref o3258), .val (.ref b267), .val (.ref b218)] [(.int r291)]))
      refine g_iload C X291 at_243 (pc' := 245) rfl rfl ?_
      refine g_icmp_eq C X291 at_245 (pcT := 250) (pcN := 248) (by decide) (by decide) rfl (fun hc245 => ?_) (fun hc245 => absurd (hr291.symm.trans (own_back (own_chk hv165))) hc245)
      refine g_iload C X291 at_250 (pc' := 252) rfl rfl ?_
      refine g_iconst C X291 at_252 (pc' := 253) rfl (v := 2) rfl ?_
      refine g_icmp_lt C X291 at_253 (pcT := 269) (pcN := 256) (by decide) (by decide) rfl (fun hc253 => absurd hc253 (by decide)) (fun hc253 => ?_)
      refine g_aload C X291 at_256 (pc' := 258) rfl rfl rfl ?_
      refine g_iconst C X291 at_258 (pc' := 259) rfl (v := 1) rfl ?_
      refine g_callV C X291 (w_87 hw) (w_88 hw) (notFace_of_selects (args := #[]) (mvT C.2.1 (w_90 hw))) (w_90 hw) (w_89 hw) (w_91 hw) (w_4 hw) (by decide) f284 at_259 (rm17_2_1 l Z a0 hw [] b218 o3229 kd3229 (nar .byte (nar .char v165).toInt8.toInt32) (nar .byte (nar .char v166).toInt8.toInt32) cs1 wf1 T281.heap n0 Z281 f284 f285 f286 f287 f282 f283 hcs hwf) (by decide) (by decide) rfl pd_18 rfl (argsL := [(.int (1 : Int32))]) (rest := []) rfl (W := 0) (Nat.le_of_eq rfl) eq291 (by decide) (by decide) (pc' := 262) rfl (fun u292 T292 L292 X292 hQ292 => ?_)
      obtain ⟨rfl, Nq292, eq292⟩ := hQ292
      have N292 := Fr.app N291 Nq292
      obtain ⟨r292, hr292⟩ : ∃ z : Int32, (own_ch (nar .byte (nar .char v166).toInt8.toInt32)) = z := ⟨_, rfl⟩
      rw [hr292]
      show Goes p.tables e below G (T292.setTop (mkF m 262 #[.val (.int p0), .val (.int p1), .val (.int p2), .val (.int p3), .val (.int p4), .val (.int p5), .val (.int (2 : Int32)), .val (.int v165), .val (.int v166), .val (.int v167), .val (.ref b168), .val (.ref b176), .val (.ref b192), .val (.ref b218), .val (.ref o3240), .val (.ref o3249), .val (.ref o3258), .val (.ref b267), .val (.ref b218)] [(.int r292)]))
      refine g_iload C X292 at_262 (pc' := 264) rfl rfl ?_
      refine g_icmp_eq C X292 at_264 (pcT := 269) (pcN := 267) (by decide) (by decide) rfl (fun hc264 => ?_) (fun hc264 => absurd (hr292.symm.trans (own_back (own_chk hv166))) hc264)
      refine g_iload C X292 at_269 (pc' := 271) rfl rfl ?_
      refine g_iconst C X292 at_271 (pc' := 272) rfl (v := 3) rfl ?_
      refine g_icmp_ne C X292 at_272 (pcT := 288) (pcN := 275) (by decide) (by decide) rfl (fun hc272 => ?_) (fun hc272 => absurd hc272 (by decide))
      refine g_aload C X292 at_288 (pc' := 290) rfl rfl rfl ?_
      refine g_aload C X292 at_290 (pc' := 292) rfl rfl rfl ?_
      refine g_callV C X292 (w_108 hw) (w_109 hw) (notFace_of_selects (args := #[]) (mvT C.2.1 (w_111 hw))) (w_111 hw) (w_110 hw) (w_112 hw) (w_4 hw) (by decide) f284 at_292 (rm22 l Z a0 hw [] b218 b218 T281.heap n0 Z281 rfl) (by decide) (by decide) rfl pd_19 rfl (argsL := [(.ref b218)]) (rest := []) rfl (W := 0) (Nat.le_of_eq rfl) eq292 (by decide) (by decide) (pc' := 295) rfl (fun u293 T293 L293 X293 hQ293 => ?_)
      obtain ⟨rfl, Nq293, eq293⟩ := hQ293
      have N293 := Fr.app N292 Nq293
      show Goes p.tables e below G (T293.setTop (mkF m 295 #[.val (.int p0), .val (.int p1), .val (.int p2), .val (.int p3), .val (.int p4), .val (.int p5), .val (.int (2 : Int32)), .val (.int v165), .val (.int v166), .val (.int v167), .val (.ref b168), .val (.ref b176), .val (.ref b192), .val (.ref b218), .val (.ref o3240), .val (.ref o3249), .val (.ref o3258), .val (.ref b267), .val (.ref b218)] [(.int (1 : Int32))]))
      exact g_retN C X293 K (by simp) at_295 (by decide) (by decide) eq293 ⟨rfl, N293⟩
    · refine g_aconstNull C X240 at_158 (pc' := 159) rfl ?_
      refine g_goto C X240 at_159 (pc' := 175) (by decide) (by decide) ?_
      refine g_astore C X240 at_175 (pc' := 177) rfl rfl (ls' := #[.val (.int p0), .val (.int p1), .val (.int p2), .val (.int p3), .val (.int p4), .val (.int p5), .val (.int (2 : Int32)), .val (.int v165), .val (.int v166), .val (.int v167), .val (.ref b168), .val (.ref b176), .val (.ref b192), .val (.ref b218), .val (.ref o3240), .val .null, .unset, .unset, .unset]) rfl ?_
      refine g_iload C X240 at_177 (pc' := 179) rfl rfl ?_
      refine g_bipush C X240 at_179 (pc' := 181) rfl (v := 17) rfl ?_
      refine g_ishr C X240 at_181 (pc' := 182) rfl ?_
      refine g_sipush C X240 at_182 (pc' := 185) rfl (v := 255) rfl ?_
      refine g_iand C X240 at_185 (pc' := 186) rfl ?_
      refine g_i2c C X240 at_186 (pc' := 187) rfl ?_
      refine g_callS C X240 (w_31 hw) (w_32 hw) (w_4 hw) (w_33 hw) (by decide) at_187 (rm7 l Z a0 hw [] ((p5 >>> ((17 : Int32) &&& 31)) &&& (255 : Int32)).toUInt32.toUInt16.toUInt32.toInt32 cs1 T240.heap n0 Z240 f243 (own_c255 _).2 hcs) (by decide) (by decide) rfl pd_14 rfl (argsL := [(.int ((p5 >>> ((17 : Int32) &&& 31)) &&& (255 : Int32)).toUInt32.toUInt16.toUInt32.toInt32)]) (rest := []) rfl (W := 0) (Nat.le_of_eq rfl) rfl (by decide) (by decide) (pc' := 190) rfl (fun u294 T294 L294 X294 hQ294 => ?_)
      obtain ⟨o3294, rfl, Nq294, szo3294, Kq294⟩ := hQ294
      have N294 := Fr.app N240 Nq294
      have n295 : b218 ≠ o3294 := Nat.ne_of_lt (Nat.lt_of_lt_of_le f245.lt szo3294)
      have n296 : o3229 ≠ o3294 := Nat.ne_of_lt (Nat.lt_of_lt_of_le f248.lt szo3294)
      have f297 := Sta.keepN f243 Kq294 all0
      have f298 := Sta.keepN f244 Kq294 all0
      have f299 := f245.keep Kq294
      have f300 := f246.keep Kq294 nin0
      have f301 := f247.keep Kq294 nin0
      have f302 := f248.keep Kq294 nin0
      have gn_o3294 : n0 ≤ o3294 := Nat.le_trans Z240 szo3294
      have Z294 := Nat.le_trans Z240 Kq294.1
      show Goes p.tables e below G (T294.setTop (mkF m 190 #[.val (.int p0), .val (.int p1), .val (.int p2), .val (.int p3), .val (.int p4), .val (.int p5), .val (.int (2 : Int32)), .val (.int v165), .val (.int v166), .val (.int v167), .val (.ref b168), .val (.ref b176), .val (.ref b192), .val (.ref b218), .val (.ref o3240), .val .null, .unset, .unset, .unset] [(.ref o3294)]))
      refine g_astore C X294 at_190 (pc' := 192) rfl rfl (ls' := #[.val (.int p0), .val (.int p1), .val (.int p2), .val (.int p3), .val (.int p4), .val (.int p5), .val (.int (2 : Int32)), .val (.int v165), .val (.int v166), .val (.int v167), .val (.ref b168), .val (.ref b176), .val (.ref b192), .val (.ref b218), .val (.ref o3240), .val .null, .val (.ref o3294), .unset, .unset]) rfl ?_
      refine g_new C X294 (w_45 hw) (w_46 hw) (w_47 hw) rfl at_192 (pc' := 195) rfl (by decide) (by decide) (fun T303 h303 b303 X303 e303 g303 E303 A303 D303 => ?_)
      have n304 : b218 ≠ b303 := Nat.ne_of_lt (Nat.lt_of_lt_of_eq f299.lt g303.symm)
      have n305 : o3229 ≠ b303 := Nat.ne_of_lt (Nat.lt_of_lt_of_eq f302.lt g303.symm)
      have f306 := f297.ext E303
      have f307 := f298.ext E303
      have f308 := f299.ext E303
      have f309 := f300.ext E303
      have f310 := f301.ext E303
      have f311 := f302.ext E303
      have gn_b303 : n0 ≤ b303 := Nat.le_trans Z294 (Nat.le_of_eq g303.symm)
      have Z303 := Nat.le_trans Z294 E303.1
      have f312 : Fld Z h303 b303 "com/example/hanko/hanko/access/GitConfig$Entry" "section" "Ljava/lang/String;" .null := D303 (Or.inr (w_58 hw)) (ty := (.object "java/lang/String")) (by decide)
      have f313 : Fld Z h303 b303 "com/example/hanko/hanko/access/GitConfig$Entry" "subsection" "Ljava/lang/String;" .null := D303 (Or.inr (w_60 hw)) (ty := (.object "java/lang/String")) (by decide)
      have f314 : Fld Z h303 b303 "com/example/hanko/hanko/access/GitConfig$Entry" "key" "Ljava/lang/String;" .null := D303 (Or.inr (w_62 hw)) (ty := (.object "java/lang/String")) (by decide)
      have f315 : Fld Z h303 b303 "com/example/hanko/hanko/access/GitConfig$Entry" "value" "Ljava/lang/String;" .null := D303 (Or.inr (w_64 hw)) (ty := (.object "java/lang/String")) (by decide)
      have f316 : Fld Z h303 b303 "com/example/hanko/hanko/access/GitConfig$Entry" "line" "I" (.int (0 : Int32)) := D303 (Or.inr (w_66 hw)) (ty := .int) (by decide)
      refine g_dup C X303 at_195 (pc' := 196) rfl rfl ?_
      refine g_aload C X303 at_196 (pc' := 198) rfl rfl rfl ?_
      refine g_aload C X303 at_198 (pc' := 200) rfl rfl rfl ?_
      refine g_aload C X303 at_200 (pc' := 202) rfl rfl rfl ?_
      refine g_aload C X303 at_202 (pc' := 204) rfl rfl rfl ?_
      refine g_iload C X303 at_204 (pc' := 206) rfl rfl ?_
      refine g_callI C X303 rfl (w_48 hw) (w_49 hw) (w_47 hw) (w_50 hw) (by decide) at_206 (rm11_n l Z a0 hw [] b303 o3240 o3294 b218 p4 h303 n0 Z303 A303 f312 f313 f314 f315 f316 gn_b303) (by decide) (by decide) rfl pd_15 rfl (argsL := [(.ref o3240), .null, (.ref o3294), (.ref b218), (.int p4)]) (rest := [(.ref b303)]) rfl (W := 1) (Nat.le_of_eq rfl) e303 (by decide) (by decide) (pc' := 209) rfl (fun u317 T317 L317 X317 hQ317 => ?_)
      obtain ⟨rfl, Nq317, Kq317, q317_0, q317_1⟩ := hQ317
      have N317 := Fr.app N294 Nq317
      have f318 := Sta.keepN f306 Kq317 (allS (Exa.ns A303) all0)
      have f319 := Sta.keepN f307 Kq317 (allS (Exa.ns A303) all0)
      have f320 := f308.keep Kq317
      have f321 := f309.keep Kq317 (ninS n304 nin0)
      have f322 := f310.keep Kq317 (ninS n304 nin0)
      have f323 := f311.keep Kq317 (ninS n305 nin0)
      have f324 := A303.keep Kq317
      have Z317 := Nat.le_trans Z303 Kq317.1
      show Goes p.tables e below G (T317.setTop (mkF m 209 #[.val (.int p0), .val (.int p1), .val (.int p2), .val (.int p3), .val (.int p4), .val (.int p5), .val (.int (2 : Int32)), .val (.int v165), .val (.int v166), .val (.int v167), .val (.ref b168), .val (.ref b176), .val (.ref b192), .val (.ref b218), .val (.ref o3240), .val .null, .val (.ref o3294), .unset, .unset] [(.ref b303)]))
      refine g_astore C X317 at_209 (pc' := 211) rfl rfl (ls' := #[.val (.int p0), .val (.int p1), .val (.int p2), .val (.int p3), .val (.int p4), .val (.int p5), .val (.int (2 : Int32)), .val (.int v165), .val (.int v166), .val (.int v167), .val (.ref b168), .val (.ref b176), .val (.ref b192), .val (.ref b218), .val (.ref o3240), .val .null, .val (.ref o3294), .val (.ref b303), .unset]) rfl ?_
      refine g_aload C X317 at_211 (pc' := 213) rfl rfl rfl ?_
      refine g_callV C X317 (w_67 hw) (w_68 hw) (notFace_of_selects (args := #[]) (mvT C.2.1 (w_70 hw))) (w_70 hw) (w_69 hw) (w_71 hw) (w_47 hw) (by decide) q317_0 at_213 (rm13_2 l Z a0 hw [] b303 b218 o3229 kd3229 (nar .byte (nar .char v165).toInt8.toInt32) (nar .byte (nar .char v166).toInt8.toInt32) T317.heap n0 Z317 q317_0 q317_1 f320 f321 f322 f323) (by decide) (by decide) rfl pd_16 rfl (argsL := []) (rest := []) rfl (W := 0) (Nat.le_of_eq rfl) rfl (by decide) (by decide) (pc' := 216) rfl (fun u325 T325 L325 X325 hQ325 => ?_)
      obtain ⟨rfl, Nq325, eq325⟩ := hQ325
      have N325 := Fr.app N317 Nq325
      show Goes p.tables e below G (T325.setTop (mkF m 216 #[.val (.int p0), .val (.int p1), .val (.int p2), .val (.int p3), .val (.int p4), .val (.int p5), .val (.int (2 : Int32)), .val (.int v165), .val (.int v166), .val (.int v167), .val (.ref b168), .val (.ref b176), .val (.ref b192), .val (.ref b218), .val (.ref o3240), .val .null, .val (.ref o3294), .val (.ref b303), .unset] [(.ref b218)]))
      refine g_astore C X325 at_216 (pc' := 218) rfl rfl (ls' := #[.val (.int p0), .val (.int p1), .val (.int p2), .val (.int p3), .val (.int p4), .val (.int p5), .val (.int (2 : Int32)), .val (.int v165), .val (.int v166), .val (.int v167), .val (.ref b168), .val (.ref b176), .val (.ref b192), .val (.ref b218), .val (.ref o3240), .val .null, .val (.ref o3294), .val (.ref b303), .val (.ref b218)]) rfl ?_
      refine g_aload C X325 at_218 (pc' := 220) rfl rfl rfl ?_
      refine g_ifnonnullY C X325 at_220 (pc' := 225) (by decide) (by decide) ?_
      refine g_aload C X325 at_225 (pc' := 227) rfl rfl rfl ?_
      refine g_callV C X325 (w_77 hw) (w_78 hw) (notFace_of_selects (args := #[]) (mvT C.2.1 (w_80 hw))) (w_80 hw) (w_79 hw) (w_81 hw) (w_4 hw) (by decide) f320 at_227 (rm15_2 l Z a0 hw [] b218 o3229 kd3229 (nar .byte (nar .char v165).toInt8.toInt32) (nar .byte (nar .char v166).toInt8.toInt32) cs1 T317.heap n0 Z317 f320 f321 f322 f323 f318 hcs) (by decide) (by decide) rfl pd_17 rfl (argsL := []) (rest := []) rfl (W := 0) (Nat.le_of_eq rfl) eq325 (by decide) (by decide) (pc' := 230) rfl (fun u326 T326 L326 X326 hQ326 => ?_)
      obtain ⟨rfl, Nq326, eq326⟩ := hQ326
      have N326 := Fr.app N325 Nq326
      show Goes p.tables e below G (T326.setTop (mkF m 230 #[.val (.int p0), .val (.int p1), .val (.int p2), .val (.int p3), .val (.int p4), .val (.int p5), .val (.int (2 : Int32)), .val (.int v165), .val (.int v166), .val (.int v167), .val (.ref b168), .val (.ref b176), .val (.ref b192), .val (.ref b218), .val (.ref o3240), .val .null, .val (.ref o3294), .val (.ref b303), .val (.ref b218)] [(.int (2 : Int32))]))
      refine g_iload C X326 at_230 (pc' := 232) rfl rfl ?_
      refine g_icmp_eq C X326 at_232 (pcT := 237) (pcN := 235) (by decide) (by decide) rfl (fun hc232 => ?_) (fun hc232 => absurd hc232 (by decide))
      refine g_aload C X326 at_237 (pc' := 239) rfl rfl rfl ?_
      refine g_iconst C X326 at_239 (pc' := 240) rfl (v := 0) rfl ?_
      refine g_callV C X326 (w_87 hw) (w_88 hw) (notFace_of_selects (args := #[]) (mvT C.2.1 (w_90 hw))) (w_90 hw) (w_89 hw) (w_91 hw) (w_4 hw) (by decide) f320 at_240 (rm17_2_0 l Z a0 hw [] b218 o3229 kd3229 (nar .byte (nar .char v165).toInt8.toInt32) (nar .byte (nar .char v166).toInt8.toInt32) cs1 wf1 T317.heap n0 Z317 f320 f321 f322 f323 f318 f319 hcs hwf) (by decide) (by decide) rfl pd_18 rfl (argsL := [(.int (0 : Int32))]) (rest := []) rfl (W := 0) (Nat.le_of_eq rfl) eq326 (by decide) (by decide) (pc' := 243) rfl (fun u327 T327 L327 X327 hQ327 => ?_)
      obtain ⟨rfl, Nq327, eq327⟩ := hQ327
      have N327 := Fr.app N326 Nq327
      obtain ⟨r327, hr327⟩ : ∃ z : Int32, (own_ch (nar .byte (nar .char v165).toInt8.toInt32)) = z := ⟨_, rfl⟩
      rw [hr327]
      show Goes p.tables e below G (T327.setTop (mkF m 243 #[.val (.int p0), .val (.int p1), .val (.int p2), .val (.int p3), .val (.int p4), .val (.int p5), .val (.int (2 : Int32)), .val (.int v165), .val (.int v166), .val (.int v167), .val (.ref b168), .val (.ref b176), .val (.ref b192), .val (.ref b218), .val (.ref o3240), .val .null, .val (.ref o3294), .val (.ref b303), .val (.ref b218)] [(.int r327)]))
      refine g_iload C X327 at_243 (pc' := 245) rfl rfl ?_
      refine g_icmp_eq C X327 at_245 (pcT := 250) (pcN := 248) (by decide) (by decide) rfl (fun hc245 => ?_) (fun hc245 => absurd (hr327.symm.trans (own_back (own_chk hv165))) hc245)
      refine g_iload C X327 at_250 (pc' := 252) rfl rfl ?_
      refine g_iconst C X327 at_252 (pc' := 253) rfl (v := 2) rfl ?_
      refine g_icmp_lt C X327 at_253 (pcT := 269) (pcN := 256) (by decide) (by decide) rfl (fun hc253 => absurd hc253 (by decide)) (fun hc253 => ?_)
      refine g_aload C X327 at_256 (pc' := 258) rfl rfl rfl ?_
      refine g_iconst C X327 at_258 (pc' := 259) rfl (v := 1) rfl ?_
      refine g_callV C X327 (w_87 hw) (w_88 hw) (notFace_of_selects (args := #[]) (mvT C.2.1 (w_90 hw))) (w_90 hw) (w_89 hw) (w_91 hw) (w_4 hw) (by decide) f320 at_259 (rm17_2_1 l Z a0 hw [] b218 o3229 kd3229 (nar .byte (nar .char v165).toInt8.toInt32) (nar .byte (nar .char v166).toInt8.toInt32) cs1 wf1 T317.heap n0 Z317 f320 f321 f322 f323 f318 f319 hcs hwf) (by decide) (by decide) rfl pd_18 rfl (argsL := [(.int (1 : Int32))]) (rest := []) rfl (W := 0) (Nat.le_of_eq rfl) eq327 (by decide) (by decide) (pc' := 262) rfl (fun u328 T328 L328 X328 hQ328 => ?_)
      obtain ⟨rfl, Nq328, eq328⟩ := hQ328
      have N328 := Fr.app N327 Nq328
      obtain ⟨r328, hr328⟩ : ∃ z : Int32, (own_ch (nar .byte (nar .char v166).toInt8.toInt32)) = z := ⟨_, rfl⟩
      rw [hr328]
      show Goes p.tables e below G (T328.setTop (mkF m 262 #[.val (.int p0), .val (.int p1), .val (.int p2), .val (.int p3), .val (.int p4), .val (.int p5), .val (.int (2 : Int32)), .val (.int v165), .val (.int v166), .val (.int v167), .val (.ref b168), .val (.ref b176), .val (.ref b192), .val (.ref b218), .val (.ref o3240), .val .null, .val (.ref o3294), .val (.ref b303), .val (.ref b218)] [(.int r328)]))
      refine g_iload C X328 at_262 (pc' := 264) rfl rfl ?_
      refine g_icmp_eq C X328 at_264 (pcT := 269) (pcN := 267) (by decide) (by decide) rfl (fun hc264 => ?_) (fun hc264 => absurd (hr328.symm.trans (own_back (own_chk hv166))) hc264)
      refine g_iload C X328 at_269 (pc' := 271) rfl rfl ?_
      refine g_iconst C X328 at_271 (pc' := 272) rfl (v := 3) rfl ?_
      refine g_icmp_ne C X328 at_272 (pcT := 288) (pcN := 275) (by decide) (by decide) rfl (fun hc272 => ?_) (fun hc272 => absurd hc272 (by decide))
      refine g_aload C X328 at_288 (pc' := 290) rfl rfl rfl ?_
      refine g_aload C X328 at_290 (pc' := 292) rfl rfl rfl ?_
      refine g_callV C X328 (w_108 hw) (w_109 hw) (notFace_of_selects (args := #[]) (mvT C.2.1 (w_111 hw))) (w_111 hw) (w_110 hw) (w_112 hw) (w_4 hw) (by decide) f320 at_292 (rm22 l Z a0 hw [] b218 b218 T317.heap n0 Z317 rfl) (by decide) (by decide) rfl pd_19 rfl (argsL := [(.ref b218)]) (rest := []) rfl (W := 0) (Nat.le_of_eq rfl) eq328 (by decide) (by decide) (pc' := 295) rfl (fun u329 T329 L329 X329 hQ329 => ?_)
      obtain ⟨rfl, Nq329, eq329⟩ := hQ329
      have N329 := Fr.app N328 Nq329
      show Goes p.tables e below G (T329.setTop (mkF m 295 #[.val (.int p0), .val (.int p1), .val (.int p2), .val (.int p3), .val (.int p4), .val (.int p5), .val (.int (2 : Int32)), .val (.int v165), .val (.int v166), .val (.int v167), .val (.ref b168), .val (.ref b176), .val (.ref b192), .val (.ref b218), .val (.ref o3240), .val .null, .val (.ref o3294), .val (.ref b303), .val (.ref b218)] [(.int (1 : Int32))]))
      exact g_retN C X329 K (by simp) at_295 (by decide) (by decide) eq329 ⟨rfl, N329⟩
  · subst hsp
    refine g_iloadN C X0 at_10 (pc' := 11) rfl rfl ?_
    refine g_sipush C X0 at_11 (pc' := 14) rfl (v := 255) rfl ?_
    refine g_iand C X0 at_14 (pc' := 15) rfl ?_
    refine g_i2c C X0 at_15 (pc' := 16) rfl ?_
    obtain ⟨v330, hv330⟩ : ∃ z : Int32, (p0 &&& (255 : Int32)).toUInt32.toUInt16.toUInt32.toInt32 = z := ⟨_, rfl⟩
    refine g_istore C X0 at_16 (pc' := 18) rfl (w := v330) hv330 (ls' := #[.val (.int p0), .val (.int p1), .val (.int p2), .val (.int p3), .val (.int p4), .val (.int p5), .val (.int (3 : Int32)), .val (.int v330), .unset, .unset, .unset, .unset, .unset, .unset, .unset, .unset, .unset, .unset, .unset]) rfl ?_
    refine g_iloadN C X0 at_18 (pc' := 19) rfl rfl ?_
    refine g_sipush C X0 at_19 (pc' := 22) rfl (v := 255) rfl ?_
    refine g_iand C X0 at_22 (pc' := 23) rfl ?_
    refine g_i2c C X0 at_23 (pc' := 24) rfl ?_
    obtain ⟨v331, hv331⟩ : ∃ z : Int32, (p1 &&& (255 : Int32)).toUInt32.toUInt16.toUInt32.toInt32 = z := ⟨_, rfl⟩
    refine g_istore C X0 at_24 (pc' := 26) rfl (w := v331) hv331 (ls' := #[.val (.int p0), .val (.int p1), .val (.int p2), .val (.int p3), .val (.int p4), .val (.int p5), .val (.int (3 : Int32)), .val (.int v330), .val (.int v331), .unset, .unset, .unset, .unset, .unset, .unset, .unset, .unset, .unset, .unset]) rfl ?_
    refine g_iloadN C X0 at_26 (pc' := 27) rfl rfl ?_
    refine g_sipush C X0 at_27 (pc' := 30) rfl (v := 255) rfl ?_
    refine g_iand C X0 at_30 (pc' := 31) rfl ?_
    refine g_i2c C X0 at_31 (pc' := 32) rfl ?_
    obtain ⟨v332, hv332⟩ : ∃ z : Int32, (p2 &&& (255 : Int32)).toUInt32.toUInt16.toUInt32.toInt32 = z := ⟨_, rfl⟩
    refine g_istore C X0 at_32 (pc' := 34) rfl (w := v332) hv332 (ls' := #[.val (.int p0), .val (.int p1), .val (.int p2), .val (.int p3), .val (.int p4), .val (.int p5), .val (.int (3 : Int32)), .val (.int v330), .val (.int v331), .val (.int v332), .unset, .unset, .unset, .unset, .unset, .unset, .unset, .unset, .unset]) rfl ?_
    refine g_iconst C X0 at_34 (pc' := 35) rfl (v := 1) rfl ?_
    refine g_newA (aty := .char) (n := (1 : Int32)) C X0 (cap := 1) (w_1 hw) e0 at_35 (pc' := 37) rfl (by decide) (by decide) (by decide) (by decide) (by decide) (fun T333 h333 b333 ki333 X333 e333 g333 E333 A333 => ?_)
    have f334 := F0.ext E333
    have f335 := F1.ext E333
    have gn_b333 : n0 ≤ b333 := Nat.le_trans Z0 (Nat.le_of_eq g333.symm)
    have Z333 := Nat.le_trans Z0 E333.1
    have f336 : Arv Z h333 b333 ki333 .char (1 : Int32) [(.int (0 : Int32))] (.int (0 : Int32)) := A333.pad (pad_rep [] (.int (0 : Int32)) 1)
    refine g_astore C X333 at_37 (pc' := 39) rfl rfl (ls' := #[.val (.int p0), .val (.int p1), .val (.int p2), .val (.int p3), .val (.int p4), .val (.int p5), .val (.int (3 : Int32)), .val (.int v330), .val (.int v331), .val (.int v332), .val (.ref b333), .unset, .unset, .unset, .unset, .unset, .unset, .unset, .unset]) rfl ?_
    refine g_aload C X333 at_39 (pc' := 41) rfl rfl rfl ?_
    refine g_iconst C X333 at_41 (pc' := 42) rfl (v := 0) rfl ?_
    refine g_iload C X333 at_42 (pc' := 44) rfl rfl ?_
    refine g_castore C X333 (i := 0) e333 f336 (by decide) rfl (Nat.le_of_ble_eq_true rfl) at_44 (pc' := 45) rfl (fun T337 h337 X337 e337 W337 A337 => ?_)
    have f338 := f334.wr W337
    have f339 := f335.wr W337
    have f340 : Arv Z h337 b333 ki333 .char (1 : Int32) [(.int (nar .char v330))] (.int (0 : Int32)) := A337
    have N337 := Fr.snoc X337 N0 gn_b333
    have Z337 := Nat.le_trans Z333 (Nat.le_of_eq W337.size.symm)
    refine g_iconst C X337 at_45 (pc' := 46) rfl (v := 2) rfl ?_
    refine g_newA (aty := .char) (n := (2 : Int32)) C X337 (cap := 2) (w_1 hw) e337 at_46 (pc' := 48) rfl (by decide) (by decide) (by decide) (by decide) (by decide) (fun T341 h341 b341 ki341 X341 e341 g341 E341 A341 => ?_)
    have n342 : b333 ≠ b341 := Nat.ne_of_lt (Nat.lt_of_lt_of_eq f340.lt g341.symm)
    have f343 := f338.ext E341
    have f344 := f339.ext E341
    have f345 := f340.ext E341
    have gn_b341 : n0 ≤ b341 := Nat.le_trans Z337 (Nat.le_of_eq g341.symm)
    have Z341 := Nat.le_trans Z337 E341.1
    have f346 : Arv Z h341 b341 ki341 .char (2 : Int32) [(.int (0 : Int32)), (.int (0 : Int32))] (.int (0 : Int32)) := A341.pad (pad_rep [] (.int (0 : Int32)) 2)
    refine g_astore C X341 at_48 (pc' := 50) rfl rfl (ls' := #[.val (.int p0), .val (.int p1), .val (.int p2), .val (.int p3), .val (.int p4), .val (.int p5), .val (.int (3 : Int32)), .val (.int v330), .val (.int v331), .val (.int v332), .val (.ref b333), .val (.ref b341), .unset, .unset, .unset, .unset, .unset, .unset, .unset]) rfl ?_
    refine g_aload C X341 at_50 (pc' := 52) rfl rfl rfl ?_
    refine g_iconst C X341 at_52 (pc' := 53) rfl (v := 0) rfl ?_
    refine g_iload C X341 at_53 (pc' := 55) rfl rfl ?_
    refine g_castore C X341 (i := 0) e341 f346 (by decide) rfl (Nat.le_of_ble_eq_true rfl) at_55 (pc' := 56) rfl (fun T347 h347 X347 e347 W347 A347 => ?_)
    have f348 := f343.wr W347
    have f349 := f344.wr W347
    have f350 := f345.other W347 n342
    have f351 : Arv Z h347 b341 ki341 .char (2 : Int32) [(.int (nar .char v330)), (.int (0 : Int32))] (.int (0 : Int32)) := A347
    have N347 := Fr.snoc X347 N337 gn_b341
    have Z347 := Nat.le_trans Z341 (Nat.le_of_eq W347.size.symm)
    refine g_aload C X347 at_56 (pc' := 58) rfl rfl rfl ?_
    refine g_iconst C X347 at_58 (pc' := 59) rfl (v := 1) rfl ?_
    refine g_iload C X347 at_59 (pc' := 61) rfl rfl ?_
    refine g_castore C X347 (i := 1) e347 f351 (by decide) rfl (Nat.le_of_ble_eq_true rfl) at_61 (pc' := 62) rfl (fun T352 h352 X352 e352 W352 A352 => ?_)
    have f353 := f348.wr W352
    have f354 := f349.wr W352
    have f355 := f350.other W352 n342
    have f356 : Arv Z h352 b341 ki341 .char (2 : Int32) [(.int (nar .char v330)), (.int (nar .char v331))] (.int (0 : Int32)) := A352
    have N352 := Fr.snoc X352 N347 gn_b341
    have Z352 := Nat.le_trans Z347 (Nat.le_of_eq W352.size.symm)
    refine g_iconst C X352 at_62 (pc' := 63) rfl (v := 3) rfl ?_
    refine g_newA (aty := .char) (n := (3 : Int32)) C X352 (cap := 3) (w_1 hw) e352 at_63 (pc' := 65) rfl (by decide) (by decide) (by decide) (by decide) (by decide) (fun T357 h357 b357 ki357 X357 e357 g357 E357 A357 => ?_)
    have n358 : b333 ≠ b357 := Nat.ne_of_lt (Nat.lt_of_lt_of_eq f355.lt g357.symm)
    have n359 : b341 ≠ b357 := Nat.ne_of_lt (Nat.lt_of_lt_of_eq f356.lt g357.symm)
    have f360 := f353.ext E357
    have f361 := f354.ext E357
    have f362 := f355.ext E357
    have f363 := f356.ext E357
    have gn_b357 : n0 ≤ b357 := Nat.le_trans Z352 (Nat.le_of_eq g357.symm)
    have Z357 := Nat.le_trans Z352 E357.1
    have f364 : Arv Z h357 b357 ki357 .char (3 : Int32) [(.int (0 : Int32)), (.int (0 : Int32)), (.int (0 : Int32))] (.int (0 : Int32)) := A357.pad (pad_rep [] (.int (0 : Int32)) 3)
    refine g_astore C X357 at_65 (pc' := 67) rfl rfl (ls' := #[.val (.int p0), .val (.int p1), .val (.int p2), .val (.int p3), .val (.int p4), .val (.int p5), .val (.int (3 : Int32)), .val (.int v330), .val (.int v331), .val (.int v332), .val (.ref b333), .val (.ref b341), .val (.ref b357), .unset, .unset, .unset, .unset, .unset, .unset]) rfl ?_
    refine g_aload C X357 at_67 (pc' := 69) rfl rfl rfl ?_
    refine g_iconst C X357 at_69 (pc' := 70) rfl (v := 0) rfl ?_
    refine g_iload C X357 at_70 (pc' := 72) rfl rfl ?_
    refine g_castore C X357 (i := 0) e357 f364 (by decide) rfl (Nat.le_of_ble_eq_true rfl) at_72 (pc' := 73) rfl (fun T365 h365 X365 e365 W365 A365 => ?_)
    have f366 := f360.wr W365
    have f367 := f361.wr W365
    have f368 := f362.other W365 n358
    have f369 := f363.other W365 n359
    have f370 : Arv Z h365 b357 ki357 .char (3 : Int32) [(.int (nar .char v330)), (.int (0 : Int32)), (.int (0 : Int32))] (.int (0 : Int32)) := A365
    have N365 := Fr.snoc X365 N352 gn_b357
    have Z365 := Nat.le_trans Z357 (Nat.le_of_eq W365.size.symm)
    refine g_aload C X365 at_73 (pc' := 75) rfl rfl rfl ?_
    refine g_iconst C X365 at_75 (pc' := 76) rfl (v := 1) rfl ?_
    refine g_iload C X365 at_76 (pc' := 78) rfl rfl ?_
    refine g_castore C X365 (i := 1) e365 f370 (by decide) rfl (Nat.le_of_ble_eq_true rfl) at_78 (pc' := 79) rfl (fun T371 h371 X371 e371 W371 A371 => ?_)
    have f372 := f366.wr W371
    have f373 := f367.wr W371
    have f374 := f368.other W371 n358
    have f375 := f369.other W371 n359
    have f376 : Arv Z h371 b357 ki357 .char (3 : Int32) [(.int (nar .char v330)), (.int (nar .char v331)), (.int (0 : Int32))] (.int (0 : Int32)) := A371
    have N371 := Fr.snoc X371 N365 gn_b357
    have Z371 := Nat.le_trans Z365 (Nat.le_of_eq W371.size.symm)
    refine g_aload C X371 at_79 (pc' := 81) rfl rfl rfl ?_
    refine g_iconst C X371 at_81 (pc' := 82) rfl (v := 2) rfl ?_
    refine g_iload C X371 at_82 (pc' := 84) rfl rfl ?_
    refine g_castore C X371 (i := 2) e371 f376 (by decide) rfl (Nat.le_of_ble_eq_true rfl) at_84 (pc' := 85) rfl (fun T377 h377 X377 e377 W377 A377 => ?_)
    have f378 := f372.wr W377
    have f379 := f373.wr W377
    have f380 := f374.other W377 n358
    have f381 := f375.other W377 n359
    have f382 : Arv Z h377 b357 ki357 .char (3 : Int32) [(.int (nar .char v330)), (.int (nar .char v331)), (.int (nar .char v332))] (.int (0 : Int32)) := A377
    have N377 := Fr.snoc X377 N371 gn_b357
    have Z377 := Nat.le_trans Z371 (Nat.le_of_eq W377.size.symm)
    refine g_iload C X377 at_85 (pc' := 87) rfl rfl ?_
    refine g_iconst C X377 at_87 (pc' := 88) rfl (v := 1) rfl ?_
    refine g_icmp_ne C X377 at_88 (pcT := 105) (pcN := 91) (by decide) (by decide) rfl (fun hc88 => ?_) (fun hc88 => absurd hc88 (by decide))
    refine g_iload C X377 at_105 (pc' := 107) rfl rfl ?_
    refine g_iconst C X377 at_107 (pc' := 108) rfl (v := 2) rfl ?_
    refine g_icmp_ne C X377 at_108 (pcT := 125) (pcN := 111) (by decide) (by decide) rfl (fun hc108 => ?_) (fun hc108 => absurd hc108 (by decide))
    refine g_new C X377 (w_2 hw) (w_3 hw) (w_4 hw) e377 at_125 (pc' := 128) rfl (by decide) (by decide) (fun T383 h383 b383 X383 e383 g383 E383 A383 D383 => ?_)
    have n384 : b333 ≠ b383 := Nat.ne_of_lt (Nat.lt_of_lt_of_eq f380.lt g383.symm)
    have n385 : b341 ≠ b383 := Nat.ne_of_lt (Nat.lt_of_lt_of_eq f381.lt g383.symm)
    have n386 : b357 ≠ b383 := Nat.ne_of_lt (Nat.lt_of_lt_of_eq f382.lt g383.symm)
    have f387 := f378.ext E383
    have f388 := f379.ext E383
    have f389 := f380.ext E383
    have f390 := f381.ext E383
    have f391 := f382.ext E383
    have gn_b383 : n0 ≤ b383 := Nat.le_trans Z377 (Nat.le_of_eq g383.symm)
    have Z383 := Nat.le_trans Z377 E383.1
    have f392 : Fld Z h383 b383 "java/lang/String" "coder" "B" (.int (0 : Int32)) := D383 (Or.inr (w_28 hw)) (ty := .byte) (by decide)
    have f393 : Fld Z h383 b383 "java/lang/String" "value" "[B" .null := D383 (Or.inr (w_30 hw)) (ty := (.array .byte)) (by decide)
    refine g_dup C X383 at_128 (pc' := 129) rfl rfl ?_
    refine g_aload C X383 at_129 (pc' := 131) rfl rfl rfl ?_
    refine g_callI C X383 rfl (w_5 hw) (w_6 hw) (w_4 hw) (w_7 hw) (by decide) at_131 (rm1_3 l Z a0 hw [] b383 b357 ki357 (nar .char v330) (nar .char v331) (nar .char v332) cs1 h383 n0 Z383 A383 f393 f392 f391 f387 gn_b383 (own_le (own_chk hv330)) (own_le (own_chk hv331)) (own_le (own_chk hv332)) hcs (Ne.symm n386)) (by decide) (by decide) rfl pd_13 rfl (argsL := [(.ref b357)]) (rest := [(.ref b383)]) rfl (W := 1) (Nat.le_of_eq rfl) e383 (by decide) (by decide) (pc' := 134) rfl (fun u394 T394 L394 X394 hQ394 => ?_)
    obtain ⟨o3394, kd3394, rfl, Nq394, szo3394, Kq394, q394_0, q394_1, q394_2, q394_3⟩ := hQ394
    have N394 := Fr.app N377 Nq394
    have n395 : b333 ≠ o3394 := Nat.ne_of_lt (Nat.lt_of_lt_of_le f389.lt szo3394)
    have n396 : b341 ≠ o3394 := Nat.ne_of_lt (Nat.lt_of_lt_of_le f390.lt szo3394)
    have n397 : b357 ≠ o3394 := Nat.ne_of_lt (Nat.lt_of_lt_of_le f391.lt szo3394)
    have n398 : b383 ≠ o3394 := Nat.ne_of_lt (Nat.lt_of_lt_of_le A383.lt szo3394)
    have f399 := Sta.keepN f387 Kq394 (allS (Exa.ns A383) all0)
    have f400 := Sta.keepN f388 Kq394 (allS (Exa.ns A383) all0)
    have f401 := f389.keep Kq394 (ninS n384 nin0)
    have f402 := f390.keep Kq394 (ninS n385 nin0)
    have f403 := f391.keep Kq394 (ninS n386 nin0)
    have f404 := A383.keep Kq394
    have gn_o3394 : n0 ≤ o3394 := Nat.le_trans Z383 szo3394
    have Z394 := Nat.le_trans Z383 Kq394.1
    show Goes p.tables e below G (T394.setTop (mkF m 134 #[.val (.int p0), .val (.int p1), .val (.int p2), .val (.int p3), .val (.int p4), .val (.int p5), .val (.int (3 : Int32)), .val (.int v330), .val (.int v331), .val (.int v332), .val (.ref b333), .val (.ref b341), .val (.ref b357), .unset, .unset, .unset, .unset, .unset, .unset] [(.ref b383)]))
    refine g_astore C X394 at_134 (pc' := 136) rfl rfl (ls' := #[.val (.int p0), .val (.int p1), .val (.int p2), .val (.int p3), .val (.int p4), .val (.int p5), .val (.int (3 : Int32)), .val (.int v330), .val (.int v331), .val (.int v332), .val (.ref b333), .val (.ref b341), .val (.ref b357), .val (.ref b383), .unset, .unset, .unset, .unset, .unset]) rfl ?_
    refine g_iload C X394 at_136 (pc' := 138) rfl rfl ?_
    refine g_sipush C X394 at_138 (pc' := 141) rfl (v := 255) rfl ?_
    refine g_iand C X394 at_141 (pc' := 142) rfl ?_
    refine g_i2c C X394 at_142 (pc' := 143) rfl ?_
    refine g_callS C X394 (w_31 hw) (w_32 hw) (w_4 hw) (w_33 hw) (by decide) at_143 (rm7 l Z a0 hw [] (p5 &&& (255 : Int32)).toUInt32.toUInt16.toUInt32.toInt32 cs1 T394.heap n0 Z394 f399 (own_c255 _).2 hcs) (by decide) (by decide) rfl pd_14 rfl (argsL := [(.int (p5 &&& (255 : Int32)).toUInt32.toUInt16.toUInt32.toInt32)]) (rest := []) rfl (W := 0) (Nat.le_of_eq rfl) rfl (by decide) (by decide) (pc' := 146) rfl (fun u405 T405 L405 X405 hQ405 => ?_)
    obtain ⟨o3405, rfl, Nq405, szo3405, Kq405⟩ := hQ405
    have N405 := Fr.app N394 Nq405
    have n406 : b383 ≠ o3405 := Nat.ne_of_lt (Nat.lt_of_lt_of_le q394_0.lt szo3405)
    have n407 : o3394 ≠ o3405 := Nat.ne_of_lt (Nat.lt_of_lt_of_le q394_3.lt szo3405)
    have f408 := Sta.keepN f399 Kq405 all0
    have f409 := Sta.keepN f400 Kq405 all0
    have f410 := q394_0.keep Kq405
    have f411 := q394_1.keep Kq405 nin0
    have f412 := q394_2.keep Kq405 nin0
    have f413 := q394_3.keep Kq405 nin0
    have gn_o3405 : n0 ≤ o3405 := Nat.le_trans Z394 szo3405
    have Z405 := Nat.le_trans Z394 Kq405.1
    show Goes p.tables e below G (T405.setTop (mkF m 146 #[.val (.int p0), .val (.int p1), .val (.int p2), .val (.int p3), .val (.int p4), .val (.int p5), .val (.int (3 : Int32)), .val (.int v330), .val (.int v331), .val (.int v332), .val (.ref b333), .val (.ref b341), .val (.ref b357), .val (.ref b383), .unset, .unset, .unset, .unset, .unset] [(.ref o3405)]))
    refine g_astore C X405 at_146 (pc' := 148) rfl rfl (ls' := #[.val (.int p0), .val (.int p1), .val (.int p2), .val (.int p3), .val (.int p4), .val (.int p5), .val (.int (3 : Int32)), .val (.int v330), .val (.int v331), .val (.int v332), .val (.ref b333), .val (.ref b341), .val (.ref b357), .val (.ref b383), .val (.ref o3405), .unset, .unset, .unset, .unset]) rfl ?_
    refine g_iload C X405 at_148 (pc' := 150) rfl rfl ?_
    refine g_bipush C X405 at_150 (pc' := 152) rfl (v := 8) rfl ?_
    refine g_ishr C X405 at_152 (pc' := 153) rfl ?_
    refine g_iconst C X405 at_153 (pc' := 154) rfl (v := 1) rfl ?_
    refine g_iand C X405 at_154 (pc' := 155) rfl ?_
    refine g_if_eq C X405 at_155 (pcT := 162) (pcN := 158) (by decide) (by decide) rfl (fun hc155 => ?_) (fun hc155 => ?_)
    · refine g_iload C X405 at_162 (pc' := 164) rfl rfl ?_
      refine g_bipush C X405 at_164 (pc' := 166) rfl (v := 9) rfl ?_
      refine g_ishr C X405 at_166 (pc' := 167) rfl ?_
      refine g_sipush C X405 at_167 (pc' := 170) rfl (v := 255) rfl ?_
      refine g_iand C X405 at_170 (pc' := 171) rfl ?_
      refine g_i2c C X405 at_171 (pc' := 172) rfl ?_
      refine g_callS C X405 (w_31 hw) (w_32 hw) (w_4 hw) (w_33 hw) (by decide) at_172 (rm7 l Z a0 hw [] ((p5 >>> ((9 : Int32) &&& 31)) &&& (255 : Int32)).toUInt32.toUInt16.toUInt32.toInt32 cs1 T405.heap n0 Z405 f408 (own_c255 _).2 hcs) (by decide) (by decide) rfl pd_14 rfl (argsL := [(.int ((p5 >>> ((9 : Int32) &&& 31)) &&& (255 : Int32)).toUInt32.toUInt16.toUInt32.toInt32)]) (rest := []) rfl (W := 0) (Nat.le_of_eq rfl) rfl (by decide) (by decide) (pc' := 175) rfl (fun u414 T414 L414 X414 hQ414 => ?_)
      obtain ⟨o3414, rfl, Nq414, szo3414, Kq414⟩ := hQ414
      have N414 := Fr.app N405 Nq414
      have n415 : b383 ≠ o3414 := Nat.ne_of_lt (Nat.lt_of_lt_of_le f410.lt szo3414)
      have n416 : o3394 ≠ o3414 := Nat.ne_of_lt (Nat.lt_of_lt_of_le f413.lt szo3414)
      have f417 := Sta.keepN f408 Kq414 all0
      have f418 := Sta.keepN f409 Kq414 all0
      have f419 := f410.keep Kq414
      have f420 := f411.keep Kq414 nin0
      have f421 := f412.keep Kq414 nin0
      have f422 := f413.keep Kq414 nin0
      have gn_o3414 : n0 ≤ o3414 := Nat.le_trans Z405 szo3414
      have Z414 := Nat.le_trans Z405 Kq414.1
      show Goes p.tables e below G (T414.setTop (mkF m 175 #[.val (.int p0), .val (.int p1), .val (.int p2), .val (.int p3), .val (.int p4), .val (.int p5), .val (.int (3 : Int32)), .val (.int v330), .val (.int v331), .val (.int v332), .val (.ref b333), .val (.ref b341), .val (.ref b357), .val (.ref b383), .val (.ref o3405), .unset, .unset, .unset, .unset] [(.ref o3414)]))
      refine g_astore C X414 at_175 (pc' := 177) rfl rfl (ls' := #[.val (.int p0), .val (.int p1), .val (.int p2), .val (.int p3), .val (.int p4), .val (.int p5), .val (.int (3 : Int32)), .val (.int v330), .val (.int v331), .val (.int v332), .val (.ref b333), .val (.ref b341), .val (.ref b357), .val (.ref b383), .val (.ref o3405), .val (.ref o3414), .unset, .unset, .unset]) rfl ?_
      refine g_iload C X414 at_177 (pc' := 179) rfl rfl ?_
      refine g_bipush C X414 at_179 (pc' := 181) rfl (v := 17) rfl ?_
      refine g_ishr C X414 at_181 (pc' := 182) rfl ?_
      refine g_sipush C X414 at_182 (pc' := 185) rfl (v := 255) rfl ?_
      refine g_iand C X414 at_185 (pc' := 186) rfl ?_
      refine g_i2c C X414 at_186 (pc' := 187) rfl ?_
      refine g_callS C X414 (w_31 hw) (w_32 hw) (w_4 hw) (w_33 hw) (by decide) at_187 (rm7 l Z a0 hw [] ((p5 >>> ((17 : Int32) &&& 31)) &&& (255 : Int32)).toUInt32.toUInt16.toUInt32.toInt32 cs1 T414.heap n0 Z414 f417 (own_c255 _).2 hcs) (by decide) (by decide) rfl pd_14 rfl (argsL := [(.int ((p5 >>> ((17 : Int32) &&& 31)) &&& (255 : Int32)).toUInt32.toUInt16.toUInt32.toInt32)]) (rest := []) rfl (W := 0) (Nat.le_of_eq rfl) rfl (by decide) (by decide) (pc' := 190) rfl (fun u423 T423 L423 X423 hQ423 => ?_)
      obtain ⟨o3423, rfl, Nq423, szo3423, Kq423⟩ := hQ423
      have N423 := Fr.app N414 Nq423
      have n424 : b383 ≠ o3423 := Nat.ne_of_lt (Nat.lt_of_lt_of_le f419.lt szo3423)
      have n425 : o3394 ≠ o3423 := Nat.ne_of_lt (Nat.lt_of_lt_of_le f422.lt szo3423)
      have f426 := Sta.keepN f417 Kq423 all0
      have f427 := Sta.keepN f418 Kq423 all0
      have f428 := f419.keep Kq423
      have f429 := f420.keep Kq423 nin0
      have f430 := f421.keep Kq423 nin0
      have f431 := f422.keep Kq423 nin0
      have gn_o3423 : n0 ≤ o3423 := Nat.le_trans Z414 szo3423
      have Z423 := Nat.le_trans Z414 Kq423.1
      show Goes p.tables e below G (T423.setTop (mkF m 190 #[.val (.int p0), .val (.int p1), .val (.int p2), .val (.int p3), .val (.int p4), .val (.int p5), .val (.int (3 : Int32)), .val (.int v330), .val (.int v331), .val (.int v332), .val (.ref b333), .val (.ref b341), .val (.ref b357), .val (.ref b383), .val (.ref o3405), .val (.ref o3414), .unset, .unset, .unset] [(.ref o3423)]))
      refine g_astore C X423 at_190 (pc' := 192) rfl rfl (ls' := #[.val (.int p0), .val (.int p1), .val (.int p2), .val (.int p3), .val (.int p4), .val (.int p5), .val (.int (3 : Int32)), .val (.int v330), .val (.int v331), .val (.int v332), .val (.ref b333), .val (.ref b341), .val (.ref b357), .val (.ref b383), .val (.ref o3405), .val (.ref o3414), .val (.ref o3423), .unset, .unset]) rfl ?_
      refine g_new C X423 (w_45 hw) (w_46 hw) (w_47 hw) rfl at_192 (pc' := 195) rfl (by decide) (by decide) (fun T432 h432 b432 X432 e432 g432 E432 A432 D432 => ?_)
      have n433 : b383 ≠ b432 := Nat.ne_of_lt (Nat.lt_of_lt_of_eq f428.lt g432.symm)
      have n434 : o3394 ≠ b432 := Nat.ne_of_lt (Nat.lt_of_lt_of_eq f431.lt g432.symm)
      have f435 := f426.ext E432
      have f436 := f427.ext E432
      have f437 := f428.ext E432
      have f438 := f429.ext E432
      have f439 := f430.ext E432
      have f440 := f431.ext E432
      have gn_b432 : n0 ≤ b432 := Nat.le_trans Z423 (Nat.le_of_eq g432.symm)
      have Z432 := Nat.le_trans Z423 E432.1
      have f441 : Fld Z h432 b432 "com/example/hanko/hanko/access/GitConfig$Entry" "section" "Ljava/lang/String;" .null := D432 (Or.inr (w_58 hw)) (ty := (.object "java/lang/String")) (by decide)
      have f442 : Fld Z h432 b432 "com/example/hanko/hanko/access/GitConfig$Entry" "subsection" "Ljava/lang/String;" .null := D432 (Or.inr (w_60 hw)) (ty := (.object "java/lang/String")) (by decide)
      have f443 : Fld Z h432 b432 "com/example/hanko/hanko/access/GitConfig$Entry" "key" "Ljava/lang/String;" .null := D432 (Or.inr (w_62 hw)) (ty := (.object "java/lang/String")) (by decide)
      have f444 : Fld Z h432 b432 "com/example/hanko/hanko/access/GitConfig$Entry" "value" "Ljava/lang/String;" .null := D432 (Or.inr (w_64 hw)) (ty := (.object "java/lang/String")) (by decide)
      have f445 : Fld Z h432 b432 "com/example/hanko/hanko/access/GitConfig$Entry" "line" "I" (.int (0 : Int32)) := D432 (Or.inr (w_66 hw)) (ty := .int) (by decide)
      refine g_dup C X432 at_195 (pc' := 196) rfl rfl ?_
      refine g_aload C X432 at_196 (pc' := 198) rfl rfl rfl ?_
      refine g_aload C X432 at_198 (pc' := 200) rfl rfl rfl ?_
      refine g_aload C X432 at_200 (pc' := 202) rfl rfl rfl ?_
      refine g_aload C X432 at_202 (pc' := 204) rfl rfl rfl ?_
      refine g_iload C X432 at_204 (pc' := 206) rfl rfl ?_
      refine g_callI C X432 rfl (w_48 hw) (w_49 hw) (w_47 hw) (w_50 hw) (by decide) at_206 (rm11_s l Z a0 hw [] b432 o3405 o3414 o3423 b383 p4 h432 n0 Z432 A432 f441 f442 f443 f444 f445 gn_b432) (by decide) (by decide) rfl pd_15 rfl (argsL := [(.ref o3405), (.ref o3414), (.ref o3423), (.ref b383), (.int p4)]) (rest := [(.ref b432)]) rfl (W := 1) (Nat.le_of_eq rfl) e432 (by decide) (by decide) (pc' := 209) rfl (fun u446 T446 L446 X446 hQ446 => ?_)
      obtain ⟨rfl, Nq446, Kq446, q446_0, q446_1⟩ := hQ446
      have N446 := Fr.app N423 Nq446
      have f447 := Sta.keepN f435 Kq446 (allS (Exa.ns A432) all0)
      have f448 := Sta.keepN f436 Kq446 (allS (Exa.ns A432) all0)
      have f449 := f437.keep Kq446
      have f450 := f438.keep Kq446 (ninS n433 nin0)
      have f451 := f439.keep Kq446 (ninS n433 nin0)
      have f452 := f440.keep Kq446 (ninS n434 nin0)
      have f453 := A432.keep Kq446
      have Z446 := Nat.le_trans Z432 Kq446.1
      show Goes p.tables e below G (T446.setTop (mkF m 209 #[.val (.int p0), .val (.int p1), .val (.int p2), .val (.int p3), .val (.int p4), .val (.int p5), .val (.int (3 : Int32)), .val (.int v330), .val (.int v331), .val (.int v332), .val (.ref b333), .val (.ref b341), .val (.ref b357), .val (.ref b383), .val (.ref o3405), .val (.ref o3414), .val (.ref o3423), .unset, .unset] [(.ref b432)]))
      refine g_astore C X446 at_209 (pc' := 211) rfl rfl (ls' := #[.val (.int p0), .val (.int p1), .val (.int p2), .val (.int p3), .val (.int p4), .val (.int p5), .val (.int (3 : Int32)), .val (.int v330), .val (.int v331), .val (.int v332), .val (.ref b333), .val (.ref b341), .val (.ref b357), .val (.ref b383), .val (.ref o3405), .val (.ref o3414), .val (.ref o3423), .val (.ref b432), .unset]) rfl ?_
      refine g_aload C X446 at_211 (pc' := 213) rfl rfl rfl ?_
      refine g_callV C X446 (w_67 hw) (w_68 hw) (notFace_of_selects (args := #[]) (mvT C.2.1 (w_70 hw))) (w_70 hw) (w_69 hw) (w_71 hw) (w_47 hw) (by decide) q446_0 at_213 (rm13_3 l Z a0 hw [] b432 b383 o3394 kd3394 (nar .byte (nar .char v330).toInt8.toInt32) (nar .byte (nar .char v331).toInt8.toInt32) (nar .byte (nar .char v332).toInt8.toInt32) T446.heap n0 Z446 q446_0 q446_1 f449 f450 f451 f452) (by decide) (by decide) rfl pd_16 rfl (argsL := []) (rest := []) rfl (W := 0) (Nat.le_of_eq rfl) rfl (by decide) (by decide) (pc' := 216) rfl (fun u454 T454 L454 X454 hQ454 => ?_)
      obtain ⟨rfl, Nq454, eq454⟩ := hQ454
      have N454 := Fr.app N446 Nq454
      show Goes p.tables e below G (T454.setTop (mkF m 216 #[.val (.int p0), .val (.int p1), .val (.int p2), .val (.int p3), .val (.int p4), .val (.int p5), .val (.int (3 : Int32)), .val (.int v330), .val (.int v331), .val (.int v332), .val (.ref b333), .val (.ref b341), .val (.ref b357), .val (.ref b383), .val (.ref o3405), .val (.ref o3414), .val (.ref o3423), .val (.ref b432), .unset] [(.ref b383)]))
      refine g_astore C X454 at_216 (pc' := 218) rfl rfl (ls' := #[.val (.int p0), .val (.int p1), .val (.int p2), .val (.int p3), .val (.int p4), .val (.int p5), .val (.int (3 : Int32)), .val (.int v330), .val (.int v331), .val (.int v332), .val (.ref b333), .val (.ref b341), .val (.ref b357), .val (.ref b383), .val (.ref o3405), .val (.ref o3414), .val (.ref o3423), .val (.ref b432), .val (.ref b383)]) rfl ?_
      refine g_aload C X454 at_218 (pc' := 220) rfl rfl rfl ?_
      refine g_ifnonnullY C X454 at_220 (pc' := 225) (by decide) (by decide) ?_
      refine g_aload C X454 at_225 (pc' := 227) rfl rfl rfl ?_
      refine g_callV C X454 (w_77 hw) (w_78 hw) (notFace_of_selects (args := #[]) (mvT C.2.1 (w_80 hw))) (w_80 hw) (w_79 hw) (w_81 hw) (w_4 hw) (by decide) f449 at_227 (rm15_3 l Z a0 hw [] b383 o3394 kd3394 (nar .byte (nar .char v330).toInt8.toInt32) (nar .byte (nar .char v331).toInt8.toInt32) (nar .byte (nar .char v332).toInt8.toInt32) cs1 T446.heap n0 Z446 f449 f450 f451 f452 f447 hcs) (by decide) (by decide) rfl pd_17 rfl (argsL := []) (rest := []) rfl (W := 0) (Nat.le_of_eq rfl) eq454 (by decide) (by decide) (pc' := 230) rfl (fun u455 T455 L455 X455 hQ455 => ?_)
      obtain ⟨rfl, Nq455, eq455⟩ := hQ455
      have N455 := Fr.app N454 Nq455
      show Goes p.tables e below G (T455.setTop (mkF m 230 #[.val (.int p0), .val (.int p1), .val (.int p2), .val (.int p3), .val (.int p4), .val (.int p5), .val (.int (3 : Int32)), .val (.int v330), .val (.int v331), .val (.int v332), .val (.ref b333), .val (.ref b341), .val (.ref b357), .val (.ref b383), .val (.ref o3405), .val (.ref o3414), .val (.ref o3423), .val (.ref b432), .val (.ref b383)] [(.int (3 : Int32))]))
      refine g_iload C X455 at_230 (pc' := 232) rfl rfl ?_
      refine g_icmp_eq C X455 at_232 (pcT := 237) (pcN := 235) (by decide) (by decide) rfl (fun hc232 => ?_) (fun hc232 => absurd hc232 (by decide))
      refine g_aload C X455 at_237 (pc' := 239) rfl rfl rfl ?_
      refine g_iconst C X455 at_239 (pc' := 240) rfl (v := 0) rfl ?_
      refine g_callV C X455 (w_87 hw) (w_88 hw) (notFace_of_selects (args := #[]) (mvT C.2.1 (w_90 hw))) (w_90 hw) (w_89 hw) (w_91 hw) (w_4 hw) (by decide) f449 at_240 (rm17_3_0 l Z a0 hw [] b383 o3394 kd3394 (nar .byte (nar .char v330).toInt8.toInt32) (nar .byte (nar .char v331).toInt8.toInt32) (nar .byte (nar .char v332).toInt8.toInt32) cs1 wf1 T446.heap n0 Z446 f449 f450 f451 f452 f447 f448 hcs hwf) (by decide) (by decide) rfl pd_18 rfl (argsL := [(.int (0 : Int32))]) (rest := []) rfl (W := 0) (Nat.le_of_eq rfl) eq455 (by decide) (by decide) (pc' := 243) rfl (fun u456 T456 L456 X456 hQ456 => ?_)
      obtain ⟨rfl, Nq456, eq456⟩ := hQ456
      have N456 := Fr.app N455 Nq456
      obtain ⟨r456, hr456⟩ : ∃ z : Int32, (own_ch (nar .byte (nar .char v330).toInt8.toInt32)) = z := ⟨_, rfl⟩
      rw [hr456]
      show Goes p.tables e below G (T456.setTop (mkF m 243 #[.val (.int p0), .val (.int p1), .val (.int p2), .val (.int p3), .val (.int p4), .val (.int p5), .val (.int (3 : Int32)), .val (.int v330), .val (.int v331), .val (.int v332), .val (.ref b333), .val (.ref b341), .val (.ref b357), .val (.ref b383), .val (.ref o3405), .val (.ref o3414), .val (.ref o3423), .val (.ref b432), .val (.ref b383)] [(.int r456)]))
      refine g_iload C X456 at_243 (pc' := 245) rfl rfl ?_
      refine g_icmp_eq C X456 at_245 (pcT := 250) (pcN := 248) (by decide) (by decide) rfl (fun hc245 => ?_) (fun hc245 => absurd (hr456.symm.trans (own_back (own_chk hv330))) hc245)
      refine g_iload C X456 at_250 (pc' := 252) rfl rfl ?_
      refine g_iconst C X456 at_252 (pc' := 253) rfl (v := 2) rfl ?_
      refine g_icmp_lt C X456 at_253 (pcT := 269) (pcN := 256) (by decide) (by decide) rfl (fun hc253 => absurd hc253 (by decide)) (fun hc253 => ?_)
      refine g_aload C X456 at_256 (pc' := 258) rfl rfl rfl ?_
      refine g_iconst C X456 at_258 (pc' := 259) rfl (v := 1) rfl ?_
      refine g_callV C X456 (w_87 hw) (w_88 hw) (notFace_of_selects (args := #[]) (mvT C.2.1 (w_90 hw))) (w_90 hw) (w_89 hw) (w_91 hw) (w_4 hw) (by decide) f449 at_259 (rm17_3_1 l Z a0 hw [] b383 o3394 kd3394 (nar .byte (nar .char v330).toInt8.toInt32) (nar .byte (nar .char v331).toInt8.toInt32) (nar .byte (nar .char v332).toInt8.toInt32) cs1 wf1 T446.heap n0 Z446 f449 f450 f451 f452 f447 f448 hcs hwf) (by decide) (by decide) rfl pd_18 rfl (argsL := [(.int (1 : Int32))]) (rest := []) rfl (W := 0) (Nat.le_of_eq rfl) eq456 (by decide) (by decide) (pc' := 262) rfl (fun u457 T457 L457 X457 hQ457 => ?_)
      obtain ⟨rfl, Nq457, eq457⟩ := hQ457
      have N457 := Fr.app N456 Nq457
      obtain ⟨r457, hr457⟩ : ∃ z : Int32, (own_ch (nar .byte (nar .char v331).toInt8.toInt32)) = z := ⟨_, rfl⟩
      rw [hr457]
      show Goes p.tables e below G (T457.setTop (mkF m 262 #[.val (.int p0), .val (.int p1), .val (.int p2), .val (.int p3), .val (.int p4), .val (.int p5), .val (.int (3 : Int32)), .val (.int v330), .val (.int v331), .val (.int v332), .val (.ref b333), .val (.ref b341), .val (.ref b357), .val (.ref b383), .val (.ref o3405), .val (.ref o3414), .val (.ref o3423), .val (.ref b432), .val (.ref b383)] [(.int r457)]))
      refine g_iload C X457 at_262 (pc' := 264) rfl rfl ?_
      refine g_icmp_eq C X457 at_264 (pcT := 269) (pcN := 267) (by decide) (by decide) rfl (fun hc264 => ?_) (fun hc264 => absurd (hr457.symm.trans (own_back (own_chk hv331))) hc264)
      refine g_iload C X457 at_269 (pc' := 271) rfl rfl ?_
      refine g_iconst C X457 at_271 (pc' := 272) rfl (v := 3) rfl ?_
      refine g_icmp_ne C X457 at_272 (pcT := 288) (pcN := 275) (by decide) (by decide) rfl (fun hc272 => absurd hc272 (by decide)) (fun hc272 => ?_)
      refine g_aload C X457 at_275 (pc' := 277) rfl rfl rfl ?_
      refine g_iconst C X457 at_277 (pc' := 278) rfl (v := 2) rfl ?_
      refine g_callV C X457 (w_87 hw) (w_88 hw) (notFace_of_selects (args := #[]) (mvT C.2.1 (w_90 hw))) (w_90 hw) (w_89 hw) (w_91 hw) (w_4 hw) (by decide) f449 at_278 (rm17_3_2 l Z a0 hw [] b383 o3394 kd3394 (nar .byte (nar .char v330).toInt8.toInt32) (nar .byte (nar .char v331).toInt8.toInt32) (nar .byte (nar .char v332).toInt8.toInt32) cs1 wf1 T446.heap n0 Z446 f449 f450 f451 f452 f447 f448 hcs hwf) (by decide) (by decide) rfl pd_18 rfl (argsL := [(.int (2 : Int32))]) (rest := []) rfl (W := 0) (Nat.le_of_eq rfl) eq457 (by decide) (by decide) (pc' := 281) rfl (fun u458 T458 L458 X458 hQ458 => ?_)
      obtain ⟨rfl, Nq458, eq458⟩ := hQ458
      have N458 := Fr.app N457 Nq458
      obtain ⟨r458, hr458⟩ : ∃ z : Int32, (own_ch (nar .byte (nar .char v332).toInt8.toInt32)) = z := ⟨_, rfl⟩
      rw [hr458]
      show Goes p.tables e below G (T458.setTop (mkF m 281 #[.val (.int p0), .val (.int p1), .val (.int p2), .val (.int p3), .val (.int p4), .val (.int p5), .val (.int (3 : Int32)), .val (.int v330), .val (.int v331), .val (.int v332), .val (.ref b333), .val (.ref b341), .val (.ref b357), .val (.ref b383), .val (.ref o3405), .val (.ref o3414), .val (.ref o3423), .val (.ref b432), .val (.ref b383)] [(.int r458)]))
      refine g_iload C X458 at_281 (pc' := 283) rfl rfl ?_
      refine g_icmp_eq C X458 at_283 (pcT := 288) (pcN := 286) (by decide) (by decide) rfl (fun hc283 => ?_) (fun hc283 => absurd (hr458.symm.trans (own_back (own_chk hv332))) hc283)
      refine g_aload C X458 at_288 (pc' := 290) rfl rfl rfl ?_
      refine g_aload C X458 at_290 (pc' := 292) rfl rfl rfl ?_
      refine g_callV C X458 (w_108 hw) (w_109 hw) (notFace_of_selects (args := #[]) (mvT C.2.1 (w_111 hw))) (w_111 hw) (w_110 hw) (w_112 hw) (w_4 hw) (by decide) f449 at_292 (rm22 l Z a0 hw [] b383 b383 T446.heap n0 Z446 rfl) (by decide) (by decide) rfl pd_19 rfl (argsL := [(.ref b383)]) (rest := []) rfl (W := 0) (Nat.le_of_eq rfl) eq458 (by decide) (by decide) (pc' := 295) rfl (fun u459 T459 L459 X459 hQ459 => ?_)
      obtain ⟨rfl, Nq459, eq459⟩ := hQ459
      have N459 := Fr.app N458 Nq459
      show Goes p.tables e below G (T459.setTop (mkF m 295 #[.val (.int p0), .val (.int p1), .val (.int p2), .val (.int p3), .val (.int p4), .val (.int p5), .val (.int (3 : Int32)), .val (.int v330), .val (.int v331), .val (.int v332), .val (.ref b333), .val (.ref b341), .val (.ref b357), .val (.ref b383), .val (.ref o3405), .val (.ref o3414), .val (.ref o3423), .val (.ref b432), .val (.ref b383)] [(.int (1 : Int32))]))
      exact g_retN C X459 K (by simp) at_295 (by decide) (by decide) eq459 ⟨rfl, N459⟩
    · refine g_aconstNull C X405 at_158 (pc' := 159) rfl ?_
      refine g_goto C X405 at_159 (pc' := 175) (by decide) (by decide) ?_
      refine g_astore C X405 at_175 (pc' := 177) rfl rfl (ls' := #[.val (.int p0), .val (.int p1), .val (.int p2), .val (.int p3), .val (.int p4), .val (.int p5), .val (.int (3 : Int32)), .val (.int v330), .val (.int v331), .val (.int v332), .val (.ref b333), .val (.ref b341), .val (.ref b357), .val (.ref b383), .val (.ref o3405), .val .null, .unset, .unset, .unset]) rfl ?_
      refine g_iload C X405 at_177 (pc' := 179) rfl rfl ?_
      refine g_bipush C X405 at_179 (pc' := 181) rfl (v := 17) rfl ?_
      refine g_ishr C X405 at_181 (pc' := 182) rfl ?_
      refine g_sipush C X405 at_182 (pc' := 185) rfl (v := 255) rfl ?_
      refine g_iand C X405 at_185 (pc' := 186) rfl ?_
      refine g_i2c C X405 at_186 (pc' := 187) rfl ?_
      refine g_callS C X405 (w_31 hw) (w_32 hw) (w_4 hw) (w_33 hw) (by decide) at_187 (rm7 l Z a0 hw [] ((p5 >>> ((17 : Int32) &&& 31)) &&& (255 : Int32)).toUInt32.toUInt16.toUInt32.toInt32 cs1 T405.heap n0 Z405 f408 (own_c255 _).2 hcs) (by decide) (by decide) rfl pd_14 rfl (argsL := [(.int ((p5 >>> ((17 : Int32) &&& 31)) &&& (255 : Int32)).toUInt32.toUInt16.toUInt32.toInt32)]) (rest := []) rfl (W := 0) (Nat.le_of_eq rfl) rfl (by decide) (by decide) (pc' := 190) rfl (fun u460 T460 L460 X460 hQ460 => ?_)
      obtain ⟨o3460, rfl, Nq460, szo3460, Kq460⟩ := hQ460
      have N460 := Fr.app N405 Nq460
      have n461 : b383 ≠ o3460 := Nat.ne_of_lt (Nat.lt_of_lt_of_le f410.lt szo3460)
      have n462 : o3394 ≠ o3460 := Nat.ne_of_lt (Nat.lt_of_lt_of_le f413.lt szo3460)
      have f463 := Sta.keepN f408 Kq460 all0
      have f464 := Sta.keepN f409 Kq460 all0
      have f465 := f410.keep Kq460
      have f466 := f411.keep Kq460 nin0
      have f467 := f412.keep Kq460 nin0
      have f468 := f413.keep Kq460 nin0
      have gn_o3460 : n0 ≤ o3460 := Nat.le_trans Z405 szo3460
      have Z460 := Nat.le_trans Z405 Kq460.1
      show Goes p.tables e below G (T460.setTop (mkF m 190 #[.val (.int p0), .val (.int p1), .val (.int p2), .val (.int p3), .val (.int p4), .val (.int p5), .val (.int (3 : Int32)), .val (.int v330), .val (.int v331), .val (.int v332), .val (.ref b333), .val (.ref b341), .val (.ref b357), .val (.ref b383), .val (.ref o3405), .val .null, .unset, .unset, .unset] [(.ref o3460)]))
      refine g_astore C X460 at_190 (pc' := 192) rfl rfl (ls' := #[.val (.int p0), .val (.int p1), .val (.int p2), .val (.int p3), .val (.int p4), .val (.int p5), .val (.int (3 : Int32)), .val (.int v330), .val (.int v331), .val (.int v332), .val (.ref b333), .val (.ref b341), .val (.ref b357), .val (.ref b383), .val (.ref o3405), .val .null, .val (.ref o3460), .unset, .unset]) rfl ?_
      refine g_new C X460 (w_45 hw) (w_46 hw) (w_47 hw) rfl at_192 (pc' := 195) rfl (by decide) (by decide) (fun T469 h469 b469 X469 e469 g469 E469 A469 D469 => ?_)
      have n470 : b383 ≠ b469 := Nat.ne_of_lt (Nat.lt_of_lt_of_eq f465.lt g469.symm)
      have n471 : o3394 ≠ b469 := Nat.ne_of_lt (Nat.lt_of_lt_of_eq f468.lt g469.symm)
      have f472 := f463.ext E469
      have f473 := f464.ext E469
      have f474 := f465.ext E469
      have f475 := f466.ext E469
      have f476 := f467.ext E469
      have f477 := f468.ext E469
      have gn_b469 : n0 ≤ b469 := Nat.le_trans Z460 (Nat.le_of_eq g469.symm)
      have Z469 := Nat.le_trans Z460 E469.1
      have f478 : Fld Z h469 b469 "com/example/hanko/hanko/access/GitConfig$Entry" "section" "Ljava/lang/String;" .null := D469 (Or.inr (w_58 hw)) (ty := (.object "java/lang/String")) (by decide)
      have f479 : Fld Z h469 b469 "com/example/hanko/hanko/access/GitConfig$Entry" "subsection" "Ljava/lang/String;" .null := D469 (Or.inr (w_60 hw)) (ty := (.object "java/lang/String")) (by decide)
      have f480 : Fld Z h469 b469 "com/example/hanko/hanko/access/GitConfig$Entry" "key" "Ljava/lang/String;" .null := D469 (Or.inr (w_62 hw)) (ty := (.object "java/lang/String")) (by decide)
      have f481 : Fld Z h469 b469 "com/example/hanko/hanko/access/GitConfig$Entry" "value" "Ljava/lang/String;" .null := D469 (Or.inr (w_64 hw)) (ty := (.object "java/lang/String")) (by decide)
      have f482 : Fld Z h469 b469 "com/example/hanko/hanko/access/GitConfig$Entry" "line" "I" (.int (0 : Int32)) := D469 (Or.inr (w_66 hw)) (ty := .int) (by decide)
      refine g_dup C X469 at_195 (pc' := 196) rfl rfl ?_
      refine g_aload C X469 at_196 (pc' := 198) rfl rfl rfl ?_
      refine g_aload C X469 at_198 (pc' := 200) rfl rfl rfl ?_
      refine g_aload C X469 at_200 (pc' := 202) rfl rfl rfl ?_
      refine g_aload C X469 at_202 (pc' := 204) rfl rfl rfl ?_
      refine g_iload C X469 at_204 (pc' := 206) rfl rfl ?_
      refine g_callI C X469 rfl (w_48 hw) (w_49 hw) (w_47 hw) (w_50 hw) (by decide) at_206 (rm11_n l Z a0 hw [] b469 o3405 o3460 b383 p4 h469 n0 Z469 A469 f478 f479 f480 f481 f482 gn_b469) (by decide) (by decide) rfl pd_15 rfl (argsL := [(.ref o3405), .null, (.ref o3460), (.ref b383), (.int p4)]) (rest := [(.ref b469)]) rfl (W := 1) (Nat.le_of_eq rfl) e469 (by decide) (by decide) (pc' := 209) rfl (fun u483 T483 L483 X483 hQ483 => ?_)
      obtain ⟨rfl, Nq483, Kq483, q483_0, q483_1⟩ := hQ483
      have N483 := Fr.app N460 Nq483
      have f484 := Sta.keepN f472 Kq483 (allS (Exa.ns A469) all0)
      have f485 := Sta.keepN f473 Kq483 (allS (Exa.ns A469) all0)
      have f486 := f474.keep Kq483
      have f487 := f475.keep Kq483 (ninS n470 nin0)
      have f488 := f476.keep Kq483 (ninS n470 nin0)
      have f489 := f477.keep Kq483 (ninS n471 nin0)
      have f490 := A469.keep Kq483
      have Z483 := Nat.le_trans Z469 Kq483.1
      show Goes p.tables e below G (T483.setTop (mkF m 209 #[.val (.int p0), .val (.int p1), .val (.int p2), .val (.int p3), .val (.int p4), .val (.int p5), .val (.int (3 : Int32)), .val (.int v330), .val (.int v331), .val (.int v332), .val (.ref b333), .val (.ref b341), .val (.ref b357), .val (.ref b383), .val (.ref o3405), .val .null, .val (.ref o3460), .unset, .unset] [(.ref b469)]))
      refine g_astore C X483 at_209 (pc' := 211) rfl rfl (ls' := #[.val (.int p0), .val (.int p1), .val (.int p2), .val (.int p3), .val (.int p4), .val (.int p5), .val (.int (3 : Int32)), .val (.int v330), .val (.int v331), .val (.int v332), .val (.ref b333), .val (.ref b341), .val (.ref b357), .val (.ref b383), .val (.ref o3405), .val .null, .val (.ref o3460), .val (.ref b469), .unset]) rfl ?_
      refine g_aload C X483 at_211 (pc' := 213) rfl rfl rfl ?_
      refine g_callV C X483 (w_67 hw) (w_68 hw) (notFace_of_selects (args := #[]) (mvT C.2.1 (w_70 hw))) (w_70 hw) (w_69 hw) (w_71 hw) (w_47 hw) (by decide) q483_0 at_213 (rm13_3 l Z a0 hw [] b469 b383 o3394 kd3394 (nar .byte (nar .char v330).toInt8.toInt32) (nar .byte (nar .char v331).toInt8.toInt32) (nar .byte (nar .char v332).toInt8.toInt32) T483.heap n0 Z483 q483_0 q483_1 f486 f487 f488 f489) (by decide) (by decide) rfl pd_16 rfl (argsL := []) (rest := []) rfl (W := 0) (Nat.le_of_eq rfl) rfl (by decide) (by decide) (pc' := 216) rfl (fun u491 T491 L491 X491 hQ491 => ?_)
      obtain ⟨rfl, Nq491, eq491⟩ := hQ491
      have N491 := Fr.app N483 Nq491
      show Goes p.tables e below G (T491.setTop (mkF m 216 #[.val (.int p0), .val (.int p1), .val (.int p2), .val (.int p3), .val (.int p4), .val (.int p5), .val (.int (3 : Int32)), .val (.int v330), .val (.int v331), .val (.int v332), .val (.ref b333), .val (.ref b341), .val (.ref b357), .val (.ref b383), .val (.ref o3405), .val .null, .val (.ref o3460), .val (.ref b469), .unset] [(.ref b383)]))
      refine g_astore C X491 at_216 (pc' := 218) rfl rfl (ls' := #[.val (.int p0), .val (.int p1), .val (.int p2), .val (.int p3), .val (.int p4), .val (.int p5), .val (.int (3 : Int32)), .val (.int v330), .val (.int v331), .val (.int v332), .val (.ref b333), .val (.ref b341), .val (.ref b357), .val (.ref b383), .val (.ref o3405), .val .null, .val (.ref o3460), .val (.ref b469), .val (.ref b383)]) rfl ?_
      refine g_aload C X491 at_218 (pc' := 220) rfl rfl rfl ?_
      refine g_ifnonnullY C X491 at_220 (pc' := 225) (by decide) (by decide) ?_
      refine g_aload C X491 at_225 (pc' := 227) rfl rfl rfl ?_
      refine g_callV C X491 (w_77 hw) (w_78 hw) (notFace_of_selects (args := #[]) (mvT C.2.1 (w_80 hw))) (w_80 hw) (w_79 hw) (w_81 hw) (w_4 hw) (by decide) f486 at_227 (rm15_3 l Z a0 hw [] b383 o3394 kd3394 (nar .byte (nar .char v330).toInt8.toInt32) (nar .byte (nar .char v331).toInt8.toInt32) (nar .byte (nar .char v332).toInt8.toInt32) cs1 T483.heap n0 Z483 f486 f487 f488 f489 f484 hcs) (by decide) (by decide) rfl pd_17 rfl (argsL := []) (rest := []) rfl (W := 0) (Nat.le_of_eq rfl) eq491 (by decide) (by decide) (pc' := 230) rfl (fun u492 T492 L492 X492 hQ492 => ?_)
      obtain ⟨rfl, Nq492, eq492⟩ := hQ492
      have N492 := Fr.app N491 Nq492
      show Goes p.tables e below G (T492.setTop (mkF m 230 #[.val (.int p0), .val (.int p1), .val (.int p2), .val (.int p3), .val (.int p4), .val (.int p5), .val (.int (3 : Int32)), .val (.int v330), .val (.int v331), .val (.int v332), .val (.ref b333), .val (.ref b341), .val (.ref b357), .val (.ref b383), .val (.ref o3405), .val .null, .val (.ref o3460), .val (.ref b469), .val (.ref b383)] [(.int (3 : Int32))]))
      refine g_iload C X492 at_230 (pc' := 232) rfl rfl ?_
      refine g_icmp_eq C X492 at_232 (pcT := 237) (pcN := 235) (by decide) (by decide) rfl (fun hc232 => ?_) (fun hc232 => absurd hc232 (by decide))
      refine g_aload C X492 at_237 (pc' := 239) rfl rfl rfl ?_
      refine g_iconst C X492 at_239 (pc' := 240) rfl (v := 0) rfl ?_
      refine g_callV C X492 (w_87 hw) (w_88 hw) (notFace_of_selects (args := #[]) (mvT C.2.1 (w_90 hw))) (w_90 hw) (w_89 hw) (w_91 hw) (w_4 hw) (by decide) f486 at_240 (rm17_3_0 l Z a0 hw [] b383 o3394 kd3394 (nar .byte (nar .char v330).toInt8.toInt32) (nar .byte (nar .char v331).toInt8.toInt32) (nar .byte (nar .char v332).toInt8.toInt32) cs1 wf1 T483.heap n0 Z483 f486 f487 f488 f489 f484 f485 hcs hwf) (by decide) (by decide) rfl pd_18 rfl (argsL := [(.int (0 : Int32))]) (rest := []) rfl (W := 0) (Nat.le_of_eq rfl) eq492 (by decide) (by decide) (pc' := 243) rfl (fun u493 T493 L493 X493 hQ493 => ?_)
      obtain ⟨rfl, Nq493, eq493⟩ := hQ493
      have N493 := Fr.app N492 Nq493
      obtain ⟨r493, hr493⟩ : ∃ z : Int32, (own_ch (nar .byte (nar .char v330).toInt8.toInt32)) = z := ⟨_, rfl⟩
      rw [hr493]
      show Goes p.tables e below G (T493.setTop (mkF m 243 #[.val (.int p0), .val (.int p1), .val (.int p2), .val (.int p3), .val (.int p4), .val (.int p5), .val (.int (3 : Int32)), .val (.int v330), .val (.int v331), .val (.int v332), .val (.ref b333), .val (.ref b341), .val (.ref b357), .val (.ref b383), .val (.ref o3405), .val .null, .val (.ref o3460), .val (.ref b469), .val (.ref b383)] [(.int r493)]))
      refine g_iload C X493 at_243 (pc' := 245) rfl rfl ?_
      refine g_icmp_eq C X493 at_245 (pcT := 250) (pcN := 248) (by decide) (by decide) rfl (fun hc245 => ?_) (fun hc245 => absurd (hr493.symm.trans (own_back (own_chk hv330))) hc245)
      refine g_iload C X493 at_250 (pc' := 252) rfl rfl ?_
      refine g_iconst C X493 at_252 (pc' := 253) rfl (v := 2) rfl ?_
      refine g_icmp_lt C X493 at_253 (pcT := 269) (pcN := 256) (by decide) (by decide) rfl (fun hc253 => absurd hc253 (by decide)) (fun hc253 => ?_)
      refine g_aload C X493 at_256 (pc' := 258) rfl rfl rfl ?_
      refine g_iconst C X493 at_258 (pc' := 259) rfl (v := 1) rfl ?_
      refine g_callV C X493 (w_87 hw) (w_88 hw) (notFace_of_selects (args := #[]) (mvT C.2.1 (w_90 hw))) (w_90 hw) (w_89 hw) (w_91 hw) (w_4 hw) (by decide) f486 at_259 (rm17_3_1 l Z a0 hw [] b383 o3394 kd3394 (nar .byte (nar .char v330).toInt8.toInt32) (nar .byte (nar .char v331).toInt8.toInt32) (nar .byte (nar .char v332).toInt8.toInt32) cs1 wf1 T483.heap n0 Z483 f486 f487 f488 f489 f484 f485 hcs hwf) (by decide) (by decide) rfl pd_18 rfl (argsL := [(.int (1 : Int32))]) (rest := []) rfl (W := 0) (Nat.le_of_eq rfl) eq493 (by decide) (by decide) (pc' := 262) rfl (fun u494 T494 L494 X494 hQ494 => ?_)
      obtain ⟨rfl, Nq494, eq494⟩ := hQ494
      have N494 := Fr.app N493 Nq494
      obtain ⟨r494, hr494⟩ : ∃ z : Int32, (own_ch (nar .byte (nar .char v331).toInt8.toInt32)) = z := ⟨_, rfl⟩
      rw [hr494]
      show Goes p.tables e below G (T494.setTop (mkF m 262 #[.val (.int p0), .val (.int p1), .val (.int p2), .val (.int p3), .val (.int p4), .val (.int p5), .val (.int (3 : Int32)), .val (.int v330), .val (.int v331), .val (.int v332), .val (.ref b333), .val (.ref b341), .val (.ref b357), .val (.ref b383), .val (.ref o3405), .val .null, .val (.ref o3460), .val (.ref b469), .val (.ref b383)] [(.int r494)]))
      refine g_iload C X494 at_262 (pc' := 264) rfl rfl ?_
      refine g_icmp_eq C X494 at_264 (pcT := 269) (pcN := 267) (by decide) (by decide) rfl (fun hc264 => ?_) (fun hc264 => absurd (hr494.symm.trans (own_back (own_chk hv331))) hc264)
      refine g_iload C X494 at_269 (pc' := 271) rfl rfl ?_
      refine g_iconst C X494 at_271 (pc' := 272) rfl (v := 3) rfl ?_
      refine g_icmp_ne C X494 at_272 (pcT := 288) (pcN := 275) (by decide) (by decide) rfl (fun hc272 => absurd hc272 (by decide)) (fun hc272 => ?_)
      refine g_aload C X494 at_275 (pc' := 277) rfl rfl rfl ?_
      refine g_iconst C X494 at_277 (pc' := 278) rfl (v := 2) rfl ?_
      refine g_callV C X494 (w_87 hw) (w_88 hw) (notFace_of_selects (args := #[]) (mvT C.2.1 (w_90 hw))) (w_90 hw) (w_89 hw) (w_91 hw) (w_4 hw) (by decide) f486 at_278 (rm17_3_2 l Z a0 hw [] b383 o3394 kd3394 (nar .byte (nar .char v330).toInt8.toInt32) (nar .byte (nar .char v331).toInt8.toInt32) (nar .byte (nar .char v332).toInt8.toInt32) cs1 wf1 T483.heap n0 Z483 f486 f487 f488 f489 f484 f485 hcs hwf) (by decide) (by decide) rfl pd_18 rfl (argsL := [(.int (2 : Int32))]) (rest := []) rfl (W := 0) (Nat.le_of_eq rfl) eq494 (by decide) (by decide) (pc' := 281) rfl (fun u495 T495 L495 X495 hQ495 => ?_)
      obtain ⟨rfl, Nq495, eq495⟩ := hQ495
      have N495 := Fr.app N494 Nq495
      obtain ⟨r495, hr495⟩ : ∃ z : Int32, (own_ch (nar .byte (nar .char v332).toInt8.toInt32)) = z := ⟨_, rfl⟩
      rw [hr495]
      show Goes p.tables e below G (T495.setTop (mkF m 281 #[.val (.int p0), .val (.int p1), .val (.int p2), .val (.int p3), .val (.int p4), .val (.int p5), .val (.int (3 : Int32)), .val (.int v330), .val (.int v331), .val (.int v332), .val (.ref b333), .val (.ref b341), .val (.ref b357), .val (.ref b383), .val (.ref o3405), .val .null, .val (.ref o3460), .val (.ref b469), .val (.ref b383)] [(.int r495)]))
      refine g_iload C X495 at_281 (pc' := 283) rfl rfl ?_
      refine g_icmp_eq C X495 at_283 (pcT := 288) (pcN := 286) (by decide) (by decide) rfl (fun hc283 => ?_) (fun hc283 => absurd (hr495.symm.trans (own_back (own_chk hv332))) hc283)
      refine g_aload C X495 at_288 (pc' := 290) rfl rfl rfl ?_
      refine g_aload C X495 at_290 (pc' := 292) rfl rfl rfl ?_
      refine g_callV C X495 (w_108 hw) (w_109 hw) (notFace_of_selects (args := #[]) (mvT C.2.1 (w_111 hw))) (w_111 hw) (w_110 hw) (w_112 hw) (w_4 hw) (by decide) f486 at_292 (rm22 l Z a0 hw [] b383 b383 T483.heap n0 Z483 rfl) (by decide) (by decide) rfl pd_19 rfl (argsL := [(.ref b383)]) (rest := []) rfl (W := 0) (Nat.le_of_eq rfl) eq495 (by decide) (by decide) (pc' := 295) rfl (fun u496 T496 L496 X496 hQ496 => ?_)
      obtain ⟨rfl, Nq496, eq496⟩ := hQ496
      have N496 := Fr.app N495 Nq496
      show Goes p.tables e below G (T496.setTop (mkF m 295 #[.val (.int p0), .val (.int p1), .val (.int p2), .val (.int p3), .val (.int p4), .val (.int p5), .val (.int (3 : Int32)), .val (.int v330), .val (.int v331), .val (.int v332), .val (.ref b333), .val (.ref b341), .val (.ref b357), .val (.ref b383), .val (.ref o3405), .val .null, .val (.ref o3460), .val (.ref b469), .val (.ref b383)] [(.int (1 : Int32))]))
      exact g_retN C X496 K (by simp) at_295 (by decide) (by decide) eq496 ⟨rfl, N496⟩
set_option maxRecDepth 65536 in
set_option maxHeartbeats 40000000 in
theorem comes_1 {Post : Tables → Env → Array Value → State → Outcome → State → Prop} (hpost : ∀ tb e args s v u, (limb_1_1.after args s (.returned v) u = true ∧ limb_1_2.after args s (.returned v) u = true ∧ True) → FrameEnd s (.returned v) u (Jvm.fieldLocs frame_1_writes args s ++ Jvm.arrayLocs frame_1_arrays args s ++ Jvm.staticLocs frame_1_statics s) 32 192 → Post tb e args s (.returned v) u) :
    ArmFor flags0 classFile x code maxLocals ret World_1 tables_1 room_1 Calls_1 rest_1 Pre_1 Post := by
  intro l hfl _ _ p e ha hc hk s m args below hf hA hF happ hP
  obtain ⟨hcalls, hrest, hpre⟩ := hP
  obtain ⟨-, -, -, hnamed, -, -, -, hat⟩ := (Spec.applies_iff hf).mp happ
  obtain ⟨hg, hn⟩ := and_e (Cond.before_iff.mp (show (Jvm.Cond.and given_1 narrow_1).before args s = true from hpre))
  obtain ⟨gc, g0⟩ := and_e hg
  obtain ⟨k0, g1⟩ := and_e g0
  obtain ⟨k1, g2⟩ := and_e g1
  obtain ⟨k2, g3⟩ := and_e g2
  obtain ⟨k3, g4⟩ := and_e g3
  obtain ⟨k4, g5⟩ := and_e g4
  have k5 := g5
  obtain ⟨w0, w1, w2, w3, w4, w5, rfl⟩ : ∃ w0 w1 w2 w3 w4 w5 : Value, args = #[w0, w1, w2, w3, w4, w5] := by
    have hs : args.size = 6 := by simpa [Cond.value, given_1] using gc
    obtain ⟨L⟩ := args
    match L, hs with
    | [w0, w1, w2, w3, w4, w5], _ => exact ⟨w0, w1, w2, w3, w4, w5, rfl⟩
  have hw := fun d (hd : d ∈ tables_1) => atoms_spec (ws := Jvm.Cond.code x code maxLocals ret :: tables_1) hat d (List.mem_cons_of_mem _ hd)
  obtain ⟨i0, ei0⟩ := is_v k0
  obtain rfl : w0 = (.int i0) := Option.some.inj ei0
  obtain ⟨i1, ei1⟩ := is_v k1
  obtain rfl : w1 = (.int i1) := Option.some.inj ei1
  obtain ⟨i2, ei2⟩ := is_v k2
  obtain rfl : w2 = (.int i2) := Option.some.inj ei2
  obtain ⟨i3, ei3⟩ := is_v k3
  obtain rfl : w3 = (.int i3) := Option.some.inj ei3
  obtain ⟨i4, ei4⟩ := is_v k4
  obtain rfl : w4 = (.int i4) := Option.some.inj ei4
  obtain ⟨i5, ei5⟩ := is_v k5
  obtain rfl : w5 = (.int i5) := Option.some.inj ei5
  obtain ⟨hsets, hown0⟩ := atoms_of _ (rest_1_c_eq ▸ (show rest_1_c.before _ s = true from hrest))
  obtain ⟨cs1, ecs⟩ := is_v (Cond.before_iff.mp (hsets _ (List.mem_of_getElem? (i := 1) rfl)))
  have S1 := Sta.start ecs (Or.inl (hsets _ (List.mem_of_getElem? (i := 0) rfl)))
  have hcs := own_ne0 ecs (not_v (Cond.before_iff.mp (hsets _ (List.mem_of_getElem? (i := 2) rfl))))
  obtain ⟨wf1, ewf, hwf⟩ := isR_v (Cond.before_iff.mp (hsets _ (List.mem_of_getElem? (i := 8) rfl)))
  have S2 := Sta.start ewf (Or.inl (hsets _ (List.mem_of_getElem? (i := 7) rfl)))
  obtain ⟨n, o, h1, h2, h3, _, L, rfl, ⟨rfl, N⟩, hq⟩ := rm0 l s _ hw tables_1 i0 i1 i2 i3 i4 i5 cs1 wf1 s.heap s.heap.size (Nat.le_refl _) S1 S2 hcs hwf p e ha hc hk s m _ below hf ((Spec.applies_iff_loose hf).mp happ).1 ⟨rfl, State.Warmed39.refl s, rfl⟩ trivial
  refine ⟨n, _, h1, h2, h3, hpost _ _ _ _ _ _ ⟨Cond.after_iff.mpr rfl, Cond.after_iff.mpr (eq_i res_at (Term.int_eval (1)) rfl), trivial⟩ ⟨hq.1, hq.2.1, (hq.2.2.sift fun y hy => Or.inr (N y hy)).mono (by decide) (by decide)⟩⟩
theorem main_1_1 : Claimed_1_1 := comes_1 fun _ _ _ _ _ _ h hF => ⟨h.1, hF⟩
theorem main_1_2 : Claimed_1_2 := comes_1 fun _ _ _ _ _ _ h hF => ⟨h.2.1, hF⟩
end Jvm.Pilot.@@N@@
namespace Jvm.Pilot.@@N@@
open Jvm Jvm.ClassFile Sem Op Lib Jvm.Free Jvm.Stand Jvm.Pilot.@@N@@.Jvm.D
/-! MADE BY PROGRAM (witnessworld.py) out of the Statement's table words and the real class files: 21 classes; the members and pool entries that the words name. The judged class is class 1, her method 1. -/
namespace start1
open Jvm.ClassFile
def u (s : String) : CpInfo := .utf8 (stringToUtf16 s)
/-- a pool by its gaps: so many unusable entries, then the entry; so many at the end -/
def gap : Nat → List CpInfo → List CpInfo
  | 0, r => r
  | n + 1, r => .unusable :: gap n r
def poolList (es : List (Nat × CpInfo)) (last : Nat) : List CpInfo := es.foldr (fun e r => gap e.1 (e.2 :: r)) (gap last [])
def pool (es : List (Nat × CpInfo)) (last : Nat) : Array CpInfo := ⟨poolList es last⟩
def fileOf (pool : Array CpInfo) (this : Nat) (attrs : Array Attribute := #[]) (ms : Array MethodInfo := #[]) (fl : Nat := 33) (sup : Nat := 0) (ifs : Array Nat := #[]) (fds : Array FieldInfo := #[]) : ClassFile where
  minorVersion := 0
  majorVersion := 65
  constantPool := pool
  accessFlags := fl
  thisClass := this
  superClass := sup
  interfaces := ifs
  fields := fds
  methods := ms
  attributes := attrs
def plain (name : String) (sup : Option ClassId) : Class where
  name := name
  kind := .ordinary
  loader := none
  accessFlags := 33
  super := sup
  interfaces := #[]
  cf := none
  fields := #[]
  methods := #[]
  instanceTypes := #[]
  staticTypes := #[]
  resolved := #[]
  callSites := []
  init := .initialized
  statics := none
  mirror := none

def pool0 : Array CpInfo := pool [(5, u "<init>"), (0, u "()V"), (1, .class_ 10), (1, u "java/lang/Object")] 113

def k0c0 : Code := { maxStack := 0, maxLocals := 1, code := object_method_1_code, exceptionTable := #[], attributes := #[] }
def k0m0 : Method := { name := "<init>", desc := "()V", sig := { parameters := [], returnType := none }, accessFlags := 1, code := some k0c0 }
/-- java/lang/Object -/
def k0 : Class := { plain "java/lang/Object" none with
  accessFlags := 33
  interfaces := #[]
  cf := some (fileOf pool0 8 #[] #[{ accessFlags := 1, nameIndex := 5, descriptorIndex := 6, attributes := #[] }] 33 0 #[] #[])
  fields := #[]
  methods := #[k0m0]
  instanceTypes := #[]
  staticTypes := #[]
  resolved := Array.replicate 124 none
  statics := none }

def pool1 : Array CpInfo := pool [(2, .class_ 4), (1, u "java/lang/Object"), (0, u "<init>"), (0, u "()V"), (0, .integer 2147483647), (0, .class_ 9), (0, u "java/lang/String"), (0, .methodref 8 11), (0, .nameAndType 5 12), (0, u "([C)V"), (0, .methodref 8 14), (0, .nameAndType 15 16), (0, u "valueOf"), (0, u "(C)Ljava/lang/String;"), (0, .class_ 18), (0, u "com/example/hanko/hanko/access/GitConfig$Entry"), (0, .methodref 17 20), (0, .nameAndType 5 21), (0, u "(Ljava/lang/String;Ljava/lang/String;Ljava/lang/String;Ljava/lang/String;I)V"), (0, .methodref 17 23), (0, .nameAndType 24 25), (0, u "required"), (0, u "()Ljava/lang/String;"), (0, .methodref 8 27), (0, .nameAndType 28 29), (0, u "length"), (0, u "()I"), (0, .methodref 8 31), (0, .nameAndType 32 33), (0, u "charAt"), (0, u "(I)C"), (0, .methodref 8 35), (0, .nameAndType 36 37), (0, u "equals"), (0, u "(Ljava/lang/Object;)Z"), (0, .class_ 39), (0, u "com/example/hanko/hanko/access/EntryRequiredPinLaw"), (2, u "law"), (0, u "(IIIIII)Z")] 9

def k1m0 : Method := { name := "<init>", desc := "()V", sig := { parameters := [], returnType := none }, accessFlags := 2, code := none }
def k1c1 : Code := { maxStack := 7, maxLocals := 19, code := code, exceptionTable := #[], attributes := #[] }
def k1m1 : Method := { name := "law", desc := "(IIIIII)Z", sig := { parameters := [.int, .int, .int, .int, .int, .int], returnType := some .boolean }, accessFlags := 9, code := some k1c1 }
/-- com/example/hanko/hanko/access/EntryRequiredPinLaw -/
def k1 : Class := { plain "com/example/hanko/hanko/access/EntryRequiredPinLaw" (some 0) with
  accessFlags := 49
  interfaces := #[]
  cf := some (fileOf pool1 38 #[] #[{ accessFlags := 2, nameIndex := 5, descriptorIndex := 6, attributes := #[] }, { accessFlags := 9, nameIndex := 42, descriptorIndex := 43, attributes := #[] }] 49 2 #[] #[])
  fields := #[]
  methods := #[k1m0, k1m1]
  instanceTypes := #[]
  staticTypes := #[]
  resolved := Array.replicate 53 none
  statics := none }

def pool2 : Array CpInfo := pool [(1, .class_ 2), (0, u "java/io/Serializable"), (0, .class_ 4), (0, u "java/lang/Object")] 2

/-- java/io/Serializable -/
def k2 : Class := { plain "java/io/Serializable" (some 0) with
  accessFlags := 1537
  interfaces := #[]
  cf := some (fileOf pool2 1 #[] #[] 1537 3 #[] #[])
  fields := #[]
  methods := #[]
  instanceTypes := #[]
  staticTypes := #[]
  resolved := Array.replicate 7 none
  statics := none }

def pool3 : Array CpInfo := pool [(1, .class_ 2), (0, u "java/lang/Comparable"), (0, .class_ 4), (0, u "java/lang/Object")] 7

/-- java/lang/Comparable -/
def k3 : Class := { plain "java/lang/Comparable" (some 0) with
  accessFlags := 1537
  interfaces := #[]
  cf := some (fileOf pool3 1 #[] #[] 1537 3 #[] #[])
  fields := #[]
  methods := #[]
  instanceTypes := #[]
  staticTypes := #[]
  resolved := Array.replicate 12 none
  statics := none }

def pool4 : Array CpInfo := pool [(2, .class_ 4), (1, u "java/lang/CharSequence"), (42, .class_ 48), (0, u "java/lang/CharSequence$1CodePointIterator"), (10, .class_ 60), (0, u "java/lang/CharSequence$1CharIterator"), (5, .class_ 67), (0, u "java/lang/Object")] 63

/-- java/lang/CharSequence -/
def k4 : Class := { plain "java/lang/CharSequence" (some 0) with
  accessFlags := 1537
  interfaces := #[]
  cf := some (fileOf pool4 2 #[.nestMembers #[47, 59]] #[] 1537 66 #[] #[])
  fields := #[]
  methods := #[]
  instanceTypes := #[]
  staticTypes := #[]
  resolved := Array.replicate 131 none
  statics := none }

def pool5 : Array CpInfo := pool [(1, .class_ 2), (0, u "java/lang/constant/Constable"), (0, .class_ 4), (0, u "java/lang/Object")] 6

/-- java/lang/constant/Constable -/
def k5 : Class := { plain "java/lang/constant/Constable" (some 0) with
  accessFlags := 1537
  interfaces := #[]
  cf := some (fileOf pool5 1 #[] #[] 1537 3 #[] #[])
  fields := #[]
  methods := #[]
  instanceTypes := #[]
  staticTypes := #[]
  resolved := Array.replicate 11 none
  statics := none }

def pool6 : Array CpInfo := pool [(1, .class_ 2), (0, u "java/lang/constant/ConstantDesc"), (0, .class_ 4), (0, u "java/lang/Object")] 32

/-- java/lang/constant/ConstantDesc -/
def k6 : Class := { plain "java/lang/constant/ConstantDesc" (some 0) with
  accessFlags := 1537
  interfaces := #[]
  cf := some (fileOf pool6 1 #[] #[] 1537 3 #[] #[])
  fields := #[]
  methods := #[]
  instanceTypes := #[]
  staticTypes := #[]
  resolved := Array.replicate 37 none
  statics := none }

def pool7 : Array CpInfo := pool [(1, .methodref 2 3), (0, .class_ 4), (0, .nameAndType 5 6), (0, u "java/lang/Object"), (0, u "<init>"), (0, u "()V"), (2, .fieldref 10 11), (0, .class_ 12), (0, .nameAndType 13 14), (0, u "java/lang/String"), (0, u "value"), (0, u "[B"), (0, .fieldref 10 16), (0, .nameAndType 17 18), (0, u "coder"), (0, u "B"), (2, u "hash"), (0, u "I"), (2, u "hashIsZero"), (0, u "Z"), (0, .methodref 10 28), (0, .nameAndType 5 29), (0, u "([CIILjava/lang/Void;)V"), (8, .fieldref 10 39), (0, .nameAndType 40 26), (0, u "COMPACT_STRINGS"), (1, .class_ 44), (1, u "java/lang/StringUTF16"), (0, u "compress"), (1, .methodref 42 48), (0, .nameAndType 49 50), (0, u "coderFromArrayLen"), (0, u "([BI)B"), (2, u "toBytes"), (53, .class_ 109), (1, u "java/lang/StringLatin1"), (32, u "()Z"), (34, .methodref 42 178), (0, .nameAndType 45 179), (0, u "([CII)[B"), (29, .methodref 10 210), (0, .nameAndType 5 211), (0, u "([BB)V"), (122, u "()I"), (0, .methodref 10 336), (0, .nameAndType 17 337), (0, u "()B"), (25, u "([BI)C"), (5, u "(C)Z"), (21, u "(II)V"), (35, u "(I)C"), (64, .methodref 10 493), (0, .nameAndType 494 142), (0, u "isLatin1"), (0, .methodref 107 496), (0, .nameAndType 497 363), (0, u "charAt"), (3, u "checkIndex"), (5, u "length"), (35, u "equals"), (29, u "(Ljava/lang/Object;)Z"), (1, .class_ 576), (0, u "java/lang/CharSequence"), (22, u "CASE_INSENSITIVE_ORDER"), (0, u "Ljava/util/Comparator;"), (91, u "isEmpty"), (89, u "valueOf"), (0, u "(C)Ljava/lang/String;"), (226, u "([C)V"), (4, .methodref 107 1016), (0, .nameAndType 1017 369), (0, u "canEncode"), (0, .methodref 107 1019), (0, .nameAndType 53 1020), (0, u "(C)[B"), (32, .fieldref 1054 1055), (0, .class_ 1056), (0, .nameAndType 1057 1058), (0, u "jdk/internal/util/Preconditions"), (0, u "SIOOBE_FORMATTER"), (0, u "Ljava/util/function/BiFunction;"), (0, .methodref 1054 1060), (0, .nameAndType 501 1061), (0, u "(IILjava/util/function/BiFunction;)I"), (39, u "serialPersistentFields"), (0, u "[Ljava/io/ObjectStreamField;"), (0, .class_ 1104), (0, u "java/lang/String$CaseInsensitiveComparator"), (1, .class_ 1107), (0, u "java/io/Serializable"), (0, .class_ 1109), (0, u "java/lang/Comparable"), (0, .class_ 1111), (0, u "java/lang/constant/Constable"), (0, .class_ 1113), (0, u "java/lang/constant/ConstantDesc"), (2, u "serialVersionUID"), (0, u "J"), (3, u "REPL"), (0, u "C"), (2, u "LATIN1"), (1, u "UTF16")] 323

def k7m0 : Method := { name := "<init>", desc := "()V", sig := { parameters := [], returnType := none }, accessFlags := 1, code := none }
def k7c1 : Code := { maxStack := 5, maxLocals := 2, code := jdk_42_method_3_code, exceptionTable := #[], attributes := #[] }
def k7m1 : Method := { name := "<init>", desc := "([C)V", sig := { parameters := [(.array .char)], returnType := none }, accessFlags := 1, code := some k7c1 }
def k7c2 : Code := { maxStack := 2, maxLocals := 1, code := jdk_42_method_54_code, exceptionTable := #[], attributes := #[] }
def k7m2 : Method := { name := "length", desc := "()I", sig := { parameters := [], returnType := some .int }, accessFlags := 1, code := some k7c2 }
def k7c3 : Code := { maxStack := 1, maxLocals := 1, code := jdk_42_method_55_code, exceptionTable := #[], attributes := #[] }
def k7m3 : Method := { name := "isEmpty", desc := "()Z", sig := { parameters := [], returnType := some .boolean }, accessFlags := 1, code := some k7c3 }
def k7c4 : Code := { maxStack := 2, maxLocals := 2, code := jdk_42_method_56_code, exceptionTable := #[], attributes := #[] }
def k7m4 : Method := { name := "charAt", desc := "(I)C", sig := { parameters := [.int], returnType := some .char }, accessFlags := 1, code := some k7c4 }
def k7c5 : Code := { maxStack := 2, maxLocals := 3, code := jdk_42_method_66_code, exceptionTable := #[], attributes := #[] }
def k7m5 : Method := { name := "equals", desc := "(Ljava/lang/Object;)Z", sig := { parameters := [(.object "java/lang/Object")], returnType := some .boolean }, accessFlags := 1, code := some k7c5 }
def k7c6 : Code := { maxStack := 4, maxLocals := 1, code := jdk_42_method_139_code, exceptionTable := #[], attributes := #[] }
def k7m6 : Method := { name := "valueOf", desc := "(C)Ljava/lang/String;", sig := { parameters := [.char], returnType := some (.object "java/lang/String") }, accessFlags := 9, code := some k7c6 }
def k7c7 : Code := { maxStack := 4, maxLocals := 6, code := jdk_42_method_149_code, exceptionTable := #[], attributes := #[] }
def k7m7 : Method := { name := "<init>", desc := "([CIILjava/lang/Void;)V", sig := { parameters := [(.array .char), .int, .int, (.object "java/lang/Void")], returnType := none }, accessFlags := 2, code := some k7c7 }
def k7c8 : Code := { maxStack := 2, maxLocals := 3, code := jdk_42_method_151_code, exceptionTable := #[], attributes := #[] }
def k7m8 : Method := { name := "<init>", desc := "([BB)V", sig := { parameters := [(.array .byte), .byte], returnType := none }, accessFlags := 0, code := some k7c8 }
def k7c9 : Code := { maxStack := 1, maxLocals := 1, code := jdk_42_method_152_code, exceptionTable := #[], attributes := #[] }
def k7m9 : Method := { name := "coder", desc := "()B", sig := { parameters := [], returnType := some .byte }, accessFlags := 0, code := some k7c9 }
def k7c10 : Code := { maxStack := 1, maxLocals := 1, code := jdk_42_method_154_code, exceptionTable := #[], attributes := #[] }
def k7m10 : Method := { name := "isLatin1", desc := "()Z", sig := { parameters := [], returnType := some .boolean }, accessFlags := 0, code := some k7c10 }
def k7c11 : Code := { maxStack := 3, maxLocals := 2, code := jdk_42_method_155_code, exceptionTable := #[], attributes := #[] }
def k7m11 : Method := { name := "checkIndex", desc := "(II)V", sig := { parameters := [.int, .int], returnType := none }, accessFlags := 8, code := some k7c11 }
/-- java/lang/String -/
def k7 : Class := { plain "java/lang/String" (some 0) with
  accessFlags := 49
  interfaces := #[2, 3, 4, 5, 6]
  cf := some (fileOf pool7 10 #[.nestMembers #[1103]] #[{ accessFlags := 1, nameIndex := 5, descriptorIndex := 6, attributes := #[] }, { accessFlags := 1, nameIndex := 5, descriptorIndex := 1010, attributes := #[] }, { accessFlags := 1, nameIndex := 507, descriptorIndex := 334, attributes := #[] }, { accessFlags := 1, nameIndex := 692, descriptorIndex := 142, attributes := #[] }, { accessFlags := 1, nameIndex := 497, descriptorIndex := 427, attributes := #[] }, { accessFlags := 1, nameIndex := 543, descriptorIndex := 573, attributes := #[] }, { accessFlags := 9, nameIndex := 782, descriptorIndex := 783, attributes := #[] }, { accessFlags := 2, nameIndex := 5, descriptorIndex := 29, attributes := #[] }, { accessFlags := 0, nameIndex := 5, descriptorIndex := 211, attributes := #[] }, { accessFlags := 0, nameIndex := 17, descriptorIndex := 337, attributes := #[] }, { accessFlags := 0, nameIndex := 494, descriptorIndex := 142, attributes := #[] }, { accessFlags := 8, nameIndex := 501, descriptorIndex := 391, attributes := #[] }] 49 2 #[1106, 1108, 575, 1110, 1112] #[{ accessFlags := 18, nameIndex := 13, descriptorIndex := 14, attributes := #[] }, { accessFlags := 18, nameIndex := 17, descriptorIndex := 18, attributes := #[] }, { accessFlags := 2, nameIndex := 21, descriptorIndex := 22, attributes := #[] }, { accessFlags := 2, nameIndex := 25, descriptorIndex := 26, attributes := #[] }, { accessFlags := 26, nameIndex := 1116, descriptorIndex := 1117, attributes := #[] }, { accessFlags := 24, nameIndex := 40, descriptorIndex := 26, attributes := #[] }, { accessFlags := 26, nameIndex := 1101, descriptorIndex := 1102, attributes := #[] }, { accessFlags := 26, nameIndex := 1121, descriptorIndex := 1122, attributes := #[] }, { accessFlags := 25, nameIndex := 599, descriptorIndex := 600, attributes := #[] }, { accessFlags := 24, nameIndex := 1125, descriptorIndex := 18, attributes := #[] }, { accessFlags := 24, nameIndex := 1127, descriptorIndex := 18, attributes := #[] }])
  fields := #[{ name := "value", type := (.array .byte), accessFlags := 18, slot := 0, constantValue := 0 }, { name := "coder", type := .byte, accessFlags := 18, slot := 1, constantValue := 0 }, { name := "hash", type := .int, accessFlags := 2, slot := 2, constantValue := 0 }, { name := "hashIsZero", type := .boolean, accessFlags := 2, slot := 3, constantValue := 0 }, { name := "serialVersionUID", type := .long, accessFlags := 26, slot := 0, constantValue := 0 }, { name := "COMPACT_STRINGS", type := .boolean, accessFlags := 24, slot := 1, constantValue := 0 }, { name := "serialPersistentFields", type := (.array (.object "java/io/ObjectStreamField")), accessFlags := 26, slot := 2, constantValue := 0 }, { name := "REPL", type := .char, accessFlags := 26, slot := 3, constantValue := 0 }, { name := "CASE_INSENSITIVE_ORDER", type := (.object "java/util/Comparator"), accessFlags := 25, slot := 4, constantValue := 0 }, { name := "LATIN1", type := .byte, accessFlags := 24, slot := 5, constantValue := 0 }, { name := "UTF16", type := .byte, accessFlags := 24, slot := 6, constantValue := 0 }]
  methods := #[k7m0, k7m1, k7m2, k7m3, k7m4, k7m5, k7m6, k7m7, k7m8, k7m9, k7m10, k7m11]
  instanceTypes := #[(.array .byte), .byte, .int, .boolean]
  staticTypes := #[.long, .boolean, (.array (.object "java/io/ObjectStreamField")), .char, (.object "java/util/Comparator"), .byte, .byte]
  resolved := Array.replicate 1451 none
  statics := some 0 }

def pool8 : Array CpInfo := pool [(6, .class_ 8), (1, u "java/lang/Object"), (0, u "<init>"), (0, u "()V"), (1, .class_ 14), (1, u "java/lang/StringUTF16"), (31, u "$assertionsDisabled"), (0, u "Z"), (13, u "HI_BYTE_SHIFT"), (0, u "I"), (2, u "LO_BYTE_SHIFT"), (49, .methodref 12 116), (0, .nameAndType 117 118), (0, u "compress"), (0, u "([CI[BII)I"), (3, u "([CII)[B"), (138, u "coderFromArrayLen"), (0, u "([BI)B"), (106, .class_ 371), (1, u "java/lang/StringUTF16$LinesSpliterator"), (58, u "MAX_LENGTH"), (196, .class_ 628), (0, u "java/lang/StringUTF16$CodePointsSpliterator"), (0, .class_ 630), (0, u "java/lang/StringUTF16$CharsSpliterator")] 4

def k8m0 : Method := { name := "<init>", desc := "()V", sig := { parameters := [], returnType := none }, accessFlags := 0, code := none }
def k8c1 : Code := { maxStack := 2, maxLocals := 2, code := jdk_52_method_15_code, exceptionTable := #[], attributes := #[] }
def k8m1 : Method := { name := "coderFromArrayLen", desc := "([BI)B", sig := { parameters := [(.array .byte), .int], returnType := some .byte }, accessFlags := 8, code := some k8c1 }
def k8c2 : Code := { maxStack := 5, maxLocals := 6, code := jdk_52_method_16_code, exceptionTable := #[], attributes := #[] }
def k8m2 : Method := { name := "compress", desc := "([CII)[B", sig := { parameters := [(.array .char), .int, .int], returnType := some (.array .byte) }, accessFlags := 9, code := some k8c2 }
def k8c3 : Code := { maxStack := 3, maxLocals := 7, code := jdk_52_method_21_code, exceptionTable := #[], attributes := #[] }
def k8m3 : Method := { name := "compress", desc := "([CI[BII)I", sig := { parameters := [(.array .char), .int, (.array .byte), .int, .int], returnType := some .int }, accessFlags := 9, code := some k8c3 }
/-- java/lang/StringUTF16 -/
def k8 : Class := { plain "java/lang/StringUTF16" (some 0) with
  accessFlags := 48
  interfaces := #[]
  cf := some (fileOf pool8 12 #[.nestMembers #[627, 629, 369]] #[{ accessFlags := 0, nameIndex := 9, descriptorIndex := 10, attributes := #[] }, { accessFlags := 8, nameIndex := 261, descriptorIndex := 262, attributes := #[] }, { accessFlags := 9, nameIndex := 117, descriptorIndex := 122, attributes := #[] }, { accessFlags := 9, nameIndex := 117, descriptorIndex := 118, attributes := #[] }] 48 6 #[] #[{ accessFlags := 26, nameIndex := 61, descriptorIndex := 62, attributes := #[] }, { accessFlags := 26, nameIndex := 65, descriptorIndex := 62, attributes := #[] }, { accessFlags := 24, nameIndex := 430, descriptorIndex := 62, attributes := #[] }, { accessFlags := 4120, nameIndex := 46, descriptorIndex := 47, attributes := #[] }])
  fields := #[{ name := "HI_BYTE_SHIFT", type := .int, accessFlags := 26, slot := 0, constantValue := 0 }, { name := "LO_BYTE_SHIFT", type := .int, accessFlags := 26, slot := 1, constantValue := 0 }, { name := "MAX_LENGTH", type := .int, accessFlags := 24, slot := 2, constantValue := 0 }, { name := "$assertionsDisabled", type := .boolean, accessFlags := 4120, slot := 3, constantValue := 0 }]
  methods := #[k8m0, k8m1, k8m2, k8m3]
  instanceTypes := #[]
  staticTypes := #[.int, .int, .int, .boolean]
  resolved := Array.replicate 635 none
  statics := none }

def pool9 : Array CpInfo := pool [(1, .class_ 2), (0, u "java/lang/String"), (1, .class_ 6), (1, u "java/lang/Object"), (0, u "<init>"), (0, u "()V"), (0, .methodref 1 10), (0, .nameAndType 11 12), (0, u "checkIndex"), (0, u "(II)V"), (1, .class_ 16), (1, u "java/lang/StringLatin1"), (36, u "([BI)C"), (36, u "canEncode"), (14, u "(C)Z"), (15, u "$assertionsDisabled"), (0, u "Z"), (98, .class_ 223), (1, u "java/lang/StringLatin1$LinesSpliterator"), (28, u "charAt"), (127, u "toBytes"), (1, u "(C)[B"), (7, .class_ 391), (0, u "java/lang/StringLatin1$CharsSpliterator")] 3

def k9m0 : Method := { name := "<init>", desc := "()V", sig := { parameters := [], returnType := none }, accessFlags := 0, code := none }
def k9c1 : Code := { maxStack := 2, maxLocals := 2, code := jdk_43_method_2_code, exceptionTable := #[], attributes := #[] }
def k9m1 : Method := { name := "charAt", desc := "([BI)C", sig := { parameters := [(.array .byte), .int], returnType := some .char }, accessFlags := 9, code := some k9c1 }
def k9c2 : Code := { maxStack := 2, maxLocals := 1, code := jdk_43_method_3_code, exceptionTable := #[], attributes := #[] }
def k9m2 : Method := { name := "canEncode", desc := "(C)Z", sig := { parameters := [.char], returnType := some .boolean }, accessFlags := 9, code := some k9c2 }
def k9c3 : Code := { maxStack := 4, maxLocals := 1, code := jdk_43_method_46_code, exceptionTable := #[], attributes := #[] }
def k9m3 : Method := { name := "toBytes", desc := "(C)[B", sig := { parameters := [.char], returnType := some (.array .byte) }, accessFlags := 9, code := some k9c3 }
/-- java/lang/StringLatin1 -/
def k9 : Class := { plain "java/lang/StringLatin1" (some 0) with
  accessFlags := 48
  interfaces := #[]
  cf := some (fileOf pool9 14 #[.nestMembers #[390, 221]] #[{ accessFlags := 0, nameIndex := 7, descriptorIndex := 8, attributes := #[] }, { accessFlags := 9, nameIndex := 252, descriptorIndex := 53, attributes := #[] }, { accessFlags := 9, nameIndex := 90, descriptorIndex := 105, attributes := #[] }, { accessFlags := 9, nameIndex := 380, descriptorIndex := 382, attributes := #[] }] 48 4 #[] #[{ accessFlags := 4120, nameIndex := 121, descriptorIndex := 122, attributes := #[] }])
  fields := #[{ name := "$assertionsDisabled", type := .boolean, accessFlags := 4120, slot := 0, constantValue := 0 }]
  methods := #[k9m0, k9m1, k9m2, k9m3]
  instanceTypes := #[]
  staticTypes := #[.boolean]
  resolved := Array.replicate 395 none
  statics := none }

def pool10 : Array CpInfo := pool [(1, .methodref 2 3), (0, .class_ 4), (0, .nameAndType 5 6), (0, u "java/lang/Object"), (0, u "<init>"), (0, u "()V"), (0, .class_ 8), (0, u "java/lang/Record")] 13

def k10c0 : Code := { maxStack := 1, maxLocals := 1, code := jdk_30_method_1_code, exceptionTable := #[], attributes := #[] }
def k10m0 : Method := { name := "<init>", desc := "()V", sig := { parameters := [], returnType := none }, accessFlags := 4, code := some k10c0 }
/-- java/lang/Record -/
def k10 : Class := { plain "java/lang/Record" (some 0) with
  accessFlags := 1057
  interfaces := #[]
  cf := some (fileOf pool10 7 #[] #[{ accessFlags := 4, nameIndex := 5, descriptorIndex := 6, attributes := #[] }] 1057 2 #[] #[])
  fields := #[]
  methods := #[k10m0]
  instanceTypes := #[]
  staticTypes := #[]
  resolved := Array.replicate 22 none
  statics := none }

def pool11 : Array CpInfo := pool [(1, .class_ 2), (0, u "com/example/hanko/hanko/access/GitConfig"), (0, .methodref 4 5), (0, .class_ 6), (0, .nameAndType 7 8), (0, u "java/lang/Record"), (0, u "<init>"), (0, u "()V"), (0, .fieldref 10 11), (0, .class_ 12), (0, .nameAndType 13 14), (0, u "com/example/hanko/hanko/access/GitConfig$Entry"), (0, u "section"), (0, u "Ljava/lang/String;"), (0, .fieldref 10 16), (0, .nameAndType 17 14), (0, u "subsection"), (0, .fieldref 10 19), (0, .nameAndType 20 14), (0, u "key"), (0, .fieldref 10 22), (0, .nameAndType 23 14), (0, u "value"), (0, .fieldref 10 25), (0, .nameAndType 26 27), (0, u "line"), (0, u "I"), (0, .methodref 29 30), (0, .class_ 31), (0, .nameAndType 32 33), (0, u "java/lang/String"), (0, u "isEmpty"), (0, u "()Z"), (12, u "()Ljava/lang/String;"), (19, u "(Ljava/lang/String;Ljava/lang/String;Ljava/lang/String;Ljava/lang/String;I)V"), (3, u "required")] 39

def k11c0 : Code := { maxStack := 2, maxLocals := 6, code := prog_8_method_1_code, exceptionTable := #[], attributes := #[] }
def k11m0 : Method := { name := "<init>", desc := "(Ljava/lang/String;Ljava/lang/String;Ljava/lang/String;Ljava/lang/String;I)V", sig := { parameters := [(.object "java/lang/String"), (.object "java/lang/String"), (.object "java/lang/String"), (.object "java/lang/String"), .int], returnType := none }, accessFlags := 0, code := some k11c0 }
def k11c1 : Code := { maxStack := 4, maxLocals := 1, code := prog_8_method_2_code, exceptionTable := #[], attributes := #[] }
def k11m1 : Method := { name := "required", desc := "()Ljava/lang/String;", sig := { parameters := [], returnType := some (.object "java/lang/String") }, accessFlags := 0, code := some k11c1 }
/-- com/example/hanko/hanko/access/GitConfig$Entry -/
def k11 : Class := { plain "com/example/hanko/hanko/access/GitConfig$Entry" (some 10) with
  accessFlags := 48
  interfaces := #[]
  cf := some (fileOf pool11 10 #[.nestHost 1] #[{ accessFlags := 0, nameIndex := 7, descriptorIndex := 66, attributes := #[] }, { accessFlags := 0, nameIndex := 70, descriptorIndex := 46, attributes := #[] }] 48 4 #[] #[{ accessFlags := 18, nameIndex := 13, descriptorIndex := 14, attributes := #[] }, { accessFlags := 18, nameIndex := 17, descriptorIndex := 14, attributes := #[] }, { accessFlags := 18, nameIndex := 20, descriptorIndex := 14, attributes := #[] }, { accessFlags := 18, nameIndex := 23, descriptorIndex := 14, attributes := #[] }, { accessFlags := 18, nameIndex := 26, descriptorIndex := 27, attributes := #[] }])
  fields := #[{ name := "section", type := (.object "java/lang/String"), accessFlags := 18, slot := 0, constantValue := 0 }, { name := "subsection", type := (.object "java/lang/String"), accessFlags := 18, slot := 1, constantValue := 0 }, { name := "key", type := (.object "java/lang/String"), accessFlags := 18, slot := 2, constantValue := 0 }, { name := "value", type := (.object "java/lang/String"), accessFlags := 18, slot := 3, constantValue := 0 }, { name := "line", type := .int, accessFlags := 18, slot := 4, constantValue := 0 }]
  methods := #[k11m0, k11m1]
  instanceTypes := #[(.object "java/lang/String"), (.object "java/lang/String"), (.object "java/lang/String"), (.object "java/lang/String"), .int]
  staticTypes := #[]
  resolved := Array.replicate 110 none
  statics := none }

def pool12 : Array CpInfo := pool [(2, .class_ 4), (1, u "java/lang/Object"), (0, u "<init>"), (0, u "()V"), (17, .class_ 26), (1, u "jdk/internal/util/Preconditions"), (6, u "checkIndex"), (21, .class_ 56), (0, u "jdk/internal/util/Preconditions$4"), (57, .class_ 115), (0, u "jdk/internal/util/Preconditions$1"), (7, u "SIOOBE_FORMATTER"), (0, u "Ljava/util/function/BiFunction;"), (0, .class_ 126), (0, u "jdk/internal/util/Preconditions$2"), (3, u "AIOOBE_FORMATTER"), (0, .class_ 132), (0, u "jdk/internal/util/Preconditions$3"), (3, u "IOOBE_FORMATTER"), (41, u "(IILjava/util/function/BiFunction;)I")] 15

def k12m0 : Method := { name := "<init>", desc := "()V", sig := { parameters := [], returnType := none }, accessFlags := 1, code := none }
def k12c1 : Code := { maxStack := 3, maxLocals := 3, code := jdk_41_method_11_code, exceptionTable := #[], attributes := #[] }
def k12m1 : Method := { name := "checkIndex", desc := "(IILjava/util/function/BiFunction;)I", sig := { parameters := [.int, .int, (.object "java/util/function/BiFunction")], returnType := some .int }, accessFlags := 9, code := some k12c1 }
/-- jdk/internal/util/Preconditions -/
def k12 : Class := { plain "jdk/internal/util/Preconditions" (some 0) with
  accessFlags := 33
  interfaces := #[]
  cf := some (fileOf pool12 24 #[.nestMembers #[55, 131, 125, 114]] #[{ accessFlags := 1, nameIndex := 5, descriptorIndex := 6, attributes := #[] }, { accessFlags := 9, nameIndex := 33, descriptorIndex := 178, attributes := #[] }] 33 2 #[] #[{ accessFlags := 25, nameIndex := 123, descriptorIndex := 124, attributes := #[] }, { accessFlags := 25, nameIndex := 130, descriptorIndex := 124, attributes := #[] }, { accessFlags := 25, nameIndex := 136, descriptorIndex := 124, attributes := #[] }])
  fields := #[{ name := "SIOOBE_FORMATTER", type := (.object "java/util/function/BiFunction"), accessFlags := 25, slot := 0, constantValue := 0 }, { name := "AIOOBE_FORMATTER", type := (.object "java/util/function/BiFunction"), accessFlags := 25, slot := 1, constantValue := 0 }, { name := "IOOBE_FORMATTER", type := (.object "java/util/function/BiFunction"), accessFlags := 25, slot := 2, constantValue := 0 }]
  methods := #[k12m0, k12m1]
  instanceTypes := #[]
  staticTypes := #[(.object "java/util/function/BiFunction"), (.object "java/util/function/BiFunction"), (.object "java/util/function/BiFunction")]
  resolved := Array.replicate 194 none
  statics := some 1 }

def pool13 : Array CpInfo := pool [(9, u "<init>"), (6, .class_ 18), (1, u "java/lang/Object"), (0, u "()V"), (1, .class_ 23), (1, u "jdk/internal/util/ArraysSupport"), (0, u "LOG2_ARRAY_LONG_INDEX_SCALE"), (0, u "I"), (2, u "U"), (0, u "Ljdk/internal/misc/Unsafe;"), (8, u "BIG_ENDIAN"), (0, u "Z"), (8, u "LOG2_BYTE_BIT_SIZE"), (4, u "LOG2_ARRAY_INT_INDEX_SCALE"), (54, u "JLA"), (0, u "Ljdk/internal/access/JavaLangAccess;"), (11, u "LOG2_ARRAY_BOOLEAN_INDEX_SCALE"), (9, u "LOG2_ARRAY_BYTE_INDEX_SCALE"), (5, u "LOG2_ARRAY_CHAR_INDEX_SCALE"), (5, u "LOG2_ARRAY_SHORT_INDEX_SCALE"), (18, u "LOG2_ARRAY_FLOAT_INDEX_SCALE"), (24, u "LOG2_ARRAY_DOUBLE_INDEX_SCALE"), (89, u "T_BOOLEAN"), (2, u "T_CHAR"), (1, u "T_FLOAT"), (1, u "T_DOUBLE"), (1, u "T_BYTE"), (1, u "T_SHORT"), (1, u "T_INT"), (1, u "T_LONG"), (1, u "SOFT_MAX_ARRAY_LENGTH")] 83

def k13m0 : Method := { name := "<init>", desc := "()V", sig := { parameters := [], returnType := none }, accessFlags := 2, code := none }
/-- jdk/internal/util/ArraysSupport -/
def k13 : Class := { plain "jdk/internal/util/ArraysSupport" (some 0) with
  accessFlags := 33
  interfaces := #[]
  cf := some (fileOf pool13 21 #[] #[{ accessFlags := 2, nameIndex := 9, descriptorIndex := 19, attributes := #[] }] 33 16 #[] #[{ accessFlags := 24, nameIndex := 28, descriptorIndex := 29, attributes := #[] }, { accessFlags := 26, nameIndex := 38, descriptorIndex := 39, attributes := #[] }, { accessFlags := 25, nameIndex := 121, descriptorIndex := 25, attributes := #[] }, { accessFlags := 25, nameIndex := 131, descriptorIndex := 25, attributes := #[] }, { accessFlags := 25, nameIndex := 137, descriptorIndex := 25, attributes := #[] }, { accessFlags := 25, nameIndex := 143, descriptorIndex := 25, attributes := #[] }, { accessFlags := 25, nameIndex := 53, descriptorIndex := 25, attributes := #[] }, { accessFlags := 25, nameIndex := 24, descriptorIndex := 25, attributes := #[] }, { accessFlags := 25, nameIndex := 162, descriptorIndex := 25, attributes := #[] }, { accessFlags := 25, nameIndex := 187, descriptorIndex := 25, attributes := #[] }, { accessFlags := 26, nameIndex := 48, descriptorIndex := 25, attributes := #[] }, { accessFlags := 25, nameIndex := 277, descriptorIndex := 25, attributes := #[] }, { accessFlags := 25, nameIndex := 280, descriptorIndex := 25, attributes := #[] }, { accessFlags := 25, nameIndex := 282, descriptorIndex := 25, attributes := #[] }, { accessFlags := 25, nameIndex := 284, descriptorIndex := 25, attributes := #[] }, { accessFlags := 25, nameIndex := 286, descriptorIndex := 25, attributes := #[] }, { accessFlags := 25, nameIndex := 288, descriptorIndex := 25, attributes := #[] }, { accessFlags := 25, nameIndex := 290, descriptorIndex := 25, attributes := #[] }, { accessFlags := 25, nameIndex := 292, descriptorIndex := 25, attributes := #[] }, { accessFlags := 26, nameIndex := 108, descriptorIndex := 109, attributes := #[] }, { accessFlags := 25, nameIndex := 294, descriptorIndex := 25, attributes := #[] }])
  fields := #[{ name := "U", type := (.object "jdk/internal/misc/Unsafe"), accessFlags := 24, slot := 0, constantValue := 0 }, { name := "BIG_ENDIAN", type := .boolean, accessFlags := 26, slot := 1, constantValue := 0 }, { name := "LOG2_ARRAY_BOOLEAN_INDEX_SCALE", type := .int, accessFlags := 25, slot := 2, constantValue := 0 }, { name := "LOG2_ARRAY_BYTE_INDEX_SCALE", type := .int, accessFlags := 25, slot := 3, constantValue := 0 }, { name := "LOG2_ARRAY_CHAR_INDEX_SCALE", type := .int, accessFlags := 25, slot := 4, constantValue := 0 }, { name := "LOG2_ARRAY_SHORT_INDEX_SCALE", type := .int, accessFlags := 25, slot := 5, constantValue := 0 }, { name := "LOG2_ARRAY_INT_INDEX_SCALE", type := .int, accessFlags := 25, slot := 6, constantValue := 0 }, { name := "LOG2_ARRAY_LONG_INDEX_SCALE", type := .int, accessFlags := 25, slot := 7, constantValue := 0 }, { name := "LOG2_ARRAY_FLOAT_INDEX_SCALE", type := .int, accessFlags := 25, slot := 8, constantValue := 0 }, { name := "LOG2_ARRAY_DOUBLE_INDEX_SCALE", type := .int, accessFlags := 25, slot := 9, constantValue := 0 }, { name := "LOG2_BYTE_BIT_SIZE", type := .int, accessFlags := 26, slot := 10, constantValue := 0 }, { name := "T_BOOLEAN", type := .int, accessFlags := 25, slot := 11, constantValue := 0 }, { name := "T_CHAR", type := .int, accessFlags := 25, slot := 12, constantValue := 0 }, { name := "T_FLOAT", type := .int, accessFlags := 25, slot := 13, constantValue := 0 }, { name := "T_DOUBLE", type := .int, accessFlags := 25, slot := 14, constantValue := 0 }, { name := "T_BYTE", type := .int, accessFlags := 25, slot := 15, constantValue := 0 }, { name := "T_SHORT", type := .int, accessFlags := 25, slot := 16, constantValue := 0 }, { name := "T_INT", type := .int, accessFlags := 25, slot := 17, constantValue := 0 }, { name := "T_LONG", type := .int, accessFlags := 25, slot := 18, constantValue := 0 }, { name := "JLA", type := (.object "jdk/internal/access/JavaLangAccess"), accessFlags := 26, slot := 19, constantValue := 0 }, { name := "SOFT_MAX_ARRAY_LENGTH", type := .int, accessFlags := 25, slot := 20, constantValue := 0 }]
  methods := #[k13m0]
  instanceTypes := #[]
  staticTypes := #[(.object "jdk/internal/misc/Unsafe"), .boolean, .int, .int, .int, .int, .int, .int, .int, .int, .int, .int, .int, .int, .int, .int, .int, .int, .int, (.object "jdk/internal/access/JavaLangAccess"), .int]
  resolved := Array.replicate 378 none
  statics := none }

def pool14 : Array CpInfo := pool [(1, u "java/lang/Cloneable"), (0, .class_ 1), (0, u "java/lang/Object"), (0, .class_ 3)] 3

/-- java/lang/Cloneable -/
def k14 : Class := { plain "java/lang/Cloneable" (some 0) with
  accessFlags := 1537
  interfaces := #[]
  cf := some (fileOf pool14 2 #[] #[] 1537 4 #[] #[])
  fields := #[]
  methods := #[]
  instanceTypes := #[]
  staticTypes := #[]
  resolved := Array.replicate 8 none
  statics := none }

/-- the primitive byte -/
def k15 : Class := { plain "byte" none with kind := .primitive 'B', accessFlags := 0x411 }
/-- [B -/
def k16 : Class := { plain "[B" (some 0) with kind := .array 15 .byte, interfaces := #[14, 2], accessFlags := 1041 }

/-- the primitive char -/
def k17 : Class := { plain "char" none with kind := .primitive 'C', accessFlags := 0x411 }
/-- [C -/
def k18 : Class := { plain "[C" (some 0) with kind := .array 17 .char, interfaces := #[14, 2], accessFlags := 1041 }

/-- the primitive int -/
def k19 : Class := { plain "int" none with kind := .primitive 'I', accessFlags := 0x411 }
/-- [I -/
def k20 : Class := { plain "[I" (some 0) with kind := .array 19 .int, interfaces := #[14, 2], accessFlags := 1041 }

def heap : Heap := #[{ cls := 7, slots := #[.long 0, .int 1, .null, .int 0, .null, .int 0, .int 0], vm := .statics 7 },
  { cls := 12, slots := #[.null, .null, .null], vm := .statics 12 }]
def classes : Array Class := #[k0, k1, k2, k3, k4, k5, k6, k7, k8, k9, k10, k11, k12, k13, k14, k15, k16, k17, k18, k19, k20]
def interned : List (Array UInt16 × Addr) := []
def slotsUsed : Nat := 10
def theMethod : MethodId := ⟨1, 1⟩
def args0 : Array Value := #[.int 65, .int 66, .int 67, .int 1, .int 7, .int 300]
def aboutOver (below : List Frame) : State where
  vm := { classes := classes, interned := interned.toArray }
  heap := heap
  slotsUsed := slotsUsed
  threads := #[{ frames := .invoking theMethod args0 :: below }]
def below0 : List Frame := [.native { method := ⟨0, 0⟩, args := #[] }]
def about1 : State := aboutOver below0
def p0 : Program := .bare "" "" ""
def e0 : Env := launch0.env 0 0 0
theorem w_frames : about1.frames = Frame.invoking theMethod args0 :: below0 := rfl
set_option maxRecDepth 65536 in
theorem w_args : argsFit about1.vm theMethod args0 = true := by decide +kernel
set_option maxRecDepth 65536 in
theorem w_heap : heapFits about1 = true := by decide +kernel
set_option maxRecDepth 65536 in
theorem w_runnable : about1.curStatus? = some .runnable := by decide +kernel
set_option maxRecDepth 65536 in
theorem w_alone : about1.alone = true := by decide +kernel
set_option maxRecDepth 65536 in
theorem w_named : about1.methodNamed? x = some theMethod := by decide +kernel
set_option maxRecDepth 65536 in
theorem w_hears : about1.hears theMethod below0 = true := by decide +kernel
set_option maxRecDepth 65536 in
theorem w_ripe : about1.ripe theMethod args0 below0 = true := by decide +kernel
theorem w_running : about1.status = .running := rfl
set_option maxRecDepth 65536 in
theorem w_room : about1.hasRoom e0.platform room_1 = true :=
  launch0.hasRoom_least _ room_1 (by decide +kernel) (by decide +kernel) (by decide +kernel) (by decide +kernel) (by decide +kernel) (by decide +kernel)
theorem allAtoms_all (ts : List Jvm.Cond) (a : Array Jvm.Value) (st : Jvm.State) : (allAtoms ts).before a st = ts.all (fun c => c.before a st) := by
  induction ts with
  | nil => rfl
  | cons c t ih =>
    show (Jvm.Cond.and c (allAtoms t)).before a st = _
    rw [Jvm.Cond.before_and, ih, List.all_cons]
def words1 : List Jvm.Cond := Jvm.Cond.code x code maxLocals ret :: tables_1
/-- a 'code' word, met by the world's own term for the bytes: nothing is compared byte by byte -/
theorem code_word {y : MethodName} {bytes : ByteArray} {mx : Nat} {rt : Option FieldType} {a : Array Value} {s : State} {m : MethodId} {meth : Method} {c : Code} (h1 : s.methodNamed? y = some m) (h2 : s.vm.method? m = some meth) (h3 : meth.code = some c) (h4 : c.code = bytes)
    (h5 : (c.maxLocals == mx && c.exceptionTable.isEmpty && decide (c.maxStack ≤ mostOperands) && decide (meth.sig.returnType = rt) && !meth.locks && decide (parseMethodDescriptor y.desc = some meth.sig)) = true) : (Jvm.Cond.code y bytes mx rt).before a s = true := by
  simp only [Bool.and_eq_true, beq_iff_eq, Bool.not_eq_true', decide_eq_true_eq] at h5
  obtain ⟨⟨⟨⟨⟨g1, g2⟩, g3⟩, g4⟩, g5⟩, g6⟩ := h5
  simp [Cond.before, Cond.holds, Cond.value, h1, h2, h3, h4, g1, g2, g3, g4, g5, g6]
def isCode : Jvm.Cond → Bool
  | .code _ _ _ _ => true
  | _ => false
theorem all_split {L : List Jvm.Cond} {P : Jvm.Cond → Bool} (h1 : L.all (fun c => isCode c || P c) = true) (h2 : ∀ c ∈ L.filter isCode, P c = true) : L.all P = true := by
  refine List.all_eq_true.mpr fun c hc => ?_
  have h := List.all_eq_true.mp h1 c hc
  rcases Bool.eq_false_or_eq_true (isCode c) with hi | hi
  · exact h2 c (List.mem_filter.mpr ⟨hc, hi⟩)
  · simpa [hi] using h
set_option maxRecDepth 65536 in
theorem w_c0 : (Jvm.Cond.code x code maxLocals ret).before args0 about1 = true := code_word (m := ⟨1, 1⟩) (meth := k1m1) (c := k1c1) (by decide +kernel) rfl rfl rfl (by decide +kernel)
set_option maxRecDepth 65536 in
theorem w_c1 : (Jvm.Cond.code ({ cls := "java/lang/String", name := "<init>", desc := "([C)V" } : Jvm.MethodName) jdk_42_method_3_code (2 : Nat) (Option.none : Option Jvm.ClassFile.FieldType)).before args0 about1 = true := code_word (m := ⟨7, 1⟩) (meth := k7m1) (c := k7c1) (by decide +kernel) rfl rfl rfl (by decide +kernel)
set_option maxRecDepth 65536 in
theorem w_c2 : (Jvm.Cond.code ({ cls := "java/lang/String", name := "<init>", desc := "([CIILjava/lang/Void;)V" } : Jvm.MethodName) jdk_42_method_149_code (6 : Nat) (Option.none : Option Jvm.ClassFile.FieldType)).before args0 about1 = true := code_word (m := ⟨7, 7⟩) (meth := k7m7) (c := k7c7) (by decide +kernel) rfl rfl rfl (by decide +kernel)
set_option maxRecDepth 65536 in
theorem w_c3 : (Jvm.Cond.code ({ cls := "java/lang/Object", name := "<init>", desc := "()V" } : Jvm.MethodName) object_method_1_code (1 : Nat) (Option.none : Option Jvm.ClassFile.FieldType)).before args0 about1 = true := code_word (m := ⟨0, 0⟩) (meth := k0m0) (c := k0c0) (by decide +kernel) rfl rfl rfl (by decide +kernel)
set_option maxRecDepth 65536 in
theorem w_c4 : (Jvm.Cond.code ({ cls := "java/lang/StringUTF16", name := "compress", desc := "([CII)[B" } : Jvm.MethodName) jdk_52_method_16_code (6 : Nat) (Option.some (Jvm.ClassFile.FieldType.array Jvm.ClassFile.FieldType.byte))).before args0 about1 = true := code_word (m := ⟨8, 2⟩) (meth := k8m2) (c := k8c2) (by decide +kernel) rfl rfl rfl (by decide +kernel)
set_option maxRecDepth 65536 in
theorem w_c5 : (Jvm.Cond.code ({ cls := "java/lang/StringUTF16", name := "compress", desc := "([CI[BII)I" } : Jvm.MethodName) jdk_52_method_21_code (7 : Nat) (Option.some Jvm.ClassFile.FieldType.int)).before args0 about1 = true := code_word (m := ⟨8, 3⟩) (meth := k8m3) (c := k8c3) (by decide +kernel) rfl rfl rfl (by decide +kernel)
set_option maxRecDepth 65536 in
theorem w_c6 : (Jvm.Cond.code ({ cls := "java/lang/StringUTF16", name := "coderFromArrayLen", desc := "([BI)B" } : Jvm.MethodName) jdk_52_method_15_code (2 : Nat) (Option.some Jvm.ClassFile.FieldType.byte)).before args0 about1 = true := code_word (m := ⟨8, 1⟩) (meth := k8m1) (c := k8c1) (by decide +kernel) rfl rfl rfl (by decide +kernel)
set_option maxRecDepth 65536 in
theorem w_c7 : (Jvm.Cond.code ({ cls := "java/lang/String", name := "valueOf", desc := "(C)Ljava/lang/String;" } : Jvm.MethodName) jdk_42_method_139_code (1 : Nat) (Option.some (Jvm.ClassFile.FieldType.object "java/lang/String"))).before args0 about1 = true := code_word (m := ⟨7, 6⟩) (meth := k7m6) (c := k7c6) (by decide +kernel) rfl rfl rfl (by decide +kernel)
set_option maxRecDepth 65536 in
theorem w_c8 : (Jvm.Cond.code ({ cls := "java/lang/StringLatin1", name := "canEncode", desc := "(C)Z" } : Jvm.MethodName) jdk_43_method_3_code (1 : Nat) (Option.some Jvm.ClassFile.FieldType.boolean)).before args0 about1 = true := code_word (m := ⟨9, 2⟩) (meth := k9m2) (c := k9c2) (by decide +kernel) rfl rfl rfl (by decide +kernel)
set_option maxRecDepth 65536 in
theorem w_c9 : (Jvm.Cond.code ({ cls := "java/lang/StringLatin1", name := "toBytes", desc := "(C)[B" } : Jvm.MethodName) jdk_43_method_46_code (1 : Nat) (Option.some (Jvm.ClassFile.FieldType.array Jvm.ClassFile.FieldType.byte))).before args0 about1 = true := code_word (m := ⟨9, 3⟩) (meth := k9m3) (c := k9c3) (by decide +kernel) rfl rfl rfl (by decide +kernel)
set_option maxRecDepth 65536 in
theorem w_c10 : (Jvm.Cond.code ({ cls := "java/lang/String", name := "<init>", desc := "([BB)V" } : Jvm.MethodName) jdk_42_method_151_code (3 : Nat) (Option.none : Option Jvm.ClassFile.FieldType)).before args0 about1 = true := code_word (m := ⟨7, 8⟩) (meth := k7m8) (c := k7c8) (by decide +kernel) rfl rfl rfl (by decide +kernel)
set_option maxRecDepth 65536 in
theorem w_c11 : (Jvm.Cond.code ({ cls := "com/example/hanko/hanko/access/GitConfig$Entry", name := "<init>", desc := "(Ljava/lang/String;Ljava/lang/String;Ljava/lang/String;Ljava/lang/String;I)V" } : Jvm.MethodName) prog_8_method_1_code (6 : Nat) (Option.none : Option Jvm.ClassFile.FieldType)).before args0 about1 = true := code_word (m := ⟨11, 0⟩) (meth := k11m0) (c := k11c0) (by decide +kernel) rfl rfl rfl (by decide +kernel)
set_option maxRecDepth 65536 in
theorem w_c12 : (Jvm.Cond.code ({ cls := "java/lang/Record", name := "<init>", desc := "()V" } : Jvm.MethodName) jdk_30_method_1_code (1 : Nat) (Option.none : Option Jvm.ClassFile.FieldType)).before args0 about1 = true := code_word (m := ⟨10, 0⟩) (meth := k10m0) (c := k10c0) (by decide +kernel) rfl rfl rfl (by decide +kernel)
set_option maxRecDepth 65536 in
theorem w_c13 : (Jvm.Cond.code ({ cls := "com/example/hanko/hanko/access/GitConfig$Entry", name := "required", desc := "()Ljava/lang/String;" } : Jvm.MethodName) prog_8_method_2_code (1 : Nat) (Option.some (Jvm.ClassFile.FieldType.object "java/lang/String"))).before args0 about1 = true := code_word (m := ⟨11, 1⟩) (meth := k11m1) (c := k11c1) (by decide +kernel) rfl rfl rfl (by decide +kernel)
set_option maxRecDepth 65536 in
theorem w_c14 : (Jvm.Cond.code ({ cls := "java/lang/String", name := "isEmpty", desc := "()Z" } : Jvm.MethodName) jdk_42_method_55_code (1 : Nat) (Option.some Jvm.ClassFile.FieldType.boolean)).before args0 about1 = true := code_word (m := ⟨7, 3⟩) (meth := k7m3) (c := k7c3) (by decide +kernel) rfl rfl rfl (by decide +kernel)
set_option maxRecDepth 65536 in
theorem w_c15 : (Jvm.Cond.code ({ cls := "java/lang/String", name := "length", desc := "()I" } : Jvm.MethodName) jdk_42_method_54_code (1 : Nat) (Option.some Jvm.ClassFile.FieldType.int)).before args0 about1 = true := code_word (m := ⟨7, 2⟩) (meth := k7m2) (c := k7c2) (by decide +kernel) rfl rfl rfl (by decide +kernel)
set_option maxRecDepth 65536 in
theorem w_c16 : (Jvm.Cond.code ({ cls := "java/lang/String", name := "coder", desc := "()B" } : Jvm.MethodName) jdk_42_method_152_code (1 : Nat) (Option.some Jvm.ClassFile.FieldType.byte)).before args0 about1 = true := code_word (m := ⟨7, 9⟩) (meth := k7m9) (c := k7c9) (by decide +kernel) rfl rfl rfl (by decide +kernel)
set_option maxRecDepth 65536 in
theorem w_c17 : (Jvm.Cond.code ({ cls := "java/lang/String", name := "charAt", desc := "(I)C" } : Jvm.MethodName) jdk_42_method_56_code (2 : Nat) (Option.some Jvm.ClassFile.FieldType.char)).before args0 about1 = true := code_word (m := ⟨7, 4⟩) (meth := k7m4) (c := k7c4) (by decide +kernel) rfl rfl rfl (by decide +kernel)
set_option maxRecDepth 65536 in
theorem w_c18 : (Jvm.Cond.code ({ cls := "java/lang/String", name := "isLatin1", desc := "()Z" } : Jvm.MethodName) jdk_42_method_154_code (1 : Nat) (Option.some Jvm.ClassFile.FieldType.boolean)).before args0 about1 = true := code_word (m := ⟨7, 10⟩) (meth := k7m10) (c := k7c10) (by decide +kernel) rfl rfl rfl (by decide +kernel)
set_option maxRecDepth 65536 in
theorem w_c19 : (Jvm.Cond.code ({ cls := "java/lang/StringLatin1", name := "charAt", desc := "([BI)C" } : Jvm.MethodName) jdk_43_method_2_code (2 : Nat) (Option.some Jvm.ClassFile.FieldType.char)).before args0 about1 = true := code_word (m := ⟨9, 1⟩) (meth := k9m1) (c := k9c1) (by decide +kernel) rfl rfl rfl (by decide +kernel)
set_option maxRecDepth 65536 in
theorem w_c20 : (Jvm.Cond.code ({ cls := "java/lang/String", name := "checkIndex", desc := "(II)V" } : Jvm.MethodName) jdk_42_method_155_code (2 : Nat) (Option.none : Option Jvm.ClassFile.FieldType)).before args0 about1 = true := code_word (m := ⟨7, 11⟩) (meth := k7m11) (c := k7c11) (by decide +kernel) rfl rfl rfl (by decide +kernel)
set_option maxRecDepth 65536 in
theorem w_c21 : (Jvm.Cond.code ({ cls := "jdk/internal/util/Preconditions", name := "checkIndex", desc := "(IILjava/util/function/BiFunction;)I" } : Jvm.MethodName) jdk_41_method_11_code (3 : Nat) (Option.some Jvm.ClassFile.FieldType.int)).before args0 about1 = true := code_word (m := ⟨12, 1⟩) (meth := k12m1) (c := k12c1) (by decide +kernel) rfl rfl rfl (by decide +kernel)
set_option maxRecDepth 65536 in
theorem w_c22 : (Jvm.Cond.code ({ cls := "java/lang/String", name := "equals", desc := "(Ljava/lang/Object;)Z" } : Jvm.MethodName) jdk_42_method_66_code (3 : Nat) (Option.some Jvm.ClassFile.FieldType.boolean)).before args0 about1 = true := code_word (m := ⟨7, 5⟩) (meth := k7m5) (c := k7c5) (by decide +kernel) rfl rfl rfl (by decide +kernel)
def codes1 : List Jvm.Cond := [Jvm.Cond.code x code maxLocals ret, Jvm.Cond.code ({ cls := "java/lang/String", name := "<init>", desc := "([C)V" } : Jvm.MethodName) jdk_42_method_3_code (2 : Nat) (Option.none : Option Jvm.ClassFile.FieldType), Jvm.Cond.code ({ cls := "java/lang/String", name := "<init>", desc := "([CIILjava/lang/Void;)V" } : Jvm.MethodName) jdk_42_method_149_code (6 : Nat) (Option.none : Option Jvm.ClassFile.FieldType), Jvm.Cond.code ({ cls := "java/lang/Object", name := "<init>", desc := "()V" } : Jvm.MethodName) object_method_1_code (1 : Nat) (Option.none : Option Jvm.ClassFile.FieldType), Jvm.Cond.code ({ cls := "java/lang/StringUTF16", name := "compress", desc := "([CII)[B" } : Jvm.MethodName) jdk_52_method_16_code (6 : Nat) (Option.some (Jvm.ClassFile.FieldType.array Jvm.ClassFile.FieldType.byte)), Jvm.Cond.code ({ cls := "java/lang/StringUTF16", name := "compress", desc := "([CI[BII)I" } : Jvm.MethodName) jdk_52_method_21_code (7 : Nat) (Option.some Jvm.ClassFile.FieldType.int), Jvm.Cond.code ({ cls := "java/lang/StringUTF16", name := "coderFromArrayLen", desc := "([BI)B" } : Jvm.MethodName) jdk_52_method_15_code (2 : Nat) (Option.some Jvm.ClassFile.FieldType.byte), Jvm.Cond.code ({ cls := "java/lang/String", name := "valueOf", desc := "(C)Ljava/lang/String;" } : Jvm.MethodName) jdk_42_method_139_code (1 : Nat) (Option.some (Jvm.ClassFile.FieldType.object "java/lang/String")), Jvm.Cond.code ({ cls := "java/lang/StringLatin1", name := "canEncode", desc := "(C)Z" } : Jvm.MethodName) jdk_43_method_3_code (1 : Nat) (Option.some Jvm.ClassFile.FieldType.boolean), Jvm.Cond.code ({ cls := "java/lang/StringLatin1", name := "toBytes", desc := "(C)[B" } : Jvm.MethodName) jdk_43_method_46_code (1 : Nat) (Option.some (Jvm.ClassFile.FieldType.array Jvm.ClassFile.FieldType.byte)), Jvm.Cond.code ({ cls := "java/lang/String", name := "<init>", desc := "([BB)V" } : Jvm.MethodName) jdk_42_method_151_code (3 : Nat) (Option.none : Option Jvm.ClassFile.FieldType), Jvm.Cond.code ({ cls := "com/example/hanko/hanko/access/GitConfig$Entry", name := "<init>", desc := "(Ljava/lang/String;Ljava/lang/String;Ljava/lang/String;Ljava/lang/String;I)V" } : Jvm.MethodName) prog_8_method_1_code (6 : Nat) (Option.none : Option Jvm.ClassFile.FieldType), Jvm.Cond.code ({ cls := "java/lang/Record", name := "<init>", desc := "()V" } : Jvm.MethodName) jdk_30_method_1_code (1 : Nat) (Option.none : Option Jvm.ClassFile.FieldType), Jvm.Cond.code ({ cls := "com/example/hanko/hanko/access/GitConfig$Entry", name := "required", desc := "()Ljava/lang/String;" } : Jvm.MethodName) prog_8_method_2_code (1 : Nat) (Option.some (Jvm.ClassFile.FieldType.object "java/lang/String")), Jvm.Cond.code ({ cls := "java/lang/String", name := "isEmpty", desc := "()Z" } : Jvm.MethodName) jdk_42_method_55_code (1 : Nat) (Option.some Jvm.ClassFile.FieldType.boolean), Jvm.Cond.code ({ cls := "java/lang/String", name := "length", desc := "()I" } : Jvm.MethodName) jdk_42_method_54_code (1 : Nat) (Option.some Jvm.ClassFile.FieldType.int), Jvm.Cond.code ({ cls := "java/lang/String", name := "coder", desc := "()B" } : Jvm.MethodName) jdk_42_method_152_code (1 : Nat) (Option.some Jvm.ClassFile.FieldType.byte), Jvm.Cond.code ({ cls := "java/lang/String", name := "charAt", desc := "(I)C" } : Jvm.MethodName) jdk_42_method_56_code (2 : Nat) (Option.some Jvm.ClassFile.FieldType.char), Jvm.Cond.code ({ cls := "java/lang/String", name := "isLatin1", desc := "()Z" } : Jvm.MethodName) jdk_42_method_154_code (1 : Nat) (Option.some Jvm.ClassFile.FieldType.boolean), Jvm.Cond.code ({ cls := "java/lang/StringLatin1", name := "charAt", desc := "([BI)C" } : Jvm.MethodName) jdk_43_method_2_code (2 : Nat) (Option.some Jvm.ClassFile.FieldType.char), Jvm.Cond.code ({ cls := "java/lang/String", name := "checkIndex", desc := "(II)V" } : Jvm.MethodName) jdk_42_method_155_code (2 : Nat) (Option.none : Option Jvm.ClassFile.FieldType), Jvm.Cond.code ({ cls := "jdk/internal/util/Preconditions", name := "checkIndex", desc := "(IILjava/util/function/BiFunction;)I" } : Jvm.MethodName) jdk_41_method_11_code (3 : Nat) (Option.some Jvm.ClassFile.FieldType.int), Jvm.Cond.code ({ cls := "java/lang/String", name := "equals", desc := "(Ljava/lang/Object;)Z" } : Jvm.MethodName) jdk_42_method_66_code (3 : Nat) (Option.some Jvm.ClassFile.FieldType.boolean)]
set_option maxRecDepth 65536 in
theorem codes_eq : words1.filter isCode = codes1 := rfl
theorem w_codes : ∀ c ∈ words1.filter isCode, c.before args0 about1 = true := by
  rw [codes_eq]
  intro c hc
  simp only [codes1, List.mem_cons, List.not_mem_nil, or_false] at hc
  rcases hc with rfl | rfl | rfl | rfl | rfl | rfl | rfl | rfl | rfl | rfl | rfl | rfl | rfl | rfl | rfl | rfl | rfl | rfl | rfl | rfl | rfl | rfl | rfl
  · exact w_c0
  · exact w_c1
  · exact w_c2
  · exact w_c3
  · exact w_c4
  · exact w_c5
  · exact w_c6
  · exact w_c7
  · exact w_c8
  · exact w_c9
  · exact w_c10
  · exact w_c11
  · exact w_c12
  · exact w_c13
  · exact w_c14
  · exact w_c15
  · exact w_c16
  · exact w_c17
  · exact w_c18
  · exact w_c19
  · exact w_c20
  · exact w_c21
  · exact w_c22
set_option maxRecDepth 65536 in
theorem w_t1 : (words1.take 24).all (fun c => isCode c || c.before args0 about1) = true := by decide +kernel
set_option maxRecDepth 65536 in
theorem w_t2 : ((words1.drop 24).take 24).all (fun c => isCode c || c.before args0 about1) = true := by decide +kernel
set_option maxRecDepth 65536 in
theorem w_t3 : (((words1.drop 24).drop 24).take 24).all (fun c => isCode c || c.before args0 about1) = true := by decide +kernel
set_option maxRecDepth 65536 in
theorem w_t4 : ((((words1.drop 24).drop 24).drop 24).take 24).all (fun c => isCode c || c.before args0 about1) = true := by decide +kernel
set_option maxRecDepth 65536 in
theorem w_t5 : ((((words1.drop 24).drop 24).drop 24).drop 24).all (fun c => isCode c || c.before args0 about1) = true := by decide +kernel
theorem w_tables : (allAtoms (Jvm.Cond.code x code maxLocals ret :: tables_1)).before args0 about1 = true := by
  rw [allAtoms_all]
  show words1.all (fun c => c.before args0 about1) = true
  refine all_split ?_ w_codes
  rw [← List.take_append_drop 24 words1, List.all_append, w_t1, ← List.take_append_drop 24 (words1.drop 24), List.all_append, w_t2, ← List.take_append_drop 24 ((words1.drop 24).drop 24), List.all_append, w_t3, ← List.take_append_drop 24 (((words1.drop 24).drop 24).drop 24), List.all_append, w_t4, w_t5]
  rfl
set_option maxRecDepth 65536 in
theorem w_rest : rest_1_c.before args0 about1 = true := by decide +kernel
set_option maxRecDepth 65536 in
theorem w_case : (Jvm.Cond.and given_1 narrow_1).before args0 about1 = true := by decide +kernel
theorem w_applies : (headSpec (Jvm.Cond.code x code maxLocals ret :: tables_1) room_1).applies x e0.platform about1 = true :=
  (Spec.applies_iff w_frames).mpr ⟨w_running, w_runnable, w_alone, w_named, w_hears, w_ripe, w_room, w_tables⟩
theorem atStart : AtStart classFile x code maxLocals ret World_1 tables_1 room_1 Calls_1 rest_1 Pre_1 launch0 p0 e0 about1 theMethod args0 below0 :=
  ⟨lists_1, trivial, launch0.admits_env _ _ _, launch0.least_env, fairChoices_fair.cas, fairChoices_fair.clock, w_frames, w_args, w_heap, w_applies, trivial, w_rest, w_case⟩
end start1
theorem witness_1 : WitnessClaimed_1 := ⟨start1.p0, start1.e0, start1.about1, start1.theMethod, start1.args0, start1.below0, start1.atStart⟩
end Jvm.Pilot.@@N@@
